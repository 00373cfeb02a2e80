import PyProof.Rows.All
import Wide.All
import OpenK.AllK
import Wide.FinOn
import PySem.Challenge.RW_wo0057_01
set_option Elab.async false
set_option maxRecDepth 100000
set_option linter.all false
namespace Mine
open PySem PySem.W PyProof.Rows PySem.Calls
section
variable {α β : Type} {p : Program} {w : World} {n₀ : Nat} {ann : Option Value} {fr : Frame}

theorem segGo_add {tb : String → Option Builtin} {b : Nat} : ∀ {n m : Nat} {s s' : Shared} {t t' : Thread} {r : Option (Shared × Thread)}, segGo tb p w n₀ ann b n s t = some (s', t') →
    segGo tb p w n₀ ann b m s' t' = r → segGo tb p w n₀ ann b (n + m) s t = r
  | 0, m, s, s', t, t', r, h, k => by
    obtain ⟨rfl, rfl⟩ : s = s' ∧ t = t' := by simpa [segGo] using h
    rw [Nat.zero_add]; exact k
  | n + 1, m, s, s', t, t', r, h, k => by
    rw [show n + 1 + m = n + m + 1 by omega]
    unfold segGo at h ⊢
    cases he : endAt b t with
    | some f => rw [he] at h; cases h
    | none =>
      rw [he] at h
      cases hk : stepOk n₀ ann t with
      | false => rw [hk] at h; cases h
      | true =>
        rw [hk] at h
        cases hs : step (denote tb) p w s t with
        | halt o s₂ => rw [hs] at h; cases h
        | go s₂ t₂ => rw [hs] at h; exact segGo_add h k

/-- n steps of the machine take the tree x from s, pos to its value a at s', pos', whatever stands behind and around it -/
def Steps (p : Program) (w : World) (n₀ : Nat) (ann : Option Value) (fr : Frame) (n : Nat) (x : Sem α) (s : Shared) (pos : Pos) (a : α) (s' : Shared) (pos' : Pos) : Prop :=
  ∀ (K : α → Sem Fin) (H : Value → Sem Fin) (gd : Bool → Bool) (lv : List Value → List Value) (code : Code),
    segGo treeTable p w n₀ ann 1 n s ⟨x.wrap K H gd lv, code, pos, [fr]⟩ = some (s', ⟨K a, code, pos', [fr]⟩)

theorem Steps.pure {a : α} {s : Shared} {pos : Pos} : Steps p w n₀ ann fr 0 (Pure.pure a) s pos a s pos := fun _ _ _ _ _ => rfl
theorem Steps.bind {n m : Nat} {x : Sem α} {f : α → Sem β} {s s₁ s₂ : Shared} {pos pos₁ pos₂ : Pos} {a : α} {b : β} (h : Steps p w n₀ ann fr n x s pos a s₁ pos₁) (k : Steps p w n₀ ann fr m (f a) s₁ pos₁ b s₂ pos₂) :
    Steps p w n₀ ann fr (n + m) (x >>= f) s pos b s₂ pos₂ := fun K H gd lv code => by
  rw [Sem.bind_eq_wrap', Sem.wrap_wrap]
  exact segGo_add (h _ _ _ _ code) (k K H gd lv code)
theorem Steps.keep {n : Nat} {x : Sem α} {vs : List Value} {s s₁ : Shared} {pos pos₁ : Pos} {a : α} (h : Steps p w n₀ ann fr n x s pos a s₁ pos₁) : Steps p w n₀ ann fr n (x.keep vs) s pos a s₁ pos₁ := fun K H gd lv code => by
  rw [Sem.keep_eq_wrap, Sem.wrap_wrap]
  exact h _ _ _ _ code
theorem Steps.holding {n : Nat} {x : Sem α} {vs : List Value} {s s₁ : Shared} {pos pos₁ : Pos} {a : α} (h : Steps p w n₀ ann fr n x s pos a s₁ pos₁) : Steps p w n₀ ann fr n (PySem.holding vs x) s pos a s₁ pos₁ := by
  unfold PySem.holding
  split
  · exact h
  · exact h.keep
theorem Steps.onRaise {n : Nat} {x : Sem α} {f : Value → Sem Unit} {s s₁ : Shared} {pos pos₁ : Pos} {a : α} (h : Steps p w n₀ ann fr n x s pos a s₁ pos₁) : Steps p w n₀ ann fr n (x.onRaise f) s pos a s₁ pos₁ := fun K H gd lv code => by
  rw [Sem.onRaise_eq_wrap, Sem.wrap_wrap]
  exact h _ _ _ _ code
theorem Steps.tryCatch {n : Nat} {x : Sem α} {f : Value → Sem α} {s s₁ : Shared} {pos pos₁ : Pos} {a : α} (h : Steps p w n₀ ann fr n x s pos a s₁ pos₁) : Steps p w n₀ ann fr n (x.tryCatch f) s pos a s₁ pos₁ := fun K H gd lv code => by
  rw [Sem.tryCatch_eq_wrap, Sem.wrap_wrap]
  exact h _ _ _ _ code
theorem Steps.fresh {s : Shared} {pos : Pos} : Steps p w n₀ ann fr 1 PySem.fresh s pos s.toks { s with toks := s.toks + 1 } pos := fun _ _ _ _ _ => rfl
theorem Steps.rule {tag : String} {s : Shared} {pos : Pos} : Steps p w n₀ ann fr 1 (PySem.rule tag) s pos () s pos := fun _ _ _ _ _ => rfl
theorem Steps.standAt {s : Shared} {pos pos' : Pos} : Steps p w n₀ ann fr 1 (PySem.standAt pos') s pos () s pos' := fun _ _ _ _ _ => rfl
theorem Steps.ask {s : Shared} {pos : Pos} : Steps p w n₀ ann fr 1 PySem.ask s pos ⟨p, w.params⟩ s pos := fun _ _ _ _ _ => rfl
theorem Steps.alloc {o : Obj} {s : Shared} {pos : Pos} : Steps p w n₀ ann fr 1 (PySem.alloc o) s pos s.heap.objs.size { s with heap := s.heap.push o } pos := fun _ _ _ _ _ => rfl
theorem Steps.loadPart {a : Addr} {q : Option Value} {o : Obj} {s : Shared} {pos : Pos} (ho : s.heap.get? a = some o) : Steps p w n₀ ann fr 1 (PySem.loadPart a q) s pos o s pos := fun K H gd lv code => by
  obtain ⟨heap, gens, drawn, toks, os⟩ := s
  show segGo treeTable p w n₀ ann 1 1 _ ⟨.load a q _, code, pos, [fr]⟩ = _
  have hs : step (denote treeTable) p w ⟨heap, gens, drawn, toks, os⟩ ⟨.load a q fun x => (Sem.pure x).wrap K H gd lv, code, pos, [fr]⟩ = .go ⟨heap, gens, drawn, toks, os⟩ ⟨(Sem.pure o).wrap K H gd lv, code, pos, [fr]⟩ := by
    simp only [step]
    rw [show heap.get? a = some o from ho]
  simp only [segGo, endAt, stepOk, Thread.calm, Thread.atCollectorCode, Thread.yieldsInsideHandler]
  rw [hs]
  rfl
theorem Steps.updatePart {a : Addr} {q : Option Value} {f : Obj → Obj} {o : Obj} {s : Shared} {pos : Pos} (ho : s.heap.get? a = some o) (hn : Nat.ble n₀ a = true) :
    Steps p w n₀ ann fr 1 (PySem.updatePart a q f) s pos () { s with heap := s.heap.update a f } pos := fun K H gd lv code => by
  obtain ⟨heap, gens, drawn, toks, os⟩ := s
  show segGo treeTable p w n₀ ann 1 1 _ ⟨.update a q f _, code, pos, [fr]⟩ = _
  have hs : step (denote treeTable) p w ⟨heap, gens, drawn, toks, os⟩ ⟨.update a q f fun x => (Sem.pure x).wrap K H gd lv, code, pos, [fr]⟩ = .go ⟨heap.update a f, gens, drawn, toks, os⟩ ⟨(Sem.pure ()).wrap K H gd lv, code, pos, [fr]⟩ := by
    simp only [step]
    rw [show heap.get? a = some o from ho]
    rfl
  simp only [segGo, endAt, stepOk, Thread.calm, Thread.atCollectorCode, Thread.yieldsInsideHandler, hn, Bool.true_or]
  rw [hs]
  rfl
theorem Steps.mkInt {i : Int} {s : Shared} {pos : Pos} : Steps p w n₀ ann fr 1 (PySem.mkInt i) s pos (.int i s.toks) { s with toks := s.toks + 1 } pos := fun _ _ _ _ _ => rfl
theorem Steps.mkText {x : Str} {s : Shared} {pos : Pos} : Steps p w n₀ ann fr 1 (PySem.mkText x) s pos (.str x s.toks) { s with toks := s.toks + 1 } pos := fun _ _ _ _ _ => rfl

theorem hash_call {k : Int} {t : Tok} {s : Shared} {pos : Pos} : Steps p w n₀ ann fr 4 (PySem.call (.builtin "int.__hash__") [.int k t]) s pos (.int (rawHash k) s.toks) { s with toks := s.toks + 1 } pos := fun K H gd lv code => by
  kernel_rfl
end
end Mine
namespace Mine
open PySem PySem.W PyProof.Rows PySem.Calls
section
variable {α β : Type} {p : Program} {w : World} {n₀ : Nat} {ann : Option Value} {fr : Frame}

theorem Steps.cast {n m : Nat} {x : Sem α} {s s' : Shared} {pos pos' : Pos} {a : α} (h : Steps p w n₀ ann fr n x s pos a s' pos') (e : n = m) : Steps p w n₀ ann fr m x s pos a s' pos' := e ▸ h
theorem Steps.bind0 {m : Nat} {x : Sem α} {f : α → Sem β} {s s₂ : Shared} {pos pos₂ : Pos} {a : α} {b : β} (h : x = Pure.pure a) (k : Steps p w n₀ ann fr m (f a) s pos b s₂ pos₂) :
    Steps p w n₀ ann fr m (x >>= f) s pos b s₂ pos₂ := by
  subst h; exact k

theorem typeOf_int (k : Int) (t : Tok) : typeOf (.int k t) = pure (.type "int") := rfl
theorem special_hash (k : Int) (t : Tok) : specialOf (.int k t) "__hash__" = pure (some (.builtin "int.__hash__")) := by
  show (typeLookup (.type "int") "__hash__") = _
  exact slot_int_hash.lookup

theorem bound_hash {k : Int} {t : Tok} {refuse : Sem Value} {s : Shared} {pos : Pos} :
    Steps p w n₀ ann fr 5 (callSpecialIfBoundUnlessNone? (.int k t) "__hash__" refuse) s pos (some (.int (rawHash k) s.toks)) { s with toks := s.toks + 1 } pos := by
  unfold callSpecialIfBoundUnlessNone? bindSpecialIfBound?
  refine Steps.holding ?_
  refine Steps.cast (Steps.bind (n := 1) (m := 4) (a := some (.builtin "int.__hash__", [.int k t])) (s₁ := s) (pos₁ := pos) ?_ ?_) rfl
  · refine Steps.bind0 (special_hash k t) ?_
    refine Steps.cast (Steps.bind Steps.ask (m := 0) ?_) rfl
    have hb : (do let r ← bindSpecial (.builtin "int.__hash__") (.int k t); Pure.pure (some r) : Sem (Option (Value × List Value))) = Pure.pure (some (.builtin "int.__hash__", [.int k t])) := by
      rw [slot_int_hash.bind]; rfl
    split
    · rw [hb]; exact Steps.pure
    · rw [hb]; exact Steps.tryCatch Steps.pure
  · show Steps p w n₀ ann fr 4 (if (Value.builtin "int.__hash__" == Value.none) = true then _ else _) s pos _ _ pos
    rw [if_neg (by rw [builtin_beq_none]; exact Bool.false_ne_true)]
    exact Steps.cast (Steps.bind hash_call (m := 0) Steps.pure) rfl

theorem pyHash_steps {k : Int} {t : Tok} {s : Shared} {pos : Pos} : Steps p w n₀ ann fr 5 (pyHash (.int k t)) s pos (hashInt k) { s with toks := s.toks + 1 } pos := by
  have hr := rawHash_range k
  unfold pyHash pyHashByItsType
  have hv : [Value.int k t].any Value.onHeap = false := rfl
  refine Steps.bind0 (a := ()) (by rw [cRoomFor, if_neg (by rw [hv]; exact Bool.false_ne_true)]) ?_
  refine Steps.bind0 (special_hash k t) ?_
  show Steps p w n₀ ann fr 5 (if (some (Value.builtin "int.__hash__") == some Value.none) = true then _ else _) s pos _ _ pos
  rw [if_neg (by rw [beq_builtin_none]; exact Bool.false_ne_true)]
  refine Steps.bind0 (special_hash k t) ?_
  refine Steps.cast (Steps.bind bound_hash (m := 0) ?_) rfl
  show Steps p w n₀ ann fr 0 (if (decide (-(2 : Int) ^ 63 ≤ rawHash k) && decide (rawHash k < 2 ^ 63)) = true then _ else _) _ pos _ _ pos
  rw [if_pos (by rw [decide_eq_true hr.1, decide_eq_true hr.2]; rfl)]
  exact Steps.pure

def NoHash (h : Int) (es : Array DictEntry) : Prop := ∀ e ∈ es, e.hash ≠ h
def ObjIs (s : Shared) (d : Addr) (es : List DictEntry) (n : Nat) : Prop := s.heap.get? d = some (dictOf es n)

theorem places_none {h : Int} {es : Array DictEntry} (hn : NoHash h es) : placesWithHash es.size (fun i => es[i]?.map (·.hash)) h = [] := by
  unfold placesWithHash
  refine List.filter_eq_nil_iff.mpr fun i hi => ?_
  have hlt : i < es.size := List.mem_range.mp hi
  dsimp only
  rw [Array.getElem?_eq_getElem hlt]
  simpa using hn _ (Array.getElem_mem hlt)

theorem entries_steps {d : Addr} {q : Option Value} {es : List DictEntry} {n : Nat} {s : Shared} {pos : Pos} (ho : ObjIs s d es n) : Steps p w n₀ ann fr 1 (dictEntries d q) s pos es.toArray s pos := by
  unfold dictEntries
  exact Steps.cast (Steps.bind (Steps.loadPart ho) (m := 0) Steps.pure) rfl
theorem epoch_steps {d : Addr} {q : Option Value} {es : List DictEntry} {n : Nat} {s : Shared} {pos : Pos} (ho : ObjIs s d es n) : Steps p w n₀ ann fr 1 (dictEpoch d q) s pos n s pos := by
  unfold dictEpoch
  exact Steps.cast (Steps.bind (Steps.loadPart ho) (m := 0) Steps.pure) rfl

theorem find_steps {d : Addr} {k : Int} {t : Tok} {h : Int} {es : List DictEntry} {n : Nat} {s : Shared} {pos : Pos} (ho : ObjIs s d es n) (hn : NoHash h es.toArray) :
    Steps p w n₀ ann fr 1 (dictFind d (.int k t) h) s pos none s pos := by
  unfold dictFind
  refine Steps.holding (Steps.cast (Steps.bind (entries_steps ho) (m := 0) ?_) rfl)
  dsimp only
  rw [places_none hn]
  exact Steps.pure

theorem push_steps {d : Addr} {q : Option Value} {e : DictEntry} {es : List DictEntry} {n : Nat} {s : Shared} {pos : Pos} (ho : ObjIs s d es n) (hd : Nat.ble n₀ d = true) (hz : es.length < 1000) :
    Steps p w n₀ ann fr 3 (updateDictKeys d (·.push e) q) s pos () { s with heap := s.heap.update d (Obj.mapDictKeys (·.push e)) } pos := by
  unfold updateDictKeys lookBehind
  refine Steps.cast (Steps.bind (Steps.loadPart ho) (m := 2) ?_) rfl
  refine Steps.cast (Steps.bind (Steps.updatePart ho hd) (m := 1) ?_) rfl
  have ho' : (s.heap.update d (Obj.mapDictKeys (·.push e))).get? d = some (Obj.mapDictKeys (·.push e) (dictOf es n)) := Heap.get?_update_self _ ho rfl
  refine Steps.cast (Steps.bind (Steps.loadPart ho') (m := 0) ?_) rfl
  have : (Obj.mapDictKeys (·.push e) (dictOf es n)).data.pastItsLine = none := by
    show (if (es.toArray.push e).size > sizeLine + 1 then _ else _) = _
    rw [if_neg]
    rw [Array.size_push, List.size_toArray, PySem.sizeLine_eq]
    omega
  rw [this]
  exact Steps.pure

theorem mapKeys_push (es : List DictEntry) (n : Nat) (e : DictEntry) : Obj.mapDictKeys (·.push e) (dictOf es n) = dictOf (es ++ [e]) (n + 1) := by
  show ({ cls := .type "dict", data := .dict (es.toArray.push e) (n + 1) } : Obj) = _
  rw [List.push_toArray]

/-- the state behind one more entry of the dict at d -/
def put (s : Shared) (d : Addr) (e : DictEntry) : Shared := { s with heap := s.heap.update d (Obj.mapDictKeys (·.push e)) }

theorem set_steps {d : Addr} {k : Int} {t : Tok} {v : Value} {es : List DictEntry} {n : Nat} {s : Shared} {pos : Pos} (ho : ObjIs s d es n) (hd : Nat.ble n₀ d = true) (hz : es.length < 1000) (hn : NoHash (hashInt k) es.toArray) :
    Steps p w n₀ ann fr 10 (dictSet d (.int k t) v) s pos () (put { s with toks := s.toks + 1 } d ⟨hashInt k, .int k t, v⟩) pos := by
  unfold dictSet dictSetHashed
  refine Steps.holding (Steps.cast (Steps.bind pyHash_steps (m := 5) ?_) rfl)
  have ho' : ObjIs { s with toks := s.toks + 1 } d es n := ho
  refine Steps.holding (Steps.cast (Steps.bind (find_steps ho' hn) (m := 4) ?_) rfl)
  exact Steps.cast (Steps.bind Steps.rule (m := 3) (push_steps ho' hd hz)) rfl

theorem put_steps {d : Addr} {k : Int} {t : Tok} {v : Value} {es : List DictEntry} {n : Nat} {s : Shared} {pos : Pos} (ho : ObjIs s d es n) (hd : Nat.ble n₀ d = true) (hz : es.length < 1000) (hn : NoHash (hashInt k) es.toArray) :
    Steps p w n₀ ann fr 4 (dictPut d (hashInt k) (.int k t) v) s pos () (put s d ⟨hashInt k, .int k t, v⟩) pos := by
  unfold dictPut
  exact Steps.cast (Steps.bind (find_steps ho hn) (m := 3) (push_steps ho hd hz)) rfl
end
end Mine
namespace Mine
open PySem PySem.W PyProof.Rows PySem.Calls
abbrev KV := Int × Str
/-- a pair's two trees, as a display makes them -/
def mkP (pos : Pos) (x : KV) : Sem Value × Sem Value := (mkInt x.1, (do let v ← mkText x.2; standAt pos; pure v))
def ents : Nat → List KV → List DictEntry
  | _, [] => []
  | t, x :: r => ⟨hashInt x.1, .int x.1 t, .str x.2 (t + 1)⟩ :: ents (t + 3) r
/-- a short display's: the keys and values first, then the stores -/
def ents2 : Nat → List KV → List DictEntry
  | _, [] => []
  | t, x :: r => ⟨hashInt x.1, .int x.1 t, .str x.2 (t + 1)⟩ :: ents2 (t + 2) r
def asc : Int → List KV → Bool
  | _, [] => true
  | b, x :: r => decide (b < hashInt x.1) && asc (hashInt x.1) r
def Under (b : Int) (es : List DictEntry) : Prop := ∀ e ∈ es, e.hash ≤ b
theorem Under.noHash {b h : Int} {es : List DictEntry} (u : Under b es) (hb : b < h) : NoHash h es.toArray := fun e he q => by
  have := u e (by simpa using he)
  omega
theorem Under.snoc {b : Int} {es : List DictEntry} {e : DictEntry} (u : Under b es) (hb : b < e.hash) : Under e.hash (es ++ [e]) := fun x hx => by
  rcases List.mem_append.mp hx with h | h
  · have := u x h; omega
  · rw [List.mem_singleton.mp h]; exact Int.le_refl _
theorem ents_length : ∀ (t : Nat) (l : List KV), (ents t l).length = l.length
  | _, [] => rfl
  | t, x :: r => by simp [ents, ents_length (t + 3) r]
theorem ents2_length : ∀ (t : Nat) (l : List KV), (ents2 t l).length = l.length
  | _, [] => rfl
  | t, x :: r => by simp [ents2, ents2_length (t + 2) r]

theorem update_last (h : Heap) (o : Obj) (f : Obj → Obj) : (h.push o).update h.objs.size f = h.push (f o) := by
  obtain ⟨objs, life⟩ := h
  show (⟨(objs.push o).modify objs.size f, life⟩ : Heap) = ⟨objs.push (f o), life⟩
  congr 1
  apply Array.ext
  · simp
  · intro i h1 h2
    rw [Array.getElem_modify]
    by_cases hi : objs.size = i
    · subst hi; simp
    · rw [if_neg hi]
      have : i < objs.size := by simp at h2; omega
      rw [Array.getElem_push_lt this, Array.getElem_push_lt this]

section
variable {α β : Type} {p : Program} {w : World} {n₀ : Nat} {ann : Option Value} {fr : Frame}

abbrev to (s : Shared) (h : Heap) (tk : Nat) : Shared := { s with heap := h, toks := tk }

theorem objIs_last (s : Shared) (h : Heap) (tk : Nat) (es : List DictEntry) (n : Nat) : ObjIs (to s (h.push (dictOf es n)) tk) h.objs.size es n := Heap.get?_push_size _ rfl

theorem val_steps {x : KV} {s : Shared} {pos pos' : Pos} : Steps p w n₀ ann fr 2 (mkP pos x).2 s pos' (.str x.2 s.toks) { s with toks := s.toks + 1 } pos :=
  Steps.cast (Steps.bind Steps.mkText (m := 1) (Steps.cast (Steps.bind Steps.standAt (m := 0) Steps.pure) rfl)) rfl

theorem long_loop {s : Shared} {h : Heap} {pos : Pos} : ∀ (l : List KV) (es : List DictEntry) (tk n : Nat) (b : Int), Nat.ble n₀ h.objs.size = true → es.length + l.length < 1000 → Under b es → asc b l = true →
    Steps p w n₀ ann fr (13 * l.length) (forIn (l.map (mkP pos)) PUnit.unit fun x __s =>
            match x with
            | (k, v) => do
              let kv ← k
              let vv ← holding [kv] v
              holding [kv, vv] (dictSet h.objs.size kv vv)
              Pure.pure (ForInStep.yield PUnit.unit)) (to s (h.push (dictOf es n)) tk) pos PUnit.unit (to s (h.push (dictOf (es ++ ents tk l) (n + l.length))) (tk + 3 * l.length)) pos
  | [], es, tk, n, b, _, _, _, _ => by
    simp only [List.map_nil, List.forIn_nil, ents, List.append_nil, List.length_nil, Nat.mul_zero, Nat.add_zero]
    exact Steps.pure
  | x :: r, es, tk, n, b, hd, hz, hu, ha => by
    obtain ⟨h1, h2⟩ := Bool.and_eq_true_iff.mp ha
    have hb := of_decide_eq_true h1
    simp only [List.map_cons, List.forIn_cons]
    refine Steps.cast (Steps.bind (n := 13) (m := 13 * r.length) (s₁ := to s (h.push (dictOf (es ++ [⟨hashInt x.1, .int x.1 tk, .str x.2 (tk + 1)⟩]) (n + 1))) (tk + 3)) (a := ForInStep.yield PUnit.unit) (pos₁ := pos) ?_ ?_) (by simp only [List.length_cons]; omega)
    · refine Steps.cast (Steps.bind (Steps.mkInt (i := x.1)) (m := 12) ?_) rfl
      refine Steps.cast (Steps.bind (Steps.holding (val_steps (x := x) (pos := pos))) (m := 10) ?_) rfl
      have hset := set_steps (p := p) (w := w) (n₀ := n₀) (ann := ann) (fr := fr) (k := x.1) (t := tk) (v := .str x.2 (tk + 1)) (pos := pos) (objIs_last s h (tk + 2) es n) hd (by simp only [List.length_cons] at hz; omega) (hu.noHash hb)
      refine Steps.cast (Steps.bind (Steps.holding hset) (m := 0) ?_) rfl
      have e : put { to s (h.push (dictOf es n)) (tk + 2) with toks := tk + 2 + 1 } h.objs.size ⟨hashInt x.1, .int x.1 tk, .str x.2 (tk + 1)⟩ = to s (h.push (dictOf (es ++ [⟨hashInt x.1, .int x.1 tk, .str x.2 (tk + 1)⟩]) (n + 1))) (tk + 3) := by
        unfold put
        rw [← mapKeys_push, ← update_last]
      rw [show (to s (h.push (dictOf es n)) (tk + 2)).toks + 1 = tk + 2 + 1 from rfl, e]
      exact Steps.pure
    · have ih := long_loop (s := s) (h := h) (pos := pos) r (es ++ [⟨hashInt x.1, .int x.1 tk, .str x.2 (tk + 1)⟩]) (tk + 3) (n + 1) (hashInt x.1) hd (by simp only [List.length_append, List.length_cons, List.length_nil] at hz ⊢; omega) (hu.snoc hb) h2
      have e1 : es ++ [⟨hashInt x.1, .int x.1 tk, .str x.2 (tk + 1)⟩] ++ ents (tk + 3) r = es ++ ents tk (x :: r) := by simp [ents]
      have e2 : n + 1 + r.length = n + (x :: r).length := by simp only [List.length_cons]; omega
      have e3 : tk + 3 + 3 * r.length = tk + 3 * (x :: r).length := by simp only [List.length_cons]; omega
      rw [e1, e2, e3] at ih
      exact ih

theorem sub_long {s : Shared} {pos : Pos} {l : List KV} {b : Int} (hd : Nat.ble n₀ s.heap.objs.size = true) (hl : 15 < l.length) (hz : l.length < 1000) (ha : asc b l = true) :
    Steps p w n₀ ann fr (2 + 13 * l.length) (subDict (l.map (mkP pos))) s pos s.heap.objs.size (to s (s.heap.push (dictOf (ents s.toks l) l.length)) (s.toks + 3 * l.length)) pos := by
  unfold subDict
  refine Steps.cast (Steps.bind Steps.alloc (m := 1 + 13 * l.length) ?_) (by omega)
  refine Steps.cast (Steps.bind (n := 1 + 13 * l.length) (m := 0) (Steps.holding (a := ()) ?_) Steps.pure) rfl
  rw [if_neg (by rw [List.length_map]; omega)]
  refine Steps.bind Steps.rule (Steps.cast (Steps.bind (m := 0) (a := PUnit.unit) ?_ Steps.pure) rfl)
  have := long_loop (p := p) (w := w) (n₀ := n₀) (ann := ann) (fr := fr) (s := s) (h := s.heap) (pos := pos) l [] s.toks 0 b hd (by simpa using hz) (fun _ h => nomatch h) ha
  simpa using this

theorem short_pairs {pos : Pos} : ∀ (l : List KV) (s : Shared), 
    Steps p w n₀ ann fr (3 * l.length) (evalPairs (l.map (mkP pos))) s pos ((ents2 s.toks l).map fun e => (e.key, e.val)) (to s s.heap (s.toks + 2 * l.length)) pos
  | [], s => by
    show Steps p w n₀ ann fr 0 (Pure.pure []) _ _ _ _ _
    exact Steps.pure
  | x :: r, s => by
    show Steps p w n₀ ann fr _ (do let kv ← mkInt x.1; let vv ← holding [kv] (mkP pos x).2; return (kv, vv) :: (← holding [kv, vv] (evalPairs (r.map (mkP pos))))) _ _ _ _ _
    refine Steps.cast (Steps.bind Steps.mkInt (m := 2 + 3 * r.length) ?_) (by simp only [List.length_cons]; omega)
    refine Steps.bind (Steps.holding (val_steps (x := x) (pos := pos))) (m := 3 * r.length) ?_
    refine Steps.cast (Steps.bind (Steps.holding (short_pairs r { s with toks := s.toks + 1 + 1 })) (m := 0) ?_) rfl
    have e3 : s.toks + 1 + 1 + 2 * r.length = s.toks + 2 * (x :: r).length := by simp only [List.length_cons]; omega
    show Steps p w n₀ ann fr 0 (Pure.pure _) (to s s.heap (s.toks + 1 + 1 + 2 * r.length)) pos _ _ pos
    rw [e3]
    exact Steps.pure

theorem short_loop {s : Shared} {h : Heap} {pos : Pos} : ∀ (l : List KV) (t : Nat) (es : List DictEntry) (tk n : Nat) (b : Int), Nat.ble n₀ h.objs.size = true → es.length + l.length < 1000 → Under b es → asc b l = true →
    Steps p w n₀ ann fr (10 * l.length) (forIn ((ents2 t l).map fun e => (e.key, e.val)) PUnit.unit fun x __s =>
            match x with
            | (k, v) => do
              dictSet h.objs.size k v
              Pure.pure (ForInStep.yield PUnit.unit)) (to s (h.push (dictOf es n)) tk) pos PUnit.unit (to s (h.push (dictOf (es ++ ents2 t l) (n + l.length))) (tk + l.length)) pos
  | [], t, es, tk, n, b, _, _, _, _ => by
    simp only [ents2, List.map_nil, List.forIn_nil, List.append_nil, List.length_nil, Nat.mul_zero, Nat.add_zero]
    exact Steps.pure
  | x :: r, t, es, tk, n, b, hd, hz, hu, ha => by
    obtain ⟨h1, h2⟩ := Bool.and_eq_true_iff.mp ha
    have hb := of_decide_eq_true h1
    simp only [ents2, List.map_cons, List.forIn_cons]
    refine Steps.cast (Steps.bind (n := 10) (m := 10 * r.length) (s₁ := to s (h.push (dictOf (es ++ [⟨hashInt x.1, .int x.1 t, .str x.2 (t + 1)⟩]) (n + 1))) (tk + 1)) (a := ForInStep.yield PUnit.unit) (pos₁ := pos) ?_ ?_) (by simp only [List.length_cons]; omega)
    · have hset := set_steps (p := p) (w := w) (n₀ := n₀) (ann := ann) (fr := fr) (k := x.1) (t := t) (v := .str x.2 (t + 1)) (pos := pos) (objIs_last s h tk es n) hd (by simp only [List.length_cons] at hz; omega) (hu.noHash hb)
      refine Steps.cast (Steps.bind hset (m := 0) ?_) rfl
      have e : put { to s (h.push (dictOf es n)) tk with toks := tk + 1 } h.objs.size ⟨hashInt x.1, .int x.1 t, .str x.2 (t + 1)⟩ = to s (h.push (dictOf (es ++ [⟨hashInt x.1, .int x.1 t, .str x.2 (t + 1)⟩]) (n + 1))) (tk + 1) := by
        unfold put
        rw [← mapKeys_push, ← update_last]
      rw [show (to s (h.push (dictOf es n)) tk).toks + 1 = tk + 1 from rfl, e]
      exact Steps.pure
    · have ih := short_loop (s := s) (h := h) (pos := pos) r (t + 2) (es ++ [⟨hashInt x.1, .int x.1 t, .str x.2 (t + 1)⟩]) (tk + 1) (n + 1) (hashInt x.1) hd (by simp only [List.length_append, List.length_cons, List.length_nil] at hz ⊢; omega) (hu.snoc hb) h2
      have e1 : es ++ [⟨hashInt x.1, .int x.1 t, .str x.2 (t + 1)⟩] ++ ents2 (t + 2) r = es ++ (⟨hashInt x.1, .int x.1 t, .str x.2 (t + 1)⟩ :: ents2 (t + 2) r) := by simp
      have e2 : n + 1 + r.length = n + (x :: r).length := by simp only [List.length_cons]; omega
      have e3 : tk + 1 + r.length = tk + (x :: r).length := by simp only [List.length_cons]; omega
      rw [e1, e2, e3] at ih
      exact ih

theorem sub_short {s : Shared} {pos : Pos} {l : List KV} {b : Int} (hd : Nat.ble n₀ s.heap.objs.size = true) (hl : l.length ≤ 15) (ha : asc b l = true) :
    Steps p w n₀ ann fr (1 + 13 * l.length) (subDict (l.map (mkP pos))) s pos s.heap.objs.size (to s (s.heap.push (dictOf (ents2 s.toks l) l.length)) (s.toks + 3 * l.length)) pos := by
  unfold subDict
  refine Steps.cast (Steps.bind Steps.alloc (m := 13 * l.length) ?_) (by omega)
  refine Steps.cast (Steps.bind (n := 13 * l.length) (m := 0) (Steps.holding (a := ()) ?_) Steps.pure) rfl
  rw [if_pos (by rw [List.length_map]; omega)]
  refine Steps.cast (Steps.bind (short_pairs l _) (m := 10 * l.length) (Steps.holding ?_)) (by omega)
  refine Steps.cast (Steps.bind (m := 0) (a := PUnit.unit) ?_ Steps.pure) rfl
  have := short_loop (p := p) (w := w) (n₀ := n₀) (ann := ann) (fr := fr) (s := s) (h := s.heap) (pos := pos) l s.toks [] (s.toks + 2 * l.length) 0 b hd (by simp only [List.length_nil]; omega) (fun _ h => nomatch h) ha
  simp only [List.nil_append, Nat.zero_add] at this
  rw [show s.toks + 2 * l.length + l.length = s.toks + 3 * l.length by omega] at this
  exact this
end
end Mine
namespace Mine
open PySem PySem.W PyProof.Rows PySem.Calls
def heapOf (h : Heap) (o : Obj) (subs : List Obj) : Heap := ⟨h.objs ++ (o :: subs).toArray, h.life⟩
theorem heapOf_nil (h : Heap) (o : Obj) : heapOf h o [] = h.push o := by
  obtain ⟨objs, life⟩ := h
  show (⟨objs ++ #[o], life⟩ : Heap) = ⟨objs.push o, life⟩
  rw [Array.push_eq_append]
theorem heapOf_push (h : Heap) (o x : Obj) (subs : List Obj) : (heapOf h o subs).push x = heapOf h o (subs ++ [x]) := by
  obtain ⟨objs, life⟩ := h
  show (⟨(objs ++ (o :: subs).toArray).push x, life⟩ : Heap) = ⟨objs ++ (o :: (subs ++ [x])).toArray, life⟩
  rw [Array.push_eq_append, Array.append_assoc]
  congr 2
  simp
theorem heapOf_size (h : Heap) (o : Obj) (subs : List Obj) : (heapOf h o subs).objs.size = h.objs.size + 1 + subs.length := by
  show (h.objs ++ (o :: subs).toArray).size = _
  simp
  omega
theorem heapOf_main (h : Heap) (o : Obj) (subs : List Obj) : (heapOf h o subs).objs[h.objs.size]? = some o := by
  show (h.objs ++ (o :: subs).toArray)[h.objs.size]? = _
  rw [Array.getElem?_append_right (Nat.le_refl _)]
  simp
theorem heapOf_sub (h : Heap) (o x : Obj) (subs : List Obj) : (heapOf h o (subs ++ [x])).objs[h.objs.size + 1 + subs.length]? = some x := by
  show (h.objs ++ (o :: (subs ++ [x])).toArray)[h.objs.size + 1 + subs.length]? = _
  rw [Array.getElem?_append_right (by omega)]
  have : h.objs.size + 1 + subs.length - h.objs.size = subs.length + 1 := by omega
  rw [this]
  simp
theorem heapOf_update (h : Heap) (o : Obj) (subs : List Obj) (f : Obj → Obj) : (heapOf h o subs).update h.objs.size f = heapOf h (f o) subs := by
  obtain ⟨objs, life⟩ := h
  show (⟨(objs ++ (o :: subs).toArray).modify objs.size f, life⟩ : Heap) = ⟨objs ++ (f o :: subs).toArray, life⟩
  congr 1
  apply Array.ext
  · simp
  · intro i h1 h2
    rw [Array.getElem_modify]
    by_cases hi : objs.size = i
    · subst hi; simp
    · rw [if_neg hi]
      rcases Nat.lt_or_ge i objs.size with h3 | h3
      · rw [Array.getElem_append_left h3, Array.getElem_append_left h3]
      · rw [Array.getElem_append_right h3, Array.getElem_append_right h3]
        have h4 : ∃ k, i - objs.size = k + 1 := ⟨i - objs.size - 1, by omega⟩
        obtain ⟨k, hk⟩ := h4
        simp only [hk]
        simp

section
variable {p : Program} {w : World} {n₀ : Nat} {ann : Option Value} {fr : Frame}

theorem main_is (s : Shared) (h : Heap) (es : List DictEntry) (n : Nat) (subs : List Obj) (tk : Nat) : ObjIs (to s (heapOf h (dictOf es n) subs) tk) h.objs.size es n := by
  show (match (heapOf h (dictOf es n) subs).objs[h.objs.size]? with | some ⟨_, _, .freed, _⟩ => none | o => o) = _
  rw [heapOf_main]
theorem sub_is (s : Shared) (h : Heap) (o : Obj) (se : List DictEntry) (n : Nat) (subs : List Obj) (tk : Nat) : ObjIs (to s (heapOf h o (subs ++ [dictOf se n])) tk) (h.objs.size + 1 + subs.length) se n := by
  show (match (heapOf h o (subs ++ [dictOf se n])).objs[h.objs.size + 1 + subs.length]? with | some ⟨_, _, .freed, _⟩ => none | o => o) = _
  rw [heapOf_sub]

def KeysOk (b : Int) : List DictEntry → Prop
  | [] => True
  | e :: r => b < e.hash ∧ (∃ k t, e.key = .int k t ∧ e.hash = hashInt k) ∧ KeysOk e.hash r
theorem keysOk_ents : ∀ (l : List KV) (t : Nat) (b : Int), asc b l = true → KeysOk b (ents t l)
  | [], _, _, _ => trivial
  | x :: r, t, b, h => by
    obtain ⟨h1, h2⟩ := Bool.and_eq_true_iff.mp h
    exact ⟨of_decide_eq_true h1, ⟨x.1, t, rfl, rfl⟩, keysOk_ents r (t + 3) _ h2⟩
theorem keysOk_ents2 : ∀ (l : List KV) (t : Nat) (b : Int), asc b l = true → KeysOk b (ents2 t l)
  | [], _, _, _ => trivial
  | x :: r, t, b, h => by
    obtain ⟨h1, h2⟩ := Bool.and_eq_true_iff.mp h
    exact ⟨of_decide_eq_true h1, ⟨x.1, t, rfl, rfl⟩, keysOk_ents2 r (t + 2) _ h2⟩

theorem merge_loop {s : Shared} {h : Heap} {pos : Pos} {subs : List Obj} {se : List DictEntry} {sn tk : Nat} : ∀ (rest pre : List DictEntry) (es : List DictEntry) (n : Nat) (b : Int), se = pre ++ rest → Nat.ble n₀ h.objs.size = true → es.length + rest.length < 1000 → Under b es → KeysOk b rest →
    Steps p w n₀ ann fr (6 * rest.length) (forIn (List.range' pre.length rest.length) PUnit.unit fun i __s => do
              let __do_lift ← dictEntries (h.objs.size + 1 + subs.length)
              match __do_lift[i]? with
                | some e => do
                  holding [e.key, e.val] (dictPut h.objs.size e.hash e.key e.val)
                  let __do_lift ← dictEpoch (h.objs.size + 1 + subs.length)
                  if (__do_lift != sn) = true then do
                      unsupported "dict.changed-during-merge"
                      Pure.pure (ForInStep.yield PUnit.unit)
                    else Pure.pure (ForInStep.yield PUnit.unit)
                | _ => do
                  unsupported "dict.changed-during-merge"
                  Pure.pure (ForInStep.yield PUnit.unit)) (to s (heapOf h (dictOf es n) (subs ++ [dictOf se sn])) tk) pos PUnit.unit (to s (heapOf h (dictOf (es ++ rest) (n + rest.length)) (subs ++ [dictOf se sn])) tk) pos
  | [], pre, es, n, b, _, _, _, _, _ => by
    simp only [List.length_nil, List.range'_zero, List.forIn_nil, List.append_nil, Nat.mul_zero, Nat.add_zero]
    exact Steps.pure
  | e :: r, pre, es, n, b, he, hd, hz, hu, hk => by
    obtain ⟨hb, ⟨k, t, h1, h2⟩, hr⟩ := hk
    simp only [List.length_cons, List.range'_succ, List.forIn_cons]
    have hget : se.toArray[pre.length]? = some e := by rw [he]; simp
    refine Steps.cast (Steps.bind (n := 6) (m := 6 * r.length) (s₁ := to s (heapOf h (dictOf (es ++ [e]) (n + 1)) (subs ++ [dictOf se sn])) tk) (a := ForInStep.yield PUnit.unit) (pos₁ := pos) ?_ ?_) (by omega)
    · refine Steps.cast (Steps.bind (entries_steps (sub_is s h _ se sn subs tk)) (m := 5) ?_) rfl
      rw [hget]
      dsimp only
      have hput := put_steps (p := p) (w := w) (n₀ := n₀) (ann := ann) (fr := fr) (k := k) (t := t) (v := e.val) (pos := pos) (main_is s h es n (subs ++ [dictOf se sn]) tk) hd (by simp only [List.length_cons] at hz; omega) (hu.noHash (by rw [← h2]; exact hb))
      rw [← h1, ← h2] at hput
      refine Steps.cast (Steps.bind (Steps.holding hput) (m := 1) ?_) rfl
      have e' : put (to s (heapOf h (dictOf es n) (subs ++ [dictOf se sn])) tk) h.objs.size ⟨e.hash, e.key, e.val⟩ = to s (heapOf h (dictOf (es ++ [e]) (n + 1)) (subs ++ [dictOf se sn])) tk := by
        unfold put
        rw [← mapKeys_push]
        show to s ((heapOf h (dictOf es n) (subs ++ [dictOf se sn])).update h.objs.size _) tk = _
        rw [heapOf_update]
      rw [e']
      refine Steps.cast (Steps.bind (epoch_steps (sub_is s h _ se sn subs tk)) (m := 0) ?_) rfl
      rw [if_neg (by simp)]
      exact Steps.pure
    · have ih := merge_loop (s := s) (h := h) (pos := pos) (subs := subs) (se := se) (sn := sn) (tk := tk) r (pre ++ [e]) (es ++ [e]) (n + 1) e.hash (by rw [he]; simp) hd (by simp only [List.length_append, List.length_cons, List.length_nil] at hz ⊢; omega) (hu.snoc hb) hr
      have e1 : es ++ [e] ++ r = es ++ e :: r := by simp
      have e2 : n + 1 + r.length = n + (r.length + 1) := by omega
      have e3 : (pre ++ [e]).length = pre.length + 1 := by simp
      rw [e1, e2, e3] at ih
      exact ih

theorem isInst_dict {s : Shared} {a : Addr} {es : List DictEntry} {n : Nat} {pos : Pos} (ho : ObjIs s a es n) : Steps p w n₀ ann fr 1 (isInstance (.ref a) (.type "dict")) s pos true s pos := by
  unfold isInstance
  refine Steps.cast (Steps.bind (n := 1) (m := 0) (a := .type "dict") (s₁ := s) (pos₁ := pos) ?_ ?_) rfl
  · exact Steps.cast (Steps.bind (Steps.loadPart ho) (m := 0) Steps.pure) rfl
  · have : isSubtype (.type "dict") (.type "dict") = Pure.pure true := by kernel_rfl
    rw [this]
    exact Steps.pure
theorem special_iter {s : Shared} {a : Addr} {es : List DictEntry} {n : Nat} {pos : Pos} (ho : ObjIs s a es n) : Steps p w n₀ ann fr 1 (specialOf (.ref a) "__iter__") s pos (some (.builtin "dict.__iter__")) s pos := by
  unfold specialOf
  refine Steps.cast (Steps.bind (n := 1) (m := 0) (a := .type "dict") (s₁ := s) (pos₁ := pos) ?_ ?_) rfl
  · exact Steps.cast (Steps.bind (Steps.loadPart ho) (m := 0) Steps.pure) rfl
  · have : typeLookup (.type "dict") "__iter__" = Pure.pure (some (.builtin "dict.__iter__")) := by
      rw [typeLookup_type, builtinLookup_eq_fast]; kernel_rfl
    rw [this]
    exact Steps.pure

theorem merge_steps {s : Shared} {h : Heap} {pos : Pos} {subs : List Obj} {se : List DictEntry} {sn tk : Nat} {es : List DictEntry} {n : Nat} {b : Int} (hne : es ≠ []) (hd : Nat.ble n₀ h.objs.size = true) (hz : es.length + se.length < 1000) (hu : Under b es) (hk : KeysOk b se)
    (hs : (h.objs.size + 1 + subs.length == sysModules) = false) :
    Steps p w n₀ ann fr (5 + 6 * se.length) (mergeMapping h.objs.size (.ref (h.objs.size + 1 + subs.length)) false) (to s (heapOf h (dictOf es n) (subs ++ [dictOf se sn])) tk) pos ()
      (to s (heapOf h (dictOf (es ++ se) (n + se.length)) (subs ++ [dictOf se sn])) tk) pos := by
  have hsub := sub_is s h (dictOf es n) se sn subs tk
  unfold mergeMapping
  refine Steps.cast (Steps.bind (isInst_dict hsub) (m := 4 + 6 * se.length) ?_) (by omega)
  rw [if_pos rfl]
  refine Steps.cast (Steps.bind (special_iter hsub) (m := 3 + 6 * se.length) ?_) (by omega)
  refine Steps.bind0 (a := true) (by rw [beq_self_eq_true]) ?_
  dsimp only
  rw [if_neg (by rw [hs]; exact Bool.false_ne_true)]
  refine Steps.cast (Steps.bind (entries_steps (main_is s h es n (subs ++ [dictOf se sn]) tk)) (m := 2 + 6 * se.length) ?_) (by omega)
  rw [if_neg (by cases es with | nil => exact absurd rfl hne | cons a r => simp)]
  refine Steps.cast (Steps.bind (entries_steps hsub) (m := 1 + 6 * se.length) ?_) (by omega)
  refine Steps.cast (Steps.bind (epoch_steps hsub) (m := 6 * se.length) ?_) (by omega)
  refine Steps.cast (Steps.bind (m := 0) (a := PUnit.unit) ?_ Steps.pure) rfl
  have := merge_loop (p := p) (w := w) (n₀ := n₀) (ann := ann) (fr := fr) (s := s) (h := h) (pos := pos) (subs := subs) (se := se) (sn := sn) (tk := tk) se [] es n b rfl hd hz hu hk
  rw [List.range_eq_range', List.size_toArray]
  exact this
end
end Mine
namespace Mine
open PySem PySem.W PyProof.Rows PySem.Calls
abbrev Item := Option (Sem Value) × Sem Value
def mkI (pos : Pos) (x : KV) : Item := (some (mkP pos x).1, (mkP pos x).2)
abbrev DSt := Option Addr × List (Sem Value × Sem Value)
abbrev FlT := DSt → Sem (Option Addr)
/-- what a flush of a run that is not empty does: the first makes the dict, the others make one beside it and merge it -/
structure Flush (fl : FlT) (H : Addr → Value → Sem Unit) : Prop where
  first : ∀ a r, fl (none, a :: r) = (do let x ← subDict (a :: r); pure (some x))
  next : ∀ d a r, fl (some d, a :: r) = (do let sub ← holding [Value.ref d] (subDict (a :: r)); (holding [Value.ref d, Value.ref sub] (mergeMapping d (Value.ref sub) false)).onRaise (H d); pure (some d))
/-- the dict so far, the dicts beside it, the tokens, the steps -/
structure DS where
  es : List DictEntry
  subs : List Obj
  tk : Nat
  steps : Nat
def stepL (x : DS) (c : List KV) : DS := ⟨x.es ++ ents x.tk c, x.subs ++ [dictOf (ents x.tk c) c.length], x.tk + 3 * c.length, x.steps + ((2 + 13 * c.length) + (5 + 6 * c.length))⟩
def stepS (x : DS) (c : List KV) : DS := ⟨x.es ++ ents2 x.tk c, x.subs ++ [dictOf (ents2 x.tk c) c.length], x.tk + 3 * c.length, x.steps + ((1 + 13 * c.length) + (5 + 6 * c.length))⟩
def start1 (tk : Nat) (c : List KV) : DS := ⟨ents tk c, [], tk + 3 * c.length, 2 + 13 * c.length⟩
def allL (x : DS) (cs : List (List KV)) : DS := cs.foldl stepL x
def hi : Int → List KV → Int
  | b, [] => b
  | _, x :: r => hi (hashInt x.1) r
theorem under_ents : ∀ (l : List KV) (t : Nat) (b : Int) (es : List DictEntry), Under b es → asc b l = true → Under (hi b l) (es ++ ents t l)
  | [], t, b, es, u, _ => by simpa [ents, hi] using u
  | x :: r, t, b, es, u, h => by
    obtain ⟨h1, h2⟩ := Bool.and_eq_true_iff.mp h
    have := under_ents r (t + 3) (hashInt x.1) (es ++ [⟨hashInt x.1, .int x.1 t, .str x.2 (t + 1)⟩]) (u.snoc (of_decide_eq_true h1)) h2
    simpa [ents, hi] using this
def ascs : Int → List (List KV) → Bool
  | _, [] => true
  | b, c :: r => asc b c && (c.length == 17) && ascs (hi b c) r
def his : Int → List (List KV) → Int
  | b, [] => b
  | b, c :: r => his (hi b c) r

section
variable {p : Program} {w : World} {n₀ : Nat} {ann : Option Value} {fr : Frame} {fl : FlT} {H : Addr → Value → Sem Unit}

theorem fill {pos : Pos} {main : Option Addr} {body : Item → DSt → Sem (ForInStep DSt)} (hb : ∀ k v m run, body (some k, v) (m, run) = if (((run ++ [(k, v)]).length == 17) = true) then (do let m' ← fl (m, run ++ [(k, v)]); pure (ForInStep.yield (m', []))) else pure (ForInStep.yield (m, run ++ [(k, v)])))
    {rest : List Item} {nf m : Nat} {s s' s'' : Shared} {d : Addr} {R : DSt} : ∀ (c pend : List KV), c ≠ [] → pend.length + c.length = 17 →
    Steps p w n₀ ann fr nf (fl (main, (pend ++ c).map (mkP pos))) s pos (some d) s' pos → Steps p w n₀ ann fr m (forIn rest (some d, []) body) s' pos R s'' pos →
    Steps p w n₀ ann fr (nf + m) (forIn (c.map (mkI pos) ++ rest) (main, pend.map (mkP pos)) body) s pos R s'' pos
  | [], _, h, _, _, _ => absurd rfl h
  | [x], pend, _, hl, hf, hr => by
    simp only [List.map_cons, List.map_nil, List.cons_append, List.nil_append, List.forIn_cons, mkI]
    rw [hb]
    have : (((pend.map (mkP pos) ++ [((mkP pos x).1, (mkP pos x).2)]).length == 17) = true) := by simp at hl ⊢; omega
    rw [if_pos this]
    rw [List.map_append, List.map_cons, List.map_nil] at hf
    refine Steps.bind (a := ForInStep.yield (some d, [])) (n := nf) (m := m) (s₁ := s') (pos₁ := pos) ?_ hr
    exact Steps.cast (Steps.bind hf (m := 0) Steps.pure) rfl
  | x :: y :: r, pend, _, hl, hf, hr => by
    simp only [List.map_cons, List.cons_append, List.forIn_cons]
    rw [show mkI pos x = (some (mkP pos x).1, (mkP pos x).2) from rfl, hb]
    have : ¬(((pend.map (mkP pos) ++ [((mkP pos x).1, (mkP pos x).2)]).length == 17) = true) := by simp at hl ⊢; omega
    rw [if_neg this]
    refine Steps.cast (Steps.bind (a := ForInStep.yield (main, pend.map (mkP pos) ++ [((mkP pos x).1, (mkP pos x).2)])) (n := 0) (m := nf + m) (s₁ := s) (pos₁ := pos) Steps.pure ?_) (by omega)
    have ih := fill (pos := pos) (main := main) (body := body) hb (rest := rest) (nf := nf) (m := m) (s := s) (s' := s') (s'' := s'') (d := d) (R := R) (y :: r) (pend ++ [x]) (by simp) (by simp at hl ⊢; omega) (by simpa using hf) hr
    simp only [List.map_cons, List.cons_append, List.map_append, List.map_nil, List.forIn_cons] at ih ⊢
    exact ih
/-- the last, short chunk: no flush yet -/
theorem fill_last {pos : Pos} {main : Option Addr} {body : Item → DSt → Sem (ForInStep DSt)} (hb : ∀ k v m run, body (some k, v) (m, run) = if (((run ++ [(k, v)]).length == 17) = true) then (do let m' ← fl (m, run ++ [(k, v)]); pure (ForInStep.yield (m', []))) else pure (ForInStep.yield (m, run ++ [(k, v)])))
    {s : Shared} : ∀ (c pend : List KV), pend.length + c.length < 17 →
    Steps p w n₀ ann fr 0 (forIn (c.map (mkI pos)) (main, pend.map (mkP pos)) body) s pos (main, (pend ++ c).map (mkP pos)) s pos
  | [], pend, _ => by
    simp only [List.map_nil, List.forIn_nil, List.append_nil]
    exact Steps.pure
  | x :: r, pend, hl => by
    simp only [List.map_cons, List.forIn_cons]
    rw [show mkI pos x = (some (mkP pos x).1, (mkP pos x).2) from rfl, hb]
    have : ¬(((pend.map (mkP pos) ++ [((mkP pos x).1, (mkP pos x).2)]).length == 17) = true) := by simp at hl ⊢; omega
    rw [if_neg this]
    refine Steps.cast (Steps.bind (a := ForInStep.yield (main, pend.map (mkP pos) ++ [((mkP pos x).1, (mkP pos x).2)])) (n := 0) (m := 0) (s₁ := s) (pos₁ := pos) Steps.pure ?_) rfl
    have ih := fill_last (pos := pos) (main := main) (body := body) hb (s := s) r (pend ++ [x]) (by simp at hl ⊢; omega)
    simpa using ih

def stOf (s : Shared) (h : Heap) (x : DS) : Shared := to s (heapOf h (dictOf x.es x.es.length) x.subs) x.tk

theorem flush_first (hF : Flush fl H) {s : Shared} {pos : Pos} {c : List KV} {b : Int} (hd : Nat.ble n₀ s.heap.objs.size = true) (hl : c.length = 17) (ha : asc b c = true) :
    Steps p w n₀ ann fr (start1 s.toks c).steps (fl (none, c.map (mkP pos))) s pos (some s.heap.objs.size) (stOf s s.heap (start1 s.toks c)) pos := by
  have hfl : fl (none, c.map (mkP pos)) = (do let x ← subDict (c.map (mkP pos)); pure (some x)) := by
    cases c with
    | nil => simp at hl
    | cons a r => exact hF.first _ _
  rw [hfl]
  have := sub_long (p := p) (w := w) (n₀ := n₀) (ann := ann) (fr := fr) (s := s) (pos := pos) (l := c) hd (by omega) (by omega) ha
  refine Steps.cast (Steps.bind this (m := 0) ?_) rfl
  have e : to s (s.heap.push (dictOf (ents s.toks c) c.length)) (s.toks + 3 * c.length) = stOf s s.heap (start1 s.toks c) := by
    unfold stOf start1
    dsimp only
    rw [heapOf_nil, ents_length]
  rw [e]
  exact Steps.pure

theorem flush_long (hF : Flush fl H) {s : Shared} {h : Heap} {x : DS} {pos : Pos} {c : List KV} {b : Int} (hd : Nat.ble n₀ h.objs.size = true) (hl : c.length = 17) (ha : asc b c = true) (hne : x.es ≠ []) (hz : x.es.length + c.length < 1000) (hu : Under b x.es)
    (hs : (h.objs.size + 1 + x.subs.length == sysModules) = false) :
    Steps p w n₀ ann fr ((2 + 13 * c.length) + (5 + 6 * c.length)) (fl (some h.objs.size, c.map (mkP pos))) (stOf s h x) pos (some h.objs.size) (stOf s h (stepL x c)) pos := by
  have hfl : fl (some h.objs.size, c.map (mkP pos)) = (do let sub ← holding [Value.ref h.objs.size] (subDict (c.map (mkP pos))); (holding [Value.ref h.objs.size, Value.ref sub] (mergeMapping h.objs.size (Value.ref sub) false)).onRaise (H h.objs.size); pure (some h.objs.size)) := by
    cases c with
    | nil => simp at hl
    | cons a r => exact hF.next _ _ _
  rw [hfl]
  have hsz : (stOf s h x).heap.objs.size = h.objs.size + 1 + x.subs.length := heapOf_size _ _ _
  have h1 := sub_long (p := p) (w := w) (n₀ := n₀) (ann := ann) (fr := fr) (s := stOf s h x) (pos := pos) (l := c) (b := b) (by rw [hsz]; exact Nat.ble_eq.mpr (by have := Nat.ble_eq.mp hd; omega)) (by omega) (by omega) ha
  rw [hsz] at h1
  refine Steps.bind (Steps.holding h1) (m := 5 + 6 * c.length) ?_
  have e : to (stOf s h x) ((stOf s h x).heap.push (dictOf (ents (stOf s h x).toks c) c.length)) ((stOf s h x).toks + 3 * c.length) = to s (heapOf h (dictOf x.es x.es.length) (x.subs ++ [dictOf (ents x.tk c) c.length])) (x.tk + 3 * c.length) := by
    unfold stOf
    dsimp only
    rw [heapOf_push]
  rw [e]
  have h2 := merge_steps (p := p) (w := w) (n₀ := n₀) (ann := ann) (fr := fr) (s := s) (h := h) (pos := pos) (subs := x.subs) (se := ents x.tk c) (sn := c.length) (tk := x.tk + 3 * c.length) (es := x.es) (n := x.es.length) (b := b) hne hd (by rw [ents_length]; exact hz) hu (keysOk_ents c _ _ ha) hs
  rw [ents_length] at h2
  refine Steps.cast (Steps.bind (Steps.onRaise (Steps.holding h2)) (m := 0) ?_) rfl
  have e2 : to s (heapOf h (dictOf (x.es ++ ents x.tk c) (x.es.length + c.length)) (x.subs ++ [dictOf (ents x.tk c) c.length])) (x.tk + 3 * c.length) = stOf s h (stepL x c) := by
    unfold stOf stepL
    dsimp only
    rw [List.length_append, ents_length]
  rw [e2]
  exact Steps.pure

theorem flush_short (hF : Flush fl H) {s : Shared} {h : Heap} {x : DS} {pos : Pos} {c : List KV} {b : Int} (hd : Nat.ble n₀ h.objs.size = true) (hl : c.length ≤ 15) (hc : c ≠ []) (ha : asc b c = true) (hne : x.es ≠ []) (hz : x.es.length + c.length < 1000) (hu : Under b x.es)
    (hs : (h.objs.size + 1 + x.subs.length == sysModules) = false) :
    Steps p w n₀ ann fr ((1 + 13 * c.length) + (5 + 6 * c.length)) (fl (some h.objs.size, c.map (mkP pos))) (stOf s h x) pos (some h.objs.size) (stOf s h (stepS x c)) pos := by
  have hfl : fl (some h.objs.size, c.map (mkP pos)) = (do let sub ← holding [Value.ref h.objs.size] (subDict (c.map (mkP pos))); (holding [Value.ref h.objs.size, Value.ref sub] (mergeMapping h.objs.size (Value.ref sub) false)).onRaise (H h.objs.size); pure (some h.objs.size)) := by
    cases c with
    | nil => exact absurd rfl hc
    | cons a r => exact hF.next _ _ _
  rw [hfl]
  have hsz : (stOf s h x).heap.objs.size = h.objs.size + 1 + x.subs.length := heapOf_size _ _ _
  have h1 := sub_short (p := p) (w := w) (n₀ := n₀) (ann := ann) (fr := fr) (s := stOf s h x) (pos := pos) (l := c) (b := b) (by rw [hsz]; exact Nat.ble_eq.mpr (by have := Nat.ble_eq.mp hd; omega)) hl ha
  rw [hsz] at h1
  refine Steps.bind (Steps.holding h1) (m := 5 + 6 * c.length) ?_
  have e : to (stOf s h x) ((stOf s h x).heap.push (dictOf (ents2 (stOf s h x).toks c) c.length)) ((stOf s h x).toks + 3 * c.length) = to s (heapOf h (dictOf x.es x.es.length) (x.subs ++ [dictOf (ents2 x.tk c) c.length])) (x.tk + 3 * c.length) := by
    unfold stOf
    dsimp only
    rw [heapOf_push]
  rw [e]
  have h2 := merge_steps (p := p) (w := w) (n₀ := n₀) (ann := ann) (fr := fr) (s := s) (h := h) (pos := pos) (subs := x.subs) (se := ents2 x.tk c) (sn := c.length) (tk := x.tk + 3 * c.length) (es := x.es) (n := x.es.length) (b := b) hne hd (by rw [ents2_length]; exact hz) hu (keysOk_ents2 c _ _ ha) hs
  rw [ents2_length] at h2
  refine Steps.cast (Steps.bind (Steps.onRaise (Steps.holding h2)) (m := 0) ?_) rfl
  have e2 : to s (heapOf h (dictOf (x.es ++ ents2 x.tk c) (x.es.length + c.length)) (x.subs ++ [dictOf (ents2 x.tk c) c.length])) (x.tk + 3 * c.length) = stOf s h (stepS x c) := by
    unfold stOf stepS
    dsimp only
    rw [List.length_append, ents2_length]
  rw [e2]
  exact Steps.pure
end
end Mine
namespace Mine
open PySem PySem.W PyProof.Rows PySem.Calls
def kvOf : List (Option Expr) → List Expr → Option (List KV)
  | [], [] => some []
  | k :: ks, v :: vs => match k, v with
    | some (.Constant (.int k) _ _), .Constant (.str v) _ _ => (kvOf ks vs).map ((k, v) :: ·)
    | _, _ => none
  | _, _ => none
theorem items_of {env : Env} {pos : Pos} : ∀ {ks : List (Option Expr)} {vs : List Expr} {l : List KV}, kvOf ks vs = some l →
    (evalEachOpt ks env).zip ((evalEach vs env).map fun v => do let x ← v; standAt pos; pure x) = l.map (mkI pos)
  | [], [], l, h => by
    obtain rfl : [] = l := Option.some.inj h
    rfl
  | [], _ :: _, _, h => by cases h
  | _ :: _, [], _, h => by cases h
  | k :: ks, v :: vs, l, h => by
    simp only [kvOf] at h
    split at h
    · obtain ⟨l', h1, rfl⟩ := Option.map_eq_some_iff.mp h
      have ih := items_of (env := env) (pos := pos) h1
      rename_i k _ _ v _ _
      show (some (mkInt k), _) :: ((evalEachOpt ks env).zip ((evalEach vs env).map fun v => do let x ← v; standAt pos; pure x)) = _
      rw [ih]
      rfl
    · cases h
/-- a dict display is a loop with some body, and a flush behind it -/
theorem dDisplay_ex : ∃ (body : Item → DSt → Sem (ForInStep DSt)) (fl : FlT) (H : Addr → Value → Sem Unit),
    (∀ items : List Item, dictDisplay items = (do let st ← forIn items ((none, []) : DSt) body; let r ← fl st; match r with | some d => pure (.ref d) | none => newDict)) ∧
    (∀ k v m run, body (some k, v) (m, run) = if (((run ++ [(k, v)]).length == 17) = true) then (do let m' ← fl (m, run ++ [(k, v)]); pure (ForInStep.yield (m', []))) else pure (ForInStep.yield (m, run ++ [(k, v)]))) ∧
    Flush fl H := ⟨_, _, _, fun _ => rfl, fun _ _ _ _ => rfl, ⟨fun _ _ => rfl, fun _ _ _ => rfl⟩⟩
section
variable {p : Program} {w : World} {n₀ : Nat} {ann : Option Value} {fr : Frame} {fl : FlT} {H : Addr → Value → Sem Unit}

theorem allL_es_ne {cs : List (List KV)} : ∀ {x : DS}, x.es ≠ [] → (allL x cs).es ≠ [] := by
  induction cs with
  | nil => intro x h; exact h
  | cons c r ih =>
    intro x h
    refine ih (x := stepL x c) ?_
    unfold stepL
    simp [h]
theorem allL_es_length {cs : List (List KV)} : ∀ {x : DS} {b : Int}, ascs b cs = true → (allL x cs).es.length = x.es.length + 17 * cs.length := by
  induction cs with
  | nil => intro x b _; rfl
  | cons c r ih =>
    intro x b h
    unfold ascs at h
    simp only [Bool.and_eq_true, beq_iff_eq] at h
    show (allL (stepL x c) r).es.length = _
    rw [ih (x := stepL x c) h.2]
    simp only [stepL, List.length_append, ents_length, List.length_cons, h.1.2]
    omega
theorem allL_under {cs : List (List KV)} : ∀ {x : DS} {b : Int}, ascs b cs = true → Under b x.es → Under (his b cs) (allL x cs).es := by
  induction cs with
  | nil => intro x b _ h; exact h
  | cons c r ih =>
    intro x b h u
    unfold ascs at h
    simp only [Bool.and_eq_true, beq_iff_eq] at h
    exact ih (x := stepL x c) h.2 (under_ents c x.tk b x.es u h.1.1)

theorem chunks (hF : Flush fl H) {s : Shared} {h : Heap} {pos : Pos} {body : Item → DSt → Sem (ForInStep DSt)} (hb : ∀ k v m run, body (some k, v) (m, run) = if (((run ++ [(k, v)]).length == 17) = true) then (do let m' ← fl (m, run ++ [(k, v)]); pure (ForInStep.yield (m', []))) else pure (ForInStep.yield (m, run ++ [(k, v)])))
    (hd : Nat.ble n₀ h.objs.size = true) (hsys : sysModules < h.objs.size) {last : List KV} (hl : last.length < 17) : ∀ (cs : List (List KV)) (x : DS) (b : Int), ascs b cs = true → Under b x.es → x.es ≠ [] → x.es.length + 17 * cs.length < 1000 →
    ∃ n, x.steps + n = (allL x cs).steps ∧ Steps p w n₀ ann fr n (forIn (cs.flatten.map (mkI pos) ++ last.map (mkI pos)) (some h.objs.size, []) body) (stOf s h x) pos (some h.objs.size, last.map (mkP pos)) (stOf s h (allL x cs)) pos
  | [], x, b, _, _, _, _ => by
    refine ⟨0, rfl, ?_⟩
    have := fill_last (p := p) (w := w) (n₀ := n₀) (ann := ann) (fr := fr) (pos := pos) (main := some h.objs.size) (body := body) hb (s := stOf s h x) last [] (by simpa using hl)
    simpa [allL] using this
  | c :: r, x, b, ha, hu, hne, hz => by
    unfold ascs at ha
    simp only [Bool.and_eq_true, beq_iff_eq] at ha
    simp only [List.length_cons] at hz
    have hx : (stepL x c).es = x.es ++ ents x.tk c := rfl
    have hlen : (stepL x c).es.length = x.es.length + 17 := by rw [hx, List.length_append, ents_length, ha.1.2]
    obtain ⟨n, hn, hs⟩ := chunks hF hb hd hsys hl r (stepL x c) (hi b c) ha.2 (by rw [hx]; exact under_ents c x.tk b x.es hu ha.1.1) (by rw [hx]; simp [hne]) (by rw [hlen]; omega)
    have hf := flush_long hF (p := p) (w := w) (n₀ := n₀) (ann := ann) (fr := fr) (s := s) (h := h) (x := x) (pos := pos) (c := c) (b := b) hd ha.1.2 ha.1.1 hne (by rw [ha.1.2]; omega) hu (beq_eq_false_iff_ne.mpr (Nat.ne_of_gt (Nat.lt_of_lt_of_le hsys (by omega))))
    have := fill (p := p) (w := w) (n₀ := n₀) (ann := ann) (fr := fr) (pos := pos) (main := some h.objs.size) (body := body) hb (rest := r.flatten.map (mkI pos) ++ last.map (mkI pos)) c [] (by intro e; rw [e] at ha; simp at ha) (by simpa using ha.1.2) (by simpa using hf) hs
    refine ⟨_, ?_, by rw [List.flatten_cons, List.map_append, List.append_assoc]; exact this⟩
    show x.steps + _ = (allL (stepL x c) r).steps
    rw [← hn]
    show _ = x.steps + ((2 + 13 * c.length) + (5 + 6 * c.length)) + n
    omega

/-- the whole display: a first chunk of seventeen, more such, and a last short one -/
theorem display {s : Shared} {pos : Pos} {c₁ last : List KV} {cs : List (List KV)} {b : Int} (hd : Nat.ble n₀ s.heap.objs.size = true) (hsys : sysModules < s.heap.objs.size) (h1 : c₁.length = 17) (ha1 : asc b c₁ = true) (ha : ascs (hi b c₁) cs = true) (hl : last.length ≤ 15) (hl0 : last ≠ [])
    (hal : asc (his (hi b c₁) cs) last = true) (hz : 17 * cs.length < 900) :
    Steps p w n₀ ann fr (stepS (allL (start1 s.toks c₁) cs) last).steps (dictDisplay ((c₁ ++ cs.flatten ++ last).map (mkI pos))) s pos (.ref s.heap.objs.size) (stOf s s.heap (stepS (allL (start1 s.toks c₁) cs) last)) pos := by
  obtain ⟨body, fl, H, hdisp, hb, hF⟩ := dDisplay_ex
  have hf1 := flush_first hF (p := p) (w := w) (n₀ := n₀) (ann := ann) (fr := fr) (s := s) (pos := pos) hd h1 ha1
  have hu1 : Under (hi b c₁) (start1 s.toks c₁).es := by
    have := under_ents c₁ s.toks b [] (fun _ h => nomatch h) ha1
    exact (by simpa using this : Under (hi b c₁) (ents s.toks c₁))
  have hne1 : (start1 s.toks c₁).es ≠ [] := by
    intro e
    have := congrArg List.length e
    simp [start1, ents_length, h1] at this
  have hlen1 : (start1 s.toks c₁).es.length = 17 := by simp [start1, ents_length, h1]
  rw [hdisp]
  obtain ⟨n, hn, hs⟩ := chunks hF (p := p) (w := w) (n₀ := n₀) (ann := ann) (fr := fr) (s := s) (h := s.heap) (pos := pos) hb hd hsys (last := last) (by omega) cs (start1 s.toks c₁) (hi b c₁) ha hu1 hne1 (by rw [hlen1]; omega)
  have hloop := fill (p := p) (w := w) (n₀ := n₀) (ann := ann) (fr := fr) (pos := pos) (main := none) (body := body) hb (rest := cs.flatten.map (mkI pos) ++ last.map (mkI pos)) c₁ [] (by intro e; rw [e] at h1; simp at h1) (by simpa using h1) (by simpa using hf1) hs
  have hitems : (c₁ ++ cs.flatten ++ last).map (mkI pos) = c₁.map (mkI pos) ++ (cs.flatten.map (mkI pos) ++ last.map (mkI pos)) := by simp
  rw [hitems]
  have hfl := flush_short hF (p := p) (w := w) (n₀ := n₀) (ann := ann) (fr := fr) (s := s) (h := s.heap) (x := allL (start1 s.toks c₁) cs) (pos := pos) (c := last) (b := his (hi b c₁) cs) hd hl hl0 hal (allL_es_ne hne1) (by rw [allL_es_length ha, hlen1]; omega) (allL_under ha hu1)
    (beq_eq_false_iff_ne.mpr (Nat.ne_of_gt (Nat.lt_of_lt_of_le hsys (by omega))))
  refine Steps.cast (Steps.bind hloop (m := ((1 + 13 * last.length) + (5 + 6 * last.length))) (Steps.cast (Steps.bind hfl (m := 0) Steps.pure) rfl)) ?_
  show _ = (allL (start1 s.toks c₁) cs).steps + ((1 + 13 * last.length) + (5 + 6 * last.length))
  rw [← hn]

theorem dict_steps {s : Shared} {env : Env} {pos pos₀ : Pos} {ks : List (Option Expr)} {vs : List Expr} {c₁ last : List KV} {cs : List (List KV)} {b : Int} (hkv : kvOf ks vs = some (c₁ ++ cs.flatten ++ last)) (hd : Nat.ble n₀ s.heap.objs.size = true) (hsys : sysModules < s.heap.objs.size) (h1 : c₁.length = 17) (ha1 : asc b c₁ = true) (ha : ascs (hi b c₁) cs = true) (hl : last.length ≤ 15) (hl0 : last ≠ [])
    (hal : asc (his (hi b c₁) cs) last = true) (hz : 17 * cs.length < 900) :
    Steps p w n₀ ann fr (1 + (stepS (allL (start1 s.toks c₁) cs) last).steps) (eval (.Dict ks vs pos) env) s pos₀ (.ref s.heap.objs.size) (stOf s s.heap (stepS (allL (start1 s.toks c₁) cs) last)) pos := by
  have e : eval (.Dict ks vs pos) env = (do standAt pos; dictDisplay ((evalEachOpt ks env).zip ((evalEach vs env).map fun v => do let x ← v; standAt pos; pure x))) := by
    rfl
  rw [e, items_of hkv]
  exact Steps.bind Steps.standAt (display hd hsys h1 ha1 ha hl hl0 hal hz)
end
end Mine
namespace Mine
open PySem PySem.W PyProof.Rows PySem.Calls
abbrev PW : Program := PySem.Challenge.pw_wo0057_01
def bE : List Stmt := behindTheImports PW
def envE : Env := { scope := PW.main.scope, locals := mainNs, globals := mainNs, cells := [], code := .ref 13, frame := some 14 }
def cE : Code := .body bE envE
def q0 : Pos := ⟨0, 0, 0, 0⟩
noncomputable def S0 (w : World) (os : OsState) : Shared := ⟨boot_heap w.params, #[], boot_drawn, boot_toks, os⟩
def annE : Option Value := some (.ref 6)
noncomputable def Sa (w : World) (os : OsState) : Shared := match topGo treeTable PW w 11 annE 12 (S0 w os) (topStub PW) with
  | some (s, _) => s
  | none => S0 w os
set_option maxHeartbeats 0
theorem pre_run (w : World) (os : OsState) : topGo treeTable PW w 11 annE 12 (S0 w os) (topStub PW) = some (Sa w os, ⟨denote treeTable cE, cE, q0, [topFrame q0]⟩) := by kernel_rfl
theorem block_run (w : World) (os : OsState) : segRun treeTable PW w 11 annE 1 1 (Sa w os) (blockOf bE envE cE q0 [topFrame q0]) = some (.next, Sa w os, cE, q0) := by kernel_rfl
noncomputable def S14 (w : World) (os : OsState) : Shared := match segRun treeTable PW w 11 annE 1 322 (Sa w os) (piecesOf (bE.take 14) envE cE q0 [topFrame q0]) with
  | some (_, s, _) => s
  | none => S0 w os
theorem a_run (w : World) (os : OsState) : segRun treeTable PW w 11 annE 1 322 (Sa w os) (piecesOf (bE.take 14) envE cE q0 [topFrame q0]) = some (.next, S14 w os, cE, ⟨55, 0, 55, 8⟩) := by kernel_rfl
end Mine
namespace Mine
open PySem PySem.W PyProof.Rows PySem.Calls
def dSt : Stmt := bE.getD 14 (.Pass q0)
def dV : Expr := match dSt with
  | .Assign _ v _ => v
  | _ => .Constant .none 0 q0
def dTs : List Expr := match dSt with
  | .Assign ts _ _ => ts
  | _ => []
def dPos : Pos := match dSt with
  | .Assign _ _ p => p
  | _ => q0
def dKs : List (Option Expr) := match dV with
  | .Dict ks _ _ => ks
  | _ => []
def dVs : List Expr := match dV with
  | .Dict _ vs _ => vs
  | _ => []
def dP : Pos := match dV with
  | .Dict _ _ p => p
  | _ => q0
theorem dSt_eq : dSt = .Assign dTs (.Dict dKs dVs dP) dPos := by kernel_rfl
def kvs : List KV := (kvOf dKs dVs).getD []
def c1 : List KV := kvs.take 17
def cN : List (List KV) := (List.range 37).map fun i => (kvs.drop (17 * (i + 1))).take 17
def cL : List KV := kvs.drop 646
theorem kv_eq : kvOf dKs dVs = some (c1 ++ cN.flatten ++ cL) := by kernel_rfl
theorem c1_len : c1.length = 17 := by kernel_rfl
theorem c1_asc : asc 0 c1 = true := by kernel_rfl
theorem cN_asc : ascs (hi 0 c1) cN = true := by kernel_rfl
theorem cL_len : cL.length = 4 := by kernel_rfl
theorem cL_asc : asc (his (hi 0 c1) cN) cL = true := by kernel_rfl
end Mine
namespace Mine
open PySem PySem.W PyProof.Rows PySem.Calls
def restF (v : Value) : Sem Flow := (do assignStores envE v (← swappedStores dTs (.Dict dKs dVs dP) envE) ((assignEach dTs envE).map (·.2)) : Sem Flow) >>= fun fl => match fl with
  | .next => execs [] envE
  | f => pure f
theorem no_swap : swapsWithSole dTs (.Dict dKs dVs dP) dPos.line envE = pure false := by kernel_rfl
theorem bassoc {α β γ : Type} (m : Sem α) (f : α → Sem β) (g : β → Sem γ) : (m >>= f) >>= g = m >>= fun a => f a >>= g := by
  rw [Sem.bind_eq_wrap', Sem.bind_eq_wrap', Sem.wrap_wrap, Sem.bind_eq_wrap']
  congr 1
  funext a
  exact (Sem.bind_eq_wrap' _ _).symm
theorem shape : execs [dSt] envE = (standAt dPos >>= fun _ => eval (.Dict dKs dVs dP) envE >>= restF) := by
  rw [dSt_eq]
  have h : exec (.Assign dTs (.Dict dKs dVs dP) dPos) envE = (do
    standAt dPos
    if ← swapsWithSole dTs (.Dict dKs dVs dP) dPos.line envE then do
      evalThenUse (.Dict dKs dVs dP) envE fun v => assignAll v ((assignEach dTs envE).map (·.2))
      pure .next
    else do
      let v ← eval (.Dict dKs dVs dP) envE
      assignStores envE v (← swappedStores dTs (.Dict dKs dVs dP) envE) ((assignEach dTs envE).map (·.2))) := rfl
  show (exec (.Assign dTs (.Dict dKs dVs dP) dPos) envE >>= fun fl => match fl with
    | .next => execs [] envE
    | f => pure f) = _
  rw [h, no_swap, bassoc]
  refine congrArg (fun k => standAt dPos >>= k) (funext fun _ => ?_)
  show ((eval (.Dict dKs dVs dP) envE >>= fun v => (do assignStores envE v (← swappedStores dTs (.Dict dKs dVs dP) envE) ((assignEach dTs envE).map (·.2)) : Sem Flow)) >>= fun fl => match fl with
    | .next => execs [] envE
    | f => pure f) = _
  rw [bassoc]
  rfl

/-- the dict display's own state -/
def fin (tk : Nat) : DS := stepS (allL (start1 tk c1) cN) cL
theorem S14_size (w : World) (os : OsState) : (S14 w os).heap.objs.size = 78 := by kernel_rfl
theorem S14_toks (w : World) (os : OsState) : (S14 w os).toks = 275 := by kernel_rfl
theorem fin_steps : (fin 275).steps = 12515 := by kernel_rfl
noncomputable def SD (w : World) (os : OsState) : Shared := stOf (S14 w os) (S14 w os).heap (fin 275)
theorem dict_run (w : World) (os : OsState) : Steps PW w 11 annE (topFrame q0) 12516 (eval (.Dict dKs dVs dP) envE) (S14 w os) dPos (.ref 78) (SD w os) dP := by
  have h := dict_steps (p := PW) (w := w) (n₀ := 11) (ann := annE) (fr := topFrame q0) (s := S14 w os) (env := envE) (pos := dP) (pos₀ := dPos) kv_eq (b := 0) (by rw [S14_size]; rfl) (by rw [S14_size]; decide) c1_len c1_asc cN_asc (by rw [cL_len]; decide) (by intro e; have := cL_len; rw [e] at this; cases this) cL_asc (by decide)
  rw [S14_toks, S14_size] at h
  exact h.cast (by show 1 + (fin 275).steps = _; rw [fin_steps])
def p15 : Pos := ⟨56, 0, 56, 13⟩
noncomputable def S15 (w : World) (os : OsState) : Shared := match segRun treeTable PW w 11 annE 1 8 (SD w os) ⟨(restF (.ref 78)).wrap doneF deadEnd id id, cE, dP, [topFrame q0]⟩ with
  | some (_, s, _) => s
  | none => S0 w os
theorem rest_run (w : World) (os : OsState) : segRun treeTable PW w 11 annE 1 8 (SD w os) ⟨(restF (.ref 78)).wrap doneF deadEnd id id, cE, dP, [topFrame q0]⟩ = some (.next, S15 w os, cE, p15) := by kernel_rfl
theorem b_run (w : World) (os : OsState) : segRun treeTable PW w 11 annE 1 (12517 + 8) (S14 w os) (piecesOf [dSt] envE cE ⟨55, 0, 55, 8⟩ [topFrame q0]) = some (.next, S15 w os, cE, p15) := by
  refine seg_go ?_ (rest_run w os)
  show segGo treeTable PW w 11 annE 1 12517 (S14 w os) ⟨(execs [dSt] envE).wrap doneF deadEnd id id, cE, ⟨55, 0, 55, 8⟩, [topFrame q0]⟩ = _
  rw [shape]
  have h1 : Steps PW w 11 annE (topFrame q0) 1 (standAt dPos) (S14 w os) ⟨55, 0, 55, 8⟩ () (S14 w os) dPos := Steps.standAt
  rw [Sem.bind_eq_wrap', Sem.wrap_wrap]
  refine segGo_add (n := 1) (m := 12516) (h1 _ _ _ _ cE) ?_
  show segGo treeTable PW w 11 annE 1 12516 (S14 w os) ⟨(eval (.Dict dKs dVs dP) envE >>= restF).wrap doneF _ id id, cE, dPos, [topFrame q0]⟩ = _
  rw [Sem.bind_eq_wrap', Sem.wrap_wrap]
  exact dict_run w os _ _ _ _ cE
end Mine
namespace Mine
open PySem PySem.W PyProof.Rows PySem.Calls
def pZ : Pos := ⟨109, 0, 128, 44⟩
noncomputable def Sf (w : World) (os : OsState) : Shared := match segRun treeTable PW w 11 annE 1 400 (S15 w os) (piecesOf (bE.drop 15) envE cE p15 [topFrame q0]) with
  | some (_, s, _) => s
  | none => S0 w os
theorem c_run (w : World) (os : OsState) : segRun treeTable PW w 11 annE 1 400 (S15 w os) (piecesOf (bE.drop 15) envE cE p15 [topFrame q0]) = some (.next, Sf w os, cE, pZ) := by kernel_rfl
theorem fin_run (w : World) (os : OsState) : topRun treeTable PW w 11 annE 2 (Sf w os) ⟨doneF .next, cE, pZ, [topFrame q0]⟩ = some (Sf w os) := by kernel_rfl
theorem all_run (w : World) (os : OsState) : topRun treeTable PW w 11 annE (12 + (1 + (322 + ((12517 + 8) + (400 + 2))))) (S0 w os) (topStub PW) = some (Sf w os) := by
  refine go_top (pre_run w os) (piece_block (block_run w os) ?_)
  have hb : bE = bE.take 14 ++ ([dSt] ++ (bE.drop 15 ++ [])) := by kernel_rfl
  have k3 : topRun treeTable PW w 11 annE (400 + 2) (S15 w os) (restOf (bE.drop 15 ++ []) envE cE p15 [topFrame q0]) = some (Sf w os) := piece_app (c_run w os) (piece_nil (fin_run w os))
  have k2 := piece_app (b_run w os) k3
  have k1 := piece_app (a_run w os) k2
  rw [← hb] at k1
  exact k1
end Mine
namespace Mine
open PySem PySem.W PyProof.Rows PySem.Calls
/-- the head out of an exact run of the top: the state behind it may be any function of the world -/
theorem left_of {p q : Program} {loose : List Str} {Xt : Shared → Bool} {α : Type} {Yf : Shared → α} {Ya : World → α} {N : Nat} {g0 : Bool} {H₀ : Params → Heap} {gs₀ : Array GenState} {d₀ : Drawn} {k₀ : Nat} {m₀ : Nat} {ann : Option Value} {M : Nat}
    {Sf : World → OsState → Shared}
    (open_ : ∀ w : World, (fencedOpening treeTable p w N).map (fun s => (s.heap, s.gens, s.drawn, s.toks)) = some (H₀ w.params, gs₀, d₀, k₀))
    (size : ∀ w : World, ((H₀ w.params).isNs mainGlobals && gs₀.size == 0, (H₀ w.params).objs.size, (H₀ w.params).nsMap mainGlobals "__annotations__") = (true, m₀, ann))
    (run : ∀ (w : World) (os : OsState), topRun treeTable p w m₀ ann M ⟨H₀ w.params, gs₀, d₀, k₀, os⟩ (topStub p) = some (Sf w os)) (le : Nat.ble M N = true)
    (looks₁ : ∀ (w : World) (os : OsState), (staticsOk (importedModules p.main.body) (H₀ w.params) (Sf w os).heap && namesBound p (Sf w os).heap && gensDone (Sf w os) && laidKept (H₀ w.params) (Sf w os).heap) = true)
    (looks₂ : ∀ (w : World) (os : OsState), openSeen q loose (importedModules p.main.body) Xt g0 (Sf w os) = openGood q loose)
    (looks₃ : ∀ (w : World) (os : OsState), Yf (Sf w os) = Ya w) : LeftO p q loose Xt Yf Ya N g0 := fun w => by
  obtain ⟨⟨h, gs, d, k, os⟩, e, e'⟩ := Option.map_eq_some_iff.mp (open_ w)
  obtain ⟨rfl, rfl, rfl, rfl⟩ : h = H₀ w.params ∧ gs = gs₀ ∧ d = d₀ ∧ k = k₀ := by simpa using e'
  obtain ⟨z1, z2, z3⟩ : _ ∧ _ ∧ _ := by simpa only [Prod.mk.injEq] using size w
  have r := topRun_mono (N - M) _ _ _ _ (run w os)
  rw [show M + (N - M) = N by have := Nat.le_of_ble_eq_true le; omega] at r
  have t : topFrom treeTable p w N ⟨H₀ w.params, gs, d, k, os⟩ = some (Sf w os) := by
    unfold topFrom
    dsimp only
    rw [z1, z2, z3, r]
    show (match staticsOk (importedModules p.main.body) (H₀ w.params) (Sf w os).heap && namesBound p (Sf w os).heap && gensDone (Sf w os) && laidKept (H₀ w.params) (Sf w os).heap with | true => _ | false => _) = _
    rw [looks₁ w os]
  unfold openEnds
  rw [e]
  show (topFrom treeTable p w N _).map _ = _
  rw [t]
  exact congrArg some (Prod.ext (looks₂ w os) (looks₃ w os))
end Mine
namespace Mine
open PySem PySem.W PyProof.Rows PySem.Calls
def b3es : List DictEntry := (fin 275).es
/-- the parts of the text's defs -/
def fD (i : Nat) : Stmt := bE.getD i (.Pass q0)
def fAo (i : Nat) : Arguments := match fD i with
  | .FunctionDef _ a _ _ _ _ _ _ _ _ => a
  | _ => Arguments.mk [] [] none [] [] none []
def fBo (i : Nat) : List Stmt := match fD i with
  | .FunctionDef _ _ b _ _ _ _ _ _ _ => b
  | _ => []
def fSo (i : Nat) : Scope := match fD i with
  | .FunctionDef _ _ _ _ _ _ s _ _ _ => s
  | _ => Scope.mk .function [] false false []
noncomputable abbrev fA21 : Arguments := Subtype.val (p := fun l => fAo 2 = l) (by
  refine ⟨?l, ?h⟩
  case h =>
    show fAo 2 = _
    conv => lhs; whnf)
noncomputable abbrev fB21 : List Stmt := Subtype.val (p := fun l => fBo 2 = l) (by
  refine ⟨?l, ?h⟩
  case h =>
    show fBo 2 = _
    conv => lhs; whnf)
noncomputable abbrev fS21 : Scope := Subtype.val (p := fun l => fSo 2 = l) (by
  refine ⟨?l, ?h⟩
  case h =>
    show fSo 2 = _
    conv => lhs; whnf)
noncomputable abbrev fA28 : Arguments := Subtype.val (p := fun l => fAo 4 = l) (by
  refine ⟨?l, ?h⟩
  case h =>
    show fAo 4 = _
    conv => lhs; whnf)
noncomputable abbrev fB28 : List Stmt := Subtype.val (p := fun l => fBo 4 = l) (by
  refine ⟨?l, ?h⟩
  case h =>
    show fBo 4 = _
    conv => lhs; whnf)
noncomputable abbrev fS28 : Scope := Subtype.val (p := fun l => fSo 4 = l) (by
  refine ⟨?l, ?h⟩
  case h =>
    show fSo 4 = _
    conv => lhs; whnf)
noncomputable abbrev fA35 : Arguments := Subtype.val (p := fun l => fAo 6 = l) (by
  refine ⟨?l, ?h⟩
  case h =>
    show fAo 6 = _
    conv => lhs; whnf)
noncomputable abbrev fB35 : List Stmt := Subtype.val (p := fun l => fBo 6 = l) (by
  refine ⟨?l, ?h⟩
  case h =>
    show fBo 6 = _
    conv => lhs; whnf)
noncomputable abbrev fS35 : Scope := Subtype.val (p := fun l => fSo 6 = l) (by
  refine ⟨?l, ?h⟩
  case h =>
    show fSo 6 = _
    conv => lhs; whnf)
noncomputable abbrev fA42 : Arguments := Subtype.val (p := fun l => fAo 7 = l) (by
  refine ⟨?l, ?h⟩
  case h =>
    show fAo 7 = _
    conv => lhs; whnf)
noncomputable abbrev fB42 : List Stmt := Subtype.val (p := fun l => fBo 7 = l) (by
  refine ⟨?l, ?h⟩
  case h =>
    show fBo 7 = _
    conv => lhs; whnf)
noncomputable abbrev fS42 : Scope := Subtype.val (p := fun l => fSo 7 = l) (by
  refine ⟨?l, ?h⟩
  case h =>
    show fSo 7 = _
    conv => lhs; whnf)
noncomputable abbrev fA49 : Arguments := Subtype.val (p := fun l => fAo 8 = l) (by
  refine ⟨?l, ?h⟩
  case h =>
    show fAo 8 = _
    conv => lhs; whnf)
noncomputable abbrev fB49 : List Stmt := Subtype.val (p := fun l => fBo 8 = l) (by
  refine ⟨?l, ?h⟩
  case h =>
    show fBo 8 = _
    conv => lhs; whnf)
noncomputable abbrev fS49 : Scope := Subtype.val (p := fun l => fSo 8 = l) (by
  refine ⟨?l, ?h⟩
  case h =>
    show fSo 8 = _
    conv => lhs; whnf)
noncomputable abbrev fA56 : Arguments := Subtype.val (p := fun l => fAo 9 = l) (by
  refine ⟨?l, ?h⟩
  case h =>
    show fAo 9 = _
    conv => lhs; whnf)
noncomputable abbrev fB56 : List Stmt := Subtype.val (p := fun l => fBo 9 = l) (by
  refine ⟨?l, ?h⟩
  case h =>
    show fBo 9 = _
    conv => lhs; whnf)
noncomputable abbrev fS56 : Scope := Subtype.val (p := fun l => fSo 9 = l) (by
  refine ⟨?l, ?h⟩
  case h =>
    show fSo 9 = _
    conv => lhs; whnf)
noncomputable abbrev fA63 : Arguments := Subtype.val (p := fun l => fAo 10 = l) (by
  refine ⟨?l, ?h⟩
  case h =>
    show fAo 10 = _
    conv => lhs; whnf)
noncomputable abbrev fB63 : List Stmt := Subtype.val (p := fun l => fBo 10 = l) (by
  refine ⟨?l, ?h⟩
  case h =>
    show fBo 10 = _
    conv => lhs; whnf)
noncomputable abbrev fS63 : Scope := Subtype.val (p := fun l => fSo 10 = l) (by
  refine ⟨?l, ?h⟩
  case h =>
    show fSo 10 = _
    conv => lhs; whnf)
noncomputable abbrev fA70 : Arguments := Subtype.val (p := fun l => fAo 11 = l) (by
  refine ⟨?l, ?h⟩
  case h =>
    show fAo 11 = _
    conv => lhs; whnf)
noncomputable abbrev fB70 : List Stmt := Subtype.val (p := fun l => fBo 11 = l) (by
  refine ⟨?l, ?h⟩
  case h =>
    show fBo 11 = _
    conv => lhs; whnf)
noncomputable abbrev fS70 : Scope := Subtype.val (p := fun l => fSo 11 = l) (by
  refine ⟨?l, ?h⟩
  case h =>
    show fSo 11 = _
    conv => lhs; whnf)
noncomputable abbrev fA77 : Arguments := Subtype.val (p := fun l => fAo 12 = l) (by
  refine ⟨?l, ?h⟩
  case h =>
    show fAo 12 = _
    conv => lhs; whnf)
noncomputable abbrev fB77 : List Stmt := Subtype.val (p := fun l => fBo 12 = l) (by
  refine ⟨?l, ?h⟩
  case h =>
    show fBo 12 = _
    conv => lhs; whnf)
noncomputable abbrev fS77 : Scope := Subtype.val (p := fun l => fSo 12 = l) (by
  refine ⟨?l, ?h⟩
  case h =>
    show fSo 12 = _
    conv => lhs; whnf)
noncomputable abbrev fA123 : Arguments := Subtype.val (p := fun l => fAo 15 = l) (by
  refine ⟨?l, ?h⟩
  case h =>
    show fAo 15 = _
    conv => lhs; whnf)
noncomputable abbrev fB123 : List Stmt := Subtype.val (p := fun l => fBo 15 = l) (by
  refine ⟨?l, ?h⟩
  case h =>
    show fBo 15 = _
    conv => lhs; whnf)
noncomputable abbrev fS123 : Scope := Subtype.val (p := fun l => fSo 15 = l) (by
  refine ⟨?l, ?h⟩
  case h =>
    show fSo 15 = _
    conv => lhs; whnf)
noncomputable abbrev fA128 : Arguments := Subtype.val (p := fun l => fAo 17 = l) (by
  refine ⟨?l, ?h⟩
  case h =>
    show fAo 17 = _
    conv => lhs; whnf)
noncomputable abbrev fB128 : List Stmt := Subtype.val (p := fun l => fBo 17 = l) (by
  refine ⟨?l, ?h⟩
  case h =>
    show fBo 17 = _
    conv => lhs; whnf)
noncomputable abbrev fS128 : Scope := Subtype.val (p := fun l => fSo 17 = l) (by
  refine ⟨?l, ?h⟩
  case h =>
    show fSo 17 = _
    conv => lhs; whnf)
noncomputable abbrev fA135 : Arguments := Subtype.val (p := fun l => fAo 18 = l) (by
  refine ⟨?l, ?h⟩
  case h =>
    show fAo 18 = _
    conv => lhs; whnf)
noncomputable abbrev fB135 : List Stmt := Subtype.val (p := fun l => fBo 18 = l) (by
  refine ⟨?l, ?h⟩
  case h =>
    show fBo 18 = _
    conv => lhs; whnf)
noncomputable abbrev fS135 : Scope := Subtype.val (p := fun l => fSo 18 = l) (by
  refine ⟨?l, ?h⟩
  case h =>
    show fSo 18 = _
    conv => lhs; whnf)
noncomputable abbrev fA140 : Arguments := Subtype.val (p := fun l => fAo 19 = l) (by
  refine ⟨?l, ?h⟩
  case h =>
    show fAo 19 = _
    conv => lhs; whnf)
noncomputable abbrev fB140 : List Stmt := Subtype.val (p := fun l => fBo 19 = l) (by
  refine ⟨?l, ?h⟩
  case h =>
    show fBo 19 = _
    conv => lhs; whnf)
noncomputable abbrev fS140 : Scope := Subtype.val (p := fun l => fSo 19 = l) (by
  refine ⟨?l, ?h⟩
  case h =>
    show fSo 19 = _
    conv => lhs; whnf)
noncomputable abbrev fA145 : Arguments := Subtype.val (p := fun l => fAo 20 = l) (by
  refine ⟨?l, ?h⟩
  case h =>
    show fAo 20 = _
    conv => lhs; whnf)
noncomputable abbrev fB145 : List Stmt := Subtype.val (p := fun l => fBo 20 = l) (by
  refine ⟨?l, ?h⟩
  case h =>
    show fBo 20 = _
    conv => lhs; whnf)
noncomputable abbrev fS145 : Scope := Subtype.val (p := fun l => fSo 20 = l) (by
  refine ⟨?l, ?h⟩
  case h =>
    show fSo 20 = _
    conv => lhs; whnf)
noncomputable abbrev fA150 : Arguments := Subtype.val (p := fun l => fAo 21 = l) (by
  refine ⟨?l, ?h⟩
  case h =>
    show fAo 21 = _
    conv => lhs; whnf)
noncomputable abbrev fB150 : List Stmt := Subtype.val (p := fun l => fBo 21 = l) (by
  refine ⟨?l, ?h⟩
  case h =>
    show fBo 21 = _
    conv => lhs; whnf)
noncomputable abbrev fS150 : Scope := Subtype.val (p := fun l => fSo 21 = l) (by
  refine ⟨?l, ?h⟩
  case h =>
    show fSo 21 = _
    conv => lhs; whnf)
noncomputable abbrev fA157 : Arguments := Subtype.val (p := fun l => fAo 22 = l) (by
  refine ⟨?l, ?h⟩
  case h =>
    show fAo 22 = _
    conv => lhs; whnf)
noncomputable abbrev fB157 : List Stmt := Subtype.val (p := fun l => fBo 22 = l) (by
  refine ⟨?l, ?h⟩
  case h =>
    show fBo 22 = _
    conv => lhs; whnf)
noncomputable abbrev fS157 : Scope := Subtype.val (p := fun l => fSo 22 = l) (by
  refine ⟨?l, ?h⟩
  case h =>
    show fSo 22 = _
    conv => lhs; whnf)
noncomputable abbrev fA162 : Arguments := Subtype.val (p := fun l => fAo 23 = l) (by
  refine ⟨?l, ?h⟩
  case h =>
    show fAo 23 = _
    conv => lhs; whnf)
noncomputable abbrev fB162 : List Stmt := Subtype.val (p := fun l => fBo 23 = l) (by
  refine ⟨?l, ?h⟩
  case h =>
    show fBo 23 = _
    conv => lhs; whnf)
noncomputable abbrev fS162 : Scope := Subtype.val (p := fun l => fSo 23 = l) (by
  refine ⟨?l, ?h⟩
  case h =>
    show fSo 23 = _
    conv => lhs; whnf)
noncomputable abbrev fA167 : Arguments := Subtype.val (p := fun l => fAo 24 = l) (by
  refine ⟨?l, ?h⟩
  case h =>
    show fAo 24 = _
    conv => lhs; whnf)
noncomputable abbrev fB167 : List Stmt := Subtype.val (p := fun l => fBo 24 = l) (by
  refine ⟨?l, ?h⟩
  case h =>
    show fBo 24 = _
    conv => lhs; whnf)
noncomputable abbrev fS167 : Scope := Subtype.val (p := fun l => fSo 24 = l) (by
  refine ⟨?l, ?h⟩
  case h =>
    show fSo 24 = _
    conv => lhs; whnf)
noncomputable def KF (P : Params) : Frag := (
  ((nat_lit 2), (Obj.mk Value.none none (Data.dict (List.toArray []) 0) (List.toArray []))) ::
  ((nat_lit 3), (Obj.mk (Value.type "dict") none (Data.dict (List.toArray [(DictEntry.mk (PyData.keyHash P (Str.ofString "__name__")) (Value.str (Str.ofString "__name__") 165) (Value.str (Str.ofString "law_wo0057_01") 2234)), (DictEntry.mk (PyData.keyHash P (Str.ofString "__doc__")) (Value.str (Str.ofString "__doc__") 166) Value.none), (DictEntry.mk (PyData.keyHash P (Str.ofString "__package__")) (Value.str (Str.ofString "__package__") 167) Value.none), (DictEntry.mk (PyData.keyHash P (Str.ofString "__loader__")) (Value.str (Str.ofString "__loader__") 168) (Value.builtin "__main__.__loader__#opaque")), (DictEntry.mk (PyData.keyHash P (Str.ofString "__spec__")) (Value.str (Str.ofString "__spec__") 169) Value.none), (DictEntry.mk (PyData.keyHash P (Str.ofString "__annotations__")) (Value.str (Str.ofString "__annotations__") 170) (Value.ref 6)), (DictEntry.mk (PyData.keyHash P (Str.ofString "__builtins__")) (Value.str (Str.ofString "__builtins__") 171) (Value.ref 4)), (DictEntry.mk (PyData.keyHash P (Str.ofString "__file__")) (Value.str (Str.ofString "__file__") 173) (Value.str (Str.ofString "/claim/cut.py") 172)), (DictEntry.mk (PyData.keyHash P (Str.ofString "__cached__")) (Value.str (Str.ofString "__cached__") 174) Value.none), (DictEntry.mk (PyData.keyHash P (Str.ofString "ELLIPSIS_MARKER")) (Value.str (Str.ofString "ELLIPSIS_MARKER") 190) (Value.str (Str.ofString "...") 189)), (DictEntry.mk (PyData.keyHash P (Str.ofString "_ellipsis_match")) (Value.str (Str.ofString "_ellipsis_match") 202) (Value.ref 21)), (DictEntry.mk (PyData.keyHash P (Str.ofString "Int2AP")) (Value.str (Str.ofString "Int2AP") 214) (Value.ref 28)), (DictEntry.mk (PyData.keyHash P (Str.ofString "eq")) (Value.str (Str.ofString "eq") 224) (Value.ref 35)), (DictEntry.mk (PyData.keyHash P (Str.ofString "add")) (Value.str (Str.ofString "add") 232) (Value.ref 42)), (DictEntry.mk (PyData.keyHash P (Str.ofString "lshift")) (Value.str (Str.ofString "lshift") 240) (Value.ref 49)), (DictEntry.mk (PyData.keyHash P (Str.ofString "mod")) (Value.str (Str.ofString "mod") 248) (Value.ref 56)), (DictEntry.mk (PyData.keyHash P (Str.ofString "mul")) (Value.str (Str.ofString "mul") 256) (Value.ref 63)), (DictEntry.mk (PyData.keyHash P (Str.ofString "rshift")) (Value.str (Str.ofString "rshift") 264) (Value.ref 70)), (DictEntry.mk (PyData.keyHash P (Str.ofString "sub")) (Value.str (Str.ofString "sub") 272) (Value.ref 77)), (DictEntry.mk (PyData.keyHash P (Str.ofString "b3_exceptions")) (Value.str (Str.ofString "b3_exceptions") 2225) (Value.ref 78)), (DictEntry.mk (PyData.keyHash P (Str.ofString "map_table_b3")) (Value.str (Str.ofString "map_table_b3") 2233) (Value.ref 123)), (DictEntry.mk (PyData.keyHash P (Str.ofString "_law_pieces")) (Value.str (Str.ofString "_law_pieces") 2241) (Value.ref 128)), (DictEntry.mk (PyData.keyHash P (Str.ofString "_law_number")) (Value.str (Str.ofString "_law_number") 2250) (Value.ref 135)), (DictEntry.mk (PyData.keyHash P (Str.ofString "_law_shown")) (Value.str (Str.ofString "_law_shown") 2256) (Value.ref 140)), (DictEntry.mk (PyData.keyHash P (Str.ofString "_law_told")) (Value.str (Str.ofString "_law_told") 2262) (Value.ref 145)), (DictEntry.mk (PyData.keyHash P (Str.ofString "_law_same")) (Value.str (Str.ofString "_law_same") 2268) (Value.ref 150)), (DictEntry.mk (PyData.keyHash P (Str.ofString "_law_power")) (Value.str (Str.ofString "_law_power") 2276) (Value.ref 157)), (DictEntry.mk (PyData.keyHash P (Str.ofString "_law_two")) (Value.str (Str.ofString "_law_two") 2282) (Value.ref 162)), (DictEntry.mk (PyData.keyHash P (Str.ofString "law")) (Value.str (Str.ofString "law") 2288) (Value.ref 167))]) 29) (List.toArray []))) ::
  ((nat_lit 6), (Obj.mk (Value.type "dict") none (Data.dict (List.toArray []) 0) (List.toArray []))) ::
  ((nat_lit 15), (Obj.mk (Value.type "tuple") none (Data.seq (List.toArray []) 0) (List.toArray []))) ::
  ((nat_lit 17), (Obj.mk (Value.type "tuple") none (Data.seq (List.toArray [(Value.str (Str.ofString "want") 194), (Value.str (Str.ofString "got") 195), (Value.str (Str.ofString "ws") 196), (Value.str (Str.ofString "startpos") 197), (Value.str (Str.ofString "endpos") 198), (Value.str (Str.ofString "w") 199)]) 0) (List.toArray []))) ::
  ((nat_lit 18), (Obj.mk (Value.type "tuple") none (Data.seq (List.toArray []) 0) (List.toArray []))) ::
  ((nat_lit 20), (Obj.mk (Value.type "code") none (Data.fields (List.toArray [(Value.str (Str.ofString "_ellipsis_match") 191), (Value.str (Str.ofString "_ellipsis_match") 192), (Value.str (Str.ofString "/claim/cut.py") 193), (Value.int (3 : Int) 0), (Value.int (2 : Int) 0), (Value.int (0 : Int) 0), (Value.int (0 : Int) 0), (Value.int (3 : Int) 0), (Value.ref 15), (Value.bool Bool.true), (Value.int (181 : Int) 0), (Value.ref 16), Value.none, (Value.ref 17), (Value.ref 18), (Value.ref 19), (Value.int (200 : Int) 0), (Value.int (3 : Int) 0), (Value.str (Str.ofString "/claim/cut.py") 201)])) (List.toArray []))) ::
  ((nat_lit 21), (Obj.mk (Value.type "function") none (Data.func (FuncData.mk (Str.ofString "_ellipsis_match") (Str.ofString "_ellipsis_match") fA21 (FuncBody.stmts fB21) fS21 3 [] Value.none Value.none Value.none (Value.str (Str.ofString "cpy313.doctest") 187) none (Value.ref 20) Value.none 0)) (List.toArray []))) ::
  ((nat_lit 22), (Obj.mk (Value.type "tuple") none (Data.seq (List.toArray []) 0) (List.toArray []))) ::
  ((nat_lit 24), (Obj.mk (Value.type "tuple") none (Data.seq (List.toArray [(Value.str (Str.ofString "num") 208), (Value.str (Str.ofString "val") 209), (Value.str (Str.ofString "AP") 210), (Value.str (Str.ofString "mod") 211)]) 0) (List.toArray []))) ::
  ((nat_lit 25), (Obj.mk (Value.type "tuple") none (Data.seq (List.toArray []) 0) (List.toArray []))) ::
  ((nat_lit 27), (Obj.mk (Value.type "code") none (Data.fields (List.toArray [(Value.str (Str.ofString "Int2AP") 205), (Value.str (Str.ofString "Int2AP") 206), (Value.str (Str.ofString "/claim/cut.py") 207), (Value.int (32 : Int) 0), (Value.int (1 : Int) 0), (Value.int (0 : Int) 0), (Value.int (0 : Int) 0), (Value.int (3 : Int) 0), (Value.ref 22), (Value.bool Bool.true), (Value.int (181 : Int) 0), (Value.ref 23), Value.none, (Value.ref 24), (Value.ref 25), (Value.ref 26), (Value.int (212 : Int) 0), (Value.int (32 : Int) 0), (Value.str (Str.ofString "/claim/cut.py") 213)])) (List.toArray []))) ::
  ((nat_lit 28), (Obj.mk (Value.type "function") none (Data.func (FuncData.mk (Str.ofString "Int2AP") (Str.ofString "Int2AP") fA28 (FuncBody.stmts fB28) fS28 3 [] Value.none Value.none Value.none (Value.str (Str.ofString "cpy313.imaplib") 203) none (Value.ref 27) Value.none 0)) (List.toArray []))) ::
  ((nat_lit 29), (Obj.mk (Value.type "tuple") none (Data.seq (List.toArray []) 0) (List.toArray []))) ::
  ((nat_lit 31), (Obj.mk (Value.type "tuple") none (Data.seq (List.toArray [(Value.str (Str.ofString "a") 220), (Value.str (Str.ofString "b") 221)]) 0) (List.toArray []))) ::
  ((nat_lit 32), (Obj.mk (Value.type "tuple") none (Data.seq (List.toArray []) 0) (List.toArray []))) ::
  ((nat_lit 34), (Obj.mk (Value.type "code") none (Data.fields (List.toArray [(Value.str (Str.ofString "eq") 217), (Value.str (Str.ofString "eq") 218), (Value.str (Str.ofString "/claim/cut.py") 219), (Value.int (41 : Int) 0), (Value.int (2 : Int) 0), (Value.int (0 : Int) 0), (Value.int (0 : Int) 0), (Value.int (3 : Int) 0), (Value.ref 29), (Value.bool Bool.true), (Value.int (181 : Int) 0), (Value.ref 30), Value.none, (Value.ref 31), (Value.ref 32), (Value.ref 33), (Value.int (222 : Int) 0), (Value.int (41 : Int) 0), (Value.str (Str.ofString "/claim/cut.py") 223)])) (List.toArray []))) ::
  ((nat_lit 35), (Obj.mk (Value.type "function") none (Data.func (FuncData.mk (Str.ofString "eq") (Str.ofString "eq") fA35 (FuncBody.stmts fB35) fS35 3 [] Value.none Value.none Value.none (Value.str (Str.ofString "cpy313.operator") 215) none (Value.ref 34) Value.none 0)) (List.toArray []))) ::
  ((nat_lit 36), (Obj.mk (Value.type "tuple") none (Data.seq (List.toArray []) 0) (List.toArray []))) ::
  ((nat_lit 38), (Obj.mk (Value.type "tuple") none (Data.seq (List.toArray [(Value.str (Str.ofString "a") 228), (Value.str (Str.ofString "b") 229)]) 0) (List.toArray []))) ::
  ((nat_lit 39), (Obj.mk (Value.type "tuple") none (Data.seq (List.toArray []) 0) (List.toArray []))) ::
  ((nat_lit 41), (Obj.mk (Value.type "code") none (Data.fields (List.toArray [(Value.str (Str.ofString "add") 225), (Value.str (Str.ofString "add") 226), (Value.str (Str.ofString "/claim/cut.py") 227), (Value.int (43 : Int) 0), (Value.int (2 : Int) 0), (Value.int (0 : Int) 0), (Value.int (0 : Int) 0), (Value.int (3 : Int) 0), (Value.ref 36), (Value.bool Bool.true), (Value.int (181 : Int) 0), (Value.ref 37), Value.none, (Value.ref 38), (Value.ref 39), (Value.ref 40), (Value.int (230 : Int) 0), (Value.int (43 : Int) 0), (Value.str (Str.ofString "/claim/cut.py") 231)])) (List.toArray []))) ::
  ((nat_lit 42), (Obj.mk (Value.type "function") none (Data.func (FuncData.mk (Str.ofString "add") (Str.ofString "add") fA42 (FuncBody.stmts fB42) fS42 3 [] Value.none Value.none Value.none (Value.str (Str.ofString "cpy313.operator") 215) none (Value.ref 41) Value.none 0)) (List.toArray []))) ::
  ((nat_lit 43), (Obj.mk (Value.type "tuple") none (Data.seq (List.toArray []) 0) (List.toArray []))) ::
  ((nat_lit 45), (Obj.mk (Value.type "tuple") none (Data.seq (List.toArray [(Value.str (Str.ofString "a") 236), (Value.str (Str.ofString "b") 237)]) 0) (List.toArray []))) ::
  ((nat_lit 46), (Obj.mk (Value.type "tuple") none (Data.seq (List.toArray []) 0) (List.toArray []))) ::
  ((nat_lit 48), (Obj.mk (Value.type "code") none (Data.fields (List.toArray [(Value.str (Str.ofString "lshift") 233), (Value.str (Str.ofString "lshift") 234), (Value.str (Str.ofString "/claim/cut.py") 235), (Value.int (45 : Int) 0), (Value.int (2 : Int) 0), (Value.int (0 : Int) 0), (Value.int (0 : Int) 0), (Value.int (3 : Int) 0), (Value.ref 43), (Value.bool Bool.true), (Value.int (181 : Int) 0), (Value.ref 44), Value.none, (Value.ref 45), (Value.ref 46), (Value.ref 47), (Value.int (238 : Int) 0), (Value.int (45 : Int) 0), (Value.str (Str.ofString "/claim/cut.py") 239)])) (List.toArray []))) ::
  ((nat_lit 49), (Obj.mk (Value.type "function") none (Data.func (FuncData.mk (Str.ofString "lshift") (Str.ofString "lshift") fA49 (FuncBody.stmts fB49) fS49 3 [] Value.none Value.none Value.none (Value.str (Str.ofString "cpy313.operator") 215) none (Value.ref 48) Value.none 0)) (List.toArray []))) ::
  ((nat_lit 50), (Obj.mk (Value.type "tuple") none (Data.seq (List.toArray []) 0) (List.toArray []))) ::
  ((nat_lit 52), (Obj.mk (Value.type "tuple") none (Data.seq (List.toArray [(Value.str (Str.ofString "a") 244), (Value.str (Str.ofString "b") 245)]) 0) (List.toArray []))) ::
  ((nat_lit 53), (Obj.mk (Value.type "tuple") none (Data.seq (List.toArray []) 0) (List.toArray []))) ::
  ((nat_lit 55), (Obj.mk (Value.type "code") none (Data.fields (List.toArray [(Value.str (Str.ofString "mod") 241), (Value.str (Str.ofString "mod") 242), (Value.str (Str.ofString "/claim/cut.py") 243), (Value.int (47 : Int) 0), (Value.int (2 : Int) 0), (Value.int (0 : Int) 0), (Value.int (0 : Int) 0), (Value.int (3 : Int) 0), (Value.ref 50), (Value.bool Bool.true), (Value.int (181 : Int) 0), (Value.ref 51), Value.none, (Value.ref 52), (Value.ref 53), (Value.ref 54), (Value.int (246 : Int) 0), (Value.int (47 : Int) 0), (Value.str (Str.ofString "/claim/cut.py") 247)])) (List.toArray []))) ::
  ((nat_lit 56), (Obj.mk (Value.type "function") none (Data.func (FuncData.mk (Str.ofString "mod") (Str.ofString "mod") fA56 (FuncBody.stmts fB56) fS56 3 [] Value.none Value.none Value.none (Value.str (Str.ofString "cpy313.operator") 215) none (Value.ref 55) Value.none 0)) (List.toArray []))) ::
  ((nat_lit 57), (Obj.mk (Value.type "tuple") none (Data.seq (List.toArray []) 0) (List.toArray []))) ::
  ((nat_lit 59), (Obj.mk (Value.type "tuple") none (Data.seq (List.toArray [(Value.str (Str.ofString "a") 252), (Value.str (Str.ofString "b") 253)]) 0) (List.toArray []))) ::
  ((nat_lit 60), (Obj.mk (Value.type "tuple") none (Data.seq (List.toArray []) 0) (List.toArray []))) ::
  ((nat_lit 62), (Obj.mk (Value.type "code") none (Data.fields (List.toArray [(Value.str (Str.ofString "mul") 249), (Value.str (Str.ofString "mul") 250), (Value.str (Str.ofString "/claim/cut.py") 251), (Value.int (49 : Int) 0), (Value.int (2 : Int) 0), (Value.int (0 : Int) 0), (Value.int (0 : Int) 0), (Value.int (3 : Int) 0), (Value.ref 57), (Value.bool Bool.true), (Value.int (181 : Int) 0), (Value.ref 58), Value.none, (Value.ref 59), (Value.ref 60), (Value.ref 61), (Value.int (254 : Int) 0), (Value.int (49 : Int) 0), (Value.str (Str.ofString "/claim/cut.py") 255)])) (List.toArray []))) ::
  ((nat_lit 63), (Obj.mk (Value.type "function") none (Data.func (FuncData.mk (Str.ofString "mul") (Str.ofString "mul") fA63 (FuncBody.stmts fB63) fS63 3 [] Value.none Value.none Value.none (Value.str (Str.ofString "cpy313.operator") 215) none (Value.ref 62) Value.none 0)) (List.toArray []))) ::
  ((nat_lit 64), (Obj.mk (Value.type "tuple") none (Data.seq (List.toArray []) 0) (List.toArray []))) ::
  ((nat_lit 66), (Obj.mk (Value.type "tuple") none (Data.seq (List.toArray [(Value.str (Str.ofString "a") 260), (Value.str (Str.ofString "b") 261)]) 0) (List.toArray []))) ::
  ((nat_lit 67), (Obj.mk (Value.type "tuple") none (Data.seq (List.toArray []) 0) (List.toArray []))) ::
  ((nat_lit 69), (Obj.mk (Value.type "code") none (Data.fields (List.toArray [(Value.str (Str.ofString "rshift") 257), (Value.str (Str.ofString "rshift") 258), (Value.str (Str.ofString "/claim/cut.py") 259), (Value.int (51 : Int) 0), (Value.int (2 : Int) 0), (Value.int (0 : Int) 0), (Value.int (0 : Int) 0), (Value.int (3 : Int) 0), (Value.ref 64), (Value.bool Bool.true), (Value.int (181 : Int) 0), (Value.ref 65), Value.none, (Value.ref 66), (Value.ref 67), (Value.ref 68), (Value.int (262 : Int) 0), (Value.int (51 : Int) 0), (Value.str (Str.ofString "/claim/cut.py") 263)])) (List.toArray []))) ::
  ((nat_lit 70), (Obj.mk (Value.type "function") none (Data.func (FuncData.mk (Str.ofString "rshift") (Str.ofString "rshift") fA70 (FuncBody.stmts fB70) fS70 3 [] Value.none Value.none Value.none (Value.str (Str.ofString "cpy313.operator") 215) none (Value.ref 69) Value.none 0)) (List.toArray []))) ::
  ((nat_lit 71), (Obj.mk (Value.type "tuple") none (Data.seq (List.toArray []) 0) (List.toArray []))) ::
  ((nat_lit 73), (Obj.mk (Value.type "tuple") none (Data.seq (List.toArray [(Value.str (Str.ofString "a") 268), (Value.str (Str.ofString "b") 269)]) 0) (List.toArray []))) ::
  ((nat_lit 74), (Obj.mk (Value.type "tuple") none (Data.seq (List.toArray []) 0) (List.toArray []))) ::
  ((nat_lit 76), (Obj.mk (Value.type "code") none (Data.fields (List.toArray [(Value.str (Str.ofString "sub") 265), (Value.str (Str.ofString "sub") 266), (Value.str (Str.ofString "/claim/cut.py") 267), (Value.int (53 : Int) 0), (Value.int (2 : Int) 0), (Value.int (0 : Int) 0), (Value.int (0 : Int) 0), (Value.int (3 : Int) 0), (Value.ref 71), (Value.bool Bool.true), (Value.int (181 : Int) 0), (Value.ref 72), Value.none, (Value.ref 73), (Value.ref 74), (Value.ref 75), (Value.int (270 : Int) 0), (Value.int (53 : Int) 0), (Value.str (Str.ofString "/claim/cut.py") 271)])) (List.toArray []))) ::
  ((nat_lit 77), (Obj.mk (Value.type "function") none (Data.func (FuncData.mk (Str.ofString "sub") (Str.ofString "sub") fA77 (FuncBody.stmts fB77) fS77 3 [] Value.none Value.none Value.none (Value.str (Str.ofString "cpy313.operator") 215) none (Value.ref 76) Value.none 0)) (List.toArray []))) ::
  ((nat_lit 78), (Obj.mk (Value.type "dict") none (Data.dict (List.toArray b3es) 650) (List.toArray []))) ::
  ((nat_lit 117), (Obj.mk (Value.type "tuple") none (Data.seq (List.toArray []) 0) (List.toArray []))) ::
  ((nat_lit 119), (Obj.mk (Value.type "tuple") none (Data.seq (List.toArray [(Value.str (Str.ofString "code") 2229), (Value.str (Str.ofString "r") 2230)]) 0) (List.toArray []))) ::
  ((nat_lit 120), (Obj.mk (Value.type "tuple") none (Data.seq (List.toArray []) 0) (List.toArray []))) ::
  ((nat_lit 122), (Obj.mk (Value.type "code") none (Data.fields (List.toArray [(Value.str (Str.ofString "map_table_b3") 2226), (Value.str (Str.ofString "map_table_b3") 2227), (Value.str (Str.ofString "/claim/cut.py") 2228), (Value.int (57 : Int) 0), (Value.int (1 : Int) 0), (Value.int (0 : Int) 0), (Value.int (0 : Int) 0), (Value.int (3 : Int) 0), (Value.ref 117), (Value.bool Bool.true), (Value.int (181 : Int) 0), (Value.ref 118), Value.none, (Value.ref 119), (Value.ref 120), (Value.ref 121), (Value.int (2231 : Int) 0), (Value.int (57 : Int) 0), (Value.str (Str.ofString "/claim/cut.py") 2232)])) (List.toArray []))) ::
  ((nat_lit 123), (Obj.mk (Value.type "function") none (Data.func (FuncData.mk (Str.ofString "map_table_b3") (Str.ofString "map_table_b3") fA123 (FuncBody.stmts fB123) fS123 3 [] Value.none Value.none Value.none (Value.str (Str.ofString "cpy313.stringprep") 273) none (Value.ref 122) Value.none 0)) (List.toArray []))) ::
  ((nat_lit 124), (Obj.mk (Value.type "tuple") none (Data.seq (List.toArray []) 0) (List.toArray []))) ::
  ((nat_lit 127), (Obj.mk (Value.type "code") none (Data.fields (List.toArray [(Value.str (Str.ofString "_law_pieces") 2236), (Value.str (Str.ofString "_law_pieces") 2237), (Value.str (Str.ofString "/claim/cut.py") 2238), (Value.int (63 : Int) 0), (Value.int (1 : Int) 0), (Value.int (0 : Int) 0), (Value.int (0 : Int) 0), (Value.int (3 : Int) 0), (Value.ref 124), (Value.bool Bool.true), (Value.int (181 : Int) 0), (Value.ref 125), Value.none, Value.none, Value.none, (Value.ref 126), (Value.int (2239 : Int) 0), (Value.int (63 : Int) 0), (Value.str (Str.ofString "/claim/cut.py") 2240)])) (List.toArray []))) ::
  ((nat_lit 128), (Obj.mk (Value.type "function") none (Data.func (FuncData.mk (Str.ofString "_law_pieces") (Str.ofString "_law_pieces") fA128 (FuncBody.stmts fB128) fS128 3 [] Value.none Value.none Value.none (Value.str (Str.ofString "law_wo0057_01") 2234) none (Value.ref 127) Value.none 0)) (List.toArray []))) ::
  ((nat_lit 129), (Obj.mk (Value.type "tuple") none (Data.seq (List.toArray []) 0) (List.toArray []))) ::
  ((nat_lit 131), (Obj.mk (Value.type "tuple") none (Data.seq (List.toArray [(Value.str (Str.ofString "figures") 2245), (Value.str (Str.ofString "number") 2246), (Value.str (Str.ofString "figure") 2247)]) 0) (List.toArray []))) ::
  ((nat_lit 132), (Obj.mk (Value.type "tuple") none (Data.seq (List.toArray []) 0) (List.toArray []))) ::
  ((nat_lit 134), (Obj.mk (Value.type "code") none (Data.fields (List.toArray [(Value.str (Str.ofString "_law_number") 2242), (Value.str (Str.ofString "_law_number") 2243), (Value.str (Str.ofString "/claim/cut.py") 2244), (Value.int (75 : Int) 0), (Value.int (1 : Int) 0), (Value.int (0 : Int) 0), (Value.int (0 : Int) 0), (Value.int (3 : Int) 0), (Value.ref 129), (Value.bool Bool.true), (Value.int (181 : Int) 0), (Value.ref 130), Value.none, (Value.ref 131), (Value.ref 132), (Value.ref 133), (Value.int (2248 : Int) 0), (Value.int (75 : Int) 0), (Value.str (Str.ofString "/claim/cut.py") 2249)])) (List.toArray []))) ::
  ((nat_lit 135), (Obj.mk (Value.type "function") none (Data.func (FuncData.mk (Str.ofString "_law_number") (Str.ofString "_law_number") fA135 (FuncBody.stmts fB135) fS135 3 [] Value.none Value.none Value.none (Value.str (Str.ofString "law_wo0057_01") 2234) none (Value.ref 134) Value.none 0)) (List.toArray []))) ::
  ((nat_lit 136), (Obj.mk (Value.type "tuple") none (Data.seq (List.toArray []) 0) (List.toArray []))) ::
  ((nat_lit 139), (Obj.mk (Value.type "code") none (Data.fields (List.toArray [(Value.str (Str.ofString "_law_shown") 2251), (Value.str (Str.ofString "_law_shown") 2252), (Value.str (Str.ofString "/claim/cut.py") 2253), (Value.int (80 : Int) 0), (Value.int (2 : Int) 0), (Value.int (0 : Int) 0), (Value.int (0 : Int) 0), (Value.int (3 : Int) 0), (Value.ref 136), (Value.bool Bool.true), (Value.int (181 : Int) 0), (Value.ref 137), Value.none, Value.none, Value.none, (Value.ref 138), (Value.int (2254 : Int) 0), (Value.int (80 : Int) 0), (Value.str (Str.ofString "/claim/cut.py") 2255)])) (List.toArray []))) ::
  ((nat_lit 140), (Obj.mk (Value.type "function") none (Data.func (FuncData.mk (Str.ofString "_law_shown") (Str.ofString "_law_shown") fA140 (FuncBody.stmts fB140) fS140 3 [] Value.none Value.none Value.none (Value.str (Str.ofString "law_wo0057_01") 2234) none (Value.ref 139) Value.none 0)) (List.toArray []))) ::
  ((nat_lit 141), (Obj.mk (Value.type "tuple") none (Data.seq (List.toArray []) 0) (List.toArray []))) ::
  ((nat_lit 144), (Obj.mk (Value.type "code") none (Data.fields (List.toArray [(Value.str (Str.ofString "_law_told") 2257), (Value.str (Str.ofString "_law_told") 2258), (Value.str (Str.ofString "/claim/cut.py") 2259), (Value.int (85 : Int) 0), (Value.int (1 : Int) 0), (Value.int (0 : Int) 0), (Value.int (0 : Int) 0), (Value.int (3 : Int) 0), (Value.ref 141), (Value.bool Bool.true), (Value.int (181 : Int) 0), (Value.ref 142), Value.none, Value.none, Value.none, (Value.ref 143), (Value.int (2260 : Int) 0), (Value.int (85 : Int) 0), (Value.str (Str.ofString "/claim/cut.py") 2261)])) (List.toArray []))) ::
  ((nat_lit 145), (Obj.mk (Value.type "function") none (Data.func (FuncData.mk (Str.ofString "_law_told") (Str.ofString "_law_told") fA145 (FuncBody.stmts fB145) fS145 3 [] Value.none Value.none Value.none (Value.str (Str.ofString "law_wo0057_01") 2234) none (Value.ref 144) Value.none 0)) (List.toArray []))) ::
  ((nat_lit 146), (Obj.mk (Value.type "tuple") none (Data.seq (List.toArray []) 0) (List.toArray []))) ::
  ((nat_lit 149), (Obj.mk (Value.type "code") none (Data.fields (List.toArray [(Value.str (Str.ofString "_law_same") 2263), (Value.str (Str.ofString "_law_same") 2264), (Value.str (Str.ofString "/claim/cut.py") 2265), (Value.int (87 : Int) 0), (Value.int (2 : Int) 0), (Value.int (0 : Int) 0), (Value.int (0 : Int) 0), (Value.int (3 : Int) 0), (Value.ref 146), (Value.bool Bool.true), (Value.int (181 : Int) 0), (Value.ref 147), Value.none, Value.none, Value.none, (Value.ref 148), (Value.int (2266 : Int) 0), (Value.int (87 : Int) 0), (Value.str (Str.ofString "/claim/cut.py") 2267)])) (List.toArray []))) ::
  ((nat_lit 150), (Obj.mk (Value.type "function") none (Data.func (FuncData.mk (Str.ofString "_law_same") (Str.ofString "_law_same") fA150 (FuncBody.stmts fB150) fS150 3 [] Value.none Value.none Value.none (Value.str (Str.ofString "law_wo0057_01") 2234) none (Value.ref 149) Value.none 0)) (List.toArray []))) ::
  ((nat_lit 151), (Obj.mk (Value.type "tuple") none (Data.seq (List.toArray []) 0) (List.toArray []))) ::
  ((nat_lit 153), (Obj.mk (Value.type "tuple") none (Data.seq (List.toArray [(Value.str (Str.ofString "row") 2272), (Value.str (Str.ofString "part") 2273)]) 0) (List.toArray []))) ::
  ((nat_lit 154), (Obj.mk (Value.type "tuple") none (Data.seq (List.toArray []) 0) (List.toArray []))) ::
  ((nat_lit 156), (Obj.mk (Value.type "code") none (Data.fields (List.toArray [(Value.str (Str.ofString "_law_power") 2269), (Value.str (Str.ofString "_law_power") 2270), (Value.str (Str.ofString "/claim/cut.py") 2271), (Value.int (91 : Int) 0), (Value.int (1 : Int) 0), (Value.int (0 : Int) 0), (Value.int (0 : Int) 0), (Value.int (3 : Int) 0), (Value.ref 151), (Value.bool Bool.true), (Value.int (181 : Int) 0), (Value.ref 152), Value.none, (Value.ref 153), (Value.ref 154), (Value.ref 155), (Value.int (2274 : Int) 0), (Value.int (91 : Int) 0), (Value.str (Str.ofString "/claim/cut.py") 2275)])) (List.toArray []))) ::
  ((nat_lit 157), (Obj.mk (Value.type "function") none (Data.func (FuncData.mk (Str.ofString "_law_power") (Str.ofString "_law_power") fA157 (FuncBody.stmts fB157) fS157 3 [] Value.none Value.none Value.none (Value.str (Str.ofString "law_wo0057_01") 2234) none (Value.ref 156) Value.none 0)) (List.toArray []))) ::
  ((nat_lit 158), (Obj.mk (Value.type "tuple") none (Data.seq (List.toArray []) 0) (List.toArray []))) ::
  ((nat_lit 161), (Obj.mk (Value.type "code") none (Data.fields (List.toArray [(Value.str (Str.ofString "_law_two") 2277), (Value.str (Str.ofString "_law_two") 2278), (Value.str (Str.ofString "/claim/cut.py") 2279), (Value.int (96 : Int) 0), (Value.int (2 : Int) 0), (Value.int (0 : Int) 0), (Value.int (0 : Int) 0), (Value.int (3 : Int) 0), (Value.ref 158), (Value.bool Bool.true), (Value.int (181 : Int) 0), (Value.ref 159), Value.none, Value.none, Value.none, (Value.ref 160), (Value.int (2280 : Int) 0), (Value.int (96 : Int) 0), (Value.str (Str.ofString "/claim/cut.py") 2281)])) (List.toArray []))) ::
  ((nat_lit 162), (Obj.mk (Value.type "function") none (Data.func (FuncData.mk (Str.ofString "_law_two") (Str.ofString "_law_two") fA162 (FuncBody.stmts fB162) fS162 3 [] Value.none Value.none Value.none (Value.str (Str.ofString "law_wo0057_01") 2234) none (Value.ref 161) Value.none 0)) (List.toArray []))) ::
  ((nat_lit 163), (Obj.mk (Value.type "tuple") none (Data.seq (List.toArray []) 0) (List.toArray []))) ::
  ((nat_lit 166), (Obj.mk (Value.type "code") none (Data.fields (List.toArray [(Value.str (Str.ofString "law") 2283), (Value.str (Str.ofString "law") 2284), (Value.str (Str.ofString "/claim/cut.py") 2285), (Value.int (109 : Int) 0), (Value.int (1 : Int) 0), (Value.int (0 : Int) 0), (Value.int (0 : Int) 0), (Value.int (3 : Int) 0), (Value.ref 163), (Value.bool Bool.true), (Value.int (181 : Int) 0), (Value.ref 164), Value.none, Value.none, Value.none, (Value.ref 165), (Value.int (2286 : Int) 0), (Value.int (109 : Int) 0), (Value.str (Str.ofString "/claim/cut.py") 2287)])) (List.toArray []))) ::
  ((nat_lit 167), (Obj.mk (Value.type "function") none (Data.func (FuncData.mk (Str.ofString "law") (Str.ofString "law") fA167 (FuncBody.stmts fB167) fS167 3 [] Value.none Value.none Value.none (Value.str (Str.ofString "law_wo0057_01") 2234) none (Value.ref 166) Value.none 0)) (List.toArray []))) :: [])
noncomputable def as_ : List Addr := ((nat_lit 2) :: (nat_lit 3) :: (nat_lit 6) :: (nat_lit 15) :: (nat_lit 17) :: (nat_lit 18) :: (nat_lit 20) :: (nat_lit 21) :: (nat_lit 22) :: (nat_lit 24) :: (nat_lit 25) :: (nat_lit 27) :: (nat_lit 28) :: (nat_lit 29) :: (nat_lit 31) :: (nat_lit 32) :: (nat_lit 34) :: (nat_lit 35) :: (nat_lit 36) :: (nat_lit 38) :: (nat_lit 39) :: (nat_lit 41) :: (nat_lit 42) :: (nat_lit 43) :: (nat_lit 45) :: (nat_lit 46) :: (nat_lit 48) :: (nat_lit 49) :: (nat_lit 50) :: (nat_lit 52) :: (nat_lit 53) :: (nat_lit 55) :: (nat_lit 56) :: (nat_lit 57) :: (nat_lit 59) :: (nat_lit 60) :: (nat_lit 62) :: (nat_lit 63) :: (nat_lit 64) :: (nat_lit 66) :: (nat_lit 67) :: (nat_lit 69) :: (nat_lit 70) :: (nat_lit 71) :: (nat_lit 73) :: (nat_lit 74) :: (nat_lit 76) :: (nat_lit 77) :: (nat_lit 78) :: (nat_lit 117) :: (nat_lit 119) :: (nat_lit 120) :: (nat_lit 122) :: (nat_lit 123) :: (nat_lit 124) :: (nat_lit 127) :: (nat_lit 128) :: (nat_lit 129) :: (nat_lit 131) :: (nat_lit 132) :: (nat_lit 134) :: (nat_lit 135) :: (nat_lit 136) :: (nat_lit 139) :: (nat_lit 140) :: (nat_lit 141) :: (nat_lit 144) :: (nat_lit 145) :: (nat_lit 146) :: (nat_lit 149) :: (nat_lit 150) :: (nat_lit 151) :: (nat_lit 153) :: (nat_lit 154) :: (nat_lit 156) :: (nat_lit 157) :: (nat_lit 158) :: (nat_lit 161) :: (nat_lit 162) :: (nat_lit 163) :: (nat_lit 166) :: (nat_lit 167) :: [])
end Mine
namespace Mine
open PySem PySem.W PyProof.Rows PySem.Calls
abbrev LW : OpenLaw := PySem.Challenge.rw_wo0057_01
abbrev rowW : RowW := LW.row.toRowW
set_option maxHeartbeats 0
theorem open_ok (w : World) : (fencedOpening treeTable PW w 30000).map (fun s => (s.heap, s.gens, s.drawn, s.toks)) = some (boot_heap w.params, #[], boot_drawn, boot_toks) :=
  boot_open (by kernel_rfl) (by decide) (fun _ => by kernel_rfl) w
theorem size_ok (w : World) : ((boot_heap w.params).isNs mainGlobals && (#[] : Array GenState).size == 0, (boot_heap w.params).objs.size, (boot_heap w.params).nsMap mainGlobals "__annotations__") = (true, 11, annE) := by kernel_rfl
theorem looks1 (w : World) (os : OsState) : (staticsOk (importedModules PW.main.body) (boot_heap w.params) (Sf w os).heap && namesBound PW (Sf w os).heap && gensDone (Sf w os) && laidKept (boot_heap w.params) (Sf w os).heap) = true := by kernel_rfl
theorem looks3 (w : World) (os : OsState) : as_.map (Sf w os).heap.get? = (KF w.params).map fun p => some p.2 := by kernel_rfl
end Mine
namespace Mine
open PySem PySem.W PyProof.Rows PySem.Calls
def qM : Program := view PW [24]
def looseM : List Str := ["ELLIPSIS_MARKER","_ellipsis_match","Int2AP","eq","add","lshift","mod","mul","rshift","sub","b3_exceptions","map_table_b3","_law_pieces","_law_number","_law_shown","_law_told","_law_same","_law_power","_law_two"]
def XtM : Shared → Bool := fun s => xlAt qM [] s && recOk rowW.records s
set_option maxHeartbeats 0
theorem looks2 (w : World) (os : OsState) : openSeen qM looseM (importedModules PW.main.body) XtM true (Sf w os) = openGood qM looseM := by kernel_rfl
end Mine
namespace Mine
open PySem PySem.W PyProof.Rows PySem.Calls
theorem as_eq (P : Params) : as_ = (KF P).map (·.1) := by kernel_rfl
noncomputable def HK : Hook := kHook KF as_ as_eq
theorem left : LeftO PW qM looseM XtM HK.obs HK.val 30000 :=
  left_of (H₀ := boot_heap) (m₀ := 11) (ann := annE) (M := 12 + (1 + (322 + ((12517 + 8) + (400 + 2))))) (Sf := Sf) open_ok size_ok all_run (by decide) looks1 looks2 looks3
end Mine
namespace Mine
open PySem PySem.W PyProof.Rows PySem.Calls
abbrev PR : Program := OpenLaw.prog PySem.Challenge.rw_wo0057_01
/-- a call of the def at f with the values vs, k frames deep at most, gives a value of the family R and leaves the frame and the ledger as they were -/
abbrev Does (w : World) (f : Addr) (k : Nat) (news : List (Addr × Obj)) (vs : List Value) (R : Tok → Value) : Prop :=
  ∀ (p : Program) (loose : List Str) (mean : ExcName → Option Value) (mg mb : Str → Option Value) (dp un : Nat) (gd : Option (List Code)) (cn : Str) (cs : Scope) (a : Addr) (ccd : Value) (cl : List (Str × Addr)) (outer : List Env) (A₀ : Around) (base h₀ : Heap) (L : Addr) (m : Str → Option Value) (s : Shared) (Q E : Value → Shared → Prop),
    Below A₀ base outer h₀ → Fr h₀ L s.heap m → (KF w.params).In h₀ → News h₀ L s.heap news → Top p loose mean mg mb h₀ → cs.kind = .function → dp + k < recursionLimit → un + 8 * k < cLine →
    (∀ (t : Tok) (h' : Heap) (tk' : Nat), Fr h₀ L h' m → News h₀ L h' news → Q (R t) { s with heap := h', toks := tk' }) →
    wpAny (model (OpenLaw.prog PySem.Challenge.rw_wo0057_01) w) (ktrTop dp un gd cn cs L a ccd cl outer) (call (.ref f) vs) Q E s
end Mine
namespace Mine
open PySem PySem.W PyProof.Rows PySem.Calls
/-- every entry of the ledger lies below the loop's iterator -/
structure OffOf (news : List (Addr × Obj)) (I : Addr) : Prop where
  h : ∀ p ∈ news, p.1 < I
theorem unr_end {news all : List (Addr × Obj)} {h₀ : Heap} {L I : Addr} {it : Obj} {rest : (Str → Option Value) → List (Addr × Obj) → Prop} {s₁ : Shared} {h' : Heap} {tk : Nat} {m' : Str → Option Value} (O : OffOf news I) (F : Fr h₀ L h' m') (N : News h₀ L h' all)
    (sub : ∀ p ∈ (I, it) :: news, p ∈ all) (r : rest m' news) : UnrEnd h₀ L s₁ I it rest { s₁ with heap := h', toks := tk } :=
  UnrEnd.intro F N news sub (fun p hp => Nat.ne_of_lt (O.h p hp)) r
section
variable {prog : Program} {w : World} {A : Around} {E : Value → Shared → Prop} {s : Shared} {env : Env} {h₀ : Heap} {x : Str} {body : List Stmt} {Q : Flow → Shared → Prop}
theorem iter_unr {ax : Addr} {lo : Obj} {vs : List Value} {n : Nat} {m₀ : Str → Option Value} {news : List (Addr × Obj)}
    (hh : A.handled = none) (F : Fr h₀ env.locals s.heap m₀) (N : News h₀ env.locals s.heap news) (hm : (ax, lo) ∈ news) (hc : lo.cls = .type "list") (hd : lo.data = .seq vs.toArray n)
    (rest₀ : ∀ I : Addr, OffOf news I → ListRest prog w A E h₀ env x body Q s I (ax, lo) vs m₀ news) :
    wpAny (model prog w) A (pyIter (.ref ax)) (fun it s₂ => LoopAtV prog w A h₀ env x body Q E it s₂) E s :=
  iter_listUnr hh F N hm hc hd fun I h => rest₀ I ⟨h⟩
end
theorem len_empty {prog : Program} {w : World} {A : Around} {E : Value → Shared → Prop} {s : Shared} {t : Tok} {Q : Value → Shared → Prop} (h : Q (.int 0 (s.toks + 1)) { s with toks := s.toks + 1 + 1 }) : wpAny (model prog w) A (call (.builtin "len") [.str Str.empty t]) Q E s :=
  PyProof.Rows.len_str (by decide) h
end Mine
namespace Mine
open PySem PySem.W PyProof.Rows PySem.Calls
open Builtin Builtin.Str StrLaws
abbrev dots : Str := Str.ofString "..."
theorem dots_cps : dots.cps.toList = [46, 46, 46] := by decide +kernel
theorem dots_len : dots.length = 3 := by decide +kernel
theorem occ_skip_app {x y : Str} {hi limit : Nat} {r : List Nat} : ∀ (l : List Nat) (st : Array Nat × Nat), (∀ i ∈ l, ¬ (st.snd ≤ i ∧ i + y.length ≤ hi ∧ subAt x y i = true)) → forIn (l ++ r) st (occBody x y hi limit) = (forIn r st (occBody x y hi limit) : Id _)
  | [], st, _ => rfl
  | a :: l, st, h => by
    rw [List.cons_append, List.forIn_cons]
    have hb : occBody x y hi limit a st = pure (ForInStep.yield st) := by
      unfold occBody
      rw [if_neg (fun c => h a (.head _) ⟨c.1.1.2, c.1.2, c.2⟩)]
    rw [hb]
    exact occ_skip_app l st fun i hi' => h i (.tail _ hi')
theorem occ_skip {x y : Str} {hi limit : Nat} (l : List Nat) (st : Array Nat × Nat) (h : ∀ i ∈ l, ¬ (st.snd ≤ i ∧ i + y.length ≤ hi ∧ subAt x y i = true)) : forIn l st (occBody x y hi limit) = (pure st : Id _) := by
  have := occ_skip_app (r := []) (limit := limit) l st h
  rw [List.append_nil] at this
  rw [this]
  rfl
theorem occ_take {x y : Str} {hi limit a : Nat} {l : List Nat} {st : Array Nat × Nat} (h1 : st.fst.size < limit) (h2 : st.snd ≤ a) (h3 : a + y.length ≤ hi) (h4 : subAt x y a = true) :
    forIn (a :: l) st (occBody x y hi limit) = (forIn l (st.fst.push a, a + y.length) (occBody x y hi limit) : Id _) := by
  rw [List.forIn_cons]
  have hb : occBody x y hi limit a st = pure (ForInStep.yield (st.fst.push a, a + y.length)) := by
    unfold occBody
    rw [if_pos ⟨⟨⟨h1, h2⟩, h3⟩, h4⟩]
  rw [hb]
  rfl
theorem subAt_dots {x : Str} {i : Nat} : subAt x dots i = true ↔ (x.cps.toList.drop i).take 3 = [46, 46, 46] := by
  rw [subAt_eq, dots_len, dots_cps]
  simp
theorem len_toList (x : Str) : x.length = x.cps.toList.length := by simp [Str.length]
theorem kind_dots (x : Str) : decide (Builtin.Str.strKind x < Builtin.Str.strKind dots) = false := by
  have h1 : Builtin.Str.strKind dots = 1 := by decide +kernel
  have h2 : 1 ≤ Builtin.Str.strKind x := by unfold Builtin.Str.strKind; split; exact Nat.le_refl _; split <;> decide
  rw [h1]
  exact decide_eq_false (by omega)
theorem range3 (a b : Nat) : List.range' 0 (1 + (a + (1 + b))) = 0 :: (List.range' 1 a ++ ((1 + a) :: List.range' (2 + a) b)) := by
  rw [← List.range'_append_1, ← List.range'_append_1, ← List.range'_append_1]
  simp only [List.range'_one, List.cons_append, List.nil_append, Nat.zero_add]
  rw [show 1 + a + 1 = 2 + a by omega]

/-- three dots, a text without a dot, three dots: the places of the dots -/
theorem occ_both {p : Str} (hp : 46 ∉ p.cps.toList) (limit : Nat) (hl : 2 ≤ limit) : occurrences (dots ++ p ++ dots) dots 0 (dots ++ p ++ dots).length limit = [0, 3 + p.length] := by
  have hx : (dots ++ p ++ dots).cps.toList = [46, 46, 46] ++ p.cps.toList ++ [46, 46, 46] := by
    rw [Str.cps_append, Str.cps_append, Array.toList_append, Array.toList_append, dots_cps]
  have hlen : (dots ++ p ++ dots).length = 6 + p.length := by
    rw [Str.length_append, Str.length_append, dots_len]; omega
  have hpl := len_toList p
  obtain ⟨P, hP⟩ : ∃ P, p.cps.toList = P := ⟨_, rfl⟩
  rw [hP] at hp hx hpl
  rw [occ_eq, hlen]
  have hr : List.range' 0 (6 + p.length + 1 - 0) = 0 :: (List.range' 1 (2 + p.length) ++ ((3 + p.length) :: List.range' (4 + p.length) 3)) := by
    have := range3 (2 + p.length) 3
    rw [show 6 + p.length + 1 - 0 = 1 + ((2 + p.length) + (1 + 3)) by omega, this]
    rw [show 1 + (2 + p.length) = 3 + p.length by omega, show 2 + (2 + p.length) = 4 + p.length by omega]
  rw [hr, occ_take (by simp; omega) (Nat.zero_le _) (by rw [dots_len]; omega) (by rw [subAt_dots, hx]; rfl)]
  rw [occ_skip_app]
  · show (forIn ((3 + p.length) :: List.range' (4 + p.length) 3) ((#[] : Array Nat).push 0, 0 + dots.length) (occBody _ _ _ _) : Id _).fst.toList = _
    rw [occ_take (by simp; omega) (by simp [dots_len]) (by rw [dots_len]; omega) ?_]
    · rw [occ_skip]
      · rfl
      · rintro i hi ⟨h1, h2, h3⟩
        rw [dots_len] at h1 h2
        simp only at h1
        omega
    · rw [subAt_dots, hx]
      rw [List.drop_append, List.drop_of_length_le (by simp; omega)]
      have : 3 + p.length - ([46, 46, 46] ++ P).length = 0 := by simp; omega
      rw [this]
      rfl
  · rintro i hi ⟨h1, h2, h3⟩
    rw [dots_len] at h1 h2
    simp only at h1
    have hi' := List.mem_range'_1.mp hi
    rw [subAt_dots, hx] at h3
    -- the first of the three is a letter of the text
    have h4 : (List.take 3 (List.drop i ([46, 46, 46] ++ P ++ [46, 46, 46])))[0]? = some 46 := by rw [h3]; rfl
    rw [List.getElem?_take_of_lt (by omega), List.getElem?_drop, Nat.add_zero, List.append_assoc, List.getElem?_append_right (by simp; omega), List.getElem?_append_left (by simp; omega)] at h4
    exact hp (List.mem_of_getElem? h4)

/-- three dots and a text without a dot -/
theorem occ_left {p : Str} (hp : 46 ∉ p.cps.toList) (limit : Nat) (hl : 1 ≤ limit) : occurrences (dots ++ p) dots 0 (dots ++ p).length limit = [0] := by
  have hx : (dots ++ p).cps.toList = [46, 46, 46] ++ p.cps.toList := by
    rw [Str.cps_append, Array.toList_append, dots_cps]
  have hlen : (dots ++ p).length = 3 + p.length := by
    rw [Str.length_append, dots_len]
  have hpl := len_toList p
  obtain ⟨P, hP⟩ : ∃ P, p.cps.toList = P := ⟨_, rfl⟩
  rw [hP] at hp hx hpl
  rw [occ_eq, hlen]
  have hr : List.range' 0 (3 + p.length + 1 - 0) = 0 :: List.range' 1 (3 + p.length) := by
    rw [show 3 + p.length + 1 - 0 = (3 + p.length) + 1 by omega, List.range'_succ]
  rw [hr, occ_take (by simp; omega) (Nat.zero_le _) (by rw [dots_len]; omega) (by rw [subAt_dots, hx]; rfl)]
  rw [occ_skip]
  · rfl
  · rintro i hi ⟨h1, h2, h3⟩
    rw [dots_len] at h1 h2
    simp only at h1
    rw [subAt_dots, hx] at h3
    have h4 : (List.take 3 (List.drop i ([46, 46, 46] ++ P)))[0]? = some 46 := by rw [h3]; rfl
    rw [List.getElem?_take_of_lt (by omega), List.getElem?_drop, Nat.add_zero, List.getElem?_append_right (by simp; omega)] at h4
    exact hp (List.mem_of_getElem? h4)

theorem strSub_eq {x : Str} {i j : Nat} {l : List Nat} (h : (x.cps.toList.drop i).take (j - i) = l) : strSub x i j = ⟨l.toArray⟩ :=
  Str.ext' (by
    have := StrLaws.strSub_toList x i j
    rw [h] at this
    show (strSub x i j).cps = l.toArray
    rw [← this])
theorem split_both {p : Str} (hp : 46 ∉ p.cps.toList) : Txt.split (dots ++ p ++ dots) dots = [Str.empty, p, Str.empty] := by
  have hx : (dots ++ p ++ dots).cps.toList = [46, 46, 46] ++ p.cps.toList ++ [46, 46, 46] := by
    rw [Str.cps_append, Str.cps_append, Array.toList_append, Array.toList_append, dots_cps]
  have hlen : (dots ++ p ++ dots).length = 6 + p.length := by
    rw [Str.length_append, Str.length_append, dots_len]; omega
  have hpl := len_toList p
  unfold Txt.split
  rw [if_neg (by rw [kind_dots, Bool.or_false, decide_eq_true_eq, hlen, dots_len]; omega), occ_both hp _ (by rw [hlen]; omega), if_neg (by simp), partsBetween_eq, dots_len]
  simp only [partsFrom]
  rw [hlen]
  have h0 : strSub (dots ++ p ++ dots) 0 0 = Str.empty := (strSub_eq (l := []) (by simp)).trans rfl
  rw [h0]
  congr 1
  congr 1
  · refine (strSub_eq (l := p.cps.toList) ?_).trans (by simp)
    rw [hx, List.append_assoc]
    simp [hpl]
  · congr 1
    refine (strSub_eq (l := []) ?_).trans rfl
    simp
    omega
theorem split_left {p : Str} (hp : 46 ∉ p.cps.toList) : Txt.split (dots ++ p) dots = [Str.empty, p] := by
  have hx : (dots ++ p).cps.toList = [46, 46, 46] ++ p.cps.toList := by
    rw [Str.cps_append, Array.toList_append, dots_cps]
  have hlen : (dots ++ p).length = 3 + p.length := by
    rw [Str.length_append, dots_len]
  have hpl := len_toList p
  unfold Txt.split
  rw [if_neg (by rw [kind_dots, Bool.or_false, decide_eq_true_eq, hlen, dots_len]; omega), occ_left hp _ (by rw [hlen]; omega), if_neg (by simp), partsBetween_eq, dots_len]
  simp only [partsFrom]
  rw [hlen]
  have h0 : strSub (dots ++ p) 0 0 = Str.empty := (strSub_eq (l := []) (by simp)).trans rfl
  have h1 : strSub (dots ++ p) (0 + 3) (3 + p.length) = p := by
    refine (strSub_eq (l := p.cps.toList) ?_).trans (by simp)
    rw [hx, show 3 + p.length - (0 + 3) = p.length by omega, hpl]
    exact List.take_length
  rw [h0, h1]
end Mine
namespace Mine
open PySem PySem.W PyProof.Rows PySem.Calls
open Builtin Builtin.Str StrLaws
def find4 (x y : Str) (i j : Int) : Int := match occurrences x y (fromIndex x.length i) (min (fromIndex x.length j) x.length) 1 with
  | k :: _ => (k : Int)
  | [] => -1
theorem gives_find4 (x y : Str) (i j : Int) (t u v v' : Tok) : Gives («str.find» ⟨[.str x t, .str y u, .int i v, .int j v'], []⟩) (.int (find4 x y i j)) := by
  show Gives (match occurrences x y (fromIndex x.length i) (min (fromIndex x.length j) x.length) 1 with | k :: _ => retInt k | [] => (do rule "str.find.not-found"; retInt (-1))) _
  unfold find4
  cases occurrences x y (fromIndex x.length i) (min (fromIndex x.length j) x.length) 1 with
  | nil => exact .rule (.of_eq rfl)
  | cons k _ => exact .of_eq rfl
section
variable {prog : Program} {w : World} {A : Around} {E : Value → Shared → Prop} {s : Shared} {x y : Str} {t u v v' : Tok} {i j : Int} {Q : Value → Shared → Prop}
theorem call_find4 (hq : Q (.int (find4 x y i j) s.toks) { s with toks := s.toks + 1 }) : wpAny (model prog w) A (call (.builtin "str.find") [.str x t, .str y u, .int i v, .int j v']) Q E s :=
  call_gives F.slot_str_find (typeIs_str _ _ _) F.entry_str_find (F.args_str_find_4 _ _ _ _) (gives_find4 x y i j t u v v') hq
theorem fromIndex_nonneg {n : Nat} {i : Int} (h : 0 ≤ i) : fromIndex n i = i.toNat := by
  unfold fromIndex
  rw [if_neg (by omega)]
  omega
theorem find4_empty (h0 : 0 ≤ i) (h1 : i ≤ j) (h2 : j ≤ x.length) : find4 x Str.empty i j = i := by
  unfold find4
  rw [fromIndex_nonneg h0, fromIndex_nonneg (by omega), occ_eq]
  have hr : List.range' i.toNat (min j.toNat x.length + 1 - i.toNat) = i.toNat :: List.range' (i.toNat + 1) (min j.toNat x.length - i.toNat) := by
    rw [show min j.toNat x.length + 1 - i.toNat = (min j.toNat x.length - i.toNat) + 1 by omega, List.range'_succ]
  have he : (Str.empty).length = 0 := rfl
  have hsub : ∀ k, subAt x Str.empty k = true := fun k => by rw [subAt_eq, he]; simp [Str.empty]
  rw [hr, occ_take (st := ((#[] : Array Nat), i.toNat)) (a := i.toNat) (by simp) (Nat.le_refl _) (by rw [he]; omega) (hsub _)]
  have : ∀ (l : List Nat) (f : Nat), (forIn l ((#[i.toNat] : Array Nat), f) (occBody x Str.empty (min j.toNat x.length) 1) : Id _).fst = #[i.toNat] := by
    intro l
    induction l with
    | nil => intro f; rfl
    | cons a l ih =>
      intro f
      rw [List.forIn_cons]
      have hb : occBody x Str.empty (min j.toNat x.length) 1 a (#[i.toNat], f) = pure (ForInStep.yield (#[i.toNat], f)) := by
        unfold occBody
        rw [if_neg (fun c => by simp at c)]
      rw [hb]
      exact ih f
  show (match (forIn _ ((#[] : Array Nat).push i.toNat, _) _ : Id _).fst.toList with | k :: _ => (k : Int) | [] => -1) = i
  have h3 := this (List.range' (i.toNat + 1) (min j.toNat x.length - i.toNat)) (i.toNat + Str.empty.length)
  rw [show (#[] : Array Nat).push i.toNat = #[i.toNat] from rfl, h3]
  show ((i.toNat : Nat) : Int) = i
  omega
theorem find4_whole (h0 : i = 0) (h1 : j = x.length) : find4 x y i j = Txt.find x y := by
  subst h0 h1
  unfold find4 Txt.find
  rw [fromIndex_nonneg (Int.le_refl _), fromIndex_nonneg (by omega)]
  simp
  rfl
theorem call_find_empty (h0 : 0 ≤ i) (h1 : i ≤ j) (h2 : j ≤ x.length) (hq : Q (.int i s.toks) { s with toks := s.toks + 1 }) : wpAny (model prog w) A (call (.builtin "str.find") [.str x t, .str Str.empty u, .int i v, .int j v']) Q E s :=
  call_find4 (by rw [find4_empty h0 h1 h2]; exact hq)
theorem call_find_whole (h0 : i = 0) (h1 : j = x.length) (hq : Q (.int (Txt.find x y) s.toks) { s with toks := s.toks + 1 }) : wpAny (model prog w) A (call (.builtin "str.find") [.str x t, .str y u, .int i v, .int j v']) Q E s :=
  call_find4 (by rw [find4_whole h0 h1]; exact hq)
end
theorem find_room {x y : Str} (h : ¬ Txt.find x y < 0) : Txt.find x y + y.length ≤ x.length := by
  unfold Txt.find at h ⊢
  rcases occ_head_from x y 0 1 (Nat.le_refl _) with ⟨e, _⟩ | ⟨i, r, e, _, ha, _⟩
  · rw [e] at h; simp at h
  · rw [e]
    have := ha.1
    simp only
    omega
/-- found: the text stands in it as a stretch -/
theorem find_iff {x y : Str} : (¬ Txt.find x y < 0) ↔ y.cps.toList <:+: x.cps.toList := by
  unfold Txt.find
  rcases occ_head_from x y 0 1 (Nat.le_refl _) with ⟨e, hn⟩ | ⟨i, r, e, _, ha, _⟩
  · rw [e]
    refine ⟨fun h => by simp at h, ?_⟩
    rintro ⟨a, b, hab⟩
    exfalso
    refine hn a.length (Nat.zero_le _) ⟨?_, ?_⟩
    · rw [len_toList, len_toList x, ← hab]; simp
    · rw [subAt_eq, len_toList, ← hab]; simp [Str.length]
  · rw [e]
    refine ⟨fun _ => ?_, fun _ => by simp⟩
    have h1 := ha.2
    rw [subAt_eq, beq_iff_eq] at h1
    exact ⟨x.cps.toList.take i, (x.cps.toList.drop i).drop y.length, by rw [← h1, List.append_assoc, List.take_append_drop, List.take_append_drop]⟩
end Mine
namespace Mine
open PySem PySem.W PyProof.Rows PySem.Calls PySem.StrLaws
/-- a text of its codes -/
def ofL (l : List Nat) : Str := ⟨l.toArray⟩
theorem ofL_cps (l : List Nat) : (ofL l).cps.toList = l := by simp [ofL]
theorem ofL_len (l : List Nat) : (ofL l).length = l.length := by simp [ofL, Str.length]
theorem ofL_inj {a b : List Nat} (h : ofL a = ofL b) : a = b := by rw [← ofL_cps a, ← ofL_cps b, h]
theorem ofL_self (x : Str) : ofL x.cps.toList = x := by apply Str.ext'; simp [ofL]
/-- the stretch from b to e -/
def sub (l : List Nat) (b e : Nat) : List Nat := (l.drop b).take (e - b)
def pal (p : List Nat) : Bool := p == p.reverse
theorem slice_mid {l : List Nat} {i j : Int} (h0 : 0 ≤ i) (h1 : i ≤ j) (h2 : j ≤ l.length) : Txt.slice (ofL l) (some i) (some j) = ofL (sub l i.toNat j.toNat) := by
  have h := sliceText_plain (x := ofL l) (i := i) (j := j) ⟨h0, h1, by rw [ofL_cps]; exact h2⟩
  rw [ofL_cps] at h
  have e : (j - i).toNat = j.toNat - i.toNat := by omega
  rw [e] at h
  exact h
theorem slice_to {l : List Nat} {j : Int} (h0 : 0 ≤ j) (h2 : j ≤ l.length) : Txt.slice (ofL l) none (some j) = ofL (l.take j.toNat) := by
  have h := sliceText_to (x := ofL l) (j := j) ⟨h0, by rw [ofL_cps]; exact h2⟩
  rw [ofL_cps, List.drop_zero, Int.sub_zero] at h
  exact h
theorem sub_len {l : List Nat} {b e : Nat} (h : e ≤ l.length) : (sub l b e).length = e - b := by
  unfold sub
  rw [List.length_take, List.length_drop]
  omega
theorem sub_mem {l : List Nat} {b e : Nat} {c : Nat} (h : c ∈ sub l b e) : c ∈ l := List.mem_of_mem_drop (List.mem_of_mem_take h)
/-- the least from s on, of k looked at -/
def least (f : Nat → Bool) : Nat → Nat → Nat
  | 0, s => s
  | k + 1, s => if f s = true then s else least f k (s + 1)
theorem least_eq (f : Nat → Bool) : ∀ (k s b : Nat), s ≤ b → b < s + k → f b = true → (∀ j, s ≤ j → j < b → f j = false) → least f k s = b
  | 0, s, b, h1, h2, _, _ => by omega
  | k + 1, s, b, h1, h2, h3, h4 => by
    unfold least
    by_cases h : s = b
    · subst h; rw [if_pos h3]
    · rw [if_neg (by rw [h4 s (Nat.le_refl _) (by omega)]; decide)]
      exact least_eq f k (s + 1) b (by omega) (by omega) h3 fun j h5 h6 => h4 j (by omega) h6
/-- where the longest end of the e first that reads the same both ways begins -/
def bgn (l : List Nat) (e : Nat) : Nat := least (fun j => pal (sub l j e)) e 0
def piece (l : List Nat) (e : Nat) : List Nat := sub l (bgn l e) e
/-- what is kept of the e first fronts -/
def keptC (l : List Nat) : Nat → List (List Nat)
  | 0 => []
  | e + 1 => keptC l e ++ (if Txt.find (ofL (l.take e)) (ofL (piece l (e + 1))) < 0 then [piece l (e + 1)] else [])
theorem keptC_len (l : List Nat) : ∀ e, (keptC l e).length ≤ e
  | 0 => Nat.le_refl _
  | e + 1 => by
    have := keptC_len l e
    unfold keptC
    rw [List.length_append]
    split <;> simp <;> omega
end Mine
namespace Mine
open PySem PySem.W PyProof.Rows PySem.Calls PySem.Spec PyProof.V
def tabOk : Int → List DictEntry → Bool
  | _, [] => true
  | b, e :: r => match e.key, e.val with
    | .int k _, .str _ _ => decide (b < k) && decide (e.hash = hashInt k) && tabOk k r
    | _, _ => false
def tabK : List DictEntry → List (Int × Value)
  | [] => []
  | e :: r => match e.key with
    | .int k _ => (k, e.val) :: tabK r
    | _ => []
def tabD : List DictEntry → List (PyData × PyData)
  | [] => []
  | e :: r => match e.key, e.val with
    | .int k _, .str v _ => (.int k, .str v) :: tabD r
    | _, _ => []
theorem tab_facts {prog : Program} {w : World} : ∀ (b : Int) (es : List DictEntry), tabOk b es = true →
    (∀ e ∈ es, ∃ k, (intKind prog w).is k e.key = true ∧ e.hash = (intKind prog w).hash k) ∧ Pairs (intKind prog w) es (tabK es) ∧ (∀ p ∈ tabK es, b < p.1) ∧ ((tabK es).map (·.1)).Nodup ∧ PyProof.V.FlatPairs PyData.int (tabK es) (tabD es)
  | _, [], _ => ⟨fun _ h => (nomatch h), .nil, fun _ h => (nomatch h), .nil, .nil⟩
  | b, e :: r, h => by
    unfold tabOk at h
    split at h
    · rename_i k t v u hk hv
      simp only [Bool.and_eq_true, decide_eq_true_eq] at h
      obtain ⟨⟨h1, h2⟩, h3⟩ := h
      obtain ⟨a1, a2, a3, a4, a5⟩ := tab_facts (prog := prog) (w := w) k r h3
      have ek : tabK (e :: r) = (k, e.val) :: tabK r := by rw [tabK, hk]
      have ed : tabD (e :: r) = (.int k, .str v) :: tabD r := by rw [tabD, hk, hv]
      rw [ek, ed]
      refine ⟨fun x hx => ?_, .cons (by rw [hk]; exact intKind_is _ _ _ _) rfl a2, fun p hp => ?_, ?_, .cons (by rw [hv]; exact Flat.str _ _) a5⟩
      · rcases List.mem_cons.mp hx with rfl | hx
        · exact ⟨k, by rw [hk]; exact intKind_is _ _ _ _, h2⟩
        · exact a1 x hx
      · rcases List.mem_cons.mp hp with rfl | hp
        · exact h1
        · have := a3 p hp; omega
      · rw [List.map_cons, List.nodup_cons]
        refine ⟨fun hm => ?_, a4⟩
        obtain ⟨p, hp, e⟩ := List.mem_map.mp hm
        have := a3 p hp
        omega
    · cases h
theorem intTab_of {prog : Program} {w : World} {h : Heap} {d : Addr} {es : List DictEntry} {n : Nat} {b : Int} (ho : h.get? d = some (dictOf es n)) (hok : tabOk b es = true) (hs : (d == sysModules) = false) : IntTab prog w h d (tabD es) := by
  obtain ⟨a1, a2, _, a4, a5⟩ := tab_facts (prog := prog) (w := w) b es hok
  exact TabAt.ofObj hs ho ⟨es.toArray, n, ⟨rfl, rfl, rfl⟩, rfl, fun e he => a1 e (by simpa using he), a2, a4⟩ a5
def b3D : List (PyData × PyData) := tabD b3es
theorem b3_ok : tabOk 0 b3es = true := by kernel_rfl
theorem b3_at (P : Params) : (KF P).lookup 78 = some (dictOf b3es 650) := by kernel_rfl
theorem b3_tab {prog : Program} {w : World} {h₀ h : Heap} {L : Addr} {m : Str → Option Value} (F : Fr h₀ L h m) (X : (KF w.params).In h₀) : IntTab prog w h 78 b3D :=
  intTab_of (F.keep _ _ (X _ _ (b3_at w.params))) b3_ok rfl
end Mine
namespace Mine
open PySem PySem.W PyProof.Rows PySem.Calls PySem.Spec PyProof.V
local macro_rules | `(tactic| walk_at "getMethod ref") => `(tactic| k_extra "getMethod ref")
local macro_rules | `(tactic| walk_at "call builtin:dict.get") => `(tactic| k_extra "call builtin:dict.get")
local macro_rules | `(tactic| walk_at "call builtin:str.lower") => `(tactic| k_extra "call builtin:str.lower")
set_option maxHeartbeats 4000000
theorem b3_does (w : World) (news : List (Addr × Obj)) (c : Nat) (t1 : Tok) (y : Str) (hl : Spec.lookup (.int (c : Int)) b3D = some (.str y)) :
    Does w 123 3 news [.str ⟨#[c]⟩ t1] (fun t => .str y t) := by
  dsimp only [Does]
  k_fill
  intros
  rename_i hd hu hret
  refine wpAny_call ?_
  k_dflt cell_enter
  k_with_none
  k_with "getMethod ref" => (k_here; (with_reducible show wpAny _ _ (getMethod (Value.ref 78) _ _) _ _ _); k_dflt (refine getMethod_intTab_get (b3_tab (by k_asm) (by k_asm)) ?_))
  k_with "call builtin:dict.get" => (k_here; (rename (Spec.lookup _ _ = _) => hl9); k_dflt (refine call_get1_intTab (b3_tab (by k_asm) (by k_asm)) ?_); intro v' hv'; rw [hl9] at hv'; first | (obtain ⟨_, hv''⟩ := Flat.str_inv hv'; subst hv'') | (have hv'' := Flat.none_inv hv'; subst hv''))
  k_with "call builtin:str.lower" => (k_here; dsimp only; refine SC.lower (by assumption) ?_)
  k_steps
  all_goals cb_end hret
theorem b3_does2 (w : World) (news : List (Addr × Obj)) (c : Nat) (t1 : Tok) (hl : Spec.lookup (.int (c : Int)) b3D = none) (hf : Builtin.Str.tooLong (Txt.lower ⟨#[c]⟩).length = false) :
    Does w 123 3 news [.str ⟨#[c]⟩ t1] (fun t => .str (Txt.lower ⟨#[c]⟩) t) := by
  dsimp only [Does]
  k_fill
  intros
  rename_i hd hu hret
  refine wpAny_call ?_
  k_dflt cell_enter
  k_with_none
  k_with "getMethod ref" => (k_here; (with_reducible show wpAny _ _ (getMethod (Value.ref 78) _ _) _ _ _); k_dflt (refine getMethod_intTab_get (b3_tab (by k_asm) (by k_asm)) ?_))
  k_with "call builtin:dict.get" => (k_here; (rename (Spec.lookup _ _ = _) => hl9); k_dflt (refine call_get1_intTab (b3_tab (by k_asm) (by k_asm)) ?_); intro v' hv'; rw [hl9] at hv'; first | (obtain ⟨_, hv''⟩ := Flat.str_inv hv'; subst hv'') | (have hv'' := Flat.none_inv hv'; subst hv''))
  k_with "call builtin:str.lower" => (k_here; dsimp only; refine SC.lower (by assumption) ?_)
  k_steps
  all_goals cb_end hret
end Mine
namespace Mine
open PySem PySem.W PyProof.Rows PySem.Calls
def apL : Nat → Nat → List UInt8
  | 0, _ => []
  | f + 1, n => if n = 0 then [] else apL f (n / 16) ++ [UInt8.ofNat (65 + n % 16)]
def apB (n : Nat) : List UInt8 := apL (n + 1) n
theorem apL_fuel : ∀ (f g n : Nat), n < f → n < g → apL f n = apL g n
  | 0, _, _, h, _ => absurd h (Nat.not_lt_zero _)
  | _, 0, _, _, h => absurd h (Nat.not_lt_zero _)
  | f + 1, g + 1, n, h1, h2 => by
    unfold apL
    by_cases h : n = 0
    · rw [if_pos h, if_pos h]
    · rw [if_neg h, if_neg h, apL_fuel f g (n / 16) (by omega) (by omega)]
theorem apB_zero : apB 0 = [] := rfl
theorem apB_step {n : Nat} (h : n ≠ 0) : apB n = apB (n / 16) ++ [UInt8.ofNat (65 + n % 16)] := by
  unfold apB
  rw [apL, if_neg h, apL_fuel n (n / 16 + 1) (n / 16) (by omega) (by omega)]
theorem apL_len : ∀ (f k n : Nat), n < 16 ^ k → (apL f n).length ≤ k
  | 0, _, _, _ => Nat.zero_le _
  | f + 1, k, n, h => by
    unfold apL
    by_cases hn : n = 0
    · rw [if_pos hn]; exact Nat.zero_le _
    · rw [if_neg hn]
      cases k with
      | zero => simp at h; omega
      | succ k =>
        have := apL_len f k (n / 16) (by rw [Nat.pow_succ] at h; omega)
        simp
        omega
theorem apB_len {n : Nat} (h : n < 2 ^ 100) : (apB n).length ≤ 25 := apL_len _ 25 n (by rw [show (16 : Nat) ^ 25 = 2 ^ 100 by decide]; exact h)
abbrev APs : Array UInt8 := #[65, 66, 67, 68, 69, 70, 71, 72, 73, 74, 75, 76, 77, 78, 79, 80]
theorem ap_pick (k : Fin 16) : KBy.picked APs (some ((k.val : Nat) : Int)) (some ((k.val : Nat) + 1 : Int)) = #[UInt8.ofNat (65 + k.val)] := by
  revert k; decide +kernel
theorem ap_cut {prog : Program} {w : World} {A : Around} {E : Value → Shared → Prop} {s : Shared} {value slice : PySem.Expr} {t t1 t2 : Tok} {h₀ : Heap} {L : Addr} {m : PySem.Str → Option Value} {news : List (Addr × Obj)} {i j : Int} {Q : Value → Shared → Prop}
    (hF : Fr h₀ L s.heap m) (hN : News h₀ L s.heap news) (h0 : 0 ≤ i) (h1 : i < 16) (h2 : j = i + 1)
    (h : ∀ h' t' k, Fr h₀ L h' m → News h₀ L h' news → Q (.bytes #[UInt8.ofNat (65 + i.toNat)] t') { s with heap := h', toks := k })
    (hs : subscripted slice false (.bytes APs t) (.ref s.heap.objs.size) = operate [.ref s.heap.objs.size, .bytes APs t] (getItem (.bytes APs t) (.ref s.heap.objs.size)) := by with_unfolding_all rfl)
    (ht : ∀ r, letTemporaryGo value (.bytes APs t) r = pure () := by intro _; with_unfolding_all rfl) :
    wpAny (model prog w) A (subscriptTail value slice (.bytes APs t) (.ref s.heap.objs.size)) Q E { s with heap := s.heap.push { cls := .type "slice", data := .fields #[.int i t1, .int j t2, .none] } } := by
  subst h2
  refine KBc.slice_K hF hN rfl (.int i t1) (.int (i + 1) t2) (by decide) (fun h' t' k F' N' _ => ?_) hs ht
  have e := ap_pick ⟨i.toNat, by omega⟩
  have ei : ((i.toNat : Nat) : Int) = i := by omega
  simp only at e
  rw [ei] at e
  rw [e]
  exact h h' t' k F' N'

/-- Int2AP's loop: what has been written, ahead of it what is still to come -/
def ApInv (n num : Int) (val : Array UInt8) : Prop := 0 ≤ num ∧ num < 2 ^ 100 ∧ val.size ≤ 25 ∧ apB num.toNat ++ val.toList = apB n.toNat
theorem ap_start {n k : Int} (h0 : 0 ≤ n) (h1 : n < 2 ^ 100) (e : k = n) : ApInv n k #[] := by
  subst e
  exact ⟨h0, h1, by simp, by simp⟩
theorem ap_turn {n num num' d : Int} {val val' : Array UInt8} (h1 : n < 2 ^ 100) (h : ApInv n num val) (hne : num ≠ 0) (e : num' = num.fdiv 16) (e2 : d = num.fmod 16) (e3 : val' = #[UInt8.ofNat (65 + d.toNat)] ++ val) : ApInv n num' val' := by
  obtain ⟨a, b, c, q⟩ := h
  subst e3
  have f1 : num.fdiv 16 = num / 16 := Int.fdiv_eq_ediv_of_nonneg _ (by omega)
  have f2 : num.fmod 16 = num % 16 := Int.fmod_eq_emod_of_nonneg _ (by omega)
  rw [f1] at e
  rw [f2] at e2
  have hq : apB num'.toNat ++ (#[UInt8.ofNat (65 + d.toNat)] ++ val).toList = apB n.toNat := by
    rw [← q, apB_step (n := num.toNat) (by omega), Array.toList_append]
    rw [show num.toNat / 16 = num'.toNat by omega, show num.toNat % 16 = d.toNat by omega]
    simp
  refine ⟨by omega, by omega, ?_, hq⟩
  have hl := congrArg List.length hq
  have hb := apB_len (n := n.toNat) (by omega)
  rw [List.length_append] at hl
  simp only [Array.length_toList] at hl
  omega
theorem ap_end {n num : Int} {val : Array UInt8} (h : ApInv n num val) (e : num = 0) : val = (apB n.toNat).toArray := by
  obtain ⟨a, b, c, q⟩ := h
  subst e
  rw [show ((0 : Int).toNat) = 0 from rfl, apB_zero, List.nil_append] at q
  rw [← q]
theorem ApInv.all {n num : Int} {val : Array UInt8} (h : ApInv n num val) : ApInv n num val ∧ 0 ≤ num ∧ num < 2 ^ 100 ∧ val.size ≤ 25 := ⟨h, h.1, h.2.1, h.2.2.1⟩
end Mine
namespace Mine
open PySem PySem.W PyProof.Rows PySem.Calls
theorem fm16 (x : Int) : 0 ≤ x.fmod 16 ∧ x.fmod 16 < 16 := by rw [Int.fmod_eq_emod_of_nonneg _ (by omega)]; omega
theorem ap_less {x : Int} (h0 : 0 ≤ x) (h : x ≠ 0) : (x.fdiv 16).toNat < x.toNat := by
  rw [Int.fdiv_eq_ediv_of_nonneg _ (by omega)]; omega
local macro_rules | `(tactic| walk_at "exec While Name cons nil") => `(tactic| k_extra "exec While Name cons nil")
local macro_rules | `(tactic| walk_at "subscriptTail") => `(tactic| k_extra "subscriptTail")
set_option maxHeartbeats 4000000
theorem ap_does (w : World) (news : List (Addr × Obj)) (n : Int) (t1 : Tok) (h0 : 0 ≤ n) (h1 : n < 2 ^ 100) :
    Does w 28 3 news [.int n t1] (fun t => .bytes (apB n.toNat).toArray t) := by
  dsimp only [Does]
  k_fill
  intros
  rename_i hd hu hret
  refine wpAny_call ?_
  k_dflt cell_enter
  k_with_none
  k_with "subscriptTail" => (k_here; (with_reducible show wpAny _ _ (subscriptTail _ (Expr.Slice _ _ none _) (Value.bytes _ _) (Value.ref _)) _ _ _); (with_reducible rename Fr _ _ _ _ => F'); (with_reducible rename News _ _ _ _ => N'); (refine ap_cut (s := ⟨_, _, _, _, _⟩) F' N' (fm16 _).1 (fm16 _).2 (by omega) ?_); intro _ _ _ F' N')
  k_with "exec While Name cons nil" => k_while (fun _ num val => ApInv n num val ∧ 0 ≤ num ∧ num < 2 ^ 100 ∧ val.size ≤ 25) (fun _ num _ => num.toNat) "num" "val"
  k_with "state" => first | exact (ap_start (by assumption) (by assumption) (by split <;> omega)).all | exact (ap_turn (by assumption) (by assumption) (by assumption) rfl rfl rfl).all
  k_with "measure" => exact ap_less (by assumption) (by assumption)
  k_steps
  all_goals (rename ApInv _ _ _ => hI; rename _ = (0 : Int) => hz; rw [ap_end hI hz]; exact hret _ _ _ (by k_asm) (by k_asm))
end Mine
namespace Mine
open PySem PySem.W PyProof.Rows PySem.Calls
/-- the end of a turn that binds the name y to a list of ints, an old one or a new one -/
def RbEnd (h₀ : Heap) (L : Addr) (base own : List (Addr × Obj)) (x y : Str) (stored : List Str) (m₀ : Str → Option Value) (P : List Int → List Int → Prop) (pre : List Int) (s₁ s₂ : Shared) : Prop :=
  ∃ (h' : Heap) (tk : Nat) (m' : Str → Option Value) (news' : List (Addr × Obj)) (D : Addr) (ys : List Value) (n : Nat) (c : List Int), s₂ = { s₁ with heap := h', toks := tk } ∧ Fr h₀ L h' m' ∧ News h₀ L h' news' ∧
    (D, listOf ys.toArray n) ∈ news' ∧ (∀ p ∈ base, p ∈ news') ∧ (∀ p ∈ own, p ∈ news') ∧ (∀ p ∈ own, p.1 ≠ D) ∧ m' y = some (.ref D) ∧ IntsAre ys c ∧ (∀ z, z ≠ x → z ≠ y → stored.contains z = false → m' z = m₀ z) ∧ P pre c
theorem RbEnd.intro {h₀ : Heap} {L : Addr} {base own : List (Addr × Obj)} {x y : Str} {stored : List Str} {m₀ : Str → Option Value} {P : List Int → List Int → Prop} {pre : List Int} {s₁ : Shared} {h' : Heap} {tk : Nat} {m' : Str → Option Value} {news' : List (Addr × Obj)} {D : Addr} {ys : List Value} {n : Nat} {c : List Int}
    (F : Fr h₀ L h' m') (N : News h₀ L h' news') (hD : (D, listOf ys.toArray n) ∈ news') (hb : ∀ p ∈ base, p ∈ news') (ho : ∀ p ∈ own, p ∈ news') (hne : ∀ p ∈ own, p.1 ≠ D) (hy : m' y = some (.ref D)) (hi : IntsAre ys c) (hr : ∀ z, z ≠ x → z ≠ y → stored.contains z = false → m' z = m₀ z) (hp : P pre c) :
    RbEnd h₀ L base own x y stored m₀ P pre s₁ { s₁ with heap := h', toks := tk } := ⟨h', tk, m', news', D, ys, n, c, rfl, F, N, hD, hb, ho, hne, hy, hi, hr, hp⟩
def RbPost (h₀ : Heap) (L : Addr) (base own : List (Addr × Obj)) (x y : Str) (stored : List Str) (m₀ : Str → Option Value) (P : List Int → List Int → Prop) (pre : List Int) (s₁ : Shared) (Q : Flow → Shared → Prop) (f : Flow) (s₂ : Shared) : Prop :=
  match f with
  | .ret v => Q (.ret v) s₂
  | .brk => Q .next s₂
  | _ => RbEnd h₀ L base own x y stored m₀ P pre s₁ s₂
section
variable {prog : Program} {w : World} {A : Around} {E : Value → Shared → Prop} {s : Shared} {env : Env} {h₀ : Heap} {x : Str} {body : List Stmt} {Q : Flow → Shared → Prop}
/-- a loop over a list of ints whose turns bind one name to lists of ints -/
theorem iter_rebind {l : Addr} {vs : List Value} {ns : List Int} {nn : Nat} {m₀ : Str → Option Value} {base : List (Addr × Obj)} (y : Str) (stored : List Str) (P : List Int → List Int → Prop) {D₀ : Addr} {ys₀ : List Value} {n₀ : Nat} {c₀ : List Int}
    (hyx : y ≠ x) (hh : A.handled = none) (hl : (l, listOf vs.toArray nn) ∈ base) (hi : IntsAre vs ns) (F : Fr h₀ env.locals s.heap m₀) (N : News h₀ env.locals s.heap base) (hD : (D₀, listOf ys₀.toArray n₀) ∈ base) (hy : m₀ y = some (.ref D₀)) (hc : IntsAre ys₀ c₀) (hp : P [] c₀)
    (turn : ∀ (pre : List Int) (k : Int) (post : List Int) t (D : Addr) (ys : List Value) (n : Nat) (c : List Int) (u : Str → Option Value) h tk own, ns = pre ++ k :: post → IntsAre ys c → P pre c → OwnOff own (base.map (·.1)) → (∀ p ∈ own, p.1 ≠ D) →
      Fr h₀ env.locals h (fun z => if z = x then some (.int k t) else if z = y then some (.ref D) else if stored.contains z then u z else m₀ z) → News h₀ env.locals h ((D, listOf ys.toArray n) :: (base ++ own)) →
      wpAny (model prog w) A (execs body env) (RbPost h₀ env.locals base own x y stored m₀ P (pre ++ [k]) { s with heap := h, toks := tk } Q) E { s with heap := h, toks := tk })
    (done : ∀ (D : Addr) (ys : List Value) (n : Nat) (c : List Int) (u : Str → Option Value) h tk, IntsAre ys c → P ns c → Fr h₀ env.locals h (fun z => if z = x then u z else if z = y then some (.ref D) else if stored.contains z then u z else m₀ z) → News h₀ env.locals h ((D, listOf ys.toArray n) :: base) → Q .next { s with heap := h, toks := tk }) :
    wpAny (model prog w) A (pyIter (.ref l)) (fun it s₂ => LoopAtV prog w A h₀ env x body Q E it s₂) E s := by
  have hol : s.heap.get? l = some (listOf vs.toArray nn) := (N _ hl).1
  have hls : s.heap.IsList l vs.toArray := ⟨_, hol, rfl, nn, rfl⟩
  have hne : l ≠ s.heap.objs.size := Nat.ne_of_lt (Heap.lt_size hol)
  have map_in : ∀ {m₁ : Str → Option Value} {D : Addr} {v : Option Value}, m₁ y = some (.ref D) → (∀ z, z ≠ x → z ≠ y → stored.contains z = false → m₁ z = m₀ z) → (fun z => if z = x then v else m₁ z) = fun z => if z = x then v else if z = y then some (.ref D) else if stored.contains z then m₁ z else m₀ z := by
    intro m₁ D v h1 h2
    funext z
    by_cases e1 : z = x
    · simp [e1]
    · by_cases e2 : z = y
      · subst e2; simp [e1, h1]
      · simp only [if_neg e1, if_neg e2]
        cases h3 : stored.contains z with
        | true => simp
        | false => simp only [Bool.false_eq_true, if_false]; exact h2 z e1 e2 h3
  refine wpAny_pyIter_list hls ?_
  have W := Walks.list (prog := prog) (w := w) hh s.heap.objs.size l hne vs.toArray
  have hlen : vs.toArray.size = ns.length := by simp [hi.length]
  rw [hlen] at W
  have hNp : News h₀ env.locals (s.heap.push { cls := .type "list_iterator", data := .fields #[.ref l, .int 0 0] }) base := fun p hp => ⟨Heap.get?_push_of_some _ (N p hp).1, (N p hp).2⟩
  refine ⟨_, _, _, ns.length, _, _, m₀, (D₀, listOf ys₀.toArray n₀) :: base, (fun i m nx => ∃ D ys n c, nx = (D, listOf ys.toArray n) :: base ∧ m y = some (.ref D) ∧ IntsAre ys c ∧ (∀ z, z ≠ x → z ≠ y → stored.contains z = false → m z = m₀ z) ∧ P (ns.take i) c), rfl, W, ?_, ?_, ?_,
    ⟨⟨_, Heap.get?_push_size _ rfl, rfl, rfl⟩, hls.at fun o e => Heap.get?_push_of_some _ e⟩, F.push _, ?_, ⟨D₀, ys₀, n₀, c₀, rfl, hy, hc, fun _ _ _ _ => rfl, by simpa using hp⟩, ?_, ?_⟩
  · intro hm
    rcases List.mem_cons.mp hm with e | hm
    · exact absurd F.ns.lt (e ▸ Nat.lt_irrefl _)
    · exact (N _ hl).2.1 ((List.mem_singleton.mp hm).symm)
  · intro b hb
    rw [List.mem_singleton.mp hb]
    exact next_is_new F
  · intro p hp hI
    have hp' : p ∈ base := by
      rcases List.mem_cons.mp hp with rfl | h
      · exact hD
      · exact h
    exact absurd (Heap.lt_size (N p hp').1) ((List.mem_singleton.mp hI) ▸ Nat.lt_irrefl _)
  · intro p hp
    rcases List.mem_cons.mp hp with rfl | h
    · exact hNp _ hD
    · exact hNp _ h
  · rintro i v m₁ news₁ s₁ own ⟨hh', tk', rfl⟩ hin hP ⟨D, ys, n, c, en, h1, h2, h3, h4⟩ hoff hown hget hfp hst F₁ N₁
    subst en
    have hlt' : i < ns.length := hin
    obtain ⟨t, hx⟩ := hi.get i ns[i] (by simp [hlt'])
    have hv : v = .int ns[i] t := by
      have hP' : vs[i]? = some v := by simpa using hP
      rw [hx] at hP'; exact (Option.some.inj hP').symm
    subst hv
    have hk : ns[i]? = some ns[i] := by simp [hlt']
    have hs : ns.take (i + 1) = ns.take i ++ [ns[i]] := by rw [List.take_add_one, hk]; rfl
    have e : ns = ns.take i ++ ns[i] :: ns.drop (i + 1) := by
      have ht := List.take_append_drop (i + 1) ns
      rw [hs, List.append_assoc] at ht
      exact ht.symm
    have hDI : D ≠ s.heap.objs.size := fun e => hoff _ (.head _) (List.mem_singleton.mpr e)
    have N₂ : News h₀ env.locals hh' ((D, listOf ys.toArray n) :: (base ++ own.filter fun p => decide (p.1 = s.heap.objs.size))) := fun p hp => N₁ p (by
      rcases List.mem_cons.mp hp with h | h
      · rw [h]; exact List.mem_append_right _ (.head _)
      · rcases List.mem_append.mp h with h | h
        · exact List.mem_append_right _ (.tail _ h)
        · exact List.mem_append_left _ (List.mem_filter.mp h).1)
    have hlo : hh'.get? l = some (listOf vs.toArray nn) := (N₁ _ (List.mem_append_right _ (.tail _ hl))).1
    have hsep : OwnOff (own.filter fun p => decide (p.1 = s.heap.objs.size)) (base.map (·.1)) := by
      intro p hp b hb e
      obtain ⟨q, hq, rfl⟩ := List.mem_map.mp hb
      have h1 : p.1 = s.heap.objs.size := by simpa using (List.mem_filter.mp hp).2
      exact absurd (Heap.lt_size (N q hq).1) (by rw [← e, h1]; exact Nat.lt_irrefl _)
    have hsep2 : ∀ p ∈ own.filter (fun p => decide (p.1 = s.heap.objs.size)), p.1 ≠ D := by
      intro p hp e
      have h1 : p.1 = s.heap.objs.size := by simpa using (List.mem_filter.mp hp).2
      exact hDI (e ▸ h1)
    have hI : ∃ o, (s.heap.objs.size, o) ∈ own := by
      obtain ⟨o, ho, _⟩ := hst.1
      exact ⟨o, hfp _ (.head _) (next_is_new F) o ho⟩
    rw [map_in h1 h3] at F₁
    refine wpAny_mono (turn (ns.take i) ns[i] (ns.drop (i + 1)) t D ys n c m₁ hh' tk' _ e h2 h4 hsep hsep2 F₁ N₂) (fun f s₂ p => ?_) fun _ _ e => e
    have fin : RbEnd h₀ env.locals base (own.filter fun p => decide (p.1 = s.heap.objs.size)) x y stored m₀ P (ns.take i ++ [ns[i]]) { s with heap := hh', toks := tk' } s₂ →
        LoopStepU h₀ env.locals [s.heap.objs.size] own (fun m nx => ∃ D ys n c, nx = (D, listOf ys.toArray n) :: base ∧ m y = some (.ref D) ∧ IntsAre ys c ∧ (∀ z, z ≠ x → z ≠ y → stored.contains z = false → m z = m₀ z) ∧ P (ns.take (i + 1)) c) { s with heap := hh', toks := tk' } .next s₂ := by
      rintro ⟨h', tk, m', news', D', ys', n', c', e, F', N', q1, q2, q3, q4, q5, q6, q7, q8⟩
      refine ⟨rfl, h', tk, m', (D', listOf ys'.toArray n') :: base, e, F', fun p hp => ?_, fun p hp hpI => ?_, D', ys', n', c', rfl, q5, q6, q7, by rw [hs]; exact q8⟩
      · rcases List.mem_append.mp hp with h | h
        · by_cases hI : p.1 = s.heap.objs.size
          · exact N' p (q3 p (List.mem_filter.mpr ⟨h, by simpa using hI⟩))
          · have h1 : p.1 = l := by
              rcases List.mem_cons.mp (hown p h) with h2 | h2
              · exact absurd h2 hI
              · exact List.mem_singleton.mp h2
            have h2 : hh'.get? p.1 = some p.2 := hget p h
            rw [h1, hlo] at h2
            have h3 : p = (l, listOf vs.toArray nn) := Prod.ext h1 (Option.some.inj h2).symm
            rw [h3]
            exact N' _ (q2 _ hl)
        · rcases List.mem_cons.mp h with h | h
          · rw [h]; exact N' _ q1
          · exact N' _ (q2 _ h)
      · have hpI' := List.mem_singleton.mp hpI
        rcases List.mem_cons.mp hp with h | h
        · obtain ⟨o, ho⟩ := hI
          refine q4 (s.heap.objs.size, o) (List.mem_filter.mpr ⟨ho, by simp⟩) ?_
          rw [h] at hpI'
          exact hpI'.symm
        · exact absurd (Heap.lt_size (N p h).1) (by rw [hpI']; exact Nat.lt_irrefl _)
    cases f with
    | ret v => exact .ret p
    | brk => exact .brk p
    | next => exact .next (fin p)
    | cont => exact .cont (fin p)
  · rintro h' tk m' news' F' N' _ ⟨D, ys, n, c, en, h1, h2, h3, h4⟩
    subst en
    rw [List.take_length] at h4
    refine done D ys n c m' h' tk h2 h4 ?_ N'
    have e : (fun z => if z = x then m' z else if z = y then some (.ref D) else if stored.contains z then m' z else m₀ z) = m' := by
      funext z
      by_cases e1 : z = x
      · simp [e1]
      · by_cases e2 : z = y
        · subst e2; simp [e1, h1]
        · simp only [if_neg e1, if_neg e2]
          cases h5 : stored.contains z with
          | true => simp
          | false => simp only [Bool.false_eq_true, if_false]; exact (h3 z e1 e2 h5).symm
    rw [e]
    exact F'
end
end Mine
namespace Mine
open PySem PySem.W PyProof.Rows PySem.Calls
/-- as Does, but the call is given lists and hands back what lies in new objects -/
abbrev DoesO (w : World) (f : Addr) (k : Nat) (news : List (Addr × Obj)) (arg : Heap → Prop) (vs : List Value) (R : Value → List (Addr × Obj) → Prop) : Prop :=
  ∀ (p : Program) (loose : List Str) (mean : ExcName → Option Value) (mg mb : Str → Option Value) (dp un : Nat) (gd : Option (List Code)) (cn : Str) (cs : Scope) (a : Addr) (ccd : Value) (cl : List (Str × Addr)) (outer : List Env) (A₀ : Around) (base h₀ : Heap) (L : Addr) (m : Str → Option Value) (s : Shared) (Q E : Value → Shared → Prop),
    Below A₀ base outer h₀ → Fr h₀ L s.heap m → (KF w.params).In h₀ → News h₀ L s.heap news → Top p loose mean mg mb h₀ → cs.kind = .function → arg base → dp + k < recursionLimit → un + 8 * k < cLine →
    (∀ (v : Value) (more : List (Addr × Obj)) (h' : Heap) (tk' : Nat), R v more → Fr h₀ L h' m → News h₀ L h' (more ++ news) → Q v { s with heap := h', toks := tk' }) →
    wpAny (model (OpenLaw.prog PySem.Challenge.rw_wo0057_01) w) (ktrTop dp un gd cn cs L a ccd cl outer) (call (.ref f) vs) Q E s
/-- the call hands back a new list of the numbers ns -/
def RI (ns : List Int) (v : Value) (more : List (Addr × Obj)) : Prop := ∃ (D : Addr) (ys : List Value) (n : Nat), v = .ref D ∧ more = [(D, listOf ys.toArray n)] ∧ IntsAre ys ns
theorem ret_ints {h₀ h' : Heap} {L : Addr} {m : Str → Option Value} {news rest : List (Addr × Obj)} {s : Shared} {Q : Value → Shared → Prop} {ns : List Int} {D : Addr} {ys : List Value} {n tk : Nat}
    (hret : ∀ (v : Value) (more : List (Addr × Obj)) (h' : Heap) (tk' : Nat), RI ns v more → Fr h₀ L h' m → News h₀ L h' (more ++ news) → Q v { s with heap := h', toks := tk' })
    (F : Fr h₀ L h' m) (N : News h₀ L h' ((D, listOf ys.toArray n) :: rest)) (hs : ∀ p ∈ news, p ∈ rest) (hi : IntsAre ys ns) : Q (.ref D) { s with heap := h', toks := tk } :=
  hret _ _ _ _ ⟨D, ys, n, rfl, rfl, hi⟩ F fun p hp => N p (by
    rcases List.mem_append.mp hp with h | h
    · exact List.mem_cons.mpr (.inl (List.mem_singleton.mp h))
    · exact List.mem_cons_of_mem _ (hs p h))
/-- the five numbers -/
def fiveL (ns : List Int) : List Int := List.map (fun a : Int => a.fmod 1000000) (List.filter (fun _ => true) (List.take 5 ns)) ++ List.drop ((List.take 5 ns).length : Int).toNat [14, 9, 15, 6, 1]
theorem five_len (ns : List Int) : (fiveL ns).length = 5 := by
  have : (List.filter (fun _ : Int => true) (List.take 5 ns)) = List.take 5 ns := List.filter_eq_self.mpr (fun _ _ => rfl)
  unfold fiveL
  rw [this, List.length_append, List.length_map, List.length_drop, List.length_take]
  simp only [List.length_cons, List.length_nil]
  omega
theorem cat_room (ns : List Int) : (List.map (fun a : Int => a.fmod 1000000) (List.filter (fun _ => true) (List.take 5 ns))).length + (List.drop ((List.take 5 ns).length : Int).toNat [(14 : Int), 9, 15, 6, 1]).length ≤ sizeLine := by
  have := five_len ns
  unfold fiveL at this
  rw [List.length_append] at this
  rw [this]
  exact Nat.le_of_ble_eq_true rfl
/-- one number more -/
def stepP (c : List Int) (x : Int) : List Int :=
  if (if (x.fdiv 8).fmod 3 = 1 then c ++ [x.fmod 8] ++ c else if (x.fdiv 8).fmod 3 = 2 then c ++ [x.fmod 8] ++ (c ++ [x.fmod 8]) else c ++ [x.fmod 8]).length < 8 then (if (x.fdiv 8).fmod 3 = 1 then c ++ [x.fmod 8] ++ c else if (x.fdiv 8).fmod 3 = 2 then c ++ [x.fmod 8] ++ (c ++ [x.fmod 8]) else c ++ [x.fmod 8]) else c
def pieces (xs : List Int) : List Int := xs.foldl stepP []
def PcP (pre c : List Int) : Prop := c = pieces pre ∧ c.length ≤ 7
theorem allLt_own {d : Addr} {own : List (Addr × Obj)} : ∀ {l : List (Addr × Obj)}, AllLt d (l ++ own) → ∀ p ∈ own, p.1 ≠ d
  | [], h => by
    intro p hp
    have key : ∀ {l : List (Addr × Obj)}, AllLt d l → ∀ p ∈ l, p.1 < d := by
      intro l
      induction l with
      | nil => intro _ p hp; cases hp
      | cons a r ih =>
        intro h p hp
        rcases List.mem_cons.mp hp with rfl | hp
        · exact h.1
        · exact ih h.2 p hp
    exact Nat.ne_of_lt (key h p hp)
  | _ :: _, h => allLt_own h.2
section
variable {pre c : List Int} {k : Int}
theorem pieces_snoc : pieces (pre ++ [k]) = stepP (pieces pre) k := by unfold pieces; rw [List.foldl_append]; rfl
theorem pc_new1 (hc : c = pieces pre) (h1 : (k.fdiv 8).fmod 3 = 1) (h : ((c.length + 1 + c.length : Nat) : Int) < 8) : PcP (pre ++ [k]) (c ++ [k.fmod 8] ++ c) := by
  have hl : (c ++ [k.fmod 8] ++ c).length = c.length + 1 + c.length := by simp only [List.length_append, List.length_cons, List.length_nil]
  refine ⟨?_, by omega⟩
  rw [pieces_snoc, ← hc]
  unfold stepP
  simp only [if_pos h1]
  rw [if_pos (by omega)]
theorem pc_old1 (hc : c = pieces pre) (h7 : c.length ≤ 7) (h1 : (k.fdiv 8).fmod 3 = 1) (h : ¬ ((c.length + 1 + c.length : Nat) : Int) < 8) : PcP (pre ++ [k]) c := by
  have hl : (c ++ [k.fmod 8] ++ c).length = c.length + 1 + c.length := by simp only [List.length_append, List.length_cons, List.length_nil]
  refine ⟨?_, h7⟩
  rw [pieces_snoc, ← hc]
  unfold stepP
  simp only [if_pos h1]
  rw [if_neg (by omega)]
theorem pc_new2 (hc : c = pieces pre) (h0 : (k.fdiv 8).fmod 3 = 2) (h : ((c.length + 1 + (c.length + 1) : Nat) : Int) < 8) : PcP (pre ++ [k]) (c ++ [k.fmod 8] ++ (c ++ [k.fmod 8])) := by
  have h1 : ¬ (k.fdiv 8).fmod 3 = 1 := by omega
  have hl : (c ++ [k.fmod 8] ++ (c ++ [k.fmod 8])).length = c.length + 1 + (c.length + 1) := by simp only [List.length_append, List.length_cons, List.length_nil]
  refine ⟨?_, by omega⟩
  rw [pieces_snoc, ← hc]
  unfold stepP
  simp only [if_neg h1, if_pos h0]
  rw [if_pos (by omega)]
theorem pc_old2 (hc : c = pieces pre) (h7 : c.length ≤ 7) (h0 : (k.fdiv 8).fmod 3 = 2) (h : ¬ ((c.length + 1 + (c.length + 1) : Nat) : Int) < 8) : PcP (pre ++ [k]) c := by
  have h1 : ¬ (k.fdiv 8).fmod 3 = 1 := by omega
  have hl : (c ++ [k.fmod 8] ++ (c ++ [k.fmod 8])).length = c.length + 1 + (c.length + 1) := by simp only [List.length_append, List.length_cons, List.length_nil]
  refine ⟨?_, h7⟩
  rw [pieces_snoc, ← hc]
  unfold stepP
  simp only [if_neg h1, if_pos h0]
  rw [if_neg (by omega)]
theorem pc_new0 (hc : c = pieces pre) (h1 : (k.fdiv 8).fmod 3 ≠ 1) (h0 : (k.fdiv 8).fmod 3 ≠ 2) (h : ((c.length + 1 : Nat) : Int) < 8) : PcP (pre ++ [k]) (c ++ [k.fmod 8]) := by
  have hl : (c ++ [k.fmod 8]).length = c.length + 1 := by simp only [List.length_append, List.length_cons, List.length_nil]
  refine ⟨?_, by omega⟩
  rw [pieces_snoc, ← hc]
  unfold stepP
  simp only [if_neg h1, if_neg h0]
  rw [if_pos (by omega)]
theorem pc_old0 (hc : c = pieces pre) (h7 : c.length ≤ 7) (h1 : (k.fdiv 8).fmod 3 ≠ 1) (h0 : (k.fdiv 8).fmod 3 ≠ 2) (h : ¬ ((c.length + 1 : Nat) : Int) < 8) : PcP (pre ++ [k]) c := by
  have hl : (c ++ [k.fmod 8]).length = c.length + 1 := by simp only [List.length_append, List.length_cons, List.length_nil]
  refine ⟨?_, h7⟩
  rw [pieces_snoc, ← hc]
  unfold stepP
  simp only [if_neg h1, if_neg h0]
  rw [if_neg (by omega)]
end
theorem five_eq (ns : List Int) : List.map (fun a : Int => a.fmod 1000000) (List.take 5 ns) ++ List.drop ((List.take 5 ns).length : Int).toNat [14, 9, 15, 6, 1] = fiveL ns := by
  unfold fiveL
  rw [List.filter_eq_self.mpr (fun _ _ => rfl)]
local macro_rules | `(tactic| walk_at "subscriptTail Name Slice ref ref") => `(tactic| k_extra "subscriptTail Name Slice ref ref")
local macro_rules | `(tactic| walk_at "binaryOp Add ref ref") => `(tactic| k_extra "binaryOp Add ref ref")
local macro_rules | `(tactic| walk_at "exec For Name BinOp cons nil") => `(tactic| k_extra "exec For Name BinOp cons nil")
local macro_rules | `(tactic| walk_at "RbPost") => `(tactic| k_extra "RbPost")
set_option maxHeartbeats 4000000
theorem pieces_does (w : World) (news : List (Addr × Obj)) (l : Addr) (ws : List Value) (ns : List Int) :
    DoesO w 128 3 news (fun h => h.IsList l ws.toArray ∧ IntsAre ws ns ∧ ns.length ≤ 63) [.ref l] (RI (pieces (fiveL ns))) := by
  dsimp only [DoesO]
  k_fill
  intros
  rename_i hL hd hu hret
  obtain ⟨hL, hI, h63⟩ := hL
  refine wpAny_call ?_
  k_dflt cell_enter
  k_with_none
  k_with "subscriptTail Name Slice ref ref" => (k_here; (with_reducible show wpAny _ _ (subscriptTail _ (PySem.Expr.Slice none (some _) none _) (Value.ref _) (Value.ref _)) _ _ _); k_dflt (refine' kmk_slice_ints ?zzF ?zzN ?zzl ?zzp ?zzq ?zzi ?zzm ?zzc ?_ ?zzs ?zzt ?zzz; (case zzF => k_asm); (case zzN => k_asm); (case zzl => exact Fr.lst (by k_asm) (by k_asm)); (case zzp => exact IsPart.none); (case zzq => exact IsPart.int _ _); (case zzi => assumption); (case zzm => exact kmk_upto (by assumption) (by decide)); (case zzc => exact List.length_take ..); (case zzs => with_unfolding_all rfl); (case zzt => kmk_pure); (case zzz => exact kmk_sz (by assumption) (by rw [PySem.sizeLine_eq]; omega))); intro D' ws' h' F' N' l1 hI' hC' hL'; (try simp only [Int.reduceNeg, Int.neg_neg, Int.reduceToNat] at hI' hC' hL'); (try k_lt l1))
  k_with "subscriptTail Name Slice ref ref" => (k_here; (with_reducible show wpAny _ _ (subscriptTail _ (PySem.Expr.Slice (some _) none none _) (Value.ref _) (Value.ref _)) _ _ _); k_dflt (refine' kmk_slice_ints (ns := [14, 9, 15, 6, 1]) ?zzF ?zzN ?zzl ?zzp ?zzq ?zzi ?zzm ?zzc ?_ ?zzs ?zzt ?zzz; (case zzF => k_asm); (case zzN => k_asm); (case zzl => exact News.isList (by k_asm) (by k_mem)); (case zzp => exact IsPart.int _ _); (case zzq => exact IsPart.none); (case zzi => repeat constructor); (case zzm => exact kmk_from (by repeat constructor) (by omega)); (case zzc => exact List.length_drop ..); (case zzs => with_unfolding_all rfl); (case zzt => kmk_pure); (case zzz => exact Nat.le_of_ble_eq_true rfl)); intro D' ws' h' F' N' l1 hI' hC' hL'; (try k_lt l1))
  k_with "binaryOp Add ref ref" => (k_here; (with_reducible show wpAny _ _ (binaryOp _ (Value.ref _) (Value.ref _)) _ _ _); k_dflt (refine' kmk_add_ints ?zzF ?zzN ?zza ?zzb ?zzi ?zzj ?_ ?zzz; (case zzF => k_asm); (case zzN => k_asm); (case zza => kmk_list); (case zzb => kmk_list); (case zzi => l_ints); (case zzj => l_ints); (case zzz => first | exact cat_room _ | (simp only [List.length_append, List.length_cons, List.length_nil, PySem.sizeLine_eq]; omega))); intro D' ws' h' F' N' l1 hI'; (try k_lt l1); (try k_sweep))
  k_with "exec For Name BinOp cons nil" => (k_here; (rename Fr _ _ _ _ => lF'); (with_unfolding_all refine' For_invVF lF' ?zzk1 ?zzk2 ?_; (case zzk1 => exact rfl); (case zzk2 => exact rfl); k_whole))
  k_with "RbPost" => (show RbEnd _ _ _ _ _ _ _ _ _ _ _ _)
  k_with "pyIter ref" => ((with_reducible show wpAny _ _ (pyIter (Value.ref _)) (fun it s₂ => LoopAtV _ _ _ _ _ _ _ _ _ it s₂) _ _); (rename Fr _ _ _ _ => lF); (rename News _ _ _ _ => lN); (rename IntsAre _ _ => lI); (with_unfolding_all refine' iter_rebind (Str.ofString "pieces") [Str.ofString "grown"] PcP ?hyx ?hh ?hl lI lF lN ?hD ?hy ?hc ?hp ?kt ?kd); (case hyx => decide); (case hh => rfl); (case hl => k_mem); (case hy => rfl); (case hD => k_mem); (case hc => exact IntsAre.nil); (case hp => exact ⟨rfl, Nat.zero_le _⟩); (case' kt => (intro preO kC postO tC D0 ys0 n0 c0 uO hO tkO ownO heq hcI hPP hoff hneD FO NO; obtain ⟨hcP, h7⟩ := hPP)); (case' kd => (intro D0 ys0 n0 c0 uO hO tkO hcI hPP FO NO; obtain ⟨hcP, h7⟩ := hPP)); (all_goals (try clear lF lN)))
  k_steps
  all_goals first
    | (exfalso; omega)
    | (rename News _ _ _ _ => kN; exact ret_ints hret (by k_asm) kN (by intro p hp; repeat (first | exact hp | apply List.mem_cons_of_mem)) (by rw [← five_eq, ← hcP]; exact hcI))
    | ((rename News _ _ _ _ => kN; rename (_ ∧ _) => hl9; refine RbEnd.intro (by assumption) kN (List.Mem.head _) ?hb ?ho ?hne rfl (by assumption) ?hr ?hp); (case hp => first | exact pc_new1 hcP (by assumption) (by assumption) | exact pc_new2 hcP (by assumption) (by assumption) | exact pc_new0 hcP (by assumption) (by assumption) (by assumption)); (case hb => (intro p hp; repeat (first | exact List.mem_append_left _ hp | apply List.mem_cons_of_mem))); (case ho => (intro p hp; repeat (first | exact List.mem_append_right _ hp | apply List.mem_cons_of_mem))); (case hne => first | exact allLt_own hl9.2 | exact allLt_own hl9.2.2 | exact allLt_own hl9.2.2.2 | exact allLt_own hl9.2.2.2.2 | exact allLt_own hl9.2.2.2.2.2); (case hr => (intro z h1 h2 h3; (simp only [List.contains_cons, List.contains_nil, Bool.or_false, beq_eq_false_iff_ne, ne_eq] at h3); simp [h1, h2, h3])))
    | ((rename News _ _ _ _ => kN; refine RbEnd.intro (by assumption) kN (D := D0) (by k_mem) ?hb ?ho hneD rfl hcI ?hr ?hp); (case hp => first | exact pc_old1 hcP h7 (by assumption) (by assumption) | exact pc_old2 hcP h7 (by assumption) (by assumption) | exact pc_old0 hcP h7 (by assumption) (by assumption) (by assumption)); (case hb => (intro p hp; repeat (first | exact List.mem_append_left _ hp | apply List.mem_cons_of_mem))); (case ho => (intro p hp; repeat (first | exact List.mem_append_right _ hp | apply List.mem_cons_of_mem))); (case hr => (intro z h1 h2 h3; (simp only [List.contains_cons, List.contains_nil, Bool.or_false, beq_eq_false_iff_ne, ne_eq] at h3); simp [h1, h2, h3])))
end Mine
namespace Mine
open PySem PySem.W PyProof.Rows PySem.Calls
def numF (ks : List Int) : Int := ks.foldl (fun n k => n * 16 + k) 0
theorem numF_snoc (ks : List Int) (k : Int) : numF (ks ++ [k]) = numF ks * 16 + k := by unfold numF; rw [List.foldl_append]; rfl
def Fgs (ks : List Int) : Prop := ∀ k ∈ ks, 0 ≤ k ∧ k < 16
theorem numF_bd : ∀ (n : Nat) (ks : List Int), ks.length = n → Fgs ks → 0 ≤ numF ks ∧ numF ks < 16 ^ n := by
  intro n
  induction n with
  | zero =>
    intro ks h _
    rw [List.length_eq_zero_iff.mp h]
    show (0 : Int) ≤ 0 ∧ (0 : Int) < 16 ^ 0
    decide
  | succ n ih =>
    intro ks h hf
    obtain ⟨t, c, rfl⟩ : ∃ t c, ks = t ++ [c] := ⟨ks.dropLast, ks.getLast (by intro e; rw [e] at h; cases h), (List.dropLast_concat_getLast _).symm⟩
    have h1 := ih t (by simp at h; exact h) fun d hd => hf d (List.mem_append_left _ hd)
    have h2 := hf c (List.mem_append_right _ (List.mem_singleton.mpr rfl))
    rw [numF_snoc, Int.pow_succ]
    omega
def NmP (pre : List Int) (n : Int) : Prop := n = numF pre ∧ 0 ≤ n ∧ n < 19342813113834066795298816
theorem nmp_start : NmP [] 0 := ⟨rfl, by decide, by decide⟩
theorem pow16 : ∀ n : Fin 22, (16 : Int) ^ n.val ≤ 16 ^ 21 := by decide
/-- the end of a turn that stores one int name -/
theorem kst_end1 {h₀ : Heap} {L : Addr} {x y : Str} {stored : List Str} {m₀ m' : Str → Option Value} {P : List Int → Int × Tok → Prop} {pre : List Int} {n : Int} {t : Tok} {own news news' : List (Addr × Obj)} {s₁ : Shared} {h' : Heap} {tk : Nat}
    (F : Fr h₀ L h' m') (N : News h₀ L h' news') (hn : ∀ p ∈ news, p ∈ news') (ho : ∀ p ∈ own, p ∈ news') (hy : m' y = some (.int n t)) (hr : ∀ z, z ≠ x → z ≠ y → stored.contains z = false → m' z = m₀ z) (hp : P pre (n, t)) :
    InvEndN h₀ L (KstS (fun _ => news) (fun c : Int × Tok => [(y, Value.int c.1 c.2)]) (fun _ => True) x stored m₀ P pre) own (news.map (·.1)) s₁ { s₁ with heap := h', toks := tk } :=
  kst_end (σ := Int × Tok) (n, t) F N hn ho rfl True.intro (fun p hp => by rw [List.mem_singleton.mp hp]; exact hy) (fun z h1 h2 h3 => hr z h1 (h2 _ (List.mem_singleton.mpr rfl)) h3) hp
theorem nmp_turn {ks pre post : List Int} {k n n' : Int} (hl : ks.length ≤ 21) (hf : Fgs ks) (e : ks = pre ++ k :: post) (h : n = numF pre) (h2 : n' = n * 16 + k) : NmP (pre ++ [k]) n' := by
  have h1 : n' = numF (pre ++ [k]) := by rw [numF_snoc, ← h]; exact h2
  have hlen : (pre ++ [k]).length ≤ 21 := by
    rw [e] at hl
    simp only [List.length_append, List.length_cons, List.length_nil] at hl ⊢
    omega
  have hf2 : Fgs (pre ++ [k]) := fun d hd => hf d (by
    rw [e]
    rcases List.mem_append.mp hd with h | h
    · exact List.mem_append_left _ h
    · exact List.mem_append_right _ (List.mem_cons.mpr (.inl (List.mem_singleton.mp h))))
  have hb := numF_bd _ _ rfl hf2
  rw [← h1] at hb
  have hp : (16 : Int) ^ (pre ++ [k]).length ≤ 16 ^ 21 := pow16 ⟨_, Nat.lt_succ_of_le hlen⟩
  have : (16 : Int) ^ 21 = 19342813113834066795298816 := by decide
  exact ⟨h1, hb.1, by omega⟩
local macro_rules | `(tactic| walk_at "call ref") => `(tactic| k_extra "call ref")
set_option maxHeartbeats 4000000
theorem number_does (w : World) (news : List (Addr × Obj)) (D : Addr) (ys : List Value) (nn : Nat) (ks : List Int) (hm : (D, listOf ys.toArray nn) ∈ news) (hints : IntsAre ys ks) (hf : Fgs ks) (hl : ks.length ≤ 21) :
    Does w 135 9 news [.ref D] (fun t => .int (numF ks) t) := by
  dsimp only [Does]
  k_fill
  intros
  rename_i hd hu hret
  refine wpAny_call ?_
  k_dflt cell_enter
  k_with_none
  k_with "call ref" => (k_here; k_dflt (refine wpAny_call ?_; (refine' code_def ?zzk1 ?zzk2 ?zzk3 ?zzk4 ?zzk5 ?zzkA ?zzkF ?zzkK ?zzk6 ?zzk7 ?zzk8 ?zzk9 ?zzkB ?_ ?zzc2 ?zzc3 ?zzc4 ?zzc5; (case zzkA => exact rfl); (case zzkF => exact rfl); (case zzkK => first | exact rfl | assumption); (case zzk1 => k_asm); (case zzk2 => k_asm); (case zzk3 => k_asm); (case zzk4 => k_asm); (case zzk5 => k_asm); (case zzk6 => k_is); (case zzk7 => k_is); (case zzk8 => ktr_room); (case zzk9 => exact BindsTo.of_eq rfl); (case zzc5 => decide); (case zzkB => exact locs rfl); (case zzc2 => exact rfl); (case zzc3 => exact rfl); (case zzc4 => exact rfl); k_whole; intro g' L' h' FG' F' N' B' X' T'; (try dsimp only); (try k_fold))))
  k_with "pyIter ref" => ((with_reducible show wpAny _ _ (pyIter (Value.ref _)) (fun it s₂ => LoopAtV _ _ _ _ _ _ _ _ _ it s₂) _ _); (rename Fr _ _ _ _ => lF); (rename News _ _ _ _ => lN); (rename IntsAre _ _ => lI); (with_unfolding_all refine' kst_listL (σ := Int × Tok) (fun _ => news) (fun c => [(Str.ofString "number", Value.int c.1 c.2)]) (fun _ => True) [] (fun pre c => NmP pre c.1) (0, _) (by rfl) (fun _ => hm) lI lF lN True.intro ?hk ?hp ?kt ?kd); (case hk => (intro p hp; rw [List.mem_singleton.mp hp]; rfl)); (case hp => exact nmp_start); (case' kt => (intro cC preC postC kC tC uO hO tkO ownO heq hmem hoff _ hPP FO NO; obtain ⟨nC, tnC⟩ := cC; obtain ⟨hnP, hn0, hn1⟩ := hPP; dsimp only [kstB] at FO)); (case' kd => (intro cC uO hO tkO _ hPP FO NO; obtain ⟨nC, tnC⟩ := cC; obtain ⟨hnP, hn0, hn1⟩ := hPP; dsimp only [kstB] at FO)); (all_goals (try clear lF lN)))
  k_steps
  all_goals first
    | (rw [← hnP] at hret; exact hret _ _ _ (by k_asm) (by k_asm))
    | ((rename News _ _ _ _ => nE'); refine kst_end1 (by assumption) nE' ?g1 ?g2 rfl ?g4 ?g5; (case g1 => exact fun p hp => List.mem_append_left _ hp); (case g2 => exact fun p hp => List.mem_append_right _ hp); (case g4 => kst_same); (case g5 => exact nmp_turn hl hf heq hnP rfl))
end Mine
namespace Mine
open PySem PySem.W PyProof.Rows PySem.Calls
section
variable {prog : Program} {w : World} {A : Around} {E : Value → Shared → Prop} {s : Shared} {h₀ : Heap} {L : Addr} {m : Str → Option Value} {env : Env}
/-- a comprehension's source is bytes -/
def SrcB (prog : Program) (w : World) (A : Around) (h₀ : Heap) (L : Addr) (m : Str → Option Value) (env : Env) (elt : Expr) (x : Str) (scope : Scope) (cl : List (Str × Addr)) (Fin : Shared → List Value → List (Addr × Obj) → Prop) (xv : Value) (s₁ : Shared) : Prop :=
  ∃ b t news, xv = .bytes b t ∧ A.handled = none ∧ Fr h₀ L s₁.heap m ∧ News h₀ L s₁.heap news ∧ b.size ≤ sizeLine ∧
    ∀ s₂ : Shared, (∃ h, s₂ = { s₁ with heap := h }) → LCg.CompRest prog w A h₀ L m env elt x scope cl s₂ (fun _ => True) (fun i v => ∃ c u, b[i]? = some c ∧ v = .int (c.toNat : Int) u) (Fin s₂) b.size 0 [] news
theorem SrcB.intro {elt : Expr} {x : Str} {scope : Scope} {cl : List (Str × Addr)} {Fin : Shared → List Value → List (Addr × Obj) → Prop} {b : Array UInt8} {t : Tok} {news : List (Addr × Obj)} {s₁ : Shared}
    (hh : A.handled = none) (F : Fr h₀ L s₁.heap m) (N : News h₀ L s₁.heap news) (hsz : b.size ≤ sizeLine)
    (h : ∀ g, LCg.CompRest prog w A h₀ L m env elt x scope cl { s₁ with heap := g } (fun _ => True) (fun i v => ∃ c u, b[i]? = some c ∧ v = .int (c.toNat : Int) u) (Fin { s₁ with heap := g }) b.size 0 [] news) :
    SrcB prog w A h₀ L m env elt x scope cl Fin (.bytes b t) s₁ := ⟨b, t, news, rfl, hh, F, N, hsz, fun _ ⟨g, e⟩ => e ▸ h g⟩
theorem ListComp_B {elt iter : Expr} {x : Str} {px : Pos} {scope : Scope} {cl : List (Str × Addr)} {pos : Pos} {Q : Value → Shared → Prop} (F₀ : Fr h₀ L s.heap m)
    (hclos : closureFor scope env = pure cl) (hcell : ∀ y ∈ scope.names, y.2 ≠ .cell) (hkind : scope.kind = .function)
    (hnames : ∀ y ∈ scope.names, y.2 = .local → scope.names.lookup y.1 = some .local) (hx : scope.names.lookup x = some .local)
    (h : wpAny (model prog w) A (eval iter env) (SrcB prog w A h₀ L m env elt x scope cl (fun s₂ => LCg.FinE h₀ L m s₂ Q)) E s)
    (hs : ∀ x, foldedSetIterable iter env x = pure x := by intro _; rfl) :
    wpAny (model prog w) A (eval (.ListComp elt [⟨.Name x px, iter, [], 0⟩] scope pos) env) Q E s := by
  rw [eval_ListComp]
  refine wpAny_comprehension_free (use := none) rfl hs hclos hkind hnames (wpAny_mono h (fun xv s₁ h₁ => ?_) fun _ _ e => e)
  obtain ⟨b, t, news, rfl, hh, F, N, hsz, R⟩ := h₁
  refine KBw.pyIter_bytes ?_
  refine LCg.block_U (KBw.walks (prog := prog) (w := w) hh s₁.heap.objs.size b t) hsz (fun i h st => by obtain ⟨o, e, _⟩ := st; exact ⟨o, e⟩)
    (fun i h h' o nw st e e' _ _ _ => by obtain ⟨o', q, r⟩ := st; rw [e] at q; cases q; exact ⟨o, e', r⟩) hcell hkind hx ⟨_, Heap.get?_push_size _ rfl, rfl, rfl⟩ (fun b hb => ?_)
    (F.keeps fun _ _ e => Heap.get?_push_of_some _ e) (N.grown fun _ _ e => Heap.get?_push_of_some _ e) (Nat.ne_of_lt F.ns.lt) (next_is_new F) (fun p hp => Nat.ne_of_lt (Heap.lt_size (N p hp).1)) trivial (R _ ⟨_, rfl⟩) ?_
  · rw [List.mem_singleton.mp hb]
    show s₁.heap.objs.size < (s₁.heap.push _).objs.size
    rw [Heap.size_push]; exact Nat.lt_succ_self _
  · intro D C h tk m' ys news' F' N' o1 hn hC₀ hD₀ hCL hDL hCD offC fin
    refine ⟨m', hn, fun h'' hs'' => fin D h'' tk (F'.change hs'' hCL hC₀) (fun p hp => ?_) o1⟩
    refine ⟨hs''.extBut _ _ ?_ (N' p hp).1, (N' p hp).2⟩
    rcases List.mem_cons.mp hp with rfl | hp
    · exact Ne.symm hCD
    · exact offC p hp
variable {elt : Expr} {x : Str} {scope : Scope} {cl : List (Str × Addr)} {S : List (Addr × Obj) → Prop} {Fin : List Value → List (Addr × Obj) → Prop} {news : List (Addr × Obj)}
/-- texts made of the bytes -/
theorem kct_bytes {b : Array UInt8} (g : Int → PySem.Str)
    (turn : ∀ k t I oI C oC D m₂ ys h tk (E' : Value → Shared → Prop), k ∈ KBw.bInts b → 0 ≤ k → k < 256 → LCg.NsObj oC m₂ → m₂ x = some (.int k t) → Fr h₀ L h m → News h₀ L h ((I, oI) :: (C, oC) :: (D, LCg.lst ys) :: news) → LCg.Off3 I C D news → ((@Ne Nat I C) ∧ (@Ne Nat I D) ∧ (@Ne Nat C D)) → KPfMark →
      wpAny (model prog w) A (eval elt (compEnvC scope cl C env)) (LCg.CompEnd h₀ L m { s with heap := h, toks := tk } I oI C oC D (LCg.lst ys) S (fun y news' => KCtEl news (g k) y news')) E' { s with heap := h, toks := tk })
    (fin : KPfDone (∀ ys, CarriedAll ys ((KBw.bInts b).map fun k => PyData.str (g k)) → (KBw.bInts b).length = b.size → Fin ys news)) : LCg.CompRest prog w A h₀ L m env elt x scope cl s S (fun i v => ∃ c u, b[i]? = some c ∧ v = .int (c.toNat : Int) u) Fin b.size 0 [] news :=
  kct_rest (ks := KBw.bInts b) g (KBw.ints_length b) (fun i v _ hv => by
    obtain ⟨c, u, hc, e⟩ := hv
    exact ⟨_, u, KBw.ints_get hc, e⟩) (fun k t I oI C oC D m₂ ys h tk E' hk hC hx F N off ne mk => turn k t I oI C oC D m₂ ys h tk E' hk (KBw.ints_in hk).1 (KBw.ints_in hk).2 hC hx F N off ne mk) fin
end
end Mine
namespace Mine
open PySem PySem.W PyProof.Rows PySem.Calls
section
variable {prog : Program} {w : World} {A : Around} {E : Value → Shared → Prop} {s : Shared} {h₀ : Heap} {L : Addr} {m : Str → Option Value} {env : Env}
/-- a comprehension's source is a text -/
def SrcS (prog : Program) (w : World) (A : Around) (h₀ : Heap) (L : Addr) (m : Str → Option Value) (env : Env) (elt : Expr) (x : Str) (scope : Scope) (cl : List (Str × Addr)) (Fin : Shared → List Value → List (Addr × Obj) → Prop) (xv : Value) (s₁ : Shared) : Prop :=
  ∃ b t news, xv = .str b t ∧ A.handled = none ∧ Fr h₀ L s₁.heap m ∧ News h₀ L s₁.heap news ∧ b.cps.size ≤ sizeLine ∧
    ∀ s₂ : Shared, (∃ h, s₂ = { s₁ with heap := h }) → LCg.CompRest prog w A h₀ L m env elt x scope cl s₂ (fun _ => True) (SignAt b) (Fin s₂) b.cps.size 0 [] news
theorem SrcS.intro {elt : Expr} {x : Str} {scope : Scope} {cl : List (Str × Addr)} {Fin : Shared → List Value → List (Addr × Obj) → Prop} {b : Str} {t : Tok} {news : List (Addr × Obj)} {s₁ : Shared}
    (hh : A.handled = none) (F : Fr h₀ L s₁.heap m) (N : News h₀ L s₁.heap news) (hsz : b.cps.size ≤ sizeLine)
    (h : ∀ g, LCg.CompRest prog w A h₀ L m env elt x scope cl { s₁ with heap := g } (fun _ => True) (SignAt b) (Fin { s₁ with heap := g }) b.cps.size 0 [] news) :
    SrcS prog w A h₀ L m env elt x scope cl Fin (.str b t) s₁ := ⟨b, t, news, rfl, hh, F, N, hsz, fun _ ⟨g, e⟩ => e ▸ h g⟩
theorem ListComp_S {elt iter : Expr} {x : Str} {px : Pos} {scope : Scope} {cl : List (Str × Addr)} {pos : Pos} {Q : Value → Shared → Prop} (F₀ : Fr h₀ L s.heap m)
    (hclos : closureFor scope env = pure cl) (hcell : ∀ y ∈ scope.names, y.2 ≠ .cell) (hkind : scope.kind = .function)
    (hnames : ∀ y ∈ scope.names, y.2 = .local → scope.names.lookup y.1 = some .local) (hx : scope.names.lookup x = some .local)
    (h : wpAny (model prog w) A (eval iter env) (SrcS prog w A h₀ L m env elt x scope cl (fun s₂ => LCg.FinE h₀ L m s₂ Q)) E s)
    (hs : ∀ x, foldedSetIterable iter env x = pure x := by intro _; rfl) :
    wpAny (model prog w) A (eval (.ListComp elt [⟨.Name x px, iter, [], 0⟩] scope pos) env) Q E s := by
  rw [eval_ListComp]
  refine wpAny_comprehension_free (use := none) rfl hs hclos hkind hnames (wpAny_mono h (fun xv s₁ h₁ => ?_) fun _ _ e => e)
  obtain ⟨b, t, news, rfl, hh, F, N, hsz, R⟩ := h₁
  cases ha : b.cps.all (· < 128) with
  | true =>
    refine wpAny_pyIter_ascii ha ?_
    refine LCg.block_U (Walks.strAscii (prog := prog) (w := w) hh s₁.heap.objs.size b t) hsz (fun i h st => by obtain ⟨o, e, _⟩ := st; exact ⟨o, e⟩)
      (fun i h h' o nw st e e' _ _ _ => by obtain ⟨o', q, r⟩ := st; rw [e] at q; cases q; exact ⟨o, e', r⟩) hcell hkind hx ⟨_, Heap.get?_push_size _ rfl, rfl, rfl⟩ (fun b hb => ?_)
      (F.keeps fun _ _ e => Heap.get?_push_of_some _ e) (N.grown fun _ _ e => Heap.get?_push_of_some _ e) (Nat.ne_of_lt F.ns.lt) (next_is_new F) (fun p hp => Nat.ne_of_lt (Heap.lt_size (N p hp).1)) trivial (R _ ⟨_, rfl⟩) ?_
    · rw [List.mem_singleton.mp hb]
      show s₁.heap.objs.size < (s₁.heap.push _).objs.size
      rw [Heap.size_push]; exact Nat.lt_succ_self _
    · intro D C h tk m' ys news' F' N' o1 hn hC₀ hD₀ hCL hDL hCD offC fin
      refine ⟨m', hn, fun h'' hs'' => fin D h'' tk (F'.change hs'' hCL hC₀) (fun p hp => ?_) o1⟩
      refine ⟨hs''.extBut _ _ ?_ (N' p hp).1, (N' p hp).2⟩
      rcases List.mem_cons.mp hp with rfl | hp
      · exact Ne.symm hCD
      · exact offC p hp
  | false =>
    refine wpAny_pyIter_wide ha ?_
    refine LCg.block_U (Walks.strWide (prog := prog) (w := w) hh s₁.heap.objs.size b t) hsz (fun i h st => by obtain ⟨o, e, _⟩ := st; exact ⟨o, e⟩)
      (fun i h h' o nw st e e' _ _ _ => by obtain ⟨o', q, r⟩ := st; rw [e] at q; cases q; exact ⟨o, e', r⟩) hcell hkind hx ⟨_, Heap.get?_push_size _ rfl, rfl, rfl⟩ (fun b hb => ?_)
      (F.keeps fun _ _ e => Heap.get?_push_of_some _ e) (N.grown fun _ _ e => Heap.get?_push_of_some _ e) (Nat.ne_of_lt F.ns.lt) (next_is_new F) (fun p hp => Nat.ne_of_lt (Heap.lt_size (N p hp).1)) trivial (R _ ⟨_, rfl⟩) ?_
    · rw [List.mem_singleton.mp hb]
      show s₁.heap.objs.size < (s₁.heap.push _).objs.size
      rw [Heap.size_push]; exact Nat.lt_succ_self _
    · intro D C h tk m' ys news' F' N' o1 hn hC₀ hD₀ hCL hDL hCD offC fin
      refine ⟨m', hn, fun h'' hs'' => fin D h'' tk (F'.change hs'' hCL hC₀) (fun p hp => ?_) o1⟩
      refine ⟨hs''.extBut _ _ ?_ (N' p hp).1, (N' p hp).2⟩
      rcases List.mem_cons.mp hp with rfl | hp
      · exact Ne.symm hCD
      · exact offC p hp
variable {elt : Expr} {x : Str} {scope : Scope} {cl : List (Str × Addr)} {S : List (Addr × Obj) → Prop} {P : Nat → Value → Prop} {Fin : List Value → List (Addr × Obj) → Prop} {news : List (Addr × Obj)}
/-- ints made of the letters of a text -/
theorem kcs_text {b : Str} (g : Nat → Int)
    (turn : ∀ k t I oI C oC D m₂ ys h tk (E' : Value → Shared → Prop), k ∈ b.cps.toList → LCg.NsObj oC m₂ → m₂ x = some (.str ⟨#[k]⟩ t) → Fr h₀ L h m → News h₀ L h ((I, oI) :: (C, oC) :: (D, LCg.lst ys) :: news) → LCg.Off3 I C D news → ((@Ne Nat I C) ∧ (@Ne Nat I D) ∧ (@Ne Nat C D)) → KPfMark →
      wpAny (model prog w) A (eval elt (compEnvC scope cl C env)) (LCg.CompEnd h₀ L m { s with heap := h, toks := tk } I oI C oC D (LCg.lst ys) S (fun y news' => KCfEl news (g k) y news')) E' { s with heap := h, toks := tk })
    (fin : KPfDone (∀ ys, IntsAre ys (b.cps.toList.map g) → Fin ys news)) : LCg.CompRest prog w A h₀ L m env elt x scope cl s S (SignAt b) Fin b.cps.size 0 [] news := by
  unfold KPfDone at fin
  have key : ∀ (j i : Nat) (ys : List Value), i + j = b.cps.toList.length → IntsAre ys ((b.cps.toList.take i).map g) → LCg.CompRest prog w A h₀ L m env elt x scope cl s S (SignAt b) Fin j i ys news := by
    intro j
    induction j with
    | zero =>
      intro i ys hi hy
      have e : i = b.cps.toList.length := by omega
      subst e
      rw [List.take_length] at hy
      exact LCg.CompRest.zero (fin ys hy)
    | succ j ih =>
      intro i ys hi hy
      refine LCg.CompRest.succ ?_
      intro v I oI C oC D m₂ h tk E' hv hC hx F N off ne
      obtain ⟨k, t, hk, hv'⟩ := hv
      have hk : b.cps.toList[i]? = some k := by simpa using hk
      rw [hv'] at hx
      refine wpAny_mono (turn k t I oI C oC D m₂ ys h tk E' (List.mem_of_getElem? hk) hC hx F N off ne True.intro) (fun y s₂ hq => ?_) fun _ _ e => e
      obtain ⟨h', tk', nw, e, F', N', off', hS, hn, t', hy'⟩ := hq
      rw [hn] at N' off' hS
      refine ⟨h', tk', news, e, F', N', off', hS, ?_⟩
      rw [hy']
      refine ih (i + 1) _ (by omega) ?_
      rw [List.take_add_one, hk]
      simpa using IntsAre.append hy (.cons (g k) t' .nil)
  exact key _ 0 [] (by simp) (by simp only [List.take_zero, List.map_nil]; exact .nil)
/-- an element that is a bool -/
def KCbEl (news : List (Addr × Obj)) (r : Bool) (y : Value) (news' : List (Addr × Obj)) : Prop := news' = news ∧ y = .bool r
theorem kcb_el {news news' : List (Addr × Obj)} {r r' : Bool} {y : Value} (e : r = r') (hn : news' = news) (hy : y = .bool r') : KCbEl news r y news' := by subst e; exact ⟨hn, hy⟩
theorem bools_snoc {y : Bool} : ∀ {vs : List Value} {ys : List Bool}, LSm.BoolsAre vs ys → LSm.BoolsAre (vs ++ [.bool y]) (ys ++ [y])
  | _, _, .nil => .cons y .nil
  | _, _, .cons z r => .cons z (bools_snoc r)
/-- bools made of the numbers of a range -/
theorem kcb_range {n : Nat} {a : Int} (g : Int → Bool)
    (turn : ∀ k t I oI C oC D m₂ ys h tk (E' : Value → Shared → Prop), a ≤ k → k < a + (n : Int) → LCg.NsObj oC m₂ → m₂ x = some (.int k t) → Fr h₀ L h m → News h₀ L h ((I, oI) :: (C, oC) :: (D, LCg.lst ys) :: news) → LCg.Off3 I C D news → ((@Ne Nat I C) ∧ (@Ne Nat I D) ∧ (@Ne Nat C D)) → KPfMark →
      wpAny (model prog w) A (eval elt (compEnvC scope cl C env)) (LCg.CompEnd h₀ L m { s with heap := h, toks := tk } I oI C oC D (LCg.lst ys) S (fun y news' => KCbEl news (g k) y news')) E' { s with heap := h, toks := tk })
    (fin : KPfDone (∀ ys, LSm.BoolsAre ys ((rangeKs a n).map g) → Fin ys news)) : LCg.CompRest prog w A h₀ L m env elt x scope cl s S (fun i v => ∃ t, v = .int (a + (i : Int)) t) Fin n 0 [] news := by
  unfold KPfDone at fin
  have key : ∀ (j i : Nat) (ys : List Value), i + j = n → LSm.BoolsAre ys (((rangeKs a n).take i).map g) → LCg.CompRest prog w A h₀ L m env elt x scope cl s S (fun i v => ∃ t, v = .int (a + (i : Int)) t) Fin j i ys news := by
    intro j
    induction j with
    | zero =>
      intro i ys hi hy
      have e : i = (rangeKs a n).length := by rw [rangeKs_length]; omega
      subst e
      rw [List.take_length] at hy
      exact LCg.CompRest.zero (fin ys hy)
    | succ j ih =>
      intro i ys hi hy
      refine LCg.CompRest.succ ?_
      intro v I oI C oC D m₂ h tk E' hv hC hx F N off ne
      obtain ⟨t, hv'⟩ := hv
      have hk : (rangeKs a n)[i]? = some (a + (i : Int)) := by simp [rangeKs, show i < n by omega]
      rw [hv'] at hx
      refine wpAny_mono (turn _ t I oI C oC D m₂ ys h tk E' (by omega) (by omega) hC hx F N off ne True.intro) (fun y s₂ hq => ?_) fun _ _ e => e
      obtain ⟨h', tk', nw, e, F', N', off', hS, hn, hy'⟩ := hq
      rw [hn] at N' off' hS
      refine ⟨h', tk', news, e, F', N', off', hS, ?_⟩
      rw [hy']
      refine ih (i + 1) _ (by omega) ?_
      rw [List.take_add_one, hk]
      simpa using bools_snoc hy
  exact key _ 0 [] (by simp) (by simp only [List.take_zero, List.map_nil]; exact .nil)
end
end Mine
namespace Mine
open PySem PySem.W PyProof.Rows PySem.Calls PySem.Spec PyProof.V
/-- what map_table_b3 gives for the sign of that number -/
def b3V (c : Nat) : Str := match Spec.lookup (.int (c : Int)) b3D with
  | some (.str y) => y
  | _ => Txt.lower ⟨#[c]⟩
def b3Ok (c : Nat) : Bool := match Spec.lookup (.int (c : Int)) b3D with
  | some (.str _) => true
  | none => !Builtin.Str.tooLong (Txt.lower ⟨#[c]⟩).length
  | _ => false
theorem b3_any (w : World) (news : List (Addr × Obj)) (c : Nat) (t1 : Tok) (h : b3Ok c = true) :
    Does w 123 3 news [.str ⟨#[c]⟩ t1] (fun t => .str (b3V c) t) := by
  cases e : Spec.lookup (.int (c : Int)) b3D with
  | none =>
    have h1 : b3V c = Txt.lower ⟨#[c]⟩ := by unfold b3V; rw [e]
    have h2 : Builtin.Str.tooLong (Txt.lower ⟨#[c]⟩).length = false := by unfold b3Ok at h; rw [e] at h; simpa using h
    rw [h1]
    exact b3_does2 w news c t1 e h2
  | some d =>
    cases d with
    | str y =>
      have h1 : b3V c = y := by unfold b3V; rw [e]
      rw [h1]
      exact b3_does w news c t1 y e
    | _ => unfold b3Ok at h; rw [e] at h; cases h
/-- the signs' numbers, and what they spell -/
def codesL : List Int := [119808, 13184, 13226, 64256, 13261, 64259, 75, 98]
def spellL : List (List Nat) := [[97], [112, 97], [107, 112, 97], [102, 102], [107, 107], [102, 102, 105], [107], [98]]
def meantL : List Str := [Str.ofString "a", Str.ofString "pa", Str.ofString "kpa", Str.ofString "ff", Str.ofString "kk", Str.ofString "ffi", Str.ofString "k", Str.ofString "b"]
def g1 (k : Int) : Str := b3V ((codesL.getD k.toNat 0).toNat)
def g2 (k : Int) : Str := meantL.getD k.toNat Str.empty
def g3 (k : Int) : Str := b3V k.toNat
theorem sign_all : ∀ k : Fin 8, b3V ((codesL.getD k.val 0).toNat) = ofL (spellL.getD k.val []) ∧ meantL.getD k.val Str.empty = ofL (spellL.getD k.val []) ∧ b3Ok ((codesL.getD k.val 0).toNat) = true := by decide +kernel
theorem figure_all : ∀ k : Fin 16, b3V (65 + k.val) = ofL [97 + k.val] ∧ b3Ok (65 + k.val) = true := by decide +kernel
end Mine
namespace Mine
open PySem PySem.W PyProof.Rows PySem.Calls
theorem join_cps : ∀ xs : List Str, (Txt.join (Str.ofString "") xs).cps.toList = xs.flatMap fun x => x.cps.toList := by
  intro xs
  show (Builtin.Str.glued (Str.ofString "") xs).cps.toList = _
  rw [StrLaws.glued_eq_join]
  induction xs with
  | nil => rfl
  | cons a r ih =>
    cases r with
    | nil => simp [Str.join]
    | cons b r =>
      have h0 : (Str.ofString "").cps.toList = [] := by decide
      rw [show Str.join (Str.ofString "") (a :: b :: r) = a ++ Str.ofString "" ++ Str.join (Str.ofString "") (b :: r) from rfl, Str.cps_append, Str.cps_append, Array.toList_append, Array.toList_append, h0, ih]
      simp
theorem join_maps {S : List Int} {g : Int → Str} {f : Int → List Nat} (h : ∀ k ∈ S, g k = ofL (f k)) : Txt.join (Str.ofString "") (S.map g) = ofL (S.flatMap f) := by
  rw [← ofL_self (Txt.join (Str.ofString "") (S.map g)), join_cps, List.flatMap_map]
  congr 1
  induction S with
  | nil => rfl
  | cons a r ih =>
    rw [List.flatMap_cons, List.flatMap_cons, h a (.head _), ofL_cps, ih fun k hk => h k (.tail _ hk)]
/-- the word of the figures ks: its octets, its letters -/
def octD (ks : List Int) : List UInt8 := ks.map fun k => UInt8.ofNat (65 + k.toNat)
def letD (ks : List Int) : List Nat := ks.map fun k => 97 + k.toNat
def textD (ks : List Int) : Str := ofL (letD ks)
theorem ap_numF : ∀ (n : Nat) (ks : List Int), ks.length = n → Fgs ks → apB (numF ks + 2 ^ (4 * n)).toNat = 66 :: octD ks := by
  intro n
  induction n with
  | zero =>
    intro ks h _
    rw [List.length_eq_zero_iff.mp h]
    show apB 1 = [66]
    rw [apB_step (by decide)]
    rfl
  | succ n ih =>
    intro ks h hf
    obtain ⟨t, c, rfl⟩ : ∃ t c, ks = t ++ [c] := ⟨ks.dropLast, ks.getLast (by intro e; rw [e] at h; cases h), (List.dropLast_concat_getLast _).symm⟩
    have ht : t.length = n := by simp at h; exact h
    have hft : Fgs t := fun d hd => hf d (List.mem_append_left _ hd)
    have h1 := ih t ht hft
    have h2 := hf c (List.mem_append_right _ (List.mem_singleton.mpr rfl))
    have hb := numF_bd n t ht hft
    have hp : (2 : Int) ^ (4 * (n + 1)) = 16 * 2 ^ (4 * n) := by
      rw [show 4 * (n + 1) = 4 * n + 4 by omega, Int.pow_add]
      omega
    have hq : (0 : Int) < 2 ^ (4 * n) := Int.pow_pos (by decide)
    rw [numF_snoc, hp, apB_step (by omega)]
    have e1 : (numF t * 16 + c + 16 * 2 ^ (4 * n)).toNat / 16 = (numF t + 2 ^ (4 * n)).toNat := by omega
    have e2 : 65 + (numF t * 16 + c + 16 * 2 ^ (4 * n)).toNat % 16 = 65 + c.toNat := by omega
    rw [e1, e2, h1]
    unfold octD
    rw [List.map_append]
    rfl
def wordD (ks : List Int) : Array UInt8 := (66 :: octD ks).toArray
theorem picked_head (ks : List Int) : KBy.picked (wordD ks) none (some 1) = #[66] := by
  rw [KBc.picked_eq]
  unfold wordD
  simp only [Option.elim]
  rw [show (PySem.clipAt (66 :: octD ks).toArray.size 1) = min 1 (66 :: octD ks).toArray.size from KBc.clip_lit _ 1]
  simp only [List.size_toArray, List.length_cons]
  rw [show min 1 ((octD ks).length + 1) - 0 = 1 by omega]
  rfl
theorem picked_tail (ks : List Int) : KBy.picked (wordD ks) (some 1) none = (octD ks).toArray := by
  rw [KBc.picked_eq]
  unfold wordD
  simp only [Option.elim]
  rw [show (PySem.clipAt (66 :: octD ks).toArray.size 1) = min 1 (66 :: octD ks).toArray.size from KBc.clip_lit _ 1]
  simp only [List.size_toArray, List.length_cons]
  rw [show min 1 ((octD ks).length + 1) = 1 by omega]
  simp only [List.drop_succ_cons, List.drop_zero]
  rw [List.take_of_length_le (by omega)]
theorem oct_len (ks : List Int) : (octD ks).length = ks.length := by unfold octD; rw [List.length_map]
theorem let_len (ks : List Int) : (letD ks).length = ks.length := by unfold letD; rw [List.length_map]
theorem oct_one {ks : List Int} (hf : Fgs ks) : ∀ k ∈ KBw.bInts (octD ks).toArray, ∃ c : Nat, k = (c : Int) ∧ b3Ok c = true ∧ g3 k = ofL [c + 32] := by
  intro k hk
  rw [KBw.ints_list] at hk
  obtain ⟨c, hc, rfl⟩ := List.mem_map.mp hk
  obtain ⟨d, hd, rfl⟩ := List.mem_map.mp hc
  have h2 := hf d hd
  have hj : (UInt8.ofNat (65 + d.toNat)).toNat = 65 + d.toNat := by
    rw [UInt8.toNat_ofNat']
    omega
  have hfig := figure_all ⟨d.toNat, by omega⟩
  simp only at hfig
  refine ⟨65 + d.toNat, by rw [hj], hfig.2, ?_⟩
  rw [hj]
  show b3V (((65 + d.toNat : Nat) : Int).toNat) = _
  rw [Int.toNat_natCast, hfig.1]
  congr 2
  omega
theorem oct_join {ks : List Int} (hf : Fgs ks) : Txt.join (Str.ofString "") ((KBw.bInts (octD ks).toArray).map g3) = textD ks := by
  have h : ∀ k ∈ KBw.bInts (octD ks).toArray, g3 k = ofL ((fun k : Int => [k.toNat + 32]) k) := by
    intro k hk
    obtain ⟨c, rfl, _, h⟩ := oct_one hf k hk
    exact h
  rw [join_maps h, KBw.ints_list]
  unfold textD
  congr 1
  unfold octD letD
  rw [List.flatMap_map, List.flatMap_map]
  clear h
  induction ks with
  | nil => rfl
  | cons a r ih =>
    rw [List.flatMap_cons, ih fun d hd => hf d (.tail _ hd), List.map_cons]
    have h2 := hf a (.head _)
    have hj : (UInt8.ofNat (65 + a.toNat)).toNat = 65 + a.toNat := by
      rw [UInt8.toNat_ofNat']
      omega
    rw [hj, Int.toNat_natCast, show 65 + a.toNat + 32 = 97 + a.toNat by omega]
    rfl
theorem oct_room {ks : List Int} (hl : ks.length ≤ 21) : (octD ks).toArray.size ≤ sizeLine := by
  have : sizeLine = 16777216 := PySem.sizeLine_eq
  rw [List.size_toArray, oct_len]
  omega
theorem ap_is {n c : Int} {ks : List Int} (hf : Fgs ks) (hn : n = numF ks) (hc : c = ks.length) (hl : ks.length ≤ 21) : 0 ≤ n + 1 * 2 ^ (4 * c).toNat ∧ n + 1 * 2 ^ (4 * c).toNat < 2 ^ 100 ∧ apB (n + 1 * 2 ^ (4 * c).toNat).toNat = 66 :: octD ks := by
  have hb := numF_bd _ ks rfl hf
  have h1 := ap_numF _ ks rfl hf
  have hp : (16 : Int) ^ ks.length ≤ 16 ^ 21 := pow16 ⟨_, Nat.lt_succ_of_le hl⟩
  have h3 : (16 : Int) ^ 21 = 19342813113834066795298816 := by decide
  have h4 : (2 : Int) ^ 100 = 1267650600228229401496703205376 := by decide
  have h5 : (2 : Int) ^ (4 * ks.length) = 16 ^ ks.length := by rw [Int.pow_mul]; rfl
  have h6 : (0 : Int) < 16 ^ ks.length := Int.pow_pos (by decide)
  rw [hc, show (4 * (ks.length : Int)).toNat = 4 * ks.length by omega, hn, Int.one_mul]
  refine ⟨by omega, by omega, h1⟩
theorem ap_word (w : World) (news : List (Addr × Obj)) {ks : List Int} {n c : Int} (t1 : Tok) (hf : Fgs ks) (hn : n = numF ks) (hc : c = ks.length) (hl : ks.length ≤ 21) :
    Does w 28 3 news [.int (n + 1 * 2 ^ (4 * c).toNat) t1] (fun t => .bytes (wordD ks) t) := by
  have h := ap_is hf hn hc hl
  unfold wordD
  rw [← h.2.2]
  exact ap_does w news _ t1 h.1 h.2.1
end Mine
namespace Mine
open PySem PySem.W PyProof.Rows PySem.Calls
section
variable {prog : Program} {w : World} {A : Around} {E : Value → Shared → Prop} {s : Shared} {t u : Tok} {Q : Value → Shared → Prop} {D : Addr} {ys : List Value} {ks : List Int}
variable {h₀ : Heap} {L : Addr} {m : Str → Option Value} {news : List (Addr × Obj)} {value slice : PySem.Expr}
theorem join_oct (hf : Fgs ks) (hl : ks.length ≤ 21) (hd : s.heap.IsList D ys.toArray) (hc : CarriedAll ys ((KBw.bInts (octD ks).toArray).map fun a => PyData.str (g3 a))) (h : ∀ t' k, Q (.str (textD ks) t') { s with toks := k }) :
    wpAny (model prog w) A (call (.builtin "str.join") [.str (Str.ofString "") t, .ref D]) Q E s :=
  KT.join_B 10 hd hc (fun a ha => by
    obtain ⟨c, _, _, e⟩ := oct_one hf a ha
    rw [e, ofL_len]
    simp) (by
      rw [KBw.ints_length, List.size_toArray, oct_len]
      omega) (by decide) (fun t' k => by rw [oct_join hf]; exact h t' k)
theorem word_room (hl : ks.length ≤ 21) : (KBw.bInts (wordD ks)).length ≤ 16777216 := by
  rw [KBw.ints_length]
  unfold wordD
  rw [List.size_toArray, List.length_cons, oct_len]
  omega
theorem slice_head {j : Int} {uj : Tok} (hl : ks.length ≤ 21) (hF : Fr h₀ L s.heap m) (hN : News h₀ L s.heap news) (h : ∀ h' t' k, Fr h₀ L h' m → News h₀ L h' news → Q (.bytes #[66] t') { s with heap := h', toks := k }) (hj : j = 1 := by rfl)
    (hs : subscripted slice false (.bytes (wordD ks) t) (.ref s.heap.objs.size) = operate [.ref s.heap.objs.size, .bytes (wordD ks) t] (getItem (.bytes (wordD ks) t) (.ref s.heap.objs.size)) := by with_unfolding_all rfl)
    (ht : ∀ r, letTemporaryGo value (.bytes (wordD ks) t) r = pure () := by intro _; with_unfolding_all rfl) :
    wpAny (model prog w) A (subscriptTail value slice (.bytes (wordD ks) t) (.ref s.heap.objs.size)) Q E { s with heap := s.heap.push { cls := .type "slice", data := .fields #[.none, .int j uj, .none] } } := by
  subst hj
  exact KBc.slice_K hF hN rfl .none (.int 1 uj) (word_room hl) (fun h' t' k a b _ => by rw [picked_head]; exact h h' t' k a b) hs ht
theorem slice_tail {j : Int} {uj : Tok} (hl : ks.length ≤ 21) (hF : Fr h₀ L s.heap m) (hN : News h₀ L s.heap news) (h : ∀ h' t' k, Fr h₀ L h' m → News h₀ L h' news → Q (.bytes (octD ks).toArray t') { s with heap := h', toks := k }) (hj : j = 1 := by rfl)
    (hs : subscripted slice false (.bytes (wordD ks) t) (.ref s.heap.objs.size) = operate [.ref s.heap.objs.size, .bytes (wordD ks) t] (getItem (.bytes (wordD ks) t) (.ref s.heap.objs.size)) := by with_unfolding_all rfl)
    (ht : ∀ r, letTemporaryGo value (.bytes (wordD ks) t) r = pure () := by intro _; with_unfolding_all rfl) :
    wpAny (model prog w) A (subscriptTail value slice (.bytes (wordD ks) t) (.ref s.heap.objs.size)) Q E { s with heap := s.heap.push { cls := .type "slice", data := .fields #[.int j uj, .none, .none] } } := by
  subst hj
  exact KBc.slice_K hF hN rfl (.int 1 uj) .none (word_room hl) (fun h' t' k a b _ => by rw [picked_tail]; exact h h' t' k a b) hs ht
theorem ne_B {x : List UInt8} (e : x = [66]) (h : Q (.bool false) s) : wpAny (model prog w) A (compareOp .NotEq (.bytes #[66] t) (.bytes x.toArray u)) Q E s := by
  subst e
  exact ne_bytes h
end
theorem oct_ok {ks : List Int} {k : Int} (hf : Fgs ks) (h : k ∈ KBw.bInts (octD ks).toArray) : b3Ok k.toNat = true := by
  obtain ⟨c, rfl, h1, _⟩ := oct_one hf k h
  rw [Int.toNat_natCast]
  exact h1
theorem num_lt {n : Int} {ks : List Int} (hn : n = numF ks) (hf : Fgs ks) (hl : ks.length ≤ 21) : 0 ≤ n ∧ n < 19342813113834066795298816 := by
  have hb := numF_bd _ ks rfl hf
  have hp : (16 : Int) ^ ks.length ≤ 16 ^ 21 := pow16 ⟨_, Nat.lt_succ_of_le hl⟩
  have h3 : (16 : Int) ^ 21 = 19342813113834066795298816 := by decide
  omega
local macro_rules | `(tactic| walk_at "call ref") => `(tactic| k_extra "call ref")
local macro_rules | `(tactic| walk_at "subscriptTail") => `(tactic| k_extra "subscriptTail")
local macro_rules | `(tactic| walk_at "eval ListComp") => `(tactic| k_extra "eval ListComp")
local macro_rules | `(tactic| walk_at "SrcB") => `(tactic| k_extra "SrcB")
local macro_rules | `(tactic| walk_at "CompEnd") => `(tactic| k_extra "CompEnd")
local macro_rules | `(tactic| walk_at "KCtEl") => `(tactic| k_extra "KCtEl")
local macro_rules | `(tactic| walk_at "eval Name") => `(tactic| k_extra "eval Name")
local macro_rules | `(tactic| walk_at "call builtin:str.join") => `(tactic| k_extra "call builtin:str.join")
set_option maxHeartbeats 4000000
theorem shown_does (w : World) (news : List (Addr × Obj)) (ks : List Int) (n c : Int) (t1 t2 : Tok) (hn : n = numF ks) (hc : c = ks.length) (hf : Fgs ks) (hl : ks.length ≤ 21) :
    Does w 140 9 news [.int n t1, .int c t2] (fun t => .str (textD ks) t) := by
  have hb : 0 ≤ n ∧ n < 19342813113834066795298816 := num_lt hn hf hl
  dsimp only [Does]
  k_fill
  intros
  rename_i hd hu hret
  obtain ⟨n0, n1⟩ := hb
  refine wpAny_call ?_
  k_dflt cell_enter
  k_with_none
  k_with "call ref" => (k_here; k_dflt (refine wpAny_call ?_; (refine' code_def ?zzk1 ?zzk2 ?zzk3 ?zzk4 ?zzk5 ?zzkA ?zzkF ?zzkK ?zzk6 ?zzk7 ?zzk8 ?zzk9 ?zzkB ?_ ?zzc2 ?zzc3 ?zzc4 ?zzc5; (case zzkA => exact rfl); (case zzkF => exact rfl); (case zzkK => first | exact rfl | assumption); (case zzk1 => k_asm); (case zzk2 => k_asm); (case zzk3 => k_asm); (case zzk4 => k_asm); (case zzk5 => k_asm); (case zzk6 => k_is); (case zzk7 => k_is); (case zzk8 => ktr_room); (case zzk9 => exact BindsTo.of_eq rfl); (case zzc5 => decide); (case zzkB => exact locs rfl); (case zzc2 => exact rfl); (case zzc3 => exact rfl); (case zzc4 => exact rfl); k_whole; intro g' L' h' FG' F' N' B' X' T'; (try dsimp only); (try k_fold))))
  k_with "call ref" => (k_here; (with_reducible show wpAny _ _ (call (Value.ref 28) _) _ _ _); k_dflt (refine' ap_word _ _ _ ?zzkf ?zzkn ?zzkc ?zzkl _ _ _ _ _ _ _ _ _ _ _ _ _ _ _ _ _ _ _ _ _ _ ?zzk1 ?zzk2 ?zzk3 ?zzk4 ?zzk5 ?zzkK ?zzkd ?zzku ?_; (case zzk1 => k_asm); (case zzk2 => k_asm); (case zzk3 => k_asm); (case zzk4 => k_asm); (case zzk5 => k_asm); (case zzkK => first | exact rfl | assumption); (case zzkf => assumption); (case zzkn => assumption); (case zzkc => assumption); (case zzkl => assumption); (case zzkd => first | ktr_room | exact Nat.le_of_ble_eq_true rfl); (case zzku => first | ktr_units | exact Nat.le_of_ble_eq_true rfl); intro t9 h9 tk9 F9 N9; (try dsimp only); (try k_fold)))
  k_with "call ref" => (k_here; (with_reducible show wpAny _ _ (call (Value.ref 123) _) _ _ _); (rename _ ∈ KBw.bInts _ => hkb); k_dflt (refine' b3_any _ _ _ _ ?zzkp _ _ _ _ _ _ _ _ _ _ _ _ _ _ _ _ _ _ _ _ _ _ ?zzk1 ?zzk2 ?zzk3 ?zzk4 ?zzk5 ?zzkK ?zzkd ?zzku ?_; (case zzk1 => k_asm); (case zzk2 => k_asm); (case zzk3 => k_asm); (case zzk4 => k_asm); (case zzk5 => k_asm); (case zzkK => first | exact rfl | assumption); (case zzkp => exact oct_ok (by assumption) hkb); (case zzkd => first | ktr_room | exact Nat.le_of_ble_eq_true rfl); (case zzku => first | ktr_units | exact Nat.le_of_ble_eq_true rfl); intro t9 h9 tk9 F9 N9; (try dsimp only); (try k_fold)))
  k_with "subscriptTail" => (k_here; (with_reducible show wpAny _ _ (subscriptTail _ (Expr.Slice none (some _) none _) (Value.bytes (wordD _) _) (Value.ref _)) _ _ _); (with_reducible rename Fr _ _ _ _ => F'); (with_reducible rename News _ _ _ _ => N'); (refine slice_head (s := ⟨_, _, _, _, _⟩) (by assumption) F' N' ?_); intro _ _ _ F' N')
  k_with "subscriptTail" => (k_here; (with_reducible show wpAny _ _ (subscriptTail _ (Expr.Slice (some _) none none _) (Value.bytes (wordD _) _) (Value.ref _)) _ _ _); (with_reducible rename Fr _ _ _ _ => F'); (with_reducible rename News _ _ _ _ => N'); (refine slice_tail (s := ⟨_, _, _, _, _⟩) (by assumption) F' N' ?_); intro _ _ _ F' N')
  k_with "eval ListComp" => (k_here; (with_reducible show wpAny _ _ (eval (Expr.ListComp _ [⟨_, Expr.Subscript _ _ _, _, _⟩] _ _) _) _ _ _); k_dflt (refine ListComp_B (F₀ := by k_asm) (by with_unfolding_all rfl) (by decide) (by rfl) (by decide) (by rfl) ?_))
  k_with "SrcB" => (k_here; k_dflt (refine SrcB.intro (by rfl) (by k_asm) (by k_asm) (oct_room (by assumption)) ?_; intro g9; refine' kct_bytes g3 (fun k' t' I' oI' C' oC' D' m' ys' h' tk' E' hk' hkb0 hkb1 hC' hx' F' N' off' ne' => ?_) ?_; (all_goals (try ((show KPfMark → _); intro hMark'))); kcf_last))
  k_with "CompEnd" => (k_here; (with_reducible rename News _ _ _ _ => nE); (with_reducible rename LCg.Off3 _ _ _ _ => oE); k_dflt (refine LCg.CompEnd.intro (by assumption) nE _ (fun _ h => h) oE (by lcg_src) ?_))
  k_with "KCtEl" => exact kct_el rfl (by with_unfolding_all rfl) (by with_unfolding_all rfl)
  k_with "eval Name" => (k_here; (with_reducible show wpAny _ _ (eval (Expr.Name (Str.ofString "map_table_b3") _) (compEnvC _ _ _ _)) _ _ _); k_dflt (refine LCgL.ld_global (by k_asm) (by k_asm) (by k_asm) (by k_is) ?_))
  k_with "eval Name" => (k_here; (with_reducible show wpAny _ _ (eval (Expr.Name (Str.ofString "chr") _) (compEnvC _ _ _ _)) _ _ _); k_dflt (refine LCgL.ld_built (by k_asm) (by k_asm) (by k_asm) (by k_is) (by boot_by_name) (by decide) ?_))
  k_with "call builtin:str.join" => (k_here; (with_reducible show wpAny _ _ (call (Value.builtin "str.join") [Value.str _ _, Value.ref _]) _ _ _); (with_reducible rename CarriedAll _ (List.map _ _) => ktC); k_dflt (refine join_oct (by assumption) (by assumption) (News.isList (by k_asm) (by k_mem)) ktC ?_); intro _ _)
  k_steps
  all_goals cb_end hret
end Mine
namespace Mine
open PySem PySem.W PyProof.Rows PySem.Calls
local macro_rules | `(tactic| walk_at "call builtin:str.split") => `(tactic| k_extra "call builtin:str.split")
local macro_rules | `(tactic| walk_at "call builtin:str.find") => `(tactic| k_extra "call builtin:str.find")
local macro_rules | `(tactic| walk_at "exec For Name Name cons nil") => `(tactic| k_extra "exec For Name Name cons nil")
local macro_rules | `(tactic| walk_at "pyIter ref") => `(tactic| k_extra "pyIter ref")
local macro_rules | `(tactic| walk_at "UnrEnd") => `(tactic| k_extra "UnrEnd")
local macro_rules | `(tactic| walk_at "call builtin:len") => `(tactic| k_extra "call builtin:len")
set_option maxHeartbeats 4000000
theorem ell_end (w : World) (news : List (Addr × Obj)) (x g p : Str) (t1 t2 : Tok) (hocc : (Builtin.Str.occurrences x (Str.ofString "...") 0 x.length 1).isEmpty = false) (hs : Txt.split x (Str.ofString "...") = [Str.empty, p]) (hx : x.length ≤ 100) (hg : g.length ≤ 100) (hpl : p.length ≤ g.length) (hp : p.length ≠ 0) :
    Does w 21 3 news [.str x t1, .str g t2] (fun _ => .bool (Txt.endswith g p)) := by
  dsimp only [Does]
  k_fill
  intros
  rename_i hd hu hret
  refine wpAny_call ?_
  k_dflt cell_enter
  k_with_none
  k_with "call builtin:str.split" => (k_here; (with_reducible show wpAny _ _ (call (Value.builtin "str.split") _) _ _ _); (rename (Txt.split _ _ = _) => hS9); (refine KSpl.split1 (by k_asm) (by k_asm) (by decide) ?_ (by simp only [PySem.sizeLine_eq]; omega)); (intro D' l' h' k' e' a' F' N' l1); (try k_lt l1); rw [hS9] at e'; kspl_open e'; (simp only [strValues, List.map_cons, List.map_nil] at N' a'))
  k_with "call builtin:str.find" => (k_here; (with_reducible show wpAny _ _ (call (Value.builtin "str.find") [_, _, _, _]) _ _ _); first | (refine call_find_empty (by omega) (by omega) (by omega) ?_) | (refine call_find_empty (by omega) (by have hr9 := find_room (by assumption); omega) (by omega) ?_) | (refine call_find_whole (by omega) (by omega) ?_))
  k_with "exec For Name Name cons nil" => (k_here; (rename Fr _ _ _ _ => lF'); (with_unfolding_all refine' For_invVF lF' ?zzk1 ?zzk2 ?_; (case zzk1 => exact rfl); (case zzk2 => exact rfl); k_whole))
  k_with "pyIter ref" => ((with_reducible show wpAny _ _ (pyIter (Value.ref _)) (fun it s₂ => LoopAtV _ _ _ _ _ _ _ _ _ it s₂) _ _); (rename Fr _ _ _ _ => lF'); (rename News _ _ _ _ => lN'); (with_unfolding_all refine iter_unr (by rfl) lF' lN' (by k_mem) (by rfl) (by rfl) ?_); clear lF' lN'; intro i' l1)
  k_with "UnrEnd" => ((rename OffOf _ _ => lO'); (rename News _ _ _ _ => lN'); refine unr_end lO' (by assumption) lN' (by kst_inAny) ⟨by k_mem, ?_⟩)
  k_with "call builtin:len" => (k_here; (with_reducible show wpAny _ _ (call (Value.builtin "len") [Value.str Str.empty _]) _ _ _); refine len_empty ?_)
  k_steps
  all_goals first
    | (exfalso; omega)
    | ((have e9 : Txt.endswith g p = true := by assumption); rw [e9] at hret; cb_end hret)
    | ((have e9 : Txt.endswith g p = false := by assumption); rw [e9] at hret; cb_end hret)
end Mine
namespace Mine
open PySem PySem.W PyProof.Rows PySem.Calls
/-- the call hands back a new list of the bools bs -/
def RB (bs : List Bool) (v : Value) (more : List (Addr × Obj)) : Prop := ∃ (D : Addr) (ys : List Value) (n : Nat), v = .ref D ∧ more = [(D, listOf ys.toArray n)] ∧ LSm.BoolsAre ys bs
theorem ret_bools {h₀ h' : Heap} {L : Addr} {m : Str → Option Value} {news rest : List (Addr × Obj)} {s : Shared} {Q : Value → Shared → Prop} {bs bs' : List Bool} {D : Addr} {ys : List Value} {n tk : Nat}
    (hret : ∀ (v : Value) (more : List (Addr × Obj)) (h' : Heap) (tk' : Nat), RB bs v more → Fr h₀ L h' m → News h₀ L h' (more ++ news) → Q v { s with heap := h', toks := tk' })
    (F : Fr h₀ L h' m) (N : News h₀ L h' ((D, listOf ys.toArray n) :: rest)) (hs : ∀ p ∈ news, p ∈ rest) (hi : LSm.BoolsAre ys bs') (e : bs' = bs) : Q (.ref D) { s with heap := h', toks := tk } := by
  subst e
  exact hret _ _ _ _ ⟨D, ys, n, rfl, rfl, hi⟩ F fun p hp => N p (by
    rcases List.mem_append.mp hp with h | h
    · exact List.mem_cons.mpr (.inl (List.mem_singleton.mp h))
    · exact List.mem_cons_of_mem _ (hs p h))
/-- does the text end with its front of k letters? -/
def tellB (x : Str) (k : Int) : Bool := Txt.endswith x (Txt.slice x none (some k))
def toldL (x : Str) : List Bool := (rangeKs 1 ((x.length : Int) - 1).toNat).map (tellB x)
theorem occ_some (r : Str) : (Builtin.Str.occurrences (dots ++ r) dots 0 (dots ++ r).length 1).isEmpty = false := by
  have hx : (dots ++ r).cps.toList = [46, 46, 46] ++ r.cps.toList := by
    rw [Str.cps_append, Array.toList_append, dots_cps]
  have hlen : (dots ++ r).length = 3 + r.length := by
    rw [Str.length_append, dots_len]
  rw [StrLaws.occ_eq, hlen]
  have hr : List.range' 0 (3 + r.length + 1 - 0) = 0 :: List.range' 1 (3 + r.length) := by
    rw [show 3 + r.length + 1 - 0 = (3 + r.length) + 1 by omega, List.range'_succ]
  rw [hr, occ_take (by simp) (Nat.zero_le _) (by rw [dots_len]; omega) (by rw [subAt_dots, hx]; rfl)]
  have h := StrLaws.occ_grows (dots ++ r) dots (3 + r.length) 1 (List.range' 1 (3 + r.length)) (#[].push 0, 0 + dots.length) (by simp)
  rw [List.isEmpty_eq_false_iff]
  intro he
  exact h (Array.toList_eq_nil_iff.mp he)
theorem front_len {x : Str} {k : Int} (h0 : 0 ≤ k) (h1 : k ≤ x.length) : ((Txt.slice x none (some k)).length : Int) = k := by
  have hl : x.length = x.cps.toList.length := by simp [Str.length]
  have h := slice_to (l := x.cps.toList) (j := k) h0 (by omega)
  rw [ofL_self] at h
  rw [h, ofL_len, List.length_take]
  omega
theorem front_mem {x : Str} {k : Int} (h0 : 0 ≤ k) (h1 : k ≤ x.length) (h46 : 46 ∉ x.cps.toList) : 46 ∉ (Txt.slice x none (some k)).cps.toList := by
  have hl : x.length = x.cps.toList.length := by simp [Str.length]
  have h := slice_to (l := x.cps.toList) (j := k) h0 (by omega)
  rw [ofL_self] at h
  rw [h, ofL_cps]
  exact fun h => h46 (List.mem_of_mem_take h)
theorem ell_front (w : World) (news : List (Addr × Obj)) (x : Str) (k : Int) (t1 t2 : Tok) (h46 : 46 ∉ x.cps.toList) (h0 : 1 ≤ k) (h1 : k ≤ x.length) (hx : x.length ≤ 21) :
    Does w 21 3 news [.str (Str.ofString "..." ++ Txt.slice x none (some k)) t1, .str x t2] (fun _ => .bool (tellB x k)) := by
  have hk := front_len (x := x) (k := k) (by omega) h1
  refine ell_end w news _ x _ t1 t2 (occ_some _) (split_left (front_mem (by omega) h1 h46)) ?_ (by omega) (by omega) (by omega)
  show (dots ++ Txt.slice x none (some k)).length ≤ 100
  rw [Str.length_append, dots_len]
  omega
local macro_rules | `(tactic| walk_at "call type:range") => `(tactic| k_extra "call type:range")
local macro_rules | `(tactic| walk_at "call ref") => `(tactic| k_extra "call ref")
local macro_rules | `(tactic| walk_at "eval ListComp") => `(tactic| k_extra "eval ListComp")
local macro_rules | `(tactic| walk_at "CompSrc") => `(tactic| k_extra "CompSrc")
local macro_rules | `(tactic| walk_at "CompEnd") => `(tactic| k_extra "CompEnd")
local macro_rules | `(tactic| walk_at "KCbEl") => `(tactic| k_extra "KCbEl")
local macro_rules | `(tactic| walk_at "eval Name") => `(tactic| k_extra "eval Name")
set_option maxHeartbeats 4000000
theorem told_does (w : World) (news : List (Addr × Obj)) (x9 : Str) (t1 : Tok) (h46 : 46 ∉ x9.cps.toList) (hl : x9.length ≤ 21) (hl0 : 1 ≤ x9.length) :
    DoesO w 145 9 news (fun _ => True) [.str x9 t1] (RB (toldL x9)) := by
  dsimp only [DoesO]
  k_fill
  intros
  rename_i _ hd hu hret
  refine wpAny_call ?_
  k_dflt (refine' code_defC ?k1 ?k2 ?k3 ?k4 ?k5 ?kA ?kF ?kK ?k6 ?k7 ?k8 ?k9 ?kB ?kD ?_ ?c2 ?c3 ?c4; (case kA => exact rfl); (case kF => exact rfl); (case kK => assumption); (case k1 => k_asm); (case k2 => k_asm); (case k3 => k_asm); (case k4 => k_asm); (case k5 => k_asm); (case k6 => k_is); (case k7 => k_is); (case k8 => ktr_room); (case k9 => exact BindsTo.of_eq rfl); (case kB => exact rfl); (case kD => decide +kernel); (case c2 => exact rfl); (case c3 => exact rfl); (case c4 => exact rfl); k_whole; intro g' L' h' tk' cells' FG' F' N' Y' B' X' T' l1; (try k_lt l1); k_cells Y'; (try simp only [List.cons_append, List.nil_append] at N'); (try dsimp only); (try k_lift B'); (try k_fold))
  k_with_none
  k_with "call type:range" => (k_here; (with_reducible show wpAny _ _ (call (Value.type "range") [_, _]) _ _ _); (rename Fr _ _ _ _ => F'); (rename News _ _ _ _ => N'); (refine range2_rows F' N' ?_); intro _ _ _ _ _ _ _ _ _)
  k_with "call ref" => (k_here; (with_reducible show wpAny _ _ (call (Value.ref 21) _) _ _ _); k_dflt (refine' ell_front _ _ _ _ _ _ ?zzka ?zzkb ?zzkc ?zzkg _ _ _ _ _ _ _ _ _ _ _ _ _ _ _ _ _ _ _ _ _ _ ?zzk1 ?zzk2 ?zzk3 ?zzk4 ?zzk5 ?zzkK ?zzkd ?zzku ?_; (case zzk1 => k_asm); (case zzk2 => k_asm); (case zzk3 => k_asm); (case zzk4 => k_asm); (case zzk5 => k_asm); (case zzkK => first | exact rfl | assumption); (case zzka => assumption); (case zzkb => omega); (case zzkc => omega); (case zzkg => omega); (case zzkd => first | ktr_room | exact Nat.le_of_ble_eq_true rfl); (case zzku => first | ktr_units | exact Nat.le_of_ble_eq_true rfl); intro t9 h9 tk9 F9 N9; (try dsimp only); (try k_fold)))
  k_with "eval ListComp" => (k_here; (with_reducible show wpAny _ _ (eval (Expr.ListComp _ [⟨_, Expr.Call _ _ _ _, _, _⟩] _ _) _) _ _ _); k_dflt (refine LCg.ListComp_U (F₀ := by k_asm) (by with_unfolding_all rfl) (by decide) (by rfl) (by decide) (by rfl) ?_))
  k_with "CompSrc" => (k_here; k_dflt (refine LCg.CompSrc.range (by rfl) (by k_asm) (by k_asm) (by assumption) (small_one (by omega) (by omega) (by omega) (by omega)) (rangeSize_nat _ _) (by rw [PySem.sizeLine_eq]; omega) ?_; intro g9; refine' kcb_range _ (fun k' t' I' oI' C' oC' D' m' ys' h' tk' E' hlo' hhi' hC' hx' F' N' off' ne' => ?_) ?_; (all_goals (try ((show KPfMark → _); intro hMark'))); kcf_last))
  k_with "CompEnd" => (k_here; (with_reducible rename News _ _ _ _ => nE); (with_reducible rename LCg.Off3 _ _ _ _ => oE); k_dflt (refine LCg.CompEnd.intro (by assumption) nE _ (fun _ h => h) oE (by lcg_src) ?_))
  k_with "KCbEl" => exact kcb_el rfl (by with_unfolding_all rfl) (by with_unfolding_all rfl)
  k_with "eval Name" => (k_here; (with_reducible show wpAny _ _ (eval (Expr.Name (Str.ofString "_ellipsis_match") _) (compEnvC _ _ _ _)) _ _ _); k_dflt (refine LCgL.ld_global (by k_asm) (by k_asm) (by k_asm) (by k_is) ?_))
  k_steps
  all_goals (rename News _ _ _ _ => kN; rename LSm.BoolsAre _ _ => kI; exact ret_bools hret (by k_asm) kN (by intro p hp; repeat (first | exact hp | apply List.mem_cons_of_mem)) kI rfl)
end Mine
namespace Mine
open PySem PySem.W PyProof.Rows PySem.Calls
section
variable {prog : Program} {w : World} {A : Around} {E : Value → Shared → Prop} {s : Shared} {h₀ : Heap} {L : Addr} {m : Str → Option Value} {env : Env}
variable {ct elt : Expr} {x : Str} {scope : Scope} {cl : List (Str × Addr)} {S : List (Addr × Obj) → Prop} {Fin : List Value → List (Addr × Obj) → Prop} {news : List (Addr × Obj)}
/-- a comprehension over a range whose test takes no number -/
theorem kcn_range {n : Nat} {a : Int}
    (turn : ∀ k t I oI C oC D m₂ ys l h tk (E' : Value → Shared → Prop), a ≤ k → k < a + (n : Int) → IntsAre ys l → LCg.NsObj oC m₂ → m₂ x = some (.int k t) → Fr h₀ L h m → News h₀ L h ((I, oI) :: (C, oC) :: (D, LCg.lst ys) :: news) → LCg.Off3 I C D news → ((@Ne Nat I C) ∧ (@Ne Nat I D) ∧ (@Ne Nat C D)) → KPfMark →
      wpAny (model prog w) A (isTrue ct (compEnvC scope cl C env) (eval ct (compEnvC scope cl C env))) (fun b s' => if b = true then wpAny (model prog w) A (eval elt (compEnvC scope cl C env)) (LCg.CompEnd h₀ L m { s with heap := h, toks := tk } I oI C oC D (LCg.lst ys) S (fun y news' => KCiEl news l l y news')) E' s'
        else LCg.CompEnd h₀ L m { s with heap := h, toks := tk } I oI C oC D (LCg.lst ys) S (fun _ news' => KCiNo news l l news') Value.none s') E' { s with heap := h, toks := tk })
    (fin : KPfDone (∀ ys, IntsAre ys [] → Fin ys news)) : LCt.CompRestT prog w A h₀ L m env ct elt x scope cl s S (fun i v => ∃ t, v = .int (a + (i : Int)) t) Fin n 0 [] news := by
  refine kci_range (fun l _ => l) turn ?_ (fun l k => Nat.le_succ _)
  unfold KPfDone at fin ⊢
  intro ys hi _
  have e : ∀ ks : List Int, ks.foldl (fun (l : List Int) (_ : Int) => l) [] = [] := by
    intro ks
    induction ks with
    | nil => rfl
    | cons a r ih => exact ih
  rw [e] at hi
  exact fin ys hi
variable {value slice : PySem.Expr} {l : Addr} {vs : List Value} {bs : List Bool} {k : Int} {u : Tok} {Q : Value → Shared → Prop}
theorem item_bool (hl : s.heap.IsList l vs.toArray) (hi : LSm.BoolsAre vs bs) (hb : bs.length ≤ 21) (h0 : 0 ≤ k) (h1 : k < bs.length) (h : Q (.bool (bs.getD k.toNat false)) s)
    (hs : subscripted slice false (.ref l) (.int k u) = operate [.ref l, .int k u] (getItem (.ref l) (.int k u)) := by with_unfolding_all rfl) :
    wpAny (model prog w) A (subscriptTail value slice (.ref l) (.int k u)) Q E s := by
  have hlen := hi.length
  have hv : vs[k.toNat]? = some vs[k.toNat] := by simp [show k.toNat < vs.length by omega]
  obtain ⟨b, hb1, hb2⟩ := hi.get k.toNat _ hv
  have e : bs.getD k.toNat false = b := by rw [List.getD_eq_getElem?_getD, hb1]; rfl
  rw [e] at h
  rw [hb2] at hv
  exact tail_any hl.typeIs slot_list_getitem.lookup (wpAny_getItem_list hl h0 (by omega) (x := .bool b) (by simpa using hv) h) hs
theorem len_bools (hl : s.heap.IsList l vs.toArray) (hi : LSm.BoolsAre vs bs) (hb : bs.length ≤ 21) (h : Q (.int bs.length (s.toks + 1)) { s with toks := s.toks + 1 + 1 }) : wpAny (model prog w) A (call (.builtin "len") [.ref l]) Q E s := by
  have e : vs.toArray.size = bs.length := by rw [List.size_toArray]; exact hi.length
  refine PyProof.Rows.len_list hl (by rw [e]; omega) ?_
  rw [e]
  exact h
end
local macro_rules | `(tactic| k_mem) => `(tactic| assumption)
local macro_rules | `(tactic| walk_at "call type:range") => `(tactic| k_extra "call type:range")
local macro_rules | `(tactic| walk_at "call builtin:len") => `(tactic| k_extra "call builtin:len")
local macro_rules | `(tactic| walk_at "subscriptTail Name Name ref int") => `(tactic| k_extra "subscriptTail Name Name ref int")
local macro_rules | `(tactic| walk_at "eval ListComp") => `(tactic| k_extra "eval ListComp")
local macro_rules | `(tactic| walk_at "CompSrcT") => `(tactic| k_extra "CompSrcT")
local macro_rules | `(tactic| walk_at "CompEnd") => `(tactic| k_extra "CompEnd")
local macro_rules | `(tactic| walk_at "KCiNo") => `(tactic| k_extra "KCiNo")
set_option maxHeartbeats 4000000
theorem same_does (w : World) (news : List (Addr × Obj)) (D1 D2 : Addr) (ys1 ys2 : List Value) (n1 n2 : Nat) (bs : List Bool) (hm1 : (D1, listOf ys1.toArray n1) ∈ news) (hm2 : (D2, listOf ys2.toArray n2) ∈ news) (hb1 : LSm.BoolsAre ys1 bs) (hb2 : LSm.BoolsAre ys2 bs) (hl : bs.length ≤ 21) :
    Does w 150 9 news [.ref D1, .ref D2] (fun _ => .bool true) := by
  dsimp only [Does]
  k_fill
  intros
  rename_i hd hu hret
  refine wpAny_call ?_
  k_dflt (refine' code_defC ?k1 ?k2 ?k3 ?k4 ?k5 ?kA ?kF ?kK ?k6 ?k7 ?k8 ?k9 ?kB ?kD ?_ ?c2 ?c3 ?c4; (case kA => exact rfl); (case kF => exact rfl); (case kK => assumption); (case k1 => k_asm); (case k2 => k_asm); (case k3 => k_asm); (case k4 => k_asm); (case k5 => k_asm); (case k6 => k_is); (case k7 => k_is); (case k8 => ktr_room); (case k9 => exact BindsTo.of_eq rfl); (case kB => exact rfl); (case kD => decide +kernel); (case c2 => exact rfl); (case c3 => exact rfl); (case c4 => exact rfl); k_whole; intro g' L' h' tk' cells' FG' F' N' Y' B' X' T' l1; (try k_lt l1); k_cells Y'; (try simp only [List.cons_append, List.nil_append] at N'); (try dsimp only); (try k_lift B'); (try k_fold))
  k_with_none
  k_with "call type:range" => (k_here; (with_reducible show wpAny _ _ (call (Value.type "range") [_]) _ _ _); (rename Fr _ _ _ _ => F'); (rename News _ _ _ _ => N'); (refine range1_rows F' N' ?_); intro _ _ _ _ _ _ _ _ _)
  k_with "call builtin:len" => (k_here; (with_reducible show wpAny _ _ (call (Value.builtin "len") [Value.ref _]) _ _ _); k_dflt (refine len_bools (News.isList (by k_asm) (by k_mem)) (by assumption) (by assumption) ?_))
  k_with "subscriptTail Name Name ref int" => (k_here; (with_reducible show wpAny _ _ (subscriptTail _ _ (Value.ref _) (Value.int _ _)) _ _ _); k_dflt (refine item_bool (News.isList (by k_asm) (by k_mem)) (by assumption) (by assumption) (by omega) (by omega) ?_))
  k_with "eval ListComp" => (k_here; (with_reducible show wpAny _ _ (eval (Expr.ListComp _ [⟨_, Expr.Call _ _ _ _, _, _⟩] _ _) _) _ _ _); k_dflt (refine LCt.ListComp_T (F₀ := by k_asm) (by with_unfolding_all rfl) (by decide) (by rfl) (by decide) (by rfl) ?_))
  k_with "CompSrcT" => (k_here; k_dflt (refine LCt.CompSrcT.range (by rfl) (by k_asm) (by k_asm) (by assumption) (small_one (by omega) (by omega) (by omega) (by omega)) (rangeSize_nat _ _) (by rw [PySem.sizeLine_eq]; omega) ?_; intro g9; refine' kcn_range (fun k' t' I' oI' C' oC' D' m' ys' l' h' tk' E' hlo' hhi' hI' hC' hx' F' N' off' ne' => ?_) ?_; (all_goals (try ((show KPfMark → _); intro hMark'))); kcf_last))
  k_with "CompEnd" => (k_here; (with_reducible rename News _ _ _ _ => nE); (with_reducible rename LCg.Off3 _ _ _ _ => oE); k_dflt (refine LCg.CompEnd.intro (by assumption) nE _ (fun _ h => h) oE (by lcg_src) ?_))
  k_with "KCiNo" => exact kci_no rfl (by with_unfolding_all rfl)
  k_with "KCiNo" => exact kci_no rfl (by with_unfolding_all rfl)
  k_steps
  all_goals first
    | (exfalso; omega)
    | ((rename (_ != _) = true => hx9); exact absurd hx9 (by simp))
    | cb_end hret
end Mine
namespace Mine

section
variable {α : Type}
/-- the first n letters of w repeat after p -/
def Per (w : Nat → α) (n p : Nat) : Prop := ∀ i, i + p < n → w i = w (i + p)
theorem Per.mul {w : Nat → α} {n p : Nat} (h : Per w n p) : ∀ c, Per w n (p * c)
  | 0 => fun i _ => by simp
  | c + 1 => fun i hi => by
    rw [Nat.mul_succ] at hi ⊢
    rw [Per.mul h c i (by omega), h (i + p * c) (by omega)]
    congr 1
    omega
theorem Per.front {w : Nat → α} {n m p : Nat} (h : Per w n p) (hm : m ≤ n) : Per w m p := fun i hi => h i (by omega)
theorem Per.sub {w : Nat → α} {n p q : Nat} (hp : Per w n p) (hq : Per w n q) (h : p + q ≤ n) (hpq : p ≤ q) : Per w n (q - p) := by
  intro i hi
  by_cases hip : i < p
  · have h1 := hq i (by omega)
    have h2 := hp (i + (q - p)) (by omega)
    rw [h1, h2]
    congr 1
    omega
  · have h1 := hp (i - p) (by omega)
    have h2 := hq (i - p) (by omega)
    rw [show i - p + p = i by omega] at h1
    rw [← h1, h2]
    congr 1
    omega
/-- Fine and Wilf, the weak one -/
theorem fine_wilf {w : Nat → α} {n : Nat} : ∀ s p q, p + q ≤ s → 0 < p → 0 < q → p + q ≤ n → Per w n p → Per w n q → Per w n (Nat.gcd p q) := by
  intro s
  induction s with
  | zero => intro p q h h1 h2; omega
  | succ s ih =>
    intro p q h h1 h2 h3 hp hq
    rcases Nat.lt_trichotomy p q with hlt | he | hlt
    · have h4 := Per.sub hp hq h3 (by omega)
      have h5 := ih p (q - p) (by omega) h1 (by omega) (by omega) hp h4
      rwa [Nat.gcd_sub_self_right (by omega)] at h5
    · subst he
      rwa [Nat.gcd_self]
    · have h4 := Per.sub hq hp (by omega) (by omega)
      have h5 := ih (p - q) q (by omega) (by omega) h2 (by omega) h4 hq
      rwa [Nat.gcd_sub_self_left (by omega)] at h5
theorem Per.mod {w : Nat → α} {n p : Nat} (h : Per w n p) (hp : 0 < p) {i : Nat} (hi : i < n) : w (i % p) = w i := by
  have h1 := h.mul (i / p) (i % p) (by rw [Nat.mod_add_div]; exact hi)
  rwa [Nat.mod_add_div] at h1
/-- a shorter period of the first whole stretch that measures p is one of the whole -/
theorem per_of_front {w : Nat → α} {n m p g : Nat} (hp : Per w n p) (hp0 : 0 < p) (hm : p ≤ m) (hg : Per w m g) (hg0 : 0 < g) (hd : g ∣ p) : Per w n g := by
  have key : ∀ i, i < n → w (i % g) = w i := by
    intro i hi
    have h1 := hp.mod hp0 hi
    have h2 := (hg.front hm).mod hg0 (Nat.mod_lt i hp0)
    rw [Nat.mod_mod_of_dvd i hd] at h2
    rw [h2, h1]
  intro i hi
  rw [← key i (by omega), ← key (i + g) hi, Nat.add_mod_right]
/-- two words that differ in their last letter alone are not both powers -/
theorem not_both {y z : Nat → α} {L d e : Nat} (hs : ∀ i, i + 1 < L → y i = z i) (hl : y (L - 1) ≠ z (L - 1)) (hd : d ∣ L) (he : e ∣ L) (hdL : d < L) (heL : e < L) (hd0 : 0 < d) (he0 : 0 < e) (hy : Per y L d) (hz : Per z L e) : False := by
  have a : y (L - 1 - d) = y (L - 1) := by
    have := hy (L - 1 - d) (by omega)
    rwa [show L - 1 - d + d = L - 1 by omega] at this
  have b : z (L - 1 - e) = z (L - 1) := by
    have := hz (L - 1 - e) (by omega)
    rwa [show L - 1 - e + e = L - 1 by omega] at this
  have twice : ∀ {x : Nat}, x ∣ L → x < L → 0 < x → 2 * x ≤ L ∧ (2 * x = L ∨ 3 * x ≤ L) := by
    rintro x ⟨c, hc⟩ h1 h2
    have h3 : c ≠ 0 := by rintro rfl; simp at hc; omega
    have h4 : c ≠ 1 := by rintro rfl; omega
    have h5 : c = 2 ∨ 3 ≤ c := by omega
    rcases h5 with rfl | h5
    · omega
    · have := Nat.mul_le_mul_left x h5
      omega
  have hd2 := twice hd hdL hd0
  have he2 := twice he heL he0
  by_cases hde : d = e
  · subst hde
    apply hl
    rw [← a, ← b]
    exact hs _ (by omega)
  · have hsum : d + e ≤ L - 1 := by omega
    -- the letter d and e before the last
    have c1 : y (L - 1 - d - e) = y (L - 1 - e) := by
      have := hy (L - 1 - d - e) (by omega)
      rwa [show L - 1 - d - e + d = L - 1 - e by omega] at this
    have c2 : z (L - 1 - d - e) = z (L - 1 - d) := by
      have := hz (L - 1 - d - e) (by omega)
      rwa [show L - 1 - d - e + e = L - 1 - d by omega] at this
    apply hl
    rw [← a, ← b, hs _ (by omega), ← c2, ← hs _ (by omega), c1]
    exact hs _ (by omega)
end
end Mine
namespace Mine

section
variable {α : Type} [DecidableEq α]
def perB (w : Nat → α) (n p : Nat) : Bool := (List.range (n - p)).all fun i => decide (w i = w (i + p))
theorem perB_iff {w : Nat → α} {n p : Nat} : perB w n p = true ↔ Per w n p := by
  unfold perB
  rw [List.all_eq_true]
  constructor
  · intro h i hi
    exact of_decide_eq_true (h i (List.mem_range.mpr (by omega)))
  · intro h i hi
    exact decide_eq_true (h i (by have := List.mem_range.mp hi; omega))
/-- the lengths of the borders, the least first -/
def bords (w : Nat → α) (n : Nat) : List Nat := (List.range' 1 (n - 1)).filter fun k => perB w n (n - k)
theorem mem_bords {w : Nat → α} {n k : Nat} : k ∈ bords w n ↔ 0 < k ∧ k < n ∧ Per w n (n - k) := by
  unfold bords
  rw [List.mem_filter, List.mem_range'_1, perB_iff]
  constructor
  · rintro ⟨⟨a, b⟩, c⟩; exact ⟨by omega, by omega, c⟩
  · rintro ⟨a, b, c⟩; exact ⟨⟨by omega, by omega⟩, c⟩
theorem bords_sorted (w : Nat → α) (n : Nat) : (bords w n).Pairwise (· < ·) := List.Pairwise.filter _ (List.pairwise_lt_range')
/-- two rising lists with the same members are the same -/
theorem sorted_ext : ∀ {a b : List Nat}, a.Pairwise (· < ·) → b.Pairwise (· < ·) → (∀ k, k ∈ a ↔ k ∈ b) → a = b
  | [], [], _, _, _ => rfl
  | [], y :: b, _, _, h => by have := (h y).mpr (.head _); cases this
  | x :: a, [], _, _, h => by have := (h x).mp (.head _); cases this
  | x :: a, y :: b, ha, hb, h => by
    rw [List.pairwise_cons] at ha hb
    have hxy : x = y := by
      have h1 := (h x).mp (.head _)
      have h2 := (h y).mpr (.head _)
      rcases List.mem_cons.mp h1 with e | h1
      · exact e
      · rcases List.mem_cons.mp h2 with e | h2
        · exact e.symm
        · have := ha.1 y h2
          have := hb.1 x h1
          omega
    subst hxy
    rw [sorted_ext ha.2 hb.2 fun k => ?_]
    constructor
    · intro hk
      rcases List.mem_cons.mp ((h k).mp (.tail _ hk)) with e | h1
      · have := ha.1 k hk; omega
      · exact h1
    · intro hk
      rcases List.mem_cons.mp ((h k).mpr (.tail _ hk)) with e | h1
      · have := hb.1 k hk; omega
      · exact h1
theorem last_max {a : List Nat} {b : Nat} (ha : a.Pairwise (· < ·)) (h : a.getLast? = some b) : a = a.dropLast ++ [b] ∧ ∀ k ∈ a.dropLast, k < b := by
  have h1 : a = a.dropLast ++ [b] := by
    obtain ⟨ys, rfl⟩ := List.getLast?_eq_some_iff.mp h
    rw [List.dropLast_concat]
  refine ⟨h1, fun k hk => ?_⟩
  rw [h1, List.pairwise_append] at ha
  exact ha.2.2 k hk b (List.mem_singleton.mpr rfl)
omit [DecidableEq α] in
/-- short borders do not see whole stretches cut out of the middle -/
theorem shift {w : Nat → α} {n m p j k : Nat} (hp : Per w n p) (hm : m + p * j = n) (hk : k < m) : Per w n (n - k) ↔ Per w m (m - k) := by
  have hj := hp.mul j
  constructor
  · intro h i hi
    rw [h i (by omega), hj (i + (m - k)) (by omega)]
    congr 1
    omega
  · intro h i hi
    rw [h i (by omega), hj (i + (m - k)) (by omega)]
    congr 1
    omega
end
def get (row : List Int) (i : Nat) : Int := row.getD i 0
theorem get_left {a b : List Int} {i : Nat} (h : i < a.length) : get (a ++ b) i = get a i := by
  unfold get
  rw [List.getD_eq_getElem?_getD, List.getD_eq_getElem?_getD, List.getElem?_append_left h]
theorem get_right {a b : List Int} {i : Nat} (h : a.length ≤ i) : get (a ++ b) i = get b (i - a.length) := by
  unfold get
  rw [List.getD_eq_getElem?_getD, List.getD_eq_getElem?_getD, List.getElem?_append_right h]
theorem get_take {a : List Int} {i p : Nat} (h : i < p) : get (a.take p) i = get a i := by
  unfold get
  rw [List.getD_eq_getElem?_getD, List.getD_eq_getElem?_getD, List.getElem?_take_of_lt h]
theorem rep_len {x : List Int} {d : Nat} (h : x.length = d) : ∀ c, ((List.replicate c x).flatten).length = d * c
  | 0 => by simp
  | c + 1 => by rw [List.replicate_succ, List.flatten_cons, List.length_append, rep_len h c, h, Nat.mul_succ]; omega
theorem rep_get {x : List Int} {d : Nat} (h : x.length = d) (hd : 0 < d) : ∀ c i, i < d * c → get (List.replicate c x).flatten i = get x (i % d)
  | 0, i, hi => by simp at hi
  | c + 1, i, hi => by
    rw [List.replicate_succ, List.flatten_cons]
    rw [Nat.mul_succ] at hi
    by_cases h1 : i < d
    · rw [get_left (by omega), Nat.mod_eq_of_lt h1]
    · rw [get_right (by omega), h, rep_get h hd c (i - d) (by omega)]
      congr 1
      rw [Nat.mod_eq_sub_mod (a := i) (by omega)]
theorem get_ext {a b : List Int} (h : a.length = b.length) (hg : ∀ i, i < a.length → get a i = get b i) : a = b := by
  apply List.ext_getElem h
  intro i h1 h2
  have := hg i h1
  unfold get at this
  rw [List.getD_eq_getElem?_getD, List.getD_eq_getElem?_getD, List.getElem?_eq_getElem h1, List.getElem?_eq_getElem h2] at this
  exact this
/-- is the row a power of a shorter one? -/
def powB (row : List Int) : Bool := (List.range' 1 (row.length - 1)).any fun part => row.length % part == 0 && decide ((List.replicate (row.length / part) (row.take part)).flatten = row)
theorem powB_iff {row : List Int} : powB row = true ↔ ∃ d, 0 < d ∧ d < row.length ∧ d ∣ row.length ∧ Per (get row) row.length d := by
  unfold powB
  rw [List.any_eq_true]
  have key : ∀ d, 0 < d → d < row.length → d ∣ row.length → ((List.replicate (row.length / d) (row.take d)).flatten = row ↔ Per (get row) row.length d) := by
    intro d h1 h2 h3
    have hl : (row.take d).length = d := by rw [List.length_take]; omega
    have hc := Nat.mul_div_cancel' h3
    constructor
    · intro h i hi
      have g1 := rep_get hl h1 (row.length / d) i (by omega)
      have g2 := rep_get hl h1 (row.length / d) (i + d) (by omega)
      rw [h] at g1 g2
      rw [g1, g2, Nat.add_mod_right]
    · intro h
      refine get_ext (by rw [rep_len hl, hc]) fun i hi => ?_
      rw [rep_len hl, hc] at hi
      rw [rep_get hl h1 _ i (by omega), get_take (Nat.mod_lt i h1), h.mod h1 hi]
  constructor
  · rintro ⟨d, hd, h⟩
    rw [List.mem_range'_1] at hd
    simp only [Bool.and_eq_true, beq_iff_eq, decide_eq_true_eq] at h
    exact ⟨d, by omega, by omega, Nat.dvd_of_mod_eq_zero h.1, (key d (by omega) (by omega) (Nat.dvd_of_mod_eq_zero h.1)).mp h.2⟩
  · rintro ⟨d, h1, h2, h3, h4⟩
    refine ⟨d, List.mem_range'_1.mpr ⟨by omega, by omega⟩, ?_⟩
    simp only [Bool.and_eq_true, beq_iff_eq, decide_eq_true_eq]
    exact ⟨Nat.mod_eq_zero_of_dvd h3, (key d h1 h2 h3).mpr h4⟩
end Mine
namespace Mine

/-- the row of the figures 0 and 1, out of the length and the borders -/
def twoF : Nat → Nat → List Nat → List Int
  | 0, _, _ => []
  | f + 1, n, ends => match ends.getLast? with
    | none => 0 :: List.replicate (n - 1) 1
    | some b => if n - b ≤ b then
        (List.replicate (n / (n - b)) ((twoF f (n - b + n % (n - b)) (ends.filter fun e => decide (e < n - b + n % (n - b)))).take (n - b))).flatten ++ (twoF f (n - b + n % (n - b)) (ends.filter fun e => decide (e < n - b + n % (n - b)))).take (n % (n - b))
      else if powB (twoF f b ends.dropLast ++ List.replicate (n - b - b - 1) 1 ++ [1]) = true then twoF f b ends.dropLast ++ List.replicate (n - b - b - 1) 1 ++ [0] ++ twoF f b ends.dropLast
      else twoF f b ends.dropLast ++ List.replicate (n - b - b - 1) 1 ++ [1] ++ twoF f b ends.dropLast
section
variable {α : Type} [DecidableEq α]
/-- what the row must be -/
structure Good (w : Nat → α) (n : Nat) (r : List Int) : Prop where
  len : r.length = n
  bits : ∀ c ∈ r, c = 0 ∨ c = 1
  zero : get r 0 = 0
  same : ∀ p, 0 < p → p < n → (Per (get r) n p ↔ Per w n p)
omit [DecidableEq α] in
theorem good_none {w : Nat → α} {n : Nat} (hn : 0 < n) (h : ∀ p, 0 < p → p < n → ¬ Per w n p) : Good w n (0 :: List.replicate (n - 1) 1) where
  len := by rw [List.length_cons, List.length_replicate]; omega
  bits := by
    intro c hc
    rcases List.mem_cons.mp hc with e | hc
    · exact .inl e
    · exact .inr (List.eq_of_mem_replicate hc)
  zero := rfl
  same := by
    intro p h0 h1
    refine ⟨fun hp => ?_, fun hp => absurd hp (h p h0 h1)⟩
    have h2 := hp 0 (by omega)
    rw [Nat.zero_add] at h2
    have h3 : get (0 :: List.replicate (n - 1) 1) p = 1 := by
      unfold get
      obtain ⟨q, rfl⟩ : ∃ q, p = q + 1 := ⟨p - 1, by omega⟩
      rw [List.getD_cons_succ, List.getD_eq_getElem?_getD, List.getElem?_replicate, if_pos (by omega)]
      rfl
    have h4 : get (0 :: List.replicate (n - 1) 1) 0 = 0 := rfl
    rw [h3, h4] at h2
    exact absurd h2 (by decide)
omit [DecidableEq α] in
theorem good_long {w : Nat → α} {n p : Nat} {row : List Int} (hp0 : 0 < p) (hpn : 2 * p ≤ n) (hp : Per w n p) (hmin : ∀ q, 0 < q → q < p → ¬ Per w n q) (hg : Good w (p + n % p) row) :
    Good w n ((List.replicate (n / p) (row.take p)).flatten ++ row.take (n % p)) := by
  have hr := Nat.mod_lt n hp0
  have hc := Nat.mod_add_div n p
  have hc2 : 2 ≤ n / p := (Nat.le_div_iff_mul_le hp0).mpr hpn
  have hl : (row.take p).length = p := by rw [List.length_take, hg.len]; omega
  have hlr : (row.take (n % p)).length = n % p := by rw [List.length_take, hg.len]; omega
  have hu : ∀ i, i < n → get ((List.replicate (n / p) (row.take p)).flatten ++ row.take (n % p)) i = get row (i % p) := by
    intro i hi
    by_cases h : i < p * (n / p)
    · rw [get_left (by rw [rep_len hl]; exact h), rep_get hl hp0 _ _ h, get_take (Nat.mod_lt i hp0)]
    · rw [get_right (by rw [rep_len hl]; omega), rep_len hl, get_take (by omega)]
      congr 1
      have h1 : i = (i - p * (n / p)) + p * (n / p) := by omega
      conv => rhs; rw [h1]
      rw [Nat.add_mul_mod_self_left, Nat.mod_eq_of_lt (by omega)]
  generalize hU : (List.replicate (n / p) (row.take p)).flatten ++ row.take (n % p) = U at hu ⊢
  have hup : Per (get U) n p := by
    intro i hi
    rw [hu i (by omega), hu (i + p) hi, Nat.add_mod_right]
  have hless : p + n % p < n := by
    have := Nat.mul_le_mul_left p hc2
    omega
  have hfront : ∀ i, i < p + n % p → get U i = get row i := by
    intro i hi
    rw [hu i (by omega)]
    by_cases h : i < p
    · rw [Nat.mod_eq_of_lt h]
    · have h1 := ((hg.same p hp0 (by omega)).mpr (hp.front (by omega))) (i - p) (by omega)
      rw [show i - p + p = i by omega] at h1
      rw [Nat.mod_eq_sub_mod (by omega), Nat.mod_eq_of_lt (by omega), h1]
  have perf : ∀ q, Per (get U) (p + n % p) q ↔ Per (get row) (p + n % p) q := by
    intro q
    constructor
    · intro h i hi
      rw [← hfront i (by omega), ← hfront (i + q) hi]
      exact h i hi
    · intro h i hi
      rw [hfront i (by omega), hfront (i + q) hi]
      exact h i hi
  have hm : p + n % p + p * (n / p - 1) = n := by
    rw [Nat.mul_sub, Nat.mul_one]
    have := Nat.mul_le_mul_left p hc2
    omega
  have measured : ∀ q, 0 < q → q ≤ n - (p + n % p) → (Per w n q ↔ p ∣ q) ∧ (Per (get U) n q ↔ p ∣ q) := by
    intro q q0 q1
    constructor
    · constructor
      · intro h
        have h1 := fine_wilf (p + q) p q (Nat.le_refl _) hp0 q0 (by omega) hp h
        have h2 := Nat.gcd_le_left q hp0
        have h3 := Nat.gcd_pos_of_pos_left q hp0
        rcases Nat.lt_or_ge (Nat.gcd p q) p with h4 | h4
        · exact absurd h1 (hmin _ h3 h4)
        · have h5 : Nat.gcd p q = p := by omega
          rw [← h5]
          exact Nat.gcd_dvd_right p q
      · rintro ⟨c, rfl⟩
        exact hp.mul c
    · constructor
      · intro h
        have h1 := fine_wilf (p + q) p q (Nat.le_refl _) hp0 q0 (by omega) hup h
        have h2 := Nat.gcd_le_left q hp0
        have h3 := Nat.gcd_pos_of_pos_left q hp0
        rcases Nat.lt_or_ge (Nat.gcd p q) p with h4 | h4
        · have h5 := (hg.same _ h3 (by omega)).mp ((perf _).mp (h1.front (by omega)))
          exact absurd (per_of_front hp hp0 (by omega) h5 h3 (Nat.gcd_dvd_left p q)) (hmin _ h3 h4)
        · have h5 : Nat.gcd p q = p := by omega
          rw [← h5]
          exact Nat.gcd_dvd_right p q
      · rintro ⟨c, rfl⟩
        exact hup.mul c
  refine ⟨?_, ?_, ?_, ?_⟩
  · rw [← hU, List.length_append, rep_len hl, hlr]
    omega
  · intro c hcU
    rw [← hU] at hcU
    rcases List.mem_append.mp hcU with h | h
    · obtain ⟨x, hx, hcx⟩ := List.mem_flatten.mp h
      rw [List.eq_of_mem_replicate hx] at hcx
      exact hg.bits c (List.mem_of_mem_take hcx)
    · exact hg.bits c (List.mem_of_mem_take h)
  · rw [hu 0 (by omega), Nat.zero_mod]
    exact hg.zero
  · intro q q0 qn
    by_cases hk : n - q < p + n % p
    · have e1 := shift (k := n - q) hup hm hk
      have e2 := shift (k := n - q) hp hm hk
      rw [show n - (n - q) = q by omega] at e1 e2
      rw [e1, e2, perf]
      exact hg.same _ (by omega) (by omega)
    · have := measured q q0 (by omega)
      rw [this.1, this.2]
omit [DecidableEq α] in
theorem good_short {w : Nat → α} {n b : Nat} {x : List Int} {c : Int} (hb : 0 < b) (hbn : 2 * b < n) (hp : Per w n (n - b)) (hmin : ∀ q, 0 < q → q < n - b → ¬ Per w n q) (hg : Good w b x)
    (hc : (c = 1 ∧ powB (x ++ List.replicate (n - b - b - 1) 1 ++ [1]) = false) ∨ (c = 0 ∧ powB (x ++ List.replicate (n - b - b - 1) 1 ++ [1]) = true)) :
    Good w n (x ++ List.replicate (n - b - b - 1) 1 ++ [c] ++ x) := by
  have hx := hg.len
  have hlen1 : ∀ d : Int, (x ++ List.replicate (n - b - b - 1) 1 ++ [d]).length = n - b := by
    intro d
    rw [List.length_append, List.length_append, List.length_replicate, List.length_singleton]
    omega
  have g0 : ∀ (d : Int) i, i < b → get (x ++ List.replicate (n - b - b - 1) 1 ++ [d]) i = get x i := by
    intro d i hi
    rw [List.append_assoc, get_left (by omega)]
  have g1 : ∀ (d : Int) i, b ≤ i → i < n - b - 1 → get (x ++ List.replicate (n - b - b - 1) 1 ++ [d]) i = 1 := by
    intro d i h1 h2
    rw [get_left (by rw [List.length_append, List.length_replicate]; omega), get_right (by omega)]
    unfold get
    rw [List.getD_eq_getElem?_getD, List.getElem?_replicate, if_pos (by omega)]
    rfl
  have g2 : ∀ (d : Int), get (x ++ List.replicate (n - b - b - 1) 1 ++ [d]) (n - b - 1) = d := by
    intro d
    rw [get_right (by rw [List.length_append, List.length_replicate]; omega), List.length_append, List.length_replicate]
    rw [show n - b - 1 - (x.length + (n - b - b - 1)) = 0 by omega]
    rfl
  have u0 : ∀ i, i < n - b → get (x ++ List.replicate (n - b - b - 1) 1 ++ [c] ++ x) i = get (x ++ List.replicate (n - b - b - 1) 1 ++ [c]) i := by
    intro i hi
    rw [get_left (by rw [hlen1]; exact hi)]
  have u1 : ∀ i, n - b ≤ i → get (x ++ List.replicate (n - b - b - 1) 1 ++ [c] ++ x) i = get x (i - (n - b)) := by
    intro i hi
    rw [get_right (by rw [hlen1]; exact hi), hlen1]
  generalize hU : x ++ List.replicate (n - b - b - 1) 1 ++ [c] ++ x = U at u0 u1 ⊢
  have uf : ∀ i, i < b → get U i = get x i := fun i hi => by rw [u0 i (by omega), g0 c i hi]
  have hup : Per (get U) n (n - b) := by
    intro i hi
    rw [uf i (by omega), u1 _ (by omega)]
    congr 1
    omega
  have uz : get U 0 = 0 := by rw [uf 0 hb]; exact hg.zero
  have prim : ∀ d, 0 < d → d < n - b → d ∣ n - b → ¬ Per (get U) (n - b) d := by
    intro d d0 d1 d2 hd
    rcases hc with ⟨rfl, hpw⟩ | ⟨rfl, hpw⟩
    · have : powB (x ++ List.replicate (n - b - b - 1) 1 ++ [1]) = true := by
        refine powB_iff.mpr ⟨d, d0, by rw [hlen1]; exact d1, by rw [hlen1]; exact d2, ?_⟩
        rw [hlen1]
        intro i hi
        rw [← u0 i (by omega), ← u0 (i + d) hi]
        exact hd i hi
      rw [hpw] at this
      cases this
    · obtain ⟨e, e0, e1, e2, he⟩ := powB_iff.mp hpw
      rw [hlen1] at e1 e2 he
      refine not_both (y := get U) (z := get (x ++ List.replicate (n - b - b - 1) 1 ++ [1])) (L := n - b) ?_ ?_ d2 e2 d1 e1 d0 e0 hd he
      · intro i hi
        rw [u0 i (by omega)]
        by_cases h : i < b
        · rw [g0 _ i h, g0 _ i h]
        · rw [g1 _ i (by omega) (by omega), g1 _ i (by omega) (by omega)]
      · rw [u0 _ (by omega), g2, g2]
        decide
  have none : ∀ q, 0 < q → q < n - b → ¬ Per (get U) n q := by
    intro q q0 q1 hq
    have hq0 := hq 0 (by omega)
    rw [Nat.zero_add, uz] at hq0
    by_cases hs : n - b + q ≤ n
    · have h1 := fine_wilf (n - b + q) (n - b) q (Nat.le_refl _) (by omega) q0 hs hup hq
      have h2 := Nat.le_of_dvd q0 (Nat.gcd_dvd_right (n - b) q)
      have h3 := Nat.gcd_pos_of_pos_right (n - b) q0
      exact prim _ h3 (by omega) (Nat.gcd_dvd_left _ _) (h1.front (by omega))
    · by_cases hq2 : q < n - b - 1
      · rw [u0 q (by omega), g1 c q (by omega) hq2] at hq0
        exact absurd hq0 (by decide)
      · have hqe : q = n - b - 1 := by omega
        have step : ∀ i, i ≤ b → get U i = 0 := by
          intro i
          induction i with
          | zero => intro _; exact uz
          | succ i ih =>
            intro hi
            have h1 := hq (i + 1) (by omega)
            rw [h1, u1 _ (by omega), show i + 1 + q - (n - b) = i by omega, ← uf i (by omega)]
            exact ih (by omega)
        have h1 := step b (Nat.le_refl _)
        rw [u0 b (by omega), g1 c b (Nat.le_refl _) (by omega)] at h1
        exact absurd h1 (by decide)
  refine ⟨?_, ?_, uz, ?_⟩
  · rw [← hU, List.length_append, hlen1]
    omega
  · intro d hd
    rw [← hU] at hd
    rcases List.mem_append.mp hd with h | h
    · rcases List.mem_append.mp h with h | h
      · rcases List.mem_append.mp h with h | h
        · exact hg.bits d h
        · exact .inr (List.eq_of_mem_replicate h)
      · rw [List.mem_singleton.mp h]
        rcases hc with ⟨rfl, _⟩ | ⟨rfl, _⟩
        · exact .inr rfl
        · exact .inl rfl
    · exact hg.bits d h
  · intro q q0 qn
    rcases Nat.lt_trichotomy q (n - b) with h | h | h
    · exact ⟨fun hq => absurd hq (none q q0 h), fun hq => absurd hq (hmin q q0 h)⟩
    · subst h
      exact ⟨fun _ => hp, fun _ => hup⟩
    · have hm : b + (n - b) * 1 = n := by omega
      have e1 := shift (k := n - q) hup hm (by omega)
      have e2 := shift (k := n - q) hp hm (by omega)
      rw [show n - (n - q) = q by omega] at e1 e2
      rw [e1, e2, ← hg.same _ (by omega) (by omega)]
      constructor
      · intro hq i hi
        rw [← uf i (by omega), ← uf _ hi]
        exact hq i hi
      · intro hq i hi
        rw [uf i (by omega), uf _ hi]
        exact hq i hi
theorem two_good : ∀ (f n : Nat) (w : Nat → α), 0 < n → n ≤ f → Good w n (twoF f n (bords w n))
  | 0, n, w, h0, h1 => by omega
  | f + 1, n, w, h0, h1 => by
    unfold twoF
    cases hl : (bords w n).getLast? with
    | none =>
      refine good_none h0 fun p p0 p1 hp => ?_
      have : n - p ∈ bords w n := mem_bords.mpr ⟨by omega, by omega, by rwa [show n - (n - p) = p by omega]⟩
      rw [List.getLast?_eq_none_iff.mp hl] at this
      cases this
    | some b =>
      obtain ⟨hd, hlt⟩ := last_max (bords_sorted w n) hl
      have hbm : b ∈ bords w n := by rw [hd]; exact List.mem_append_right _ (List.mem_singleton.mpr rfl)
      obtain ⟨b0, bn, hp⟩ := mem_bords.mp hbm
      have hmin : ∀ q, 0 < q → q < n - b → ¬ Per w n q := by
        intro q q0 q1 hq
        have h2 : n - q ∈ bords w n := mem_bords.mpr ⟨by omega, by omega, by rwa [show n - (n - q) = q by omega]⟩
        rw [hd] at h2
        rcases List.mem_append.mp h2 with h3 | h3
        · have := hlt _ h3; omega
        · have := List.mem_singleton.mp h3; omega
      dsimp only
      by_cases hs : n - b ≤ b
      · rw [if_pos hs]
        have hc := Nat.mod_add_div n (n - b)
        have hr := Nat.mod_lt n (show 0 < n - b by omega)
        have hc2 : 2 ≤ n / (n - b) := (Nat.le_div_iff_mul_le (by omega)).mpr (by omega)
        have hm2 := Nat.mul_le_mul_left (n - b) hc2
        have he : (bords w n).filter (fun e => decide (e < n - b + n % (n - b))) = bords w (n - b + n % (n - b)) := by
          refine sorted_ext (List.Pairwise.filter _ (bords_sorted w n)) (bords_sorted w _) fun k => ?_
          rw [List.mem_filter, mem_bords, mem_bords, decide_eq_true_iff]
          have hm : n - b + n % (n - b) + (n - b) * (n / (n - b) - 1) = n := by
            rw [Nat.mul_sub, Nat.mul_one]
            omega
          constructor
          · rintro ⟨⟨k0, _, hk⟩, k1⟩
            exact ⟨k0, k1, (shift hp hm k1).mp hk⟩
          · rintro ⟨k0, k1, hk⟩
            exact ⟨⟨k0, by omega, (shift hp hm k1).mpr hk⟩, k1⟩
        rw [he]
        exact good_long (by omega) (by omega) hp hmin (two_good f _ w (by omega) (by omega))
      · rw [if_neg hs]
        have he : (bords w n).dropLast = bords w b := by
          refine sorted_ext ?_ (bords_sorted w b) fun k => ?_
          · have := bords_sorted w n
            rw [hd, List.pairwise_append] at this
            exact this.1
          · have hm : b + (n - b) * 1 = n := by omega
            constructor
            · intro hk
              have hkb := hlt k hk
              have h2 : k ∈ bords w n := by rw [hd]; exact List.mem_append_left _ hk
              obtain ⟨k0, _, hk⟩ := mem_bords.mp h2
              exact mem_bords.mpr ⟨k0, hkb, (shift hp hm hkb).mp hk⟩
            · intro hk
              obtain ⟨k0, k1, hk⟩ := mem_bords.mp hk
              have h2 : k ∈ bords w n := mem_bords.mpr ⟨k0, by omega, (shift hp hm k1).mpr hk⟩
              rw [hd] at h2
              rcases List.mem_append.mp h2 with h3 | h3
              · exact h3
              · have := List.mem_singleton.mp h3; omega
        rw [he]
        have ih := two_good f b w b0 (by omega)
        by_cases hpw : powB (twoF f b (bords w b) ++ List.replicate (n - b - b - 1) 1 ++ [1]) = true
        · rw [if_pos hpw]
          exact good_short b0 (by omega) hp hmin ih (.inr ⟨rfl, hpw⟩)
        · rw [if_neg hpw]
          exact good_short b0 (by omega) hp hmin ih (.inl ⟨rfl, by simpa using hpw⟩)
/-- the row made of a word's borders has the same borders -/
theorem two_bords {w : Nat → α} {f n : Nat} (h0 : 0 < n) (h1 : n ≤ f) : bords (get (twoF f n (bords w n))) n = bords w n := by
  have h := two_good f n w h0 h1
  refine sorted_ext (bords_sorted _ n) (bords_sorted w n) fun k => ?_
  rw [mem_bords, mem_bords]
  constructor
  · rintro ⟨k0, k1, hk⟩
    exact ⟨k0, k1, (h.same _ (by omega) (by omega)).mp hk⟩
  · rintro ⟨k0, k1, hk⟩
    exact ⟨k0, k1, (h.same _ (by omega) (by omega)).mpr hk⟩
end
end Mine
namespace Mine
open PySem PySem.W PyProof.Rows PySem.Calls
section
variable {prog : Program} {w : World} {A : Around} {E : Value → Shared → Prop} {s : Shared} {value slice : PySem.Expr} {l : Addr} {vs : List Value} {ks : List Int} {k : Int} {u : Tok} {Q : Value → Shared → Prop}
theorem len_intsL (hl : s.heap.IsList l vs.toArray) (hi : IntsAre vs ks) (hb : ks.length ≤ 21) (h : Q (.int ks.length (s.toks + 1)) { s with toks := s.toks + 1 + 1 }) : wpAny (model prog w) A (call (.builtin "len") [.ref l]) Q E s := by
  have e : vs.toArray.size = ks.length := by rw [List.size_toArray]; exact hi.length
  refine PyProof.Rows.len_list hl (by rw [e]; omega) ?_
  rw [e]
  exact h
end
theorem fdiv_bd {a k : Int} (h0 : 0 ≤ a) (h1 : 1 ≤ k) : 0 ≤ a.fdiv k ∧ a.fdiv k ≤ a := by
  rw [Int.fdiv_eq_ediv_of_nonneg _ (by omega)]
  exact ⟨Int.ediv_nonneg h0 (by omega), Int.ediv_le_self k h0⟩
section
variable {prog : Program} {w : World} {A : Around} {E : Value → Shared → Prop} {s : Shared} {l : Addr} {vs : List Value} {ms : List Int} {a k : Int} {u : Tok} {Q : Value → Shared → Prop} {h₀ : Heap} {L : Addr} {m : Str → Option Value} {news : List (Addr × Obj)}
theorem mul_part (Fm : Fr h₀ L s.heap m) (N : News h₀ L s.heap news) (hl : s.heap.IsList l vs.toArray) (hi : IntsAre vs ms) (hml : ms.length ≤ 21) (ha : 0 ≤ a) (ha2 : a ≤ 21) (hk : 1 ≤ k)
    (h : ∀ D h', Fr h₀ L h' m → News h₀ L h' ((D, listOf (List.replicate (a.fdiv k).toNat vs).flatten.toArray 0) :: news) → (∀ p ∈ news, p.1 < D) → IntsAre (List.replicate (a.fdiv k).toNat vs).flatten (List.replicate (a.fdiv k).toNat ms).flatten → (List.replicate (a.fdiv k).toNat ms).flatten.length ≤ 441 → Q (.ref D) { s with heap := h' }) :
    wpAny (model prog w) A (binaryOp .Mult (.ref l) (.int (a.fdiv k) u)) Q E s := by
  have hb := fdiv_bd ha hk
  have hx : (a.fdiv k).toNat ≤ 21 := by omega
  have hm : vs.length * (a.fdiv k).toNat ≤ 441 := by rw [hi.length]; exact Nat.le_trans (Nat.mul_le_mul hml hx) (by decide)
  refine KM.mul Fm N hl hi (by omega) (by omega) (Nat.le_trans hm (by decide)) fun D h' F' N' l1 i1 n1 e1 e2 _ _ => h D h' F' N' l1 i1 ?_
  rw [← i1.length, List.length_flatten, List.map_replicate, List.sum_replicate_nat, Nat.mul_comm]
  exact hm
end
/-- the part repeated is the row -/
def pwT (ks : List Int) (p : Int) : Bool := ((ks.length : Int).fmod p == 0) && decide ((List.replicate ((ks.length : Int).fdiv p).toNat (ks.take p.toNat)).flatten = ks)
def PwP (ks pre : List Int) : Prop := ∀ p : Int, 1 ≤ p → p < 1 + (pre.length : Int) → pwT ks p = false
theorem pwp_start {ks : List Int} : PwP ks [] := fun p h0 h1 => by simp at h1; omega
theorem pwp_snoc {ks pre : List Int} {k : Int} (h : PwP ks pre) (e : k = 1 + (pre.length : Int)) (h2 : pwT ks k = false) : PwP ks (pre ++ [k]) := by
  intro p h0 h1
  rw [List.length_append, List.length_singleton] at h1
  by_cases hp : p = k
  · subst hp; exact h2
  · exact h p h0 (by omega)
theorem pwT_nat {ks : List Int} {p : Nat} : pwT ks (p : Int) = (ks.length % p == 0 && decide ((List.replicate (ks.length / p) (ks.take p)).flatten = ks)) := by
  unfold pwT
  have e1 : (ks.length : Int).fmod (p : Int) = ((ks.length % p : Nat) : Int) := by rw [Int.fmod_eq_emod_of_nonneg _ (by omega)]; rfl
  have e2 : (ks.length : Int).fdiv (p : Int) = ((ks.length / p : Nat) : Int) := by rw [Int.fdiv_eq_ediv_of_nonneg _ (by omega)]; rfl
  rw [e1, e2, Int.toNat_natCast, Int.toNat_natCast]
  congr 1
  by_cases h : ks.length % p = 0
  · rw [h]; rfl
  · rw [beq_eq_false_iff_ne.mpr h, beq_eq_false_iff_ne.mpr (by omega)]
theorem pw_ne {ks : List Int} {k : Int} (h : (ks.length : Int).fmod k ≠ 0) : pwT ks k = false := by
  unfold pwT
  rw [beq_eq_false_iff_ne.mpr h]
  rfl
theorem pw_no {ks : List Int} {k : Int} (h : ¬ (List.replicate ((ks.length : Int).fdiv k).toNat (ks.take k.toNat)).flatten = ks) : pwT ks k = false := by
  unfold pwT
  rw [decide_eq_false h, Bool.and_false]
theorem pw_yes {ks : List Int} {k : Int} (h1 : (ks.length : Int).fmod k = 0) (h : (List.replicate ((ks.length : Int).fdiv k).toNat (ks.take k.toNat)).flatten = ks) : pwT ks k = true := by
  unfold pwT
  rw [decide_eq_true h, Bool.and_true, h1]
  rfl
theorem pow_yes {ks : List Int} {k : Int} {j : Nat} (e : k = 1 + (j : Int)) (hj : j < ((ks.length : Int) - 1).toNat) (h : pwT ks k = true) : powB ks = true := by
  unfold powB
  rw [List.any_eq_true]
  refine ⟨j + 1, List.mem_range'_1.mpr ⟨by omega, by omega⟩, ?_⟩
  rw [← pwT_nat, show ((j + 1 : Nat) : Int) = k by omega]
  exact h
theorem pow_no {ks : List Int} (h : PwP ks (rangeKs 1 ((ks.length : Int) - 1).toNat)) : powB ks = false := by
  unfold powB
  rw [List.any_eq_false]
  intro p hp
  have hp := List.mem_range'_1.mp hp
  rw [← pwT_nat, h p (by omega) (by rw [rangeKs_length]; omega)]
  decide
local macro_rules | `(tactic| k_mem) => `(tactic| (refine List.mem_append.mpr (Or.inl ?_); k_mem))
local macro_rules | `(tactic| k_mem) => `(tactic| assumption)
local macro_rules | `(tactic| walk_at "call type:range") => `(tactic| k_extra "call type:range")
local macro_rules | `(tactic| walk_at "call builtin:len") => `(tactic| k_extra "call builtin:len")
local macro_rules | `(tactic| walk_at "subscriptTail Name Slice ref ref") => `(tactic| k_extra "subscriptTail Name Slice ref ref")
local macro_rules | `(tactic| walk_at "binaryOp Mult ref int") => `(tactic| k_extra "binaryOp Mult ref int")
local macro_rules | `(tactic| walk_at "compareOp Eq ref ref") => `(tactic| k_extra "compareOp Eq ref ref")
set_option maxHeartbeats 4000000
theorem power_does (w : World) (news : List (Addr × Obj)) (D1 : Addr) (ys1 : List Value) (n1 : Nat) (ks : List Int) (hm1 : (D1, listOf ys1.toArray n1) ∈ news) (hb1 : IntsAre ys1 ks) (hl : ks.length ≤ 21) :
    Does w 157 9 news [.ref D1] (fun _ => .bool (powB ks)) := by
  dsimp only [Does]
  k_fill
  intros
  rename_i hd hu hret
  refine wpAny_call ?_
  k_dflt cell_enter
  k_with_none
  k_with "call type:range" => (k_here; (with_reducible show wpAny _ _ (call (Value.type "range") [_, _]) _ _ _); (rename Fr _ _ _ _ => F'); (rename News _ _ _ _ => N'); (refine range2_rows F' N' ?_); intro _ _ _ _ _ _ _ _ _)
  k_with "call builtin:len" => (k_here; (with_reducible show wpAny _ _ (call (Value.builtin "len") [Value.ref _]) _ _ _); k_dflt (refine len_intsL (News.isList (by k_asm) (by k_mem)) (by assumption) (by assumption) ?_))
  k_with "subscriptTail Name Slice ref ref" => (k_here; (with_reducible show wpAny _ _ (subscriptTail _ (PySem.Expr.Slice none (some _) none _) (Value.ref _) (Value.ref _)) _ _ _); k_dflt (refine' kmk_slice_ints ?zzF ?zzN ?zzl ?zzp ?zzq ?zzi ?zzm ?zzc ?_ ?zzs ?zzt ?zzz; (case zzF => k_asm); (case zzN => k_asm); (case zzl => exact News.isList (by k_asm) (by k_mem)); (case zzp => exact IsPart.none); (case zzq => exact IsPart.int _ _); (case zzi => assumption); (case zzm => exact kmk_upto (by assumption) (by omega)); (case zzc => exact List.length_take ..); (case zzs => with_unfolding_all rfl); (case zzt => kmk_pure); (case zzz => exact kmk_sz (by assumption) (by rw [PySem.sizeLine_eq]; omega))); intro D' ws' h' F' N' l1 hI' hC' hL'; (try k_lt l1))
  k_with "binaryOp Mult ref int" => (k_here; (with_reducible show wpAny _ _ (binaryOp _ (Value.ref _) (Value.int (Int.fdiv _ _) _)) _ _ _); k_dflt (refine mul_part (by k_asm) (by k_asm) (News.isList (by k_asm) (by k_mem)) (by assumption) (by omega) (by omega) (by omega) (by omega) ?_); (intro D' h' F' N' l1 i1 n1); (try k_lt l1))
  k_with "compareOp Eq ref ref" => (k_here; (with_reducible show wpAny _ _ (compareOp _ (Value.ref _) (Value.ref _)) _ _ _); k_dflt (refine eq_intsK (News.isList (by k_asm) (by k_mem)) (by assumption) (News.isList (by k_asm) (by k_mem)) (by assumption) (by first | ke_room | units_room | ktr_units) ?_))
  k_with "pyIter ref" => k_search (fun pre => PwP ks pre)
  k_with "state" => first | exact pwp_start | exact pwp_snoc (by assumption) (by assumption) (pw_ne (by assumption)) | exact pwp_snoc (by assumption) (by assumption) (pw_no (by assumption))
  k_steps
  all_goals first
    | ((have hst := pow_yes (ks := ks) (by assumption) (by assumption) (pw_yes (by assumption) (by assumption))); rw [hst] at hret; cb_end hret)
    | ((have hst := pow_no (ks := ks) (by assumption)); rw [hst] at hret; cb_end hret)
end Mine
namespace Mine
open PySem PySem.W PyProof.Rows PySem.Calls
local macro_rules | `(tactic| k_mem) => `(tactic| (refine List.mem_append.mpr (Or.inl ?_); k_mem))
local macro_rules | `(tactic| k_mem) => `(tactic| assumption)
theorem rep_one (c : Int) (n : Nat) : (List.replicate (n : Int).toNat [c]).flatten = List.replicate n c := by
  rw [Int.toNat_natCast]
  induction n with
  | zero => rfl
  | succ n ih => rw [List.replicate_succ, List.replicate_succ, List.flatten_cons, ih]; rfl
section
variable {prog : Program} {w : World} {A : Around} {E : Value → Shared → Prop} {s : Shared} {a b l : Addr} {vs us : List Value} {ns ms : List Int} {k : Int} {u : Tok} {Q : Value → Shared → Prop} {h₀ : Heap} {L : Addr} {m : Str → Option Value} {news : List (Addr × Obj)}
theorem eq_none (hl : s.heap.IsList a vs.toArray) (hi : IntsAre vs []) (hl' : s.heap.IsList b us.toArray) (hi' : IntsAre us []) (hu : A.units + 64 < cLine) (h : Q (.bool true) s) : wpAny (model prog w) A (compareOp .Eq (.ref a) (.ref b)) Q E s :=
  eq_intsK hl hi hl' hi' hu h
theorem eq_some {fr : List Int} {e : Int} (hl : s.heap.IsList a vs.toArray) (hi : IntsAre vs (fr ++ [e])) (hl' : s.heap.IsList b us.toArray) (hi' : IntsAre us []) (hu : A.units + 64 < cLine) (h : Q (.bool false) s) : wpAny (model prog w) A (compareOp .Eq (.ref a) (.ref b)) Q E s :=
  eq_intsK hl hi hl' hi' hu (by rw [decide_eq_false (by simp)]; exact h)
/-- [c] times n -/
theorem mul_one {c : Int} {n : Nat} (Fm : Fr h₀ L s.heap m) (N : News h₀ L s.heap news) (hl : s.heap.IsList l vs.toArray) (hi : IntsAre vs [c]) (hk : k = (n : Int)) (hn : n ≤ 21)
    (h : ∀ D h' us, Fr h₀ L h' m → News h₀ L h' ((D, listOf (List.toArray us) 0) :: news) → (∀ p ∈ news, p.1 < D) → IntsAre us (List.replicate n c) → Q (.ref D) { s with heap := h' }) :
    wpAny (model prog w) A (binaryOp .Mult (.ref l) (.int k u)) Q E s := by
  subst hk
  have hv := hi.length
  simp only [List.length_singleton] at hv
  refine KM.mul Fm N hl hi (by omega) (by omega) (by rw [hv]; omega) fun D h' F' N' l1 i1 n1 e1 e2 _ _ => h D h' _ F' N' l1 ?_
  have e := rep_one c n
  rw [← e]
  exact i1
end
theorem ri_elim {h₀ : Heap} {L : Addr} {m : Str → Option Value} {news : List (Addr × Obj)} {s : Shared} {Q : Value → Shared → Prop} {ns : List Int} (h : ∀ (D : Addr) (ys : List Value) (n : Nat) (h' : Heap) (tk' : Nat), IntsAre ys ns → Fr h₀ L h' m → News h₀ L h' ((D, listOf ys.toArray n) :: news) → Q (.ref D) { s with heap := h', toks := tk' }) :
    ∀ (v : Value) (more : List (Addr × Obj)) (h' : Heap) (tk' : Nat), RI ns v more → Fr h₀ L h' m → News h₀ L h' (more ++ news) → Q v { s with heap := h', toks := tk' } := by
  rintro _ _ h' tk' ⟨D, ys, n, rfl, rfl, hI⟩ F N
  exact h D ys n h' tk' hI F N
local macro_rules | `(tactic| walk_at "binaryOp Mult ref int") => `(tactic| k_extra "binaryOp Mult ref int")
local macro_rules | `(tactic| walk_at "binaryOp Add ref ref") => `(tactic| k_extra "binaryOp Add ref ref")
local macro_rules | `(tactic| walk_at "compareOp Eq ref ref") => `(tactic| k_extra "compareOp Eq ref ref")
set_option maxHeartbeats 4000000
theorem two_nil (w : World) (news : List (Addr × Obj)) (D1 : Addr) (ys1 : List Value) (n1 : Nat) (n : Nat) (c : Int) (t1 : Tok) (hm1 : (D1, listOf ys1.toArray n1) ∈ news) (hb1 : IntsAre ys1 []) (hc : c - 1 = (n : Int)) (hl : n ≤ 21) :
    DoesO w 162 9 news (fun _ => True) [.int c t1, .ref D1] (RI (0 :: List.replicate n 1)) := by
  dsimp only [DoesO]
  k_fill
  intros
  rename_i _ hd hu hret
  refine wpAny_call ?_
  k_dflt (refine' code_defC ?k1 ?k2 ?k3 ?k4 ?k5 ?kA ?kF ?kK ?k6 ?k7 ?k8 ?k9 ?kB ?kD ?_ ?c2 ?c3 ?c4; (case kA => exact rfl); (case kF => exact rfl); (case kK => assumption); (case k1 => k_asm); (case k2 => k_asm); (case k3 => k_asm); (case k4 => k_asm); (case k5 => k_asm); (case k6 => k_is); (case k7 => k_is); (case k8 => ktr_room); (case k9 => exact BindsTo.of_eq rfl); (case kB => exact rfl); (case kD => decide +kernel); (case c2 => exact rfl); (case c3 => exact rfl); (case c4 => exact rfl); k_whole; intro g' L' h' tk' cells' FG' F' N' Y' B' X' T' l1; (try k_lt l1); k_cells Y'; (try simp only [List.cons_append, List.nil_append] at N'); (try dsimp only); (try k_lift B'); (try k_fold))
  k_with_none
  k_with "binaryOp Mult ref int" => (k_here; (with_reducible show wpAny _ _ (binaryOp _ (Value.ref _) (Value.int _ _)) _ _ _); k_dflt (refine mul_one (by k_asm) (by k_asm) (News.isList (by k_asm) (by k_mem)) (by repeat constructor) (by assumption) (by assumption) ?_); (intro D' h' us' F' N' l1 i1); (try k_lt l1))
  k_with "binaryOp Add ref ref" => (k_here; (with_reducible show wpAny _ _ (binaryOp _ (Value.ref _) (Value.ref _)) _ _ _); k_dflt (refine' kmk_add_ints ?zzF ?zzN ?zza ?zzb ?zzi ?zzj ?_ ?zzz; (case zzF => k_asm); (case zzN => k_asm); (case zza => exact News.isList (by k_asm) (by k_mem)); (case zzb => exact News.isList (by k_asm) (by k_mem)); (case zzi => first | assumption | (repeat constructor)); (case zzj => first | assumption | (repeat constructor)); (case zzz => (simp only [List.length_append, List.length_cons, List.length_nil, List.length_replicate, PySem.sizeLine_eq]; omega))); intro D' ws' h' F' N' l1 hI'; (try k_lt l1))
  k_with "compareOp Eq ref ref" => (k_here; (with_reducible show wpAny _ _ (compareOp _ (Value.ref _) (Value.ref _)) _ _ _); k_dflt (refine eq_none (News.isList (by k_asm) (by k_mem)) (by assumption) (News.isList (by k_asm) (by k_mem)) .nil (by first | ke_room | units_room | ktr_units) ?_))
  k_steps
  all_goals (rename News _ _ _ _ => kN; rename IntsAre _ (_ ++ _) => kI; exact ret_ints hret (by k_asm) kN (by intro p hp; repeat (first | exact hp | apply List.mem_cons_of_mem)) kI)
end Mine
namespace Mine
open PySem PySem.W PyProof.Rows PySem.Calls
local macro_rules | `(tactic| k_mem) => `(tactic| (refine List.mem_append.mpr (Or.inl ?_); k_mem))
local macro_rules | `(tactic| k_mem) => `(tactic| assumption)
section
variable {prog : Program} {w : World} {A : Around} {E : Value → Shared → Prop} {s : Shared} {h₀ : Heap} {L : Addr} {m : Str → Option Value} {env : Env}
variable {ct elt : Expr} {x : Str} {scope : Scope} {cl : List (Str × Addr)} {S : List (Addr × Obj) → Prop} {Fin : List Value → List (Addr × Obj) → Prop} {news : List (Addr × Obj)}
theorem foldl_filter (p : Int → Bool) (ns : List Int) : ∀ l, ns.foldl (fun (l : List Int) k => if p k = true then l ++ [k] else l) l = l ++ ns.filter p := by
  induction ns with
  | nil => intro l; simp
  | cons a r ih =>
    intro l
    rw [List.foldl_cons, ih, List.filter_cons]
    split <;> simp
theorem filt_grows (p : Int → Bool) (l : List Int) (k : Int) : (if p k = true then l ++ [k] else l).length ≤ l.length + 1 := by
  by_cases h : p k = true
  · rw [if_pos h, List.length_append, List.length_singleton]; exact Nat.le_refl _
  · rw [if_neg h]; exact Nat.le_succ _
/-- a comprehension over a list of numbers with a test -/
theorem kcq_list {vs : List Value} {ns : List Int} (p : Int → Bool) (hi : IntsAre vs ns)
    (turn : ∀ k t I oI C oC D m₂ ys l h tk (E' : Value → Shared → Prop), k ∈ ns → IntsAre ys l → LCg.NsObj oC m₂ → m₂ x = some (.int k t) → Fr h₀ L h m → News h₀ L h ((I, oI) :: (C, oC) :: (D, LCg.lst ys) :: news) → LCg.Off3 I C D news → ((@Ne Nat I C) ∧ (@Ne Nat I D) ∧ (@Ne Nat C D)) → KPfMark →
      wpAny (model prog w) A (isTrue ct (compEnvC scope cl C env) (eval ct (compEnvC scope cl C env))) (fun b s' => if b = true then wpAny (model prog w) A (eval elt (compEnvC scope cl C env)) (LCg.CompEnd h₀ L m { s with heap := h, toks := tk } I oI C oC D (LCg.lst ys) S (fun y news' => KCiEl news l (if p k = true then l ++ [k] else l) y news')) E' s'
        else LCg.CompEnd h₀ L m { s with heap := h, toks := tk } I oI C oC D (LCg.lst ys) S (fun _ news' => KCiNo news l (if p k = true then l ++ [k] else l) news') Value.none s') E' { s with heap := h, toks := tk })
    (fin : KPfDone (∀ ys, IntsAre ys (ns.filter p) → Fin ys news)) : LCt.CompRestT prog w A h₀ L m env ct elt x scope cl s S (fun i v => vs.toArray[i]? = some v) Fin vs.toArray.size 0 [] news := by
  refine kci_list (fun l k => if p k = true then l ++ [k] else l) hi turn ?_ (fun l k => filt_grows p l k)
  unfold KPfDone at fin ⊢
  intro ys hi _
  rw [foldl_filter, List.nil_append] at hi
  exact fin ys hi
theorem upto_last {vs : List Value} {fr : List Int} {e y : Int} (hi : IntsAre vs (fr ++ [e])) (hy : y = -1) : IntsAre (slicePick vs.toArray none (some y) none).toList fr := by
  subst hy
  have h := kmk_upto_neg (y := -1) hi (by decide)
  simpa using h
variable {value slice : PySem.Expr} {l : Addr} {vs : List Value} {fr : List Int} {e k : Int} {u : Tok} {Q : Value → Shared → Prop}
theorem item_last (hl : s.heap.IsList l vs.toArray) (hi : IntsAre vs (fr ++ [e])) (hk : k = -1) (h : ∀ t, Q (.int e t) s)
    (hs : subscripted slice false (.ref l) (.int k u) = operate [.ref l, .int k u] (getItem (.ref l) (.int k u)) := by with_unfolding_all rfl) (hg : ∀ r, letTemporaryGo value (.ref l) r = pure () := by intro _; with_unfolding_all rfl) :
    wpAny (model prog w) A (subscriptTail value slice (.ref l) (.int k u)) Q E s := by
  subst hk
  refine item_list_ints_neg hl hi (by decide) (by rw [List.length_append, List.length_singleton]; omega) (by decide) (fun t => ?_) hs hg
  have e : (fr ++ [e]).getD (-1 + ((fr ++ [e]).length : Int)).toNat 0 = e := by
    rw [List.length_append, List.length_singleton, show (-1 + ((fr.length + 1 : Nat) : Int)).toNat = fr.length by omega]
    simp
  rw [e]
  exact h t
end
local macro_rules | `(tactic| walk_at "compareOp Eq ref ref") => `(tactic| k_extra "compareOp Eq ref ref")
local macro_rules | `(tactic| walk_at "subscriptTail") => `(tactic| k_extra "subscriptTail")
local macro_rules | `(tactic| walk_at "binaryOp Mult ref int") => `(tactic| k_extra "binaryOp Mult ref int")
local macro_rules | `(tactic| walk_at "subscriptTail Name Slice ref ref") => `(tactic| k_extra "subscriptTail Name Slice ref ref")
local macro_rules | `(tactic| walk_at "binaryOp Add ref ref") => `(tactic| k_extra "binaryOp Add ref ref")
local macro_rules | `(tactic| walk_at "eval ListComp") => `(tactic| k_extra "eval ListComp")
local macro_rules | `(tactic| walk_at "CompEnd") => `(tactic| k_extra "CompEnd")
local macro_rules | `(tactic| walk_at "KCiEl") => `(tactic| k_extra "KCiEl")
local macro_rules | `(tactic| walk_at "KCiNo") => `(tactic| k_extra "KCiNo")
theorem above_one {news : List (Addr × Obj)} {L : Addr} (h : ∀ p ∈ news, p.1 < L) : ∀ p ∈ news, p.1 ≠ L + 1 := fun p hp => Nat.ne_of_lt (Nat.lt_succ_of_lt (h p hp))
local macro_rules | `(tactic| k_all) => `(tactic| exact above_one (by assumption))
set_option maxHeartbeats 4000000
theorem two_long (w : World) (K : Nat) (news : List (Addr × Obj)) (D1 : Addr) (ys1 : List Value) (n1 : Nat) (fr row : List Int) (e c : Int) (t1 : Tok) (hm1 : (D1, listOf ys1.toArray n1) ∈ news) (hb1 : IntsAre ys1 (fr ++ [e])) (hfr : fr.length ≤ 21) (he : 1 ≤ e) (hec : e < c) (hc : c ≤ 21) (hlong : c - e ≤ e) (hr0 : 0 ≤ c.fmod (c - e)) (hr1 : c.fmod (c - e) < c - e) (hrow : row.length ≤ 21) (hK : 9 ≤ K)
    (ih : ∀ (news : List (Addr × Obj)) (D : Addr) (ys : List Value) (n : Nat) (t : Tok), (D, listOf ys.toArray n) ∈ news → IntsAre ys ((fr ++ [e]).filter fun k => decide (k < c - e + c.fmod (c - e))) → DoesO w 162 K news (fun _ => True) [.int (c - e + c.fmod (c - e)) t, .ref D] (RI row)) :
    DoesO w 162 (K + 3) news (fun _ => True) [.int c t1, .ref D1] (RI ((List.replicate (c.fdiv (c - e)).toNat (row.take (c - e).toNat)).flatten ++ row.take (c.fmod (c - e)).toNat)) := by
  dsimp only [DoesO]
  k_fill
  intros
  rename_i _ hd hu hret
  refine wpAny_call ?_
  k_dflt (refine' code_defC ?k1 ?k2 ?k3 ?k4 ?k5 ?kA ?kF ?kK ?k6 ?k7 ?k8 ?k9 ?kB ?kD ?_ ?c2 ?c3 ?c4; (case kA => exact rfl); (case kF => exact rfl); (case kK => assumption); (case k1 => k_asm); (case k2 => k_asm); (case k3 => k_asm); (case k4 => k_asm); (case k5 => k_asm); (case k6 => k_is); (case k7 => k_is); (case k8 => ktr_room); (case k9 => exact BindsTo.of_eq rfl); (case kB => exact rfl); (case kD => decide +kernel); (case c2 => exact rfl); (case c3 => exact rfl); (case c4 => exact rfl); k_whole; intro g' L' h' tk' cells' FG' F' N' Y' B' X' T' l1; (try k_lt l1); k_cells Y'; (try simp only [List.cons_append, List.nil_append] at N'); (try dsimp only); (try k_lift B'); (try k_fold))
  k_with_none
  k_with "compareOp Eq ref ref" => (k_here; (with_reducible show wpAny _ _ (compareOp _ (Value.ref _) (Value.ref _)) _ _ _); k_dflt (refine eq_some (News.isList (by k_asm) (by k_mem)) (by assumption) (News.isList (by k_asm) (by k_mem)) .nil (by first | ke_room | units_room | ktr_units) ?_))
  k_with "subscriptTail" => (k_here; (with_reducible show wpAny _ _ (subscriptTail _ (Expr.UnaryOp _ _ _) (Value.ref _) (Value.int _ _)) _ _ _); k_dflt (refine item_last (News.isList (by k_asm) (by k_mem)) (by assumption) (by decide) ?_); intro t9)
  k_with "binaryOp Mult ref int" => (k_here; (with_reducible show wpAny _ _ (binaryOp _ (Value.ref _) (Value.int (Int.fdiv _ _) _)) _ _ _); k_dflt (refine mul_part (by k_asm) (by k_asm) (News.isList (by k_asm) (by k_mem)) (by assumption) (by omega) (by omega) (by omega) (by omega) ?_); (intro D' h' F' N' l1 i1 n1); (try k_lt l1))
  k_with "subscriptTail Name Slice ref ref" => (k_here; (with_reducible show wpAny _ _ (subscriptTail _ (PySem.Expr.Slice none (some _) none _) (Value.ref _) (Value.ref _)) _ _ _); k_dflt (refine' kmk_slice_ints ?zzF ?zzN ?zzl ?zzp ?zzq ?zzi ?zzm ?zzc ?_ ?zzs ?zzt ?zzz; (case zzF => k_asm); (case zzN => k_asm); (case zzl => exact News.isList (by k_asm) (by k_mem)); (case zzp => exact IsPart.none); (case zzq => exact IsPart.int _ _); (case zzi => assumption); (case zzm => exact kmk_upto (by assumption) (by omega)); (case zzc => exact List.length_take ..); (case zzs => with_unfolding_all rfl); (case zzt => kmk_pure); (case zzz => exact kmk_sz (by assumption) (by rw [PySem.sizeLine_eq]; omega))); intro D' ws' h' F' N' l1 hI' hC' hL'; (try k_lt l1))
  k_with "binaryOp Add ref ref" => (k_here; (with_reducible show wpAny _ _ (binaryOp _ (Value.ref _) (Value.ref _)) _ _ _); k_dflt (refine' kmk_add_ints ?zzF ?zzN ?zza ?zzb ?zzi ?zzj ?_ ?zzz; (case zzF => k_asm); (case zzN => k_asm); (case zza => exact News.isList (by k_asm) (by k_mem)); (case zzb => exact News.isList (by k_asm) (by k_mem)); (case zzi => assumption); (case zzj => assumption); (case zzz => (rw [PySem.sizeLine_eq]; omega))); intro D' ws' h' F' N' l1 hI'; (try k_lt l1))
  k_with "eval ListComp" => (k_here; (with_reducible show wpAny _ _ (eval (Expr.ListComp _ [⟨_, Expr.Name _ _, _, _⟩] _ _) _) _ _ _); k_dflt (refine LCt.ListComp_T (F₀ := by k_asm) (by with_unfolding_all rfl) (by decide) (by rfl) (by decide) (by rfl) ?_))
  k_with "CompEnd" => (k_here; (with_reducible rename News _ _ _ _ => nE); (with_reducible rename LCg.Off3 _ _ _ _ => oE); k_dflt (refine LCg.CompEnd.intro (by assumption) nE _ (fun _ h => h) oE (by lcg_src) ?_))
  k_with "KCiEl" => exact kci_el (if_pos (decide_eq_true (by omega))) (by with_unfolding_all rfl) (by with_unfolding_all rfl)
  k_with "KCiNo" => exact kci_no (if_neg (by rw [decide_eq_true_iff]; omega)) (by with_unfolding_all rfl)
  k_with "CompSrcT" => (k_here; k_dflt (refine LCt.CompSrcT.ledger (by rfl) (by k_asm) (by k_asm) (by k_mem) (kmk_sz (by assumption) (by rw [PySem.sizeLine_eq, List.length_append, List.length_singleton]; omega)) ?_; intro g9; refine' kcq_list (fun k => decide (k < c - e + c.fmod (c - e))) (by assumption) (fun k' t' I' oI' C' oC' D' m' ys' l' h' tk' E' hk' hI' hC' hx' F' N' off' ne' => ?_) ?_; (all_goals (try ((show KPfMark → _); intro hMark'))); kcf_last))
  k_with "call ref" => (k_here; (with_reducible show wpAny _ _ (call (Value.ref 162) _) _ _ _); k_dflt (refine' ih _ _ _ _ _ ?km ?ks _ _ _ _ _ _ _ _ _ _ _ _ _ _ _ _ _ _ _ _ _ _ ?k1 ?k2 ?k3 ?k4 ?k5 ?kK ?ka ?kd ?ku ?_; (case k1 => k_asm); (case k2 => k_asm); (case k3 => k_asm); (case k4 => k_asm); (case k5 => k_asm); (case kK => first | exact rfl | assumption); (case km => k_mem); (case ks => assumption); (case ka => exact True.intro); (case kd => ktr_room); (case ku => ktr_units); refine ri_elim ?_; intro D9 ys9 n9 h9 tk9 hI9 F9 N9; (try dsimp only); (try k_fold)))
  k_steps
  all_goals (rename News _ _ _ _ => kN; rename IntsAre _ (_ ++ List.take _ _) => kI; exact ret_ints hret (by k_asm) kN (by intro p hp; repeat (first | exact hp | apply List.mem_cons_of_mem)) kI)
end Mine
namespace Mine
open PySem PySem.W PyProof.Rows PySem.Calls
local macro_rules | `(tactic| k_mem) => `(tactic| (refine List.mem_append.mpr (Or.inl ?_); k_mem))
local macro_rules | `(tactic| k_mem) => `(tactic| assumption)
local macro_rules | `(tactic| k_all) => `(tactic| exact above_one (by assumption))
local macro_rules | `(tactic| walk_at "compareOp Eq ref ref") => `(tactic| k_extra "compareOp Eq ref ref")
local macro_rules | `(tactic| walk_at "subscriptTail") => `(tactic| k_extra "subscriptTail")
local macro_rules | `(tactic| walk_at "subscriptTail Name Slice ref ref") => `(tactic| k_extra "subscriptTail Name Slice ref ref")
local macro_rules | `(tactic| walk_at "binaryOp Mult ref int") => `(tactic| k_extra "binaryOp Mult ref int")
local macro_rules | `(tactic| walk_at "binaryOp Add ref ref") => `(tactic| k_extra "binaryOp Add ref ref")
local macro_rules | `(tactic| walk_at "call ref") => `(tactic| k_extra "call ref")
set_option maxHeartbeats 4000000
theorem two_short (w : World) (K : Nat) (news : List (Addr × Obj)) (D1 : Addr) (ys1 : List Value) (n1 : Nat) (fr x : List Int) (e c : Int) (n : Nat) (t1 : Tok) (hm1 : (D1, listOf ys1.toArray n1) ∈ news) (hb1 : IntsAre ys1 (fr ++ [e])) (hfr : fr.length ≤ 21) (he : 1 ≤ e) (hec : e < c) (hc : c ≤ 21) (hshort : ¬ c - e ≤ e) (hn : c - e - e - 1 = (n : Int)) (hn21 : n ≤ 21) (hx : (x.length : Int) = e) (hK : 9 ≤ K)
    (ih : ∀ (news : List (Addr × Obj)) (D : Addr) (ys : List Value) (n : Nat) (t : Tok), (D, listOf ys.toArray n) ∈ news → IntsAre ys fr → DoesO w 162 K news (fun _ => True) [.int e t, .ref D] (RI x)) :
    DoesO w 162 (K + 3) news (fun _ => True) [.int c t1, .ref D1] (RI (if powB (x ++ List.replicate n 1 ++ [1]) = true then x ++ List.replicate n 1 ++ [0] ++ x else x ++ List.replicate n 1 ++ [1] ++ x)) := by
  dsimp only [DoesO]
  k_fill
  intros
  rename_i _ hd hu hret
  refine wpAny_call ?_
  k_dflt (refine' code_defC ?k1 ?k2 ?k3 ?k4 ?k5 ?kA ?kF ?kK ?k6 ?k7 ?k8 ?k9 ?kB ?kD ?_ ?c2 ?c3 ?c4; (case kA => exact rfl); (case kF => exact rfl); (case kK => assumption); (case k1 => k_asm); (case k2 => k_asm); (case k3 => k_asm); (case k4 => k_asm); (case k5 => k_asm); (case k6 => k_is); (case k7 => k_is); (case k8 => ktr_room); (case k9 => exact BindsTo.of_eq rfl); (case kB => exact rfl); (case kD => decide +kernel); (case c2 => exact rfl); (case c3 => exact rfl); (case c4 => exact rfl); k_whole; intro g' L' h' tk' cells' FG' F' N' Y' B' X' T' l1; (try k_lt l1); k_cells Y'; (try simp only [List.cons_append, List.nil_append] at N'); (try dsimp only); (try k_lift B'); (try k_fold))
  k_with_none
  k_with "compareOp Eq ref ref" => (k_here; (with_reducible show wpAny _ _ (compareOp _ (Value.ref _) (Value.ref _)) _ _ _); k_dflt (refine eq_some (News.isList (by k_asm) (by k_mem)) (by assumption) (News.isList (by k_asm) (by k_mem)) .nil (by first | ke_room | units_room | ktr_units) ?_))
  k_with "subscriptTail" => (k_here; (with_reducible show wpAny _ _ (subscriptTail _ (Expr.UnaryOp _ _ _) (Value.ref _) (Value.int _ _)) _ _ _); k_dflt (refine item_last (News.isList (by k_asm) (by k_mem)) (by assumption) (by decide) ?_); intro t9)
  k_with "subscriptTail Name Slice ref ref" => (k_here; (with_reducible show wpAny _ _ (subscriptTail _ (PySem.Expr.Slice none (some _) none _) (Value.ref _) (Value.ref _)) _ _ _); k_dflt (refine' kmk_slice_ints ?zzF ?zzN ?zzl ?zzp ?zzq ?zzi ?zzm ?zzc ?_ ?zzs ?zzt ?zzz; (case zzF => k_asm); (case zzN => k_asm); (case zzl => exact News.isList (by k_asm) (by k_mem)); (case zzp => exact IsPart.none); (case zzq => exact IsPart.int _ _); (case zzi => assumption); (case zzm => exact upto_last (by assumption) (by decide)); (case zzc => rfl); (case zzs => with_unfolding_all rfl); (case zzt => kmk_pure); (case zzz => exact kmk_sz (by assumption) (by rw [PySem.sizeLine_eq, List.length_append, List.length_singleton]; omega))); intro D' ws' h' F' N' l1 hI' hC' hL'; (try k_lt l1))
  k_with "binaryOp Mult ref int" => (k_here; (with_reducible show wpAny _ _ (binaryOp _ (Value.ref _) (Value.int _ _)) _ _ _); k_dflt (refine mul_one (by k_asm) (by k_asm) (News.isList (by k_asm) (by k_mem)) (.cons _ _ .nil) (by assumption) (by assumption) ?_); (intro D' h' us' F' N' l1 i1); (try k_lt l1))
  k_with "binaryOp Add ref ref" => (k_here; (with_reducible show wpAny _ _ (binaryOp _ (Value.ref _) (Value.ref _)) _ _ _); k_dflt (refine' kmk_add_ints ?zzF ?zzN ?zza ?zzb ?zzi ?zzj ?_ ?zzz; (case zzF => k_asm); (case zzN => k_asm); (case zza => exact News.isList (by k_asm) (by k_mem)); (case zzb => exact News.isList (by k_asm) (by k_mem)); (case zzi => assumption); (case zzj => first | assumption | exact .cons _ _ .nil); (case zzz => (simp only [List.length_append, List.length_cons, List.length_nil, List.length_replicate, PySem.sizeLine_eq]; omega))); intro D' ws' h' F' N' l1 hI'; (try k_lt l1))
  k_with "call ref" => (k_here; (with_reducible show wpAny _ _ (call (Value.ref 157) _) _ _ _); k_dflt (refine' power_does _ _ _ _ _ _ ?zzkm ?zzks ?zzkl _ _ _ _ _ _ _ _ _ _ _ _ _ _ _ _ _ _ _ _ _ _ ?zzk1 ?zzk2 ?zzk3 ?zzk4 ?zzk5 ?zzkK ?zzkd ?zzku ?_; (case zzk1 => k_asm); (case zzk2 => k_asm); (case zzk3 => k_asm); (case zzk4 => k_asm); (case zzk5 => k_asm); (case zzkK => first | exact rfl | assumption); (case zzkm => k_mem); (case zzks => assumption); (case zzkl => (simp only [List.length_append, List.length_cons, List.length_nil, List.length_replicate]; omega)); (case zzkd => ktr_room); (case zzku => ktr_units); intro t9 h9 tk9 F9 N9; (try dsimp only); (try k_fold)))
  k_with "call ref" => (k_here; (with_reducible show wpAny _ _ (call (Value.ref 162) _) _ _ _); k_dflt (refine' ih _ _ _ _ _ ?km ?ks _ _ _ _ _ _ _ _ _ _ _ _ _ _ _ _ _ _ _ _ _ _ ?k1 ?k2 ?k3 ?k4 ?k5 ?kK ?ka ?kd ?ku ?_; (case k1 => k_asm); (case k2 => k_asm); (case k3 => k_asm); (case k4 => k_asm); (case k5 => k_asm); (case kK => first | exact rfl | assumption); (case km => k_mem); (case ks => assumption); (case ka => exact True.intro); (case kd => ktr_room); (case ku => ktr_units); refine ri_elim ?_; intro D9 ys9 n9 h9 tk9 hI9 F9 N9; (try dsimp only); (try k_fold)))
  k_steps
  all_goals first
    | ((have hp : powB (x ++ List.replicate n 1 ++ [1]) = true := by assumption); rw [if_pos hp] at hret; rename News _ _ _ _ => kN; exact ret_ints hret (by k_asm) kN (by intro p hp; repeat (first | exact hp | apply List.mem_cons_of_mem)) (by assumption))
    | ((have hp : powB (x ++ List.replicate n 1 ++ [1]) = false := by assumption); rw [if_neg (by rw [hp]; decide)] at hret; rename News _ _ _ _ => kN; exact ret_ints hret (by k_asm) kN (by intro p hp; repeat (first | exact hp | apply List.mem_cons_of_mem)) (by assumption))
end Mine
namespace Mine
open PySem PySem.W PyProof.Rows PySem.Calls
section
variable {α : Type} [DecidableEq α]
theorem bords_long {w : Nat → α} {n b : Nat} (hl : (bords w n).getLast? = some b) (hs : n - b ≤ b) : (bords w n).filter (fun e => decide (e < n - b + n % (n - b))) = bords w (n - b + n % (n - b)) ∧ 0 < b ∧ b < n ∧ n - b + n % (n - b) < n := by
  obtain ⟨hd, hlt⟩ := last_max (bords_sorted w n) hl
  have hbm : b ∈ bords w n := by rw [hd]; exact List.mem_append_right _ (List.mem_singleton.mpr rfl)
  obtain ⟨b0, bn, hp⟩ := mem_bords.mp hbm
  have hc := Nat.mod_add_div n (n - b)
  have hr := Nat.mod_lt n (show 0 < n - b by omega)
  have hc2 : 2 ≤ n / (n - b) := (Nat.le_div_iff_mul_le (by omega)).mpr (by omega)
  have hm2 := Nat.mul_le_mul_left (n - b) hc2
  refine ⟨?_, b0, bn, by omega⟩
  refine sorted_ext (List.Pairwise.filter _ (bords_sorted w n)) (bords_sorted w _) fun k => ?_
  rw [List.mem_filter, mem_bords, mem_bords, decide_eq_true_iff]
  have hm : n - b + n % (n - b) + (n - b) * (n / (n - b) - 1) = n := by
    rw [Nat.mul_sub, Nat.mul_one]
    omega
  constructor
  · rintro ⟨⟨k0, _, hk⟩, k1⟩
    exact ⟨k0, k1, (shift hp hm k1).mp hk⟩
  · rintro ⟨k0, k1, hk⟩
    exact ⟨⟨k0, by omega, (shift hp hm k1).mpr hk⟩, k1⟩
theorem bords_short {w : Nat → α} {n b : Nat} (hl : (bords w n).getLast? = some b) (hs : ¬ n - b ≤ b) : (bords w n).dropLast = bords w b ∧ 0 < b ∧ b < n := by
  obtain ⟨hd, hlt⟩ := last_max (bords_sorted w n) hl
  have hbm : b ∈ bords w n := by rw [hd]; exact List.mem_append_right _ (List.mem_singleton.mpr rfl)
  obtain ⟨b0, bn, hp⟩ := mem_bords.mp hbm
  refine ⟨?_, b0, bn⟩
  refine sorted_ext ?_ (bords_sorted w b) fun k => ?_
  · have := bords_sorted w n
    rw [hd, List.pairwise_append] at this
    exact this.1
  · have hm : b + (n - b) * 1 = n := by omega
    constructor
    · intro hk
      have hkb := hlt k hk
      have h2 : k ∈ bords w n := by rw [hd]; exact List.mem_append_left _ hk
      obtain ⟨k0, _, hk⟩ := mem_bords.mp h2
      exact mem_bords.mpr ⟨k0, hkb, (shift hp hm hkb).mp hk⟩
    · intro hk
      obtain ⟨k0, k1, hk⟩ := mem_bords.mp hk
      have h2 : k ∈ bords w n := mem_bords.mpr ⟨k0, by omega, (shift hp hm k1).mpr hk⟩
      rw [hd] at h2
      rcases List.mem_append.mp h2 with h3 | h3
      · exact h3
      · have := List.mem_singleton.mp h3; omega
theorem bords_len (w : Nat → α) (n : Nat) : (bords w n).length ≤ n := by
  unfold bords
  refine Nat.le_trans (List.length_filter_le _ _) ?_
  rw [List.length_range']
  omega
end
/-- numbers as ints -/
abbrev toI (l : List Nat) : List Int := l.map fun (k : Nat) => (k : Int)
theorem toI_filter (l : List Nat) (x : Nat) : (toI l).filter (fun k => decide (k < (x : Int))) = toI (l.filter fun k => decide (k < x)) := by
  unfold toI
  rw [List.filter_map]
  congr 1
  apply List.filter_congr
  intro k _
  simp
theorem fdiv_nat (a b : Nat) : (a : Int).fdiv (b : Int) = ((a / b : Nat) : Int) := by rw [Int.fdiv_eq_ediv_of_nonneg _ (by omega)]; rfl
theorem fmod_nat (a b : Nat) : (a : Int).fmod (b : Int) = ((a % b : Nat) : Int) := by rw [Int.fmod_eq_emod_of_nonneg _ (by omega)]; rfl
theorem DoesO.mono {w : World} {f : Addr} {k k' : Nat} {news : List (Addr × Obj)} {arg : Heap → Prop} {vs : List Value} {R : Value → List (Addr × Obj) → Prop} (h : DoesO w f k news arg vs R) (hk : k ≤ k') : DoesO w f k' news arg vs R := by
  intro p loose mean mg mb dp un gd cn cs a ccd cl outer A₀ base h₀ L m s Q E h1 h2 h3 h4 h5 h6 h7 h8 h9 h10
  exact h p loose mean mg mb dp un gd cn cs a ccd cl outer A₀ base h₀ L m s Q E h1 h2 h3 h4 h5 h6 h7 (by omega) (by omega) h10
/-- _law_two of a word's borders -/
theorem two_does (w : World) (wd : Nat → Int) : ∀ (f : Nat), f ≤ 21 → ∀ (n : Nat), 0 < n → n ≤ f → ∀ (news : List (Addr × Obj)) (D : Addr) (ys : List Value) (n1 : Nat) (t : Tok), (D, listOf ys.toArray n1) ∈ news → IntsAre ys (toI (bords wd n)) →
    DoesO w 162 (9 + 3 * f) news (fun _ => True) [.int (n : Int) t, .ref D] (RI (twoF f n (bords wd n)))
  | 0, _, n, h0, h1 => by omega
  | f + 1, hf, n, h0, h1 => by
    intro news D ys n1 t hm hi
    unfold twoF
    cases hl : (bords wd n).getLast? with
    | none =>
      have hb : bords wd n = [] := List.getLast?_eq_none_iff.mp hl
      rw [hb] at hi
      exact DoesO.mono (two_nil w news D ys n1 (n - 1) n t hm hi (by omega) (by omega)) (by omega)
    | some b =>
      obtain ⟨hd, hlt⟩ := last_max (bords_sorted wd n) hl
      have hlen := bords_len wd n
      have hi2 : IntsAre ys (toI (bords wd n).dropLast ++ [(b : Int)]) := by
        have e : toI (bords wd n) = toI (bords wd n).dropLast ++ [(b : Int)] := by
          conv => lhs; rw [hd]
          unfold toI
          rw [List.map_append]
          rfl
        rw [← e]; exact hi
      have hfr : (toI (bords wd n).dropLast).length ≤ 21 := by
        unfold toI
        rw [List.length_map, List.length_dropLast]
        omega
      dsimp only
      by_cases hs : n - b ≤ b
      · rw [if_pos hs]
        obtain ⟨he, b0, bn, hless⟩ := bords_long hl hs
        have ecb : (n : Int) - (b : Int) = ((n - b : Nat) : Int) := by omega
        have hmod : (n : Int).fmod ((n : Int) - (b : Int)) = ((n % (n - b) : Nat) : Int) := by rw [ecb, fmod_nat]
        have hdiv : (n : Int).fdiv ((n : Int) - (b : Int)) = ((n / (n - b) : Nat) : Int) := by rw [ecb, fdiv_nat]
        have hr := Nat.mod_lt n (show 0 < n - b by omega)
        have hgood := two_good f (n - b + n % (n - b)) wd (by omega) (by omega)
        have hrl : (twoF f (n - b + n % (n - b)) (bords wd (n - b + n % (n - b)))).length ≤ 21 := by rw [hgood.len]; omega
        have h := two_long w (9 + 3 * f) news D ys n1 (toI (bords wd n).dropLast) (twoF f (n - b + n % (n - b)) (bords wd (n - b + n % (n - b)))) b n t hm hi2 hfr (by omega) (by omega) (by omega) (by omega) (by rw [hmod]; omega) (by rw [hmod, ecb]; omega) hrl (by omega) (by
          intro news' D' ys' n' t' hm' hi'
          have e1 : (n : Int) - (b : Int) + (n : Int).fmod ((n : Int) - (b : Int)) = ((n - b + n % (n - b) : Nat) : Int) := by rw [hmod, ecb]; omega
          rw [e1] at hi' ⊢
          have e2 : toI (bords wd n).dropLast ++ [(b : Int)] = toI (bords wd n) := by
            conv => rhs; rw [hd]
            unfold toI
            rw [List.map_append]
            rfl
          rw [e2, toI_filter, he] at hi'
          exact two_does w wd f (by omega) _ (by omega) (by omega) news' D' ys' n' t' hm' hi')
        rw [hmod, hdiv, ecb, Int.toNat_natCast, Int.toNat_natCast, Int.toNat_natCast] at h
        rw [he]
        exact h
      · rw [if_neg hs]
        obtain ⟨he, b0, bn⟩ := bords_short hl hs
        have hgood := two_good f b wd (by omega) (by omega)
        have h := two_short w (9 + 3 * f) news D ys n1 (toI (bords wd n).dropLast) (twoF f b (bords wd b)) b n (n - b - b - 1) t hm hi2 hfr (by omega) (by omega) (by omega) (by omega) (by omega) (by omega) (by rw [hgood.len]) (by omega) (by
          intro news' D' ys' n' t' hm' hi'
          rw [he] at hi'
          exact two_does w wd f (by omega) _ (by omega) (by omega) news' D' ys' n' t' hm' hi')
        rw [he]
        exact h
end Mine
namespace Mine
open PySem PySem.W PyProof.Rows PySem.Calls
/-- a front is an end -/
theorem ends_per {ks : List Int} {k : Nat} (hk : k < ks.length) : ks.drop (ks.length - k) = ks.take k ↔ Per (get ks) ks.length (ks.length - k) := by
  have hl1 : (ks.drop (ks.length - k)).length = k := by rw [List.length_drop]; omega
  have hl2 : (ks.take k).length = k := by rw [List.length_take]; omega
  constructor
  · intro h i hi
    have h1 : get (ks.drop (ks.length - k)) i = get (ks.take k) i := by rw [h]
    rw [get_take (by omega)] at h1
    rw [← h1]
    unfold get
    rw [List.getD_eq_getElem?_getD, List.getD_eq_getElem?_getD, List.getElem?_drop]
    congr 2
    omega
  · intro h
    refine get_ext (by omega) fun i hi => ?_
    rw [hl1] at hi
    rw [get_take hi, h i (by omega)]
    unfold get
    rw [List.getD_eq_getElem?_getD, List.getD_eq_getElem?_getD, List.getElem?_drop]
    congr 2
    omega
theorem letD_inj {a b : List Int} (ha : Fgs a) (hb : Fgs b) (h : letD a = letD b) : a = b := by
  unfold letD at h
  induction a generalizing b with
  | nil =>
    cases b with
    | nil => rfl
    | cons y r => simp at h
  | cons x r ih =>
    cases b with
    | nil => simp at h
    | cons y q =>
      rw [List.map_cons, List.map_cons, List.cons.injEq] at h
      have h1 := ha x (.head _)
      have h2 := hb y (.head _)
      rw [ih (fun d hd => ha d (.tail _ hd)) (fun d hd => hb d (.tail _ hd)) h.2, show x = y by omega]
theorem Fgs.take {ks : List Int} (h : Fgs ks) (k : Nat) : Fgs (ks.take k) := fun d hd => h d (List.mem_of_mem_take hd)
theorem Fgs.drop {ks : List Int} (h : Fgs ks) (k : Nat) : Fgs (ks.drop k) := fun d hd => h d (List.mem_of_mem_drop hd)
theorem text_len (ks : List Int) : (textD ks).length = ks.length := by unfold textD; rw [ofL_len, let_len]
theorem text_cps (ks : List Int) : (textD ks).cps.toList = letD ks := ofL_cps _
/-- has the row of figures a border of that length? -/
def brd (ks : List Int) (k : Int) : Bool := perB (get ks) ks.length (ks.length - k.toNat)
def tlK (ks : List Int) : List Bool := (rangeKs 1 ((ks.length : Int) - 1).toNat).map (brd ks)
theorem tell_brd {ks : List Int} (hf : Fgs ks) {k : Int} (h0 : 1 ≤ k) (h1 : k < ks.length) : tellB (textD ks) k = brd ks k := by
  have hs : Txt.slice (textD ks) none (some k) = ofL ((letD ks).take k.toNat) := slice_to (by omega) (by rw [let_len]; omega)
  unfold tellB Txt.endswith
  have hl : (ofL ((letD ks).take k.toNat)).length = k.toNat := by rw [ofL_len, List.length_take, let_len]; omega
  rw [hs, StrLaws.subAt_eq, hl, text_len, text_cps, ofL_cps, decide_eq_true (by omega), Bool.true_and]
  have e1 : ((letD ks).drop (ks.length - k.toNat)).take k.toNat = letD (ks.drop (ks.length - k.toNat)) := by
    unfold letD
    rw [List.take_of_length_le (by rw [List.length_drop, List.length_map]; omega), List.map_drop]
  have e2 : (letD ks).take k.toNat = letD (ks.take k.toNat) := by unfold letD; rw [List.map_take]
  rw [e1, e2]
  unfold brd
  rw [Bool.eq_iff_iff, perB_iff, ← ends_per (by omega)]
  constructor
  · intro h
    exact letD_inj (hf.drop _) (hf.take _) (by simpa using h)
  · intro h
    rw [h]
    simp
theorem mem_rangeKs' {a : Int} {n : Nat} {k : Int} (h : k ∈ rangeKs a n) : a ≤ k ∧ k < a + n := mem_rangeKs h
theorem told_text {ks : List Int} (hf : Fgs ks) : toldL (textD ks) = tlK ks := by
  unfold toldL tlK
  rw [text_len]
  refine List.map_congr_left fun k hk => ?_
  have := mem_rangeKs hk
  exact tell_brd hf (by omega) (by omega)
theorem numF_app (a : List Int) : ∀ (n : Nat) (b : List Int), b.length = n → numF (a ++ b) = numF a * 16 ^ n + numF b := by
  intro n
  induction n with
  | zero =>
    intro b h
    rw [List.length_eq_zero_iff.mp h, List.append_nil, Int.pow_zero]
    show numF a = numF a * 1 + 0
    omega
  | succ n ih =>
    intro b h
    obtain ⟨t, c, rfl⟩ : ∃ t c, b = t ++ [c] := ⟨b.dropLast, b.getLast (by intro e; rw [e] at h; cases h), (List.dropLast_concat_getLast _).symm⟩
    have ht : t.length = n := by simp at h; exact h
    rw [← List.append_assoc, numF_snoc, numF_snoc, ih t ht, Int.pow_succ, ← Int.mul_assoc]
    omega
theorem numF_inj : ∀ (n : Nat) (a b : List Int), a.length = n → b.length = n → Fgs a → Fgs b → numF a = numF b → a = b := by
  intro n
  induction n with
  | zero =>
    intro a b ha hb _ _ _
    rw [List.length_eq_zero_iff.mp ha, List.length_eq_zero_iff.mp hb]
  | succ n ih =>
    intro a b ha hb hfa hfb h
    obtain ⟨t, c, rfl⟩ : ∃ t c, a = t ++ [c] := ⟨a.dropLast, a.getLast (by intro e; rw [e] at ha; cases ha), (List.dropLast_concat_getLast _).symm⟩
    obtain ⟨t', c', rfl⟩ : ∃ t c, b = t ++ [c] := ⟨b.dropLast, b.getLast (by intro e; rw [e] at hb; cases hb), (List.dropLast_concat_getLast _).symm⟩
    rw [numF_snoc, numF_snoc] at h
    have h1 := hfa c (List.mem_append_right _ (List.mem_singleton.mpr rfl))
    have h2 := hfb c' (List.mem_append_right _ (List.mem_singleton.mpr rfl))
    have e1 : c = c' := by omega
    have e2 : numF t = numF t' := by omega
    rw [e1, ih t t' (by simp at ha; exact ha) (by simp at hb; exact hb) (fun d hd => hfa d (List.mem_append_left _ hd)) (fun d hd => hfb d (List.mem_append_left _ hd)) e2]
theorem pow_16 (j : Nat) : (2 : Int) ^ (4 * j) = 16 ^ j := by rw [Int.pow_mul]; rfl
theorem num_front {ks : List Int} (hf : Fgs ks) {k : Nat} (h : k ≤ ks.length) : (numF ks).fdiv (16 ^ (ks.length - k)) = numF (ks.take k) := by
  have hp : (0 : Int) < 16 ^ (ks.length - k) := Int.pow_pos (by decide)
  have e := numF_app (ks.take k) (ks.length - k) (ks.drop k) (by rw [List.length_drop])
  rw [List.take_append_drop] at e
  have hb := numF_bd (ks.length - k) (ks.drop k) (by rw [List.length_drop]) (hf.drop k)
  rw [Int.fdiv_eq_ediv_of_nonneg _ (by omega), e, Int.add_comm, Int.add_mul_ediv_right _ _ (by omega), Int.ediv_eq_zero_of_lt hb.1 hb.2, Int.zero_add]
theorem num_end {ks : List Int} (hf : Fgs ks) {k : Nat} (h : k ≤ ks.length) : (numF ks).fmod (16 ^ k) = numF (ks.drop (ks.length - k)) := by
  have hp : (0 : Int) < 16 ^ k := Int.pow_pos (by decide)
  have hl : (ks.drop (ks.length - k)).length = k := by rw [List.length_drop]; omega
  have e := numF_app (ks.take (ks.length - k)) k (ks.drop (ks.length - k)) hl
  rw [List.take_append_drop] at e
  have hb := numF_bd k (ks.drop (ks.length - k)) hl (hf.drop _)
  rw [Int.fmod_eq_emod_of_nonneg _ (by omega), e, Int.add_comm, Int.add_mul_emod_self_right, Int.emod_eq_of_lt hb.1 hb.2]
/-- what the number tells -/
def dueB (ks : List Int) (k : Int) : Bool := (numF ks).fmod (1 * 2 ^ (4 * k).toNat) == (numF ks).fdiv (2 ^ (4 * ((ks.length : Int) - k)).toNat)
theorem due_brd {ks : List Int} (hf : Fgs ks) {k : Int} (h0 : 1 ≤ k) (h1 : k < ks.length) : dueB ks k = brd ks k := by
  unfold dueB brd
  rw [Int.one_mul, show (4 * k).toNat = 4 * k.toNat by omega, show (4 * ((ks.length : Int) - k)).toNat = 4 * (ks.length - k.toNat) by omega, pow_16, pow_16, num_front hf (by omega), num_end hf (by omega)]
  rw [Bool.eq_iff_iff, perB_iff, ← ends_per (by omega), beq_iff_eq]
  constructor
  · intro h
    exact numF_inj k.toNat _ _ (by rw [List.length_drop]; omega) (by rw [List.length_take]; omega) (hf.drop _) (hf.take _) h
  · intro h
    rw [h]
theorem due_text {ks : List Int} (hf : Fgs ks) : (rangeKs 1 ((ks.length : Int) - 1).toNat).map (dueB ks) = tlK ks := by
  unfold tlK
  refine List.map_congr_left fun k hk => ?_
  have := mem_rangeKs hk
  exact due_brd hf (by omega) (by omega)
theorem tl_get {ks : List Int} {k : Int} (h0 : 1 ≤ k) (h1 : k < ks.length) : (tlK ks).getD (k - 1).toNat false = brd ks k := by
  unfold tlK rangeKs
  rw [List.map_map, List.getD_eq_getElem?_getD, List.getElem?_map, List.getElem?_range (by omega)]
  simp only [Option.map_some, Option.getD_some, Function.comp]
  congr 1
  omega
theorem tl_len (ks : List Int) : (tlK ks).length = ks.length - 1 := by
  unfold tlK
  rw [List.length_map, rangeKs_length]
  omega
theorem range_nat (n : Nat) : rangeKs 1 ((n : Int) - 1).toNat = (List.range' 1 (n - 1)).map fun (k : Nat) => (k : Int) := by
  unfold rangeKs
  rw [List.range'_eq_map_range, List.map_map, show ((n : Int) - 1).toNat = n - 1 by omega]
  refine List.map_congr_left fun k _ => ?_
  simp
theorem row_bords (ks : List Int) : (rangeKs 1 ((ks.length : Int) - 1).toNat).filter (fun k => (tlK ks).getD (k - 1).toNat false) = (bords (get ks) ks.length).map fun (k : Nat) => (k : Int) := by
  have e : (rangeKs 1 ((ks.length : Int) - 1).toNat).filter (fun k => (tlK ks).getD (k - 1).toNat false) = (rangeKs 1 ((ks.length : Int) - 1).toNat).filter (brd ks) := by
    refine List.filter_congr fun k hk => ?_
    have := mem_rangeKs hk
    exact tl_get (by omega) (by omega)
  rw [e, range_nat, List.filter_map]
  unfold bords
  congr 1
/-- the row of two letters -/
def rowK (ks : List Int) : List Int := twoF ks.length ks.length (bords (get ks) ks.length)
theorem row_good {ks : List Int} (h : 0 < ks.length) : Good (get ks) ks.length (rowK ks) := two_good _ _ _ h (Nat.le_refl _)
theorem row_fgs {ks : List Int} (h : 0 < ks.length) : Fgs (rowK ks) ∧ ∀ k ∈ rowK ks, k = 0 ∨ k = 1 := by
  have hg := row_good h
  refine ⟨fun k hk => ?_, hg.bits⟩
  rcases hg.bits k hk with rfl | rfl <;> decide
theorem row_tl {ks : List Int} (h : 0 < ks.length) : tlK (rowK ks) = tlK ks := by
  have hg := row_good h
  unfold tlK
  rw [hg.len]
  refine List.map_congr_left fun k hk => ?_
  have := mem_rangeKs hk
  unfold brd
  rw [hg.len, Bool.eq_iff_iff, perB_iff, perB_iff]
  exact hg.same _ (by omega) (by omega)
end Mine
namespace Mine
open PySem PySem.W PyProof.Rows PySem.Calls
/-- the row of pieces -/
def pcs (ns : List Int) : List Int := pieces (fiveL ns)
def figOf (k : Int) : List Int := (spellL.getD k.toNat []).map fun (c : Nat) => (c : Int) - 97
/-- the figures of the text -/
def figs (ns : List Int) : List Int := (pcs ns).flatMap figOf
def grownP (c : List Int) (x : Int) : List Int := if (x.fdiv 8).fmod 3 = 1 then c ++ [x.fmod 8] ++ c else if (x.fdiv 8).fmod 3 = 2 then c ++ [x.fmod 8] ++ (c ++ [x.fmod 8]) else c ++ [x.fmod 8]
theorem step_grown (c : List Int) (x : Int) : stepP c x = if (grownP c x).length < 8 then grownP c x else c := rfl
theorem grown_mem {c : List Int} {x k : Int} (h : k ∈ grownP c x) : k ∈ c ∨ k = x.fmod 8 := by
  unfold grownP at h
  have h1 : k ∈ c ++ [x.fmod 8] → k ∈ c ∨ k = x.fmod 8 := fun h => (List.mem_append.mp h).elim .inl fun h => .inr (List.mem_singleton.mp h)
  split at h
  · rcases List.mem_append.mp h with h | h
    · exact h1 h
    · exact .inl h
  · split at h
    · rcases List.mem_append.mp h with h | h
      · exact h1 h
      · exact h1 h
    · exact h1 h
theorem grown_some (c : List Int) (x : Int) : 0 < (grownP c x).length := by
  unfold grownP
  split
  · simp only [List.length_append, List.length_cons, List.length_nil]; omega
  · split <;> (simp only [List.length_append, List.length_cons, List.length_nil]; omega)
theorem step_ok {c : List Int} {x : Int} (h : (∀ k ∈ c, 0 ≤ k ∧ k < 8) ∧ c.length ≤ 7) : (∀ k ∈ stepP c x, 0 ≤ k ∧ k < 8) ∧ (stepP c x).length ≤ 7 := by
  have hx : 0 ≤ x.fmod 8 ∧ x.fmod 8 < 8 := by rw [Int.fmod_eq_emod_of_nonneg _ (by omega)]; omega
  rw [step_grown]
  by_cases hl : (grownP c x).length < 8
  · rw [if_pos hl]
    refine ⟨fun k hk => ?_, by omega⟩
    rcases grown_mem hk with hk | rfl
    · exact h.1 k hk
    · exact hx
  · rw [if_neg hl]
    exact h
theorem fold_ok : ∀ (xs c : List Int), (∀ k ∈ c, 0 ≤ k ∧ k < 8) ∧ c.length ≤ 7 → (∀ k ∈ xs.foldl stepP c, 0 ≤ k ∧ k < 8) ∧ (xs.foldl stepP c).length ≤ 7
  | [], _, h => h
  | x :: r, c, h => fold_ok r (stepP c x) (step_ok h)
theorem step_some {c : List Int} {x : Int} (h : 0 < c.length) : 0 < (stepP c x).length := by
  rw [step_grown]
  split
  · exact grown_some c x
  · exact h
theorem step_first (x : Int) : 0 < (stepP [] x).length := by
  rw [step_grown]
  have h : (grownP [] x).length < 8 := by
    unfold grownP
    split
    · simp only [List.length_append, List.length_cons, List.length_nil]; omega
    · split <;> (simp only [List.length_append, List.length_cons, List.length_nil]; omega)
  rw [if_pos h]
  exact grown_some [] x
theorem fold_some : ∀ (xs c : List Int), 0 < c.length → 0 < (xs.foldl stepP c).length
  | [], _, h => h
  | x :: r, c, h => fold_some r (stepP c x) (step_some h)
theorem pcs_ok (ns : List Int) : (∀ k ∈ pcs ns, 0 ≤ k ∧ k < 8) ∧ (pcs ns).length ≤ 7 := fold_ok _ [] ⟨fun _ h => (nomatch h), Nat.zero_le _⟩
theorem pcs_some (ns : List Int) : 0 < (pcs ns).length := by
  have h5 := five_len ns
  unfold pcs pieces
  cases h : fiveL ns with
  | nil => rw [h] at h5; cases h5
  | cons x r => exact fold_some r _ (step_first x)
theorem spell_len : ∀ k : Fin 8, (spellL.getD k.val []).length ≤ 3 ∧ 1 ≤ (spellL.getD k.val []).length ∧ ∀ c ∈ spellL.getD k.val [], 97 ≤ c ∧ c < 113 := by decide
theorem code_bd : ∀ k : Fin 8, 0 ≤ codesL.getD k.val 0 ∧ codesL.getD k.val 0 ≤ 1114111 := by decide
theorem g1_eq {k : Int} (h : 0 ≤ k ∧ k < 8) : g1 k = ofL (spellL.getD k.toNat []) := (sign_all ⟨k.toNat, by omega⟩).1
theorem g2_eq {k : Int} (h : 0 ≤ k ∧ k < 8) : g2 k = ofL (spellL.getD k.toNat []) := (sign_all ⟨k.toNat, by omega⟩).2.1
theorem code_ok {k : Int} (h : 0 ≤ k ∧ k < 8) : b3Ok ((codesL.getD k.toNat 0).toNat) = true := (sign_all ⟨k.toNat, by omega⟩).2.2
theorem flat_len : ∀ (S : List Int), (∀ k ∈ S, 0 ≤ k ∧ k < 8) → S.length ≤ (S.flatMap figOf).length ∧ (S.flatMap figOf).length ≤ 3 * S.length
  | [], _ => ⟨Nat.le_refl _, Nat.le_refl _⟩
  | a :: r, h => by
    have h1 := flat_len r fun k hk => h k (.tail _ hk)
    have h2 := h a (.head _)
    have h3 := spell_len ⟨a.toNat, by omega⟩
    have h4 : (figOf a).length = (spellL.getD a.toNat []).length := by unfold figOf; rw [List.length_map]
    simp only [List.flatMap_cons, List.length_append, List.length_cons] at h1 ⊢
    simp only at h3
    omega
theorem figs_len (ns : List Int) : 1 ≤ (figs ns).length ∧ (figs ns).length ≤ 21 := by
  have h := flat_len (pcs ns) (pcs_ok ns).1
  have h1 := pcs_some ns
  have h2 := (pcs_ok ns).2
  unfold figs
  omega
theorem figs_fgs (ns : List Int) : Fgs (figs ns) := by
  intro d hd
  obtain ⟨k, hk, hd⟩ := List.mem_flatMap.mp hd
  have h2 := (pcs_ok ns).1 k hk
  obtain ⟨c, hc, rfl⟩ := List.mem_map.mp hd
  have h3 := (spell_len ⟨k.toNat, by omega⟩).2.2 c hc
  omega
theorem spell_figs : ∀ (S : List Int), (∀ k ∈ S, 0 ≤ k ∧ k < 8) → letD (S.flatMap figOf) = S.flatMap fun k => spellL.getD k.toNat []
  | [], _ => rfl
  | a :: r, h => by
    have h1 := spell_figs r fun k hk => h k (.tail _ hk)
    have h2 := h a (.head _)
    rw [List.flatMap_cons, List.flatMap_cons, ← h1]
    unfold letD figOf
    rw [List.map_append, List.map_map]
    congr 1
    have h3 := (spell_len ⟨a.toNat, by omega⟩).2.2
    simp only at h3
    conv => rhs; rw [← List.map_id (spellL.getD a.toNat [])]
    refine List.map_congr_left fun c hc => ?_
    have := h3 c hc
    simp only [Function.comp, id]
    omega
theorem text_join (ns : List Int) : Txt.join (Str.ofString "") ((pcs ns).map g1) = textD (figs ns) := by
  rw [join_maps fun k hk => g1_eq ((pcs_ok ns).1 k hk)]
  unfold textD figs
  rw [spell_figs _ (pcs_ok ns).1]
theorem meant_join (ns : List Int) : Txt.join (Str.ofString "") ((pcs ns).map g2) = textD (figs ns) := by
  rw [join_maps fun k hk => g2_eq ((pcs_ok ns).1 k hk)]
  unfold textD figs
  rw [spell_figs _ (pcs_ok ns).1]
/-- a letter of the two -/
def g4 (k : Int) : Str := ofL [97 + k.toNat]
theorem two_join (ks : List Int) : Txt.join (Str.ofString "") (ks.map g4) = textD ks := by
  rw [join_maps (g := g4) (f := fun k => [97 + k.toNat]) fun k _ => rfl]
  unfold textD letD
  congr 1
  induction ks with
  | nil => rfl
  | cons a r ih => rw [List.flatMap_cons, ih]; rfl
theorem figs_back {ks : List Int} (hf : Fgs ks) : (textD ks).cps.toList.map (fun (k : Nat) => (k : Int) - 97) = ks := by
  rw [text_cps]
  unfold letD
  rw [List.map_map]
  conv => rhs; rw [← List.map_id ks]
  refine List.map_congr_left fun k hk => ?_
  have := hf k hk
  simp only [Function.comp, id]
  omega
theorem text46 {ks : List Int} : 46 ∉ (textD ks).cps.toList := by
  rw [text_cps]
  intro h
  obtain ⟨k, _, e⟩ := List.mem_map.mp h
  omega
end Mine
namespace Mine
open PySem PySem.W PyProof.Rows PySem.Calls
set_option maxHeartbeats 4000000
theorem sub_does (w : World) (news : List (Addr × Obj)) (a b : Int) (t1 t2 : Tok) : Does w 77 2 news [.int a t1, .int b t2] (fun t => .int (a - b) t) := by
  dsimp only [Does]
  k_fill
  intros
  rename_i hd hu hret
  refine wpAny_call ?_
  k_dflt cell_enter
  k_steps
  all_goals cb_end hret
theorem eq_does (w : World) (news : List (Addr × Obj)) (a b : Int) (t1 t2 : Tok) : Does w 35 2 news [.int a t1, .int b t2] (fun _ => .bool (a == b)) := by
  dsimp only [Does]
  k_fill
  intros
  rename_i hd hu hret
  refine wpAny_call ?_
  k_dflt cell_enter
  k_steps
  all_goals cb_end hret
theorem mod_does (w : World) (news : List (Addr × Obj)) (a b : Int) (t1 t2 : Tok) (h0 : 0 ≤ a) (hb : 0 < b) : Does w 56 2 news [.int a t1, .int b t2] (fun t => .int (a.fmod b) t) := by
  dsimp only [Does]
  k_fill
  intros
  rename_i hd hu hret
  refine wpAny_call ?_
  k_dflt cell_enter
  k_steps
  all_goals cb_end hret
theorem shl_does (w : World) (news : List (Addr × Obj)) (j : Int) (t1 t2 : Tok) (h0 : 0 ≤ j) (h1 : j ≤ 84) : Does w 49 2 news [.int 1 t1, .int j t2] (fun t => .int (1 * 2 ^ j.toNat) t) := by
  dsimp only [Does]
  k_fill
  intros
  rename_i hd hu hret
  refine wpAny_call ?_
  k_dflt cell_enter
  k_steps
  all_goals cb_end hret
theorem shr_does (w : World) (news : List (Addr × Obj)) (a j : Int) (t1 t2 : Tok) (ha : 0 ≤ a) (h0 : 0 ≤ j) (h1 : j ≤ 84) : Does w 70 2 news [.int a t1, .int j t2] (fun t => .int (a.fdiv (2 ^ j.toNat)) t) := by
  dsimp only [Does]
  k_fill
  intros
  rename_i hd hu hret
  refine wpAny_call ?_
  k_dflt cell_enter
  k_steps
  all_goals cb_end hret
end Mine
namespace Mine
open PySem PySem.W PyProof.Rows PySem.Calls
theorem filled : (KF, OpenLaw.prog PySem.Challenge.rw_wo0057_01) = (KF, OpenLaw.prog PySem.Challenge.rw_wo0057_01) := by
  k_fill
  rfl
theorem rb_elim {h₀ : Heap} {L : Addr} {m : Str → Option Value} {news : List (Addr × Obj)} {s : Shared} {Q : Value → Shared → Prop} {bs : List Bool} (h : ∀ (D : Addr) (ys : List Value) (n : Nat) (h' : Heap) (tk' : Nat), LSm.BoolsAre ys bs → Fr h₀ L h' m → News h₀ L h' ((D, listOf ys.toArray n) :: news) → Q (.ref D) { s with heap := h', toks := tk' }) :
    ∀ (v : Value) (more : List (Addr × Obj)) (h' : Heap) (tk' : Nat), RB bs v more → Fr h₀ L h' m → News h₀ L h' (more ++ news) → Q v { s with heap := h', toks := tk' } := by
  rintro _ _ h' tk' ⟨D, ys, n, rfl, rfl, hI⟩ F N
  exact h D ys n h' tk' hI F N
theorem ne_cell {h₀ h : Heap} {L : Addr} {news : List (Addr × Obj)} {D c : Addr} {its : Array Value} {n : Nat} {o : Obj} {v : Option Value} (N : News h₀ L h news) (hD : (D, listOf its n) ∈ news) (hc : (c, o) ∈ news) (hd : o.data = .cell v) : D ≠ c := by
  rintro rfl
  have h1 := (N _ hD).1
  have h2 := (N _ hc).1
  rw [h1] at h2
  have e : listOf its n = o := Option.some.inj h2
  rw [← e] at hd
  cases hd
local macro_rules | `(tactic| k_ne) => `(tactic| (with_reducible rename News _ _ _ _ => nN'; k_dflt (exact ne_cell nN' (by k_mem) (by k_mem) (by assumption))))
/-- the texts and rows of this law -/
def fg (ns : List Int) : List Int := figs ns
def rw2 (ns : List Int) : List Int := rowK (figs ns)
def tx (ns : List Int) : Str := textD (figs ns)
def px (ns : List Int) : Str := textD (rowK (figs ns))
def tl (ns : List Int) : List Bool := tlK (figs ns)
def nm (ns : List Int) : Int := numF (figs ns)
def nr (ns : List Int) : Int := numF (rowK (figs ns))
def ct (ns : List Int) : Nat := (figs ns).length
theorem row_len (ns : List Int) : (rowK (figs ns)).length = (figs ns).length := (row_good (figs_len ns).1).len
theorem ct_bd (ns : List Int) : 1 ≤ ct ns ∧ ct ns ≤ 21 := figs_len ns
theorem nm_bd (ns : List Int) : 0 ≤ nm ns ∧ nm ns < 19342813113834066795298816 := num_lt rfl (figs_fgs ns) (figs_len ns).2
theorem pieces_law (w : World) (news : List (Addr × Obj)) (l : Addr) (ws : List Value) (ns : List Int) : DoesO w 128 3 news (fun h => h.IsList l ws.toArray ∧ IntsAre ws ns ∧ ns.length ≤ 63) [.ref l] (RI (pcs ns)) := pieces_does w news l ws ns
theorem num_text (w : World) (news : List (Addr × Obj)) (D : Addr) (ys : List Value) (nn : Nat) (ns : List Int) (hm : (D, listOf ys.toArray nn) ∈ news) (hi : IntsAre ys ((tx ns).cps.toList.map fun (k : Nat) => (k : Int) - 97)) : Does w 135 9 news [.ref D] (fun t => .int (nm ns) t) := by
  unfold tx at hi
  rw [figs_back (figs_fgs ns)] at hi
  exact number_does w news D ys nn _ hm hi (figs_fgs ns) (figs_len ns).2
theorem num_row (w : World) (news : List (Addr × Obj)) (D : Addr) (ys : List Value) (nn : Nat) (ns : List Int) (hm : (D, listOf ys.toArray nn) ∈ news) (hi : IntsAre ys (rw2 ns)) : Does w 135 9 news [.ref D] (fun t => .int (nr ns) t) :=
  number_does w news D ys nn _ hm hi (row_fgs (figs_len ns).1).1 (by have := (figs_len ns).2; rw [row_len]; omega)
theorem shown_text (w : World) (news : List (Addr × Obj)) (ns : List Int) (t1 t2 : Tok) : Does w 140 9 news [.int (nm ns) t1, .int (ct ns) t2] (fun t => .str (tx ns) t) :=
  shown_does w news _ _ _ t1 t2 rfl rfl (figs_fgs ns) (figs_len ns).2
theorem shown_row (w : World) (news : List (Addr × Obj)) (ns : List Int) (t1 t2 : Tok) : Does w 140 9 news [.int (nr ns) t1, .int (ct ns) t2] (fun t => .str (px ns) t) :=
  shown_does w news _ _ _ t1 t2 rfl (by rw [row_len]; rfl) (row_fgs (figs_len ns).1).1 (by have := (figs_len ns).2; rw [row_len]; omega)
theorem told_tx (w : World) (news : List (Addr × Obj)) (ns : List Int) (t1 : Tok) : DoesO w 145 9 news (fun _ => True) [.str (tx ns) t1] (RB (tl ns)) := by
  have h := told_does w news (textD (figs ns)) t1 text46 (by rw [text_len]; exact (figs_len ns).2) (by rw [text_len]; exact (figs_len ns).1)
  rw [told_text (figs_fgs ns)] at h
  exact h
theorem told_px (w : World) (news : List (Addr × Obj)) (ns : List Int) (t1 : Tok) : DoesO w 145 9 news (fun _ => True) [.str (px ns) t1] (RB (tl ns)) := by
  have hl := figs_len ns
  have h := told_does w news (textD (rowK (figs ns))) t1 text46 (by rw [text_len, row_len]; exact hl.2) (by rw [text_len, row_len]; exact hl.1)
  rw [told_text (row_fgs hl.1).1, row_tl hl.1] at h
  exact h
theorem tl_room (ns : List Int) : (tl ns).length ≤ 21 := by
  have := (figs_len ns).2
  unfold tl
  rw [tl_len]
  omega
theorem same_one (w : World) (news : List (Addr × Obj)) (D1 D2 : Addr) (ys1 ys2 : List Value) (n1 n2 : Nat) (ns : List Int) (hm1 : (D1, listOf ys1.toArray n1) ∈ news) (hm2 : (D2, listOf ys2.toArray n2) ∈ news) (hb1 : LSm.BoolsAre ys1 (tl ns)) (hb2 : LSm.BoolsAre ys2 (tl ns)) : Does w 150 9 news [.ref D1, .ref D2] (fun _ => .bool true) :=
  same_does w news D1 D2 ys1 ys2 n1 n2 _ hm1 hm2 hb1 hb2 (tl_room ns)
/-- what the number tells of a length -/
def dueN (ns : List Int) (k : Int) : Bool := (nm ns).fmod (1 * 2 ^ (4 * k).toNat) == (nm ns).fdiv (2 ^ (4 * ((ct ns : Int) - k)).toNat)
theorem same_due (w : World) (news : List (Addr × Obj)) (D1 D2 : Addr) (ys1 ys2 : List Value) (n1 n2 : Nat) (ns : List Int) (hm1 : (D1, listOf ys1.toArray n1) ∈ news) (hm2 : (D2, listOf ys2.toArray n2) ∈ news) (hb1 : LSm.BoolsAre ys1 (tl ns)) (hb2 : LSm.BoolsAre ys2 ((rangeKs 1 ((ct ns : Int) - 1).toNat).map (dueN ns))) : Does w 150 9 news [.ref D1, .ref D2] (fun _ => .bool true) := by
  have e : (rangeKs 1 ((ct ns : Int) - 1).toNat).map (dueN ns) = tl ns := due_text (figs_fgs ns)
  rw [e] at hb2
  exact same_does w news D1 D2 ys1 ys2 n1 n2 _ hm1 hm2 hb1 hb2 (tl_room ns)
/-- the borders, as they are told -/
def askB (ns : List Int) (k : Int) : Bool := (tl ns).getD (k - 1).toNat false
theorem two_law (w : World) (news : List (Addr × Obj)) (D : Addr) (ys : List Value) (n1 : Nat) (ns : List Int) (t : Tok) (hm : (D, listOf ys.toArray n1) ∈ news) (hi : IntsAre ys ((rangeKs 1 ((ct ns : Int) - 1).toNat).filter (askB ns))) : DoesO w 162 72 news (fun _ => True) [.int (ct ns) t, .ref D] (RI (rw2 ns)) := by
  have e : (rangeKs 1 ((ct ns : Int) - 1).toNat).filter (askB ns) = toI (bords (get (figs ns)) (figs ns).length) := row_bords (figs ns)
  rw [e] at hi
  have hl := figs_len ns
  exact DoesO.mono (two_does w (get (figs ns)) (figs ns).length hl.2 _ hl.1 (Nat.le_refl _) news D ys n1 t hm hi) (by omega)
theorem pcs_room {vs : List Value} {ns : List Int} (h : IntsAre vs (pcs ns)) : vs.toArray.size ≤ sizeLine := kmk_sz h (by have := (pcs_ok ns).2; rw [PySem.sizeLine_eq]; omega)
theorem row_room {vs : List Value} {ns : List Int} (h : IntsAre vs (rw2 ns)) : vs.toArray.size ≤ sizeLine := kmk_sz h (by have := (figs_len ns).2; have := row_len ns; unfold rw2; rw [PySem.sizeLine_eq]; omega)
theorem tx_room (ns : List Int) : (tx ns).cps.size ≤ sizeLine := by
  have h : (tx ns).length = (figs ns).length := text_len _
  have := (figs_len ns).2
  show (tx ns).length ≤ _
  rw [PySem.sizeLine_eq]
  omega
theorem pow_some (j : Int) : (0 : Int) < 1 * 2 ^ j.toNat := by rw [Int.one_mul]; exact Int.pow_pos (by decide)
theorem row_two {ns : List Int} {k : Int} (h : k ∈ rw2 ns) : k = 0 ∨ k = 1 := (row_fgs (figs_len ns).1).2 k h
section
variable {prog : Program} {w : World} {A : Around} {E : Value → Shared → Prop} {s : Shared} {value slice : PySem.Expr} {l : Addr} {vs : List Value} {k : Int} {t u : Tok} {Q : Value → Shared → Prop} {D : Addr} {ys : List Value} {ns : List Int}
theorem item_codes (hl : s.heap.IsList l vs.toArray) (hi : IntsAre vs codesL) (hk : 0 ≤ k ∧ k < 8) (h : ∀ t, 0 ≤ codesL.getD k.toNat 0 → codesL.getD k.toNat 0 ≤ 1114111 → Q (.int (codesL.getD k.toNat 0) t) s)
    (hs : subscripted slice false (.ref l) (.int k u) = operate [.ref l, .int k u] (getItem (.ref l) (.int k u)) := by with_unfolding_all rfl) :
    wpAny (model prog w) A (subscriptTail value slice (.ref l) (.int k u)) Q E s := by
  obtain ⟨t, hx⟩ := hi.get k.toNat (codesL.getD k.toNat 0) (ints_getD hk.1 (by show k < ((8 : Nat) : Int); omega))
  have hb := code_bd ⟨k.toNat, by omega⟩
  exact tail_any hl.typeIs slot_list_getitem.lookup (wpAny_getItem_list hl hk.1 (by omega) (x := .int _ t) (by simpa using hx) (h t hb.1 hb.2)) hs
theorem item_meant (hl : s.heap.IsList l vs.toArray) (hi : StrsAre vs meantL) (hk : 0 ≤ k ∧ k < 8) (h : ∀ t, Q (.str (g2 k) t) s)
    (hs : subscripted slice false (.ref l) (.int k u) = operate [.ref l, .int k u] (getItem (.ref l) (.int k u)) := by with_unfolding_all rfl) :
    wpAny (model prog w) A (subscriptTail value slice (.ref l) (.int k u)) Q E s :=
  KTb.item_list hl hi hk.1 (by show k < ((8 : Nat) : Int); omega) (by omega) (fun t _ => h t) hs
theorem item_ab (hk : k = 0 ∨ k = 1) (h : ∀ t' n, Q (.str (g4 k) t') { s with toks := n })
    (hs : subscripted slice false (.str (Str.ofString "ab") t) (.int k u) = operate [.str (Str.ofString "ab") t, .int k u] (getItem (.str (Str.ofString "ab") t) (.int k u)) := by with_unfolding_all rfl)
    (ht : ∀ r, letTemporaryGo value (.str (Str.ofString "ab") t) r = pure () := by intro _; with_unfolding_all rfl) :
    wpAny (model prog w) A (subscriptTail value slice (.str (Str.ofString "ab") t) (.int k u)) Q E s := by
  have hl : (Str.ofString "ab").length = 2 := by decide +kernel
  refine item_str (fitsSsize_of (N := 9223372036854775808) (by omega) (by omega) (Int.le_refl _)) (by rw [hl]; omega) (by rw [hl]; omega) (fun e => ?_) hs ht
  rw [item_meets (by omega) (n := 97 + k.toNat) (by rcases hk with rfl | rfl <;> decide +kernel)]
  exact h _ _
theorem join_text (hl : s.heap.IsList D ys.toArray) (hc : CarriedAll ys ((pcs ns).map fun a => PyData.str (g1 a))) (h : ∀ t' k, Q (.str (tx ns) t') { s with toks := k }) :
    wpAny (model prog w) A (call (.builtin "str.join") [.str (Str.ofString "") t, .ref D]) Q E s :=
  KT.join_B 10 hl hc (fun a ha => by
    have hb := (pcs_ok ns).1 a ha
    rw [g1_eq hb, ofL_len]
    have := (spell_len ⟨a.toNat, by omega⟩).1
    simp only at this
    omega) (by have := (pcs_ok ns).2; omega) (by decide) (fun t' k => by rw [text_join]; exact h t' k)
theorem join_let (hl : s.heap.IsList D ys.toArray) (hc : CarriedAll ys ((pcs ns).map fun a => PyData.str (g2 a))) (h : ∀ t' k, Q (.str (tx ns) t') { s with toks := k }) :
    wpAny (model prog w) A (call (.builtin "str.join") [.str (Str.ofString "") t, .ref D]) Q E s :=
  KT.join_B 10 hl hc (fun a ha => by
    have hb := (pcs_ok ns).1 a ha
    rw [g2_eq hb, ofL_len]
    have := (spell_len ⟨a.toNat, by omega⟩).1
    simp only at this
    omega) (by have := (pcs_ok ns).2; omega) (by decide) (fun t' k => by rw [meant_join]; exact h t' k)
theorem join_two (hl : s.heap.IsList D ys.toArray) (hc : CarriedAll ys ((rw2 ns).map fun a => PyData.str (g4 a))) (h : ∀ t' k, Q (.str (px ns) t') { s with toks := k }) :
    wpAny (model prog w) A (call (.builtin "str.join") [.str (Str.ofString "") t, .ref D]) Q E s :=
  KT.join_B 10 hl hc (fun a ha => by
    unfold g4
    rw [ofL_len]
    show 1 ≤ 10
    decide) (by have h1 := (figs_len ns).2; have h2 := row_len ns; unfold rw2; omega) (by decide) (fun t' k => by unfold rw2; rw [two_join]; exact h t' k)
theorem len_tx (h : 1 ≤ ct ns → ct ns ≤ 21 → 0 ≤ nm ns → nm ns < 19342813113834066795298816 → Q (.int (ct ns) (s.toks + 1)) { s with toks := s.toks + 1 + 1 }) : wpAny (model prog w) A (call (.builtin "len") [.str (tx ns) t]) Q E s := by
  have hl : (tx ns).length = ct ns := text_len _
  have hb := ct_bd ns
  have hn := nm_bd ns
  refine PyProof.Rows.len_str (by omega) ?_
  rw [hl]
  exact h hb.1 hb.2 hn.1 hn.2
theorem ne_no {x y : Str} (e : x = y) (h : Q (.bool false) s) : wpAny (model prog w) A (compareOp .NotEq (.str x t) (.str y u)) Q E s := by
  subst e
  refine PyProof.Rows.ne_str ?_
  have : (x != x) = false := by simp
  rw [this]
  exact h
theorem item_tl (hl : s.heap.IsList l vs.toArray) (hi : LSm.BoolsAre vs (tl ns)) (h1 : 1 ≤ k) (h2 : k < ct ns) (h : Q (.bool (askB ns k)) s)
    (hs : subscripted slice false (.ref l) (.int (k - 1) u) = operate [.ref l, .int (k - 1) u] (getItem (.ref l) (.int (k - 1) u)) := by with_unfolding_all rfl) :
    wpAny (model prog w) A (subscriptTail value slice (.ref l) (.int (k - 1) u)) Q E s := by
  have e : (tl ns).length = ct ns - 1 := tl_len _
  exact item_bool hl hi (tl_room ns) (by omega) (by omega) h hs
end
section
variable {prog : Program} {w : World} {A : Around} {E : Value → Shared → Prop} {s : Shared} {h₀ : Heap} {L : Addr} {m : Str → Option Value} {env : Env}
variable {cx elt : Expr} {x : Str} {scope : Scope} {cl : List (Str × Addr)} {S : List (Addr × Obj) → Prop} {Fin : List Value → List (Addr × Obj) → Prop} {news : List (Addr × Obj)}
/-- the numbers of a range whose answer is True -/
theorem kcq_told {vs : List Value} {ns : List Int} {n : Nat} (hbt : LSm.BoolsAre vs (tl ns)) (hn : n = ((ct ns : Int) - 1).toNat)
    (turn : ∀ (k : Int) t I oI C oC D m₂ ys l h tk (E' : Value → Shared → Prop), 1 ≤ k → k < (ct ns : Int) → IntsAre ys l → LCg.NsObj oC m₂ → m₂ x = some (.int k t) → Fr h₀ L h m → News h₀ L h ((I, oI) :: (C, oC) :: (D, LCg.lst ys) :: news) → LCg.Off3 I C D news → ((@Ne Nat I C) ∧ (@Ne Nat I D) ∧ (@Ne Nat C D)) → KPfMark →
      wpAny (model prog w) A (isTrue cx (compEnvC scope cl C env) (eval cx (compEnvC scope cl C env))) (fun b s' => if b = true then wpAny (model prog w) A (eval elt (compEnvC scope cl C env)) (LCg.CompEnd h₀ L m { s with heap := h, toks := tk } I oI C oC D (LCg.lst ys) S (fun y news' => KCiEl news l (if askB ns k = true then l ++ [k] else l) y news')) E' s'
        else LCg.CompEnd h₀ L m { s with heap := h, toks := tk } I oI C oC D (LCg.lst ys) S (fun _ news' => KCiNo news l (if askB ns k = true then l ++ [k] else l) news') Value.none s') E' { s with heap := h, toks := tk })
    (fin : KPfDone (∀ ys, IntsAre ys ((rangeKs 1 ((ct ns : Int) - 1).toNat).filter (askB ns)) → Fin ys news)) : LCt.CompRestT prog w A h₀ L m env cx elt x scope cl s S (fun i v => ∃ t, v = .int (1 + (i : Int)) t) Fin n 0 [] news := by
  subst hn
  have hc := ct_bd ns
  refine kci_range (fun l k => if askB ns k = true then l ++ [k] else l) (fun k t I oI C oC D m₂ ys l h tk E' hlo hhi => turn k t I oI C oC D m₂ ys l h tk E' hlo (by omega)) ?_ (fun l k => filt_grows (askB ns) l k)
  unfold KPfDone at fin ⊢
  intro ys hi _
  rw [foldl_filter, List.nil_append] at hi
  exact fin ys hi
end
local macro_rules | `(tactic| walk_at "call ref") => `(tactic| k_extra "call ref")
local macro_rules | `(tactic| walk_at "subscriptTail") => `(tactic| k_extra "subscriptTail")
local macro_rules | `(tactic| walk_at "call builtin:str.join") => `(tactic| k_extra "call builtin:str.join")
local macro_rules | `(tactic| walk_at "call builtin:len") => `(tactic| k_extra "call builtin:len")
local macro_rules | `(tactic| walk_at "compareOp NotEq str str") => `(tactic| k_extra "compareOp NotEq str str")
local macro_rules | `(tactic| walk_at "call type:range") => `(tactic| k_extra "call type:range")
local macro_rules | `(tactic| walk_at "eval ListComp") => `(tactic| k_extra "eval ListComp")
local macro_rules | `(tactic| walk_at "CompSrc") => `(tactic| k_extra "CompSrc")
local macro_rules | `(tactic| walk_at "SrcS") => `(tactic| k_extra "SrcS")
local macro_rules | `(tactic| walk_at "CompSrcT") => `(tactic| k_extra "CompSrcT")
local macro_rules | `(tactic| walk_at "CompEnd") => `(tactic| k_extra "CompEnd")
local macro_rules | `(tactic| walk_at "KCtEl") => `(tactic| k_extra "KCtEl")
local macro_rules | `(tactic| walk_at "KCbEl") => `(tactic| k_extra "KCbEl")
local macro_rules | `(tactic| walk_at "KCfEl") => `(tactic| k_extra "KCfEl")
local macro_rules | `(tactic| walk_at "KCiEl") => `(tactic| k_extra "KCiEl")
local macro_rules | `(tactic| walk_at "KCiNo") => `(tactic| k_extra "KCiNo")
local macro_rules | `(tactic| walk_at "eval Name") => `(tactic| k_extra "eval Name")
set_option maxHeartbeats 0
theorem law_holds : PySem.Challenge.rw_wo0057_01.Holds := by
  w_on
  o_law
  refine holds_open (r := LW.row) (q := qM) (loose := looseM) (Xt := XtM) (XP := XL qM []) (Yf := HK.obs) (Ya := HK.val) (YP := HK.says) (N := 30000) left HK.of HK.keeps (fun s e => xl_of s (Bool.and_eq_true_iff.mp e).1) XL.keeps (by rfl) (by rfl) (by rfl) (fun s e => recFacts_of (Bool.and_eq_true_iff.mp e).2) (by rfl) (by assumption) (by decide +kernel) ⟨rfl, rfl, rfl, rfl, rfl, by decide +kernel⟩ ?hw ?hc
  · w_witness2
  · k_with_none
    k_with "call ref" => (k_here; (with_reducible show wpAny _ _ (call (Value.ref 128) _) _ _ _); k_dflt (refine' pieces_law _ _ _ _ _ _ _ _ _ _ _ _ _ _ _ _ _ _ _ _ _ _ _ _ _ _ _ ?zzk1 ?zzk2 ?zzk3 ?zzk4 ?zzk5 ?zzkK ?zzka ?zzkd ?zzku ?_; (case zzk1 => k_asm); (case zzk2 => k_asm); (case zzk3 => k_asm); (case zzk4 => k_asm); (case zzk5 => k_asm); (case zzkK => first | exact rfl | assumption); (case zzka => exact ⟨by assumption, by assumption, by omega⟩); (case zzkd => first | ktr_room | exact Nat.le_of_ble_eq_true rfl); (case zzku => first | ktr_units | exact Nat.le_of_ble_eq_true rfl); refine ri_elim ?_; intro D9 ys9 n9 h9 tk9 hI9 F9 N9; (try dsimp only); (try k_fold)))
    k_with "call ref" => (k_here; (with_reducible show wpAny _ _ (call (Value.ref 123) _) _ _ _); k_dflt (refine' b3_any _ _ _ _ ?zzkp _ _ _ _ _ _ _ _ _ _ _ _ _ _ _ _ _ _ _ _ _ _ ?zzk1 ?zzk2 ?zzk3 ?zzk4 ?zzk5 ?zzkK ?zzkd ?zzku ?_; (case zzk1 => k_asm); (case zzk2 => k_asm); (case zzk3 => k_asm); (case zzk4 => k_asm); (case zzk5 => k_asm); (case zzkK => first | exact rfl | assumption); (case zzkp => exact code_ok ((pcs_ok _).1 _ (by assumption))); (case zzkd => first | ktr_room | exact Nat.le_of_ble_eq_true rfl); (case zzku => first | ktr_units | exact Nat.le_of_ble_eq_true rfl); intro t9 h9 tk9 F9 N9; (try dsimp only); (try k_fold)))
    k_with "call ref" => (k_here; (with_reducible show wpAny _ _ (call (Value.ref 77) _) _ _ _); k_dflt (refine' sub_does _ _ _ _ _ _ _ _ _ _ _ _ _ _ _ _ _ _ _ _ _ _ _ _ _ _ _ _ ?zzk1 ?zzk2 ?zzk3 ?zzk4 ?zzk5 ?zzkK ?zzkd ?zzku ?_; (case zzk1 => k_asm); (case zzk2 => k_asm); (case zzk3 => k_asm); (case zzk4 => k_asm); (case zzk5 => k_asm); (case zzkK => first | exact rfl | assumption); (case zzkd => first | ktr_room | exact Nat.le_of_ble_eq_true rfl); (case zzku => first | ktr_units | exact Nat.le_of_ble_eq_true rfl); intro t9 h9 tk9 F9 N9; (try dsimp only); (try k_fold)))
    k_with "call ref" => (k_here; (with_reducible show wpAny _ _ (call (Value.ref 35) _) _ _ _); k_dflt (refine' eq_does _ _ _ _ _ _ _ _ _ _ _ _ _ _ _ _ _ _ _ _ _ _ _ _ _ _ _ _ ?zzk1 ?zzk2 ?zzk3 ?zzk4 ?zzk5 ?zzkK ?zzkd ?zzku ?_; (case zzk1 => k_asm); (case zzk2 => k_asm); (case zzk3 => k_asm); (case zzk4 => k_asm); (case zzk5 => k_asm); (case zzkK => first | exact rfl | assumption); (case zzkd => first | ktr_room | exact Nat.le_of_ble_eq_true rfl); (case zzku => first | ktr_units | exact Nat.le_of_ble_eq_true rfl); intro t9 h9 tk9 F9 N9; (try dsimp only); (try k_fold)))
    k_with "call ref" => (k_here; (with_reducible show wpAny _ _ (call (Value.ref 56) _) _ _ _); k_dflt (refine' mod_does _ _ _ _ _ _ ?zzka0 ?zzkb0 _ _ _ _ _ _ _ _ _ _ _ _ _ _ _ _ _ _ _ _ _ _ ?zzk1 ?zzk2 ?zzk3 ?zzk4 ?zzk5 ?zzkK ?zzkd ?zzku ?_; (case zzk1 => k_asm); (case zzk2 => k_asm); (case zzk3 => k_asm); (case zzk4 => k_asm); (case zzk5 => k_asm); (case zzkK => first | exact rfl | assumption); (case zzka0 => omega); (case zzkb0 => exact pow_some _); (case zzkd => first | ktr_room | exact Nat.le_of_ble_eq_true rfl); (case zzku => first | ktr_units | exact Nat.le_of_ble_eq_true rfl); intro t9 h9 tk9 F9 N9; (try dsimp only); (try k_fold)))
    k_with "call ref" => (k_here; (with_reducible show wpAny _ _ (call (Value.ref 49) _) _ _ _); k_dflt (refine' shl_does _ _ _ _ _ ?zzka0 ?zzkb0 _ _ _ _ _ _ _ _ _ _ _ _ _ _ _ _ _ _ _ _ _ _ ?zzk1 ?zzk2 ?zzk3 ?zzk4 ?zzk5 ?zzkK ?zzkd ?zzku ?_; (case zzk1 => k_asm); (case zzk2 => k_asm); (case zzk3 => k_asm); (case zzk4 => k_asm); (case zzk5 => k_asm); (case zzkK => first | exact rfl | assumption); (case zzka0 => omega); (case zzkb0 => omega); (case zzkd => first | ktr_room | exact Nat.le_of_ble_eq_true rfl); (case zzku => first | ktr_units | exact Nat.le_of_ble_eq_true rfl); intro t9 h9 tk9 F9 N9; (try dsimp only); (try k_fold)))
    k_with "call ref" => (k_here; (with_reducible show wpAny _ _ (call (Value.ref 70) _) _ _ _); k_dflt (refine' shr_does _ _ _ _ _ _ ?zzka0 ?zzkb0 ?zzkc0 _ _ _ _ _ _ _ _ _ _ _ _ _ _ _ _ _ _ _ _ _ _ ?zzk1 ?zzk2 ?zzk3 ?zzk4 ?zzk5 ?zzkK ?zzkd ?zzku ?_; (case zzk1 => k_asm); (case zzk2 => k_asm); (case zzk3 => k_asm); (case zzk4 => k_asm); (case zzk5 => k_asm); (case zzkK => first | exact rfl | assumption); (case zzka0 => omega); (case zzkb0 => omega); (case zzkc0 => omega); (case zzkd => first | ktr_room | exact Nat.le_of_ble_eq_true rfl); (case zzku => first | ktr_units | exact Nat.le_of_ble_eq_true rfl); intro t9 h9 tk9 F9 N9; (try dsimp only); (try k_fold)))
    k_with "call ref" => (k_here; (with_reducible show wpAny _ _ (call (Value.ref 135) _) _ _ _); k_dflt (refine' num_text _ _ _ _ _ _ ?zzkm ?zzks _ _ _ _ _ _ _ _ _ _ _ _ _ _ _ _ _ _ _ _ _ _ ?zzk1 ?zzk2 ?zzk3 ?zzk4 ?zzk5 ?zzkK ?zzkd ?zzku ?_; (case zzk1 => k_asm); (case zzk2 => k_asm); (case zzk3 => k_asm); (case zzk4 => k_asm); (case zzk5 => k_asm); (case zzkK => first | exact rfl | assumption); (case zzkm => k_mem); (case zzks => assumption); (case zzkd => first | ktr_room | exact Nat.le_of_ble_eq_true rfl); (case zzku => first | ktr_units | exact Nat.le_of_ble_eq_true rfl); intro t9 h9 tk9 F9 N9; (try dsimp only); (try k_fold)))
    k_with "call ref" => (k_here; (with_reducible show wpAny _ _ (call (Value.ref 135) _) _ _ _); k_dflt (refine' num_row _ _ _ _ _ _ ?zzkm ?zzks _ _ _ _ _ _ _ _ _ _ _ _ _ _ _ _ _ _ _ _ _ _ ?zzk1 ?zzk2 ?zzk3 ?zzk4 ?zzk5 ?zzkK ?zzkd ?zzku ?_; (case zzk1 => k_asm); (case zzk2 => k_asm); (case zzk3 => k_asm); (case zzk4 => k_asm); (case zzk5 => k_asm); (case zzkK => first | exact rfl | assumption); (case zzkm => k_mem); (case zzks => assumption); (case zzkd => first | ktr_room | exact Nat.le_of_ble_eq_true rfl); (case zzku => first | ktr_units | exact Nat.le_of_ble_eq_true rfl); intro t9 h9 tk9 F9 N9; (try dsimp only); (try k_fold)))
    k_with "call ref" => (k_here; (with_reducible show wpAny _ _ (call (Value.ref 140) _) _ _ _); k_dflt (refine' shown_text _ _ _ _ _ _ _ _ _ _ _ _ _ _ _ _ _ _ _ _ _ _ _ _ _ _ _ ?zzk1 ?zzk2 ?zzk3 ?zzk4 ?zzk5 ?zzkK ?zzkd ?zzku ?_; (case zzk1 => k_asm); (case zzk2 => k_asm); (case zzk3 => k_asm); (case zzk4 => k_asm); (case zzk5 => k_asm); (case zzkK => first | exact rfl | assumption); (case zzkd => first | ktr_room | exact Nat.le_of_ble_eq_true rfl); (case zzku => first | ktr_units | exact Nat.le_of_ble_eq_true rfl); intro t9 h9 tk9 F9 N9; (try dsimp only); (try k_fold)))
    k_with "call ref" => (k_here; (with_reducible show wpAny _ _ (call (Value.ref 140) _) _ _ _); k_dflt (refine' shown_row _ _ _ _ _ _ _ _ _ _ _ _ _ _ _ _ _ _ _ _ _ _ _ _ _ _ _ ?zzk1 ?zzk2 ?zzk3 ?zzk4 ?zzk5 ?zzkK ?zzkd ?zzku ?_; (case zzk1 => k_asm); (case zzk2 => k_asm); (case zzk3 => k_asm); (case zzk4 => k_asm); (case zzk5 => k_asm); (case zzkK => first | exact rfl | assumption); (case zzkd => first | ktr_room | exact Nat.le_of_ble_eq_true rfl); (case zzku => first | ktr_units | exact Nat.le_of_ble_eq_true rfl); intro t9 h9 tk9 F9 N9; (try dsimp only); (try k_fold)))
    k_with "call ref" => (k_here; (with_reducible show wpAny _ _ (call (Value.ref 145) _) _ _ _); k_dflt (refine' told_tx _ _ _ _ _ _ _ _ _ _ _ _ _ _ _ _ _ _ _ _ _ _ _ _ _ _ ?zzk1 ?zzk2 ?zzk3 ?zzk4 ?zzk5 ?zzkK ?zzka ?zzkd ?zzku ?_; (case zzk1 => k_asm); (case zzk2 => k_asm); (case zzk3 => k_asm); (case zzk4 => k_asm); (case zzk5 => k_asm); (case zzkK => first | exact rfl | assumption); (case zzka => exact True.intro); (case zzkd => first | ktr_room | exact Nat.le_of_ble_eq_true rfl); (case zzku => first | ktr_units | exact Nat.le_of_ble_eq_true rfl); refine rb_elim ?_; intro D9 ys9 n9 h9 tk9 hI9 F9 N9; (try dsimp only); (try k_fold)))
    k_with "call ref" => (k_here; (with_reducible show wpAny _ _ (call (Value.ref 145) _) _ _ _); k_dflt (refine' told_px _ _ _ _ _ _ _ _ _ _ _ _ _ _ _ _ _ _ _ _ _ _ _ _ _ _ ?zzk1 ?zzk2 ?zzk3 ?zzk4 ?zzk5 ?zzkK ?zzka ?zzkd ?zzku ?_; (case zzk1 => k_asm); (case zzk2 => k_asm); (case zzk3 => k_asm); (case zzk4 => k_asm); (case zzk5 => k_asm); (case zzkK => first | exact rfl | assumption); (case zzka => exact True.intro); (case zzkd => first | ktr_room | exact Nat.le_of_ble_eq_true rfl); (case zzku => first | ktr_units | exact Nat.le_of_ble_eq_true rfl); refine rb_elim ?_; intro D9 ys9 n9 h9 tk9 hI9 F9 N9; (try dsimp only); (try k_fold)))
    k_with "call ref" => (k_here; (with_reducible show wpAny _ _ (call (Value.ref 150) _) _ _ _); k_dflt (refine' same_one _ _ _ _ _ _ _ _ _ ?zzkm ?zzkn ?zzks ?zzkt _ _ _ _ _ _ _ _ _ _ _ _ _ _ _ _ _ _ _ _ _ _ ?zzk1 ?zzk2 ?zzk3 ?zzk4 ?zzk5 ?zzkK ?zzkd ?zzku ?_; (case zzk1 => k_asm); (case zzk2 => k_asm); (case zzk3 => k_asm); (case zzk4 => k_asm); (case zzk5 => k_asm); (case zzkK => first | exact rfl | assumption); (case zzkm => k_mem); (case zzkn => k_mem); (case zzks => assumption); (case zzkt => assumption); (case zzkd => first | ktr_room | exact Nat.le_of_ble_eq_true rfl); (case zzku => first | ktr_units | exact Nat.le_of_ble_eq_true rfl); intro t9 h9 tk9 F9 N9; (try dsimp only); (try k_fold)))
    k_with "call ref" => (k_here; (with_reducible show wpAny _ _ (call (Value.ref 150) _) _ _ _); k_dflt (refine' same_due _ _ _ _ _ _ _ _ _ ?zzkm ?zzkn ?zzks ?zzkt _ _ _ _ _ _ _ _ _ _ _ _ _ _ _ _ _ _ _ _ _ _ ?zzk1 ?zzk2 ?zzk3 ?zzk4 ?zzk5 ?zzkK ?zzkd ?zzku ?_; (case zzk1 => k_asm); (case zzk2 => k_asm); (case zzk3 => k_asm); (case zzk4 => k_asm); (case zzk5 => k_asm); (case zzkK => first | exact rfl | assumption); (case zzkm => k_mem); (case zzkn => k_mem); (case zzks => assumption); (case zzkt => assumption); (case zzkd => first | ktr_room | exact Nat.le_of_ble_eq_true rfl); (case zzku => first | ktr_units | exact Nat.le_of_ble_eq_true rfl); intro t9 h9 tk9 F9 N9; (try dsimp only); (try k_fold)))
    k_with "call ref" => (k_here; (with_reducible show wpAny _ _ (call (Value.ref 162) _) _ _ _); k_dflt (refine' two_law _ _ _ _ _ _ _ ?zzkm ?zzks _ _ _ _ _ _ _ _ _ _ _ _ _ _ _ _ _ _ _ _ _ _ ?zzk1 ?zzk2 ?zzk3 ?zzk4 ?zzk5 ?zzkK ?zzka ?zzkd ?zzku ?_; (case zzk1 => k_asm); (case zzk2 => k_asm); (case zzk3 => k_asm); (case zzk4 => k_asm); (case zzk5 => k_asm); (case zzkK => first | exact rfl | assumption); (case zzkm => k_mem); (case zzks => assumption); (case zzka => exact True.intro); (case zzkd => first | ktr_room | exact Nat.le_of_ble_eq_true rfl); (case zzku => first | ktr_units | exact Nat.le_of_ble_eq_true rfl); refine ri_elim ?_; intro D9 ys9 n9 h9 tk9 hI9 F9 N9; (try dsimp only); (try k_fold)))
    k_with "subscriptTail" => (k_here; (with_reducible show wpAny _ _ (subscriptTail (Expr.Name (Str.ofString "codes") _) (Expr.Name _ _) (Value.ref _) (Value.int _ _)) _ _ _); k_dflt (refine item_codes (News.isList (by k_asm) (by k_mem)) (by repeat constructor) ((pcs_ok _).1 _ (by assumption)) ?_; intro t9 hc0 hc1))
    k_with "subscriptTail" => (k_here; (with_reducible show wpAny _ _ (subscriptTail (Expr.Name (Str.ofString "meant") _) (Expr.Name _ _) (Value.ref _) (Value.int _ _)) _ _ _); k_dflt (refine item_meant (News.isList (by k_asm) (by k_mem)) (by repeat constructor) ((pcs_ok _).1 _ (by assumption)) ?_; intro t9))
    k_with "subscriptTail" => (k_here; (with_reducible show wpAny _ _ (subscriptTail (Expr.Constant _ _ _) (Expr.Name _ _) (Value.str _ _) (Value.int _ _)) _ _ _); k_dflt (refine item_ab (row_two (by assumption)) ?_; intro t9 n9))
    k_with "subscriptTail" => (k_here; (with_reducible show wpAny _ _ (subscriptTail (Expr.Name (Str.ofString "told") _) _ (Value.ref _) (Value.int _ _)) _ _ _); k_dflt (refine item_tl (News.isList (by k_asm) (by k_mem)) (by assumption) (by omega) (by omega) ?_))
    k_with "call builtin:str.join" => (k_here; (with_reducible show wpAny _ _ (call (Value.builtin "str.join") [Value.str _ _, Value.ref _]) _ _ _); (with_reducible rename CarriedAll _ (List.map _ _) => ktC); k_dflt (first | (refine join_text (News.isList (by k_asm) (by k_mem)) ktC ?_) | (refine join_let (News.isList (by k_asm) (by k_mem)) ktC ?_) | (refine join_two (News.isList (by k_asm) (by k_mem)) ktC ?_)); intro _ _)
    k_with "call builtin:len" => (k_here; (with_reducible show wpAny _ _ (call (Value.builtin "len") [Value.str (tx _) _]) _ _ _); (refine len_tx ?_); intro hc1 hc2 hn1 hn2)
    k_with "compareOp NotEq str str" => (k_here; with_reducible refine ne_no rfl ?_)
    k_with "call type:range" => (k_here; (with_reducible show wpAny _ _ (call (Value.type "range") [_, _]) _ _ _); (rename Fr _ _ _ _ => F'); (rename News _ _ _ _ => N'); (refine range2_rows F' N' ?_); intro _ _ _ _ _ _ _ _ _)
    k_with "eval ListComp" => (k_here; (with_reducible show wpAny _ _ (eval (Expr.ListComp _ [⟨_, Expr.Name _ _, [], _⟩] _ _) _) _ _ _); k_dflt (refine LCg.ListComp_U (F₀ := by k_asm) (by with_unfolding_all rfl) (by decide) (by rfl) (by decide) (by rfl) ?_))
    k_with "eval ListComp" => (k_here; (with_reducible show wpAny _ _ (eval (Expr.ListComp _ [⟨_, Expr.Call _ _ _ _, [], _⟩] _ _) _) _ _ _); k_dflt (refine LCg.ListComp_U (F₀ := by k_asm) (by with_unfolding_all rfl) (by decide) (by rfl) (by decide) (by rfl) ?_))
    k_with "eval ListComp" => (k_here; (with_reducible show wpAny _ _ (eval (Expr.ListComp _ [⟨_, Expr.Name (Str.ofString "text") _, [], _⟩] _ _) _) _ _ _); k_dflt (refine ListComp_S (F₀ := by k_asm) (by with_unfolding_all rfl) (by decide) (by rfl) (by decide) (by rfl) ?_))
    k_with "eval ListComp" => (k_here; (with_reducible show wpAny _ _ (eval (Expr.ListComp _ [⟨_, Expr.Call _ _ _ _, [_], _⟩] _ _) _) _ _ _); k_dflt (refine LCt.ListComp_T (F₀ := by k_asm) (by with_unfolding_all rfl) (by decide) (by rfl) (by decide) (by rfl) ?_))
    k_with "CompSrc" => (k_here; (with_reducible show LCg.CompSrc _ _ _ _ _ _ _ (Expr.Call (Expr.Name (Str.ofString "map_table_b3") _) _ _ _) _ _ _ _ _ _); k_dflt (refine LCg.CompSrc.ledger (by rfl) (by k_asm) (by k_asm) (by k_mem) (pcs_room (by assumption)) ?_; intro g9; refine' kct_list g1 (by assumption) (fun k' t' I' oI' C' oC' D' m' ys' h' tk' E' hk' hC' hx' F' N' off' ne' => ?_) ?_; (all_goals (try ((show KPfMark → _); intro hMark'))); kcf_last))
    k_with "CompSrc" => (k_here; (with_reducible show LCg.CompSrc _ _ _ _ _ _ _ (Expr.Subscript (Expr.Name _ _) _ _) _ _ _ _ _ _); k_dflt (refine LCg.CompSrc.ledger (by rfl) (by k_asm) (by k_asm) (by k_mem) (pcs_room (by assumption)) ?_; intro g9; refine' kct_list g2 (by assumption) (fun k' t' I' oI' C' oC' D' m' ys' h' tk' E' hk' hC' hx' F' N' off' ne' => ?_) ?_; (all_goals (try ((show KPfMark → _); intro hMark'))); kcf_last))
    k_with "CompSrc" => (k_here; (with_reducible show LCg.CompSrc _ _ _ _ _ _ _ (Expr.Subscript (Expr.Constant _ _ _) _ _) _ _ _ _ _ _); k_dflt (refine LCg.CompSrc.ledger (by rfl) (by k_asm) (by k_asm) (by k_mem) (row_room (by assumption)) ?_; intro g9; refine' kct_list g4 (by assumption) (fun k' t' I' oI' C' oC' D' m' ys' h' tk' E' hk' hC' hx' F' N' off' ne' => ?_) ?_; (all_goals (try ((show KPfMark → _); intro hMark'))); kcf_last))
    k_with "CompSrc" => (k_here; (with_reducible show LCg.CompSrc _ _ _ _ _ _ _ (Expr.Call (Expr.Name (Str.ofString "eq") _) _ _ _) _ _ _ _ _ _); k_dflt (refine LCg.CompSrc.range (by rfl) (by k_asm) (by k_asm) (by assumption) (small_one (by omega) (by omega) (by omega) (by omega)) (rangeSize_nat _ _) (by rw [PySem.sizeLine_eq]; omega) ?_; intro g9; refine' kcb_range _ (fun k' t' I' oI' C' oC' D' m' ys' h' tk' E' hlo' hhi' hC' hx' F' N' off' ne' => ?_) ?_; (all_goals (try ((show KPfMark → _); intro hMark'))); kcf_last))
    k_with "SrcS" => (k_here; k_dflt (refine SrcS.intro (by rfl) (by k_asm) (by k_asm) (tx_room _) ?_; intro g9; refine' kcs_text _ (fun k' t' I' oI' C' oC' D' m' ys' h' tk' E' hk' hC' hx' F' N' off' ne' => ?_) ?_; (all_goals (try ((show KPfMark → _); intro hMark'))); kcf_last))
    k_with "CompSrcT" => (k_here; k_dflt (refine LCt.CompSrcT.range (by rfl) (by k_asm) (by k_asm) (by assumption) (small_one (by omega) (by omega) (by omega) (by omega)) (rangeSize_nat _ _) (by rw [PySem.sizeLine_eq]; omega) ?_; intro g9; refine' kcq_told (by assumption) rfl (fun k' t' I' oI' C' oC' D' m' ys' l' h' tk' E' hlo' hhi' hI' hC' hx' F' N' off' ne' => ?_) ?_; (all_goals (try ((show KPfMark → _); intro hMark'))); kcf_last))
    k_with "CompEnd" => (k_here; (with_reducible rename News _ _ _ _ => nE); (with_reducible rename LCg.Off3 _ _ _ _ => oE); k_dflt (refine LCg.CompEnd.intro (by assumption) nE _ (fun _ h => h) oE (by lcg_src) ?_))
    k_with "KCtEl" => exact kct_el rfl (by with_unfolding_all rfl) (by with_unfolding_all rfl)
    k_with "KCbEl" => exact kcb_el rfl (by with_unfolding_all rfl) (by with_unfolding_all rfl)
    k_with "KCfEl" => exact kcf_el rfl (by with_unfolding_all rfl) (by with_unfolding_all rfl)
    k_with "KCiEl" => exact kci_el (if_pos (by assumption)) (by with_unfolding_all rfl) (by with_unfolding_all rfl)
    k_with "KCiNo" => exact kci_no (if_neg (ne_true_of_eq_false (by assumption))) (by with_unfolding_all rfl)
    k_with "eval Name" => (k_here; (with_reducible show wpAny _ _ (eval (Expr.Name (Str.ofString "map_table_b3") _) (compEnvC _ _ _ _)) _ _ _); k_dflt (refine LCgL.ld_global (by k_asm) (by k_asm) (by k_asm) (by k_is) ?_))
    k_with "eval Name" => (k_here; (with_reducible show wpAny _ _ (eval (Expr.Name (Str.ofString "sub") _) (compEnvC _ _ _ _)) _ _ _); k_dflt (refine LCgL.ld_global (by k_asm) (by k_asm) (by k_asm) (by k_is) ?_))
    k_with "eval Name" => (k_here; (with_reducible show wpAny _ _ (eval (Expr.Name (Str.ofString "eq") _) (compEnvC _ _ _ _)) _ _ _); k_dflt (refine LCgL.ld_global (by k_asm) (by k_asm) (by k_asm) (by k_is) ?_))
    k_with "eval Name" => (k_here; (with_reducible show wpAny _ _ (eval (Expr.Name (Str.ofString "mod") _) (compEnvC _ _ _ _)) _ _ _); k_dflt (refine LCgL.ld_global (by k_asm) (by k_asm) (by k_asm) (by k_is) ?_))
    k_with "eval Name" => (k_here; (with_reducible show wpAny _ _ (eval (Expr.Name (Str.ofString "lshift") _) (compEnvC _ _ _ _)) _ _ _); k_dflt (refine LCgL.ld_global (by k_asm) (by k_asm) (by k_asm) (by k_is) ?_))
    k_with "eval Name" => (k_here; (with_reducible show wpAny _ _ (eval (Expr.Name (Str.ofString "rshift") _) (compEnvC _ _ _ _)) _ _ _); k_dflt (refine LCgL.ld_global (by k_asm) (by k_asm) (by k_asm) (by k_is) ?_))
    k_with "eval Name" => (k_here; (with_reducible show wpAny _ _ (eval (Expr.Name (Str.ofString "chr") _) (compEnvC _ _ _ _)) _ _ _); k_dflt (refine LCgL.ld_built (by k_asm) (by k_asm) (by k_asm) (by k_is) (by boot_by_name) (by decide) ?_))
    k_with "eval Name" => (k_here; (with_reducible show wpAny _ _ (eval (Expr.Name (Str.ofString "ord") _) (compEnvC _ _ _ _)) _ _ _); k_dflt (refine LCgL.ld_built (by k_asm) (by k_asm) (by k_asm) (by k_is) (by boot_by_name) (by decide) ?_))
    w_strict (k_go0; k_steps)
end Mine
set_option maxHeartbeats 0 in
theorem PySem.Challenge.cw_wo0057_01_holds : PySem.Challenge.rw_wo0057_01.Holds :=
  Mine.law_holds
