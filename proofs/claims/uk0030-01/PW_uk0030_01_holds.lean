import PyProof.Rows.All
import Wide.All
import OpenK.AllK
import Wide.FinOn
import PySem.Challenge.RW_uk0030_01
set_option Elab.async false
set_option maxRecDepth 100000
set_option linter.unusedVariables false
section
open PySem PySem.W PySem.Calls PyProof.Rows
namespace HL
section
variable {p : Program} {w : World} {n₀ : Nat} {ann : Option Value}
theorem segGo_add {n m : Nat} {s s' s'' : Shared} {t t' t'' : Thread} (h : segGo treeTable p w n₀ ann 1 n s t = some (s', t')) (k : segGo treeTable p w n₀ ann 1 m s' t' = some (s'', t'')) :
    segGo treeTable p w n₀ ann 1 (n + m) s t = some (s'', t'') := by
  induction n generalizing s t with
  | zero =>
    obtain ⟨rfl, rfl⟩ : s = s' ∧ t = t' := by simpa [segGo] using h
    rw [Nat.zero_add]; exact k
  | succ n ih =>
    rw [show n + 1 + m = n + m + 1 by omega]
    unfold segGo at h ⊢
    cases he : endAt 1 t with
    | some f => rw [he] at h; cases h
    | none =>
      rw [he] at h
      cases hk : stepOk n₀ ann t with
      | false => rw [hk] at h; cases h
      | true =>
        rw [hk] at h
        cases hs : step (denote treeTable) p w s t with
        | halt o s₂ => rw [hs] at h; cases h
        | go s₂ t₂ => rw [hs] at h; exact ih h
variable (p w n₀ ann) in
noncomputable def GoTo (s : Shared) (t : Thread) (s' : Shared) (t' : Thread) : Prop := ∃ n, segGo treeTable p w n₀ ann 1 n s t = some (s', t')
theorem GoTo.trans {s s' s'' : Shared} {t t' t'' : Thread} (h : GoTo p w n₀ ann s t s' t') (k : GoTo p w n₀ ann s' t' s'' t'') : GoTo p w n₀ ann s t s'' t'' :=
  let ⟨n, h⟩ := h; let ⟨m, k⟩ := k; ⟨n + m, segGo_add h k⟩
theorem GoTo.refl {s : Shared} {t : Thread} : GoTo p w n₀ ann s t s t := ⟨0, rfl⟩
theorem GoTo.one {s s' : Shared} {t t' : Thread} (he : endAt 1 t = none) (hk : stepOk n₀ ann t = true) (hs : step (denote treeTable) p w s t = .go s' t') : GoTo p w n₀ ann s t s' t' := by
  refine ⟨1, ?_⟩
  unfold segGo
  rw [he, hk, hs]; rfl
variable (p w n₀ ann) in
noncomputable def Does {α : Type} (b : List Stmt) (env : Env) (q : Pos) (m : Sem α) (s : Shared) (a : α) (s' : Shared) : Prop :=
  ∀ (K : α → Sem Fin) (H : Value → Sem Fin) (gd : Bool → Bool) (lv : List Value → List Value) (pos : Pos),
    ∃ pos', GoTo p w n₀ ann s ⟨m.wrap K H gd lv, .body b env, pos, [topFrame q]⟩ s' ⟨K a, .body b env, pos', [topFrame q]⟩
variable {b : List Stmt} {env : Env} {q : Pos} {α β : Type} {s s' s'' : Shared}
theorem does_pure {a : α} : Does p w n₀ ann b env q (pure a : Sem α) s a s := fun K H gd lv pos => ⟨pos, .refl⟩
theorem does_bind {m : Sem α} {f : α → Sem β} {a : α} {c : β} (h : Does p w n₀ ann b env q m s a s') (k : Does p w n₀ ann b env q (f a) s' c s'') : Does p w n₀ ann b env q (m >>= f) s c s'' := fun K H gd lv pos => by
  rw [Sem.bind_eq_wrap', Sem.wrap_wrap]
  obtain ⟨p1, h1⟩ := h (fun a => (f a).wrap K H gd lv) H gd lv pos
  obtain ⟨p2, h2⟩ := k K H gd lv p1
  exact ⟨p2, h1.trans h2⟩
theorem does_wrapP {m : Sem α} {a : α} {H : Value → Sem α} {gd : Bool → Bool} {lv : List Value → List Value} (h : Does p w n₀ ann b env q m s a s') : Does p w n₀ ann b env q (m.wrap .pure H gd lv) s a s' := fun K H' gd' lv' pos => by
  rw [Sem.wrap_wrap]
  exact h (fun a => K a) _ _ _ pos
theorem does_keep {m : Sem α} {a : α} {vs : List Value} (h : Does p w n₀ ann b env q m s a s') : Does p w n₀ ann b env q (m.keep vs) s a s' := by rw [Sem.keep_eq_wrap]; exact does_wrapP h
theorem does_tryCatch {m : Sem α} {a : α} {f : Value → Sem α} (h : Does p w n₀ ann b env q m s a s') : Does p w n₀ ann b env q (m.tryCatch f) s a s' := by rw [Sem.tryCatch_eq_wrap]; exact does_wrapP h
theorem does_onRaise {m : Sem α} {a : α} {f : Value → Sem Unit} (h : Does p w n₀ ann b env q m s a s') : Does p w n₀ ann b env q (m.onRaise f) s a s' := by rw [Sem.onRaise_eq_wrap]; exact does_wrapP h
theorem does_holding {m : Sem α} {a : α} {vs : List Value} (h : Does p w n₀ ann b env q m s a s') : Does p w n₀ ann b env q (holding vs m) s a s' := by
  unfold holding
  split
  · exact h
  · exact does_keep h
theorem does_load {a : Addr} {part : Option Value} {o : Obj} (ho : s.heap.get? a = some o) : Does p w n₀ ann b env q (loadPart a part) s o s := fun K H gd lv pos => ⟨pos, .one rfl rfl (by
  obtain ⟨h, g, d, t, os⟩ := s
  show (match h.get? a with | some o => _ | none => _) = _
  rw [ho]; rfl)⟩
theorem does_update {a : Addr} {part : Option Value} {f : Obj → Obj} (ho : (s.heap.get? a).isSome = true) (ha : n₀ ≤ a ∨ a = mainNs) : Does p w n₀ ann b env q (updatePart a part f) s () { s with heap := s.heap.update a f } := fun K H gd lv pos => ⟨pos, .one rfl (by
  show (true && (Nat.ble n₀ a || a == mainNs || a == cStatics || ann == some (.ref a))) = true
  rcases ha with h | h
  · rw [Nat.ble_eq_true_of_le h]; rfl
  · subst h; simp) (by
  obtain ⟨h, g, d, t, os⟩ := s
  show (if (h.get? a).isSome = true then _ else _) = _
  rw [if_pos ho]; rfl)⟩
theorem does_alloc {o : Obj} : Does p w n₀ ann b env q (alloc o) s s.heap.objs.size { s with heap := s.heap.push o } := fun K H gd lv pos => ⟨pos, .one rfl rfl rfl⟩
theorem does_fresh : Does p w n₀ ann b env q fresh s s.toks { s with toks := s.toks + 1 } := fun K H gd lv pos => ⟨pos, .one rfl rfl rfl⟩
theorem does_rule {t : String} : Does p w n₀ ann b env q (rule t) s () s := fun K H gd lv pos => ⟨pos, .one rfl rfl rfl⟩
theorem does_at {r : Pos} : Does p w n₀ ann b env q (standAt r) s () s := fun K H gd lv pos => ⟨r, .one rfl rfl rfl⟩
theorem does_ask : Does p w n₀ ann b env q ask s ⟨p, w.params⟩ s := fun K H gd lv pos => ⟨pos, .one rfl rfl rfl⟩
theorem does_mkInt {i : Int} : Does p w n₀ ann b env q (mkInt i) s (.int i s.toks) { s with toks := s.toks + 1 } := does_bind does_fresh does_pure
theorem does_mkText {x : Str} : Does p w n₀ ann b env q (mkText x) s (.str x s.toks) { s with toks := s.toks + 1 } := does_bind does_fresh does_pure
end
end HL
end
section
open PySem PySem.W PySem.Calls PyProof.Rows
namespace HL
section
variable {p : Program} {w : World} {n₀ : Nat} {ann : Option Value}
variable {b : List Stmt} {env : Env} {q : Pos} {α β : Type} {s s' s'' : Shared}
theorem qGo : @segGo = @PySem.W.Fast.tw3277212676724774461 := PySem.W.Fast.te3277212676724774461
theorem qTab : treeTable = PySem.W.Fast.tw14364793385576792824 := PySem.W.Fast.te14364793385576792824
theorem qCall : @PySem.call = @PySem.W.Fast.tw11478286150595567475 := PySem.W.Fast.te11478286150595567475
theorem hashcall_go (k : Int) (t : Tok) (K : Value → Sem Fin) (H : Value → Sem Fin) (gd : Bool → Bool) (lv : List Value → List Value) (pos : Pos) (h : Heap) (g : Array GenState) (d : Drawn) (tk : Nat) (os : OsState) :
    segGo treeTable p w n₀ ann 1 4 ⟨h, g, d, tk, os⟩ ⟨(PySem.call (.builtin "int.__hash__") [.int k t]).wrap K H gd lv, .body b env, pos, [topFrame q]⟩ = some (⟨h, g, d, tk + 1, os⟩, ⟨K (.int (rawHash k) tk), .body b env, pos, [topFrame q]⟩) := by
  rw [qGo, qTab, qCall]
  kernel_rfl
theorem does_hashcall {k : Int} {t : Tok} : Does p w n₀ ann b env q (PySem.call (.builtin "int.__hash__") [.int k t]) s (.int (rawHash k) s.toks) { s with toks := s.toks + 1 } := fun K H gd lv pos =>
  ⟨pos, 4, hashcall_go k t K H gd lv pos s.heap s.gens s.drawn s.toks s.os⟩
theorem does_specialOf_val {v : Value} {T : String} {name : Str} {r : Option Value} (ht : typeOf v = pure (.type T)) (h : typeLookup (.type T) name = pure r) : Does p w n₀ ann b env q (specialOf v name) s r s := by
  unfold specialOf
  rw [ht]
  exact does_bind does_pure (by rw [h]; exact does_pure)
theorem does_typeOf_ref {a : Addr} {o : Obj} {T : String} (ho : s.heap.get? a = some o) (hc : o.cls = .type T) : Does p w n₀ ann b env q (typeOf (.ref a)) s (.type T) s :=
  does_bind (does_load ho) (by rw [hc]; exact does_pure)
theorem does_specialOf_ref {a : Addr} {o : Obj} {T : String} {name : Str} {r : Option Value} (ho : s.heap.get? a = some o) (hc : o.cls = .type T) (h : typeLookup (.type T) name = pure r) : Does p w n₀ ann b env q (specialOf (.ref a) name) s r s := by
  unfold specialOf
  exact does_bind (does_typeOf_ref ho hc) (by rw [h]; exact does_pure)
theorem does_isInstance_ref {a : Addr} {o : Obj} {T U : String} {r : Bool} (ho : s.heap.get? a = some o) (hc : o.cls = .type T) (h : isSubtype (.type T) (.type U) = pure r) : Does p w n₀ ann b env q (isInstance (.ref a) (.type U)) s r s := by
  unfold isInstance
  exact does_bind (does_typeOf_ref ho hc) (by rw [h]; exact does_pure)
theorem does_callHash {k : Int} {t : Tok} {refuse : Sem Value} : Does p w n₀ ann b env q (callSpecialIfBoundUnlessNone? (.int k t) "__hash__" refuse) s (some (.int (rawHash k) s.toks)) { s with toks := s.toks + 1 } := by
  simp only [callSpecialIfBoundUnlessNone?, bindSpecialIfBound?]
  refine does_holding (does_bind (a := some (.builtin "int.__hash__", [.int k t])) (s' := s) (does_bind (does_specialOf_val rfl slot_int_hash.lookup) ?_) ?_)
  · simp only [slot_int_hash.bind]
    refine does_bind does_ask ?_
    split
    · exact does_bind does_pure does_pure
    · exact does_tryCatch (does_bind does_pure does_pure)
  · simp only [builtin_beq_none, Bool.false_eq_true, if_false]
    exact does_bind does_hashcall does_pure
theorem does_pyHash_int {k : Int} {t : Tok} : Does p w n₀ ann b env q (pyHash (.int k t)) s (hashInt k) { s with toks := s.toks + 1 } := by
  have hr := rawHash_range k
  unfold pyHash
  have hv : [Value.int k t].any Value.onHeap = false := rfl
  refine does_bind (a := ()) (s' := s) ?_ ?_
  · rw [cRoomFor, if_neg (by rw [hv]; exact Bool.false_ne_true)]; exact does_pure
  refine does_bind (does_specialOf_val rfl slot_int_hash.lookup) ?_
  show Does p w n₀ ann b env q (if (some (Value.builtin "int.__hash__") == some Value.none) = true then _ else _) _ _ _
  rw [if_neg (by rw [beq_builtin_none]; exact Bool.false_ne_true)]
  refine does_bind (does_specialOf_val rfl slot_int_hash.lookup) ?_
  show Does p w n₀ ann b env q (callSpecialIfBoundUnlessNone? (.int k t) "__hash__" _ >>= _) _ _ _
  refine does_bind does_callHash ?_
  show Does p w n₀ ann b env q (if (decide (-(2 : Int) ^ 63 ≤ rawHash k) && decide (rawHash k < 2 ^ 63)) = true then _ else _) _ _ _
  rw [if_pos (by rw [decide_eq_true hr.1, decide_eq_true hr.2]; rfl)]
  exact does_pure
theorem places_none {es : Array DictEntry} {h : Int} (hk : ∀ e ∈ es.toList, e.hash ≠ h) : placesWithHash es.size (fun i => es[i]?.map (·.hash)) h = [] := by
  unfold placesWithHash
  refine List.filter_eq_nil_iff.mpr fun i _ => ?_
  have : ∀ x, es[i]? = some x → ¬ x.hash = h := fun e he => hk e (Array.mem_toList_iff.mpr (Array.mem_of_getElem? he))
  simpa using this
theorem does_dictEntries {d : Addr} {part : Option Value} {o : Obj} {es : Array DictEntry} {ep : Nat} (ho : s.heap.get? d = some o) (hd : o.data = .dict es ep) : Does p w n₀ ann b env q (dictEntries d part) s es s :=
  does_bind (does_load ho) (by rw [hd]; exact does_pure)
theorem does_dictEpoch {d : Addr} {part : Option Value} {o : Obj} {es : Array DictEntry} {ep : Nat} (ho : s.heap.get? d = some o) (hd : o.data = .dict es ep) : Does p w n₀ ann b env q (dictEpoch d part) s ep s :=
  does_bind (does_load ho) (by rw [hd]; exact does_pure)
theorem does_dictFind_absent {d : Addr} {o : Obj} {es : Array DictEntry} {ep : Nat} {k : Int} {t : Tok} (ho : s.heap.get? d = some o) (hd : o.data = .dict es ep) (hk : ∀ e ∈ es.toList, e.hash ≠ hashInt k) :
    Does p w n₀ ann b env q (dictFind d (.int k t) (hashInt k)) s none s := by
  unfold dictFind
  refine does_holding (does_bind (does_dictEntries ho hd) ?_)
  dsimp only
  rw [places_none hk]
  rw [if_pos (by rfl)]
  exact does_bind (a := (none, ())) (s' := s) does_pure does_pure
theorem does_updateKeys {d : Addr} {part : Option Value} {es : Array DictEntry} {ep : Nat} {c : Value} {di : Option Addr} {sl : Array (Option Value)} {f : Array DictEntry → Array DictEntry} (ho : s.heap.get? d = some ⟨c, di, .dict es ep, sl⟩) (ha : n₀ ≤ d ∨ d = mainNs)
    (hz : (f es).size ≤ sizeLine + 1) : Does p w n₀ ann b env q (updateDictKeys d f part) s () { s with heap := s.heap.update d (Obj.mapDictKeys f) } := by
  unfold updateDictKeys
  refine does_bind (does_load ho) ?_
  dsimp only
  refine does_bind (does_update (by rw [ho]; rfl) ha) ?_
  unfold lookBehind
  refine does_bind (does_load (o := Obj.mapDictKeys f ⟨c, di, .dict es ep, sl⟩) (Heap.get?_update_self _ ho rfl)) ?_
  have e : (Obj.mapDictKeys f ⟨c, di, .dict es ep, sl⟩).data.pastItsLine = none := pastItsLine_dict hz
  rw [e]
  exact does_pure
end
end HL
end
section
open PySem PySem.W PySem.Calls PyProof.Rows
namespace HL
noncomputable def dObj (es : List DictEntry) (ep : Nat) : Obj := ⟨.type "dict", none, .dict es.toArray ep, #[]⟩
noncomputable def SS (s0 : Shared) (l : List Obj) (tk : Nat) : Shared := ⟨⟨s0.heap.objs ++ l.toArray, s0.heap.life⟩, s0.gens, s0.drawn, tk, s0.os⟩
theorem ss_get {s0 : Shared} {l : List Obj} {tk i : Nat} {es : List DictEntry} {ep : Nat} (h : l[i]? = some (dObj es ep)) : (SS s0 l tk).heap.get? (s0.heap.objs.size + i) = some (dObj es ep) := by
  show (match (s0.heap.objs ++ l.toArray)[s0.heap.objs.size + i]? with | some ⟨_, _, .freed, _⟩ => none | o => o) = _
  rw [Array.getElem?_append_right (Nat.le_add_right ..), Nat.add_sub_cancel_left, List.getElem?_toArray, h]
  rfl
theorem ss_size {s0 : Shared} {l : List Obj} {tk : Nat} : (SS s0 l tk).heap.objs.size = s0.heap.objs.size + l.length := by simp [SS]
theorem ss_push {s0 : Shared} {l : List Obj} {tk : Nat} {o : Obj} : { SS s0 l tk with heap := (SS s0 l tk).heap.push o } = SS s0 (l ++ [o]) tk := by
  simp [SS, Heap.push]
theorem ss_update {s0 : Shared} {l : List Obj} {tk i : Nat} {f : Obj → Obj} {o : Obj} (h : l[i]? = some o) : { SS s0 l tk with heap := (SS s0 l tk).heap.update (s0.heap.objs.size + i) f } = SS s0 (l.set i (f o)) tk := by
  have e : (s0.heap.objs ++ l.toArray).modify (s0.heap.objs.size + i) f = s0.heap.objs ++ (l.set i (f o)).toArray := by
    apply Array.ext_getElem?
    intro j
    rw [Array.getElem?_modify]
    by_cases hj : j < s0.heap.objs.size
    · rw [Array.getElem?_append_left hj, Array.getElem?_append_left hj, if_neg (by omega)]
    · have hj' : s0.heap.objs.size ≤ j := by omega
      rw [Array.getElem?_append_right hj', Array.getElem?_append_right hj', List.getElem?_toArray, List.getElem?_toArray, List.getElem?_set]
      by_cases q : s0.heap.objs.size + i = j
      · subst q
        rw [Nat.add_sub_cancel_left, if_pos rfl, if_pos rfl, h]
        have := (List.getElem?_eq_some_iff.mp h).1
        simp [this]
      · rw [if_neg q, if_neg (by omega)]
  show Shared.mk ⟨_, _⟩ _ _ _ _ = Shared.mk ⟨_, _⟩ _ _ _ _
  rw [← e]; rfl
section
variable {p : Program} {w : World} {n₀ : Nat} {ann : Option Value}
variable {b : List Stmt} {env : Env} {q : Pos} {α β : Type} {s s' s'' : Shared}
theorem does_put {s0 : Shared} {l : List Obj} {tk i : Nat} {es : List DictEntry} {ep : Nat} {part : Option Value} {e : DictEntry} (hn : n₀ ≤ s0.heap.objs.size) (hl : l[i]? = some (dObj es ep)) (hz : es.length < 100000) :
    Does p w n₀ ann b env q (updateDictKeys (s0.heap.objs.size + i) (·.push e) part) (SS s0 l tk) () (SS s0 (l.set i (dObj (es ++ [e]) (ep + 1))) tk) := by
  have h := does_updateKeys (p := p) (w := w) (ann := ann) (b := b) (env := env) (q := q) (part := part) (f := (·.push e)) (s := SS s0 l tk) (ss_get (s0 := s0) (tk := tk) hl) (.inl (Nat.le_trans hn (Nat.le_add_right ..)))
    (by rw [sizeLine_eq]; simp; omega)
  rw [ss_update hl] at h
  have e' : Obj.mapDictKeys (·.push e) (dObj es ep) = dObj (es ++ [e]) (ep + 1) := by simp [dObj, Obj.mapDictKeys]
  rw [e'] at h
  exact h
theorem does_dictSet {s0 : Shared} {l : List Obj} {tk i : Nat} {es : List DictEntry} {ep : Nat} {k : Int} {t : Tok} {v : Value} (hn : n₀ ≤ s0.heap.objs.size) (hl : l[i]? = some (dObj es ep)) (hz : es.length < 100000) (hk : ∀ e ∈ es, e.hash ≠ hashInt k) :
    Does p w n₀ ann b env q (dictSet (s0.heap.objs.size + i) (.int k t) v) (SS s0 l tk) () (SS s0 (l.set i (dObj (es ++ [⟨hashInt k, .int k t, v⟩]) (ep + 1))) (tk + 1)) := by
  unfold dictSet
  refine does_holding (does_bind does_pyHash_int ?_)
  unfold dictSetHashed
  refine does_holding (does_bind (does_dictFind_absent (es := es.toArray) (ss_get hl) rfl (by simpa using hk)) ?_)
  dsimp only
  refine does_bind does_rule ?_
  exact does_put hn hl hz
theorem does_dictPut {s0 : Shared} {l : List Obj} {tk i : Nat} {es : List DictEntry} {ep : Nat} {k : Int} {t : Tok} {v : Value} (hn : n₀ ≤ s0.heap.objs.size) (hl : l[i]? = some (dObj es ep)) (hz : es.length < 100000) (hk : ∀ e ∈ es, e.hash ≠ hashInt k) :
    Does p w n₀ ann b env q (dictPut (s0.heap.objs.size + i) (hashInt k) (.int k t) v) (SS s0 l tk) () (SS s0 (l.set i (dObj (es ++ [⟨hashInt k, .int k t, v⟩]) (ep + 1))) tk) := by
  unfold dictPut
  refine does_bind (does_dictFind_absent (es := es.toArray) (ss_get hl) rfl (by simpa using hk)) ?_
  dsimp only
  exact does_put hn hl hz
noncomputable abbrev Pair := Int × Str
noncomputable abbrev keyT (k : Int) : Sem Value := mkInt k
noncomputable abbrev valT (r : Pos) (x : Str) : Sem Value := do let v ← mkText x; standAt r; pure v
theorem does_valT {r : Pos} {x : Str} : Does p w n₀ ann b env q (valT r x) s (.str x s.toks) { s with toks := s.toks + 1 } := does_bind does_mkText (does_bind does_at does_pure)
noncomputable def ents : List Pair → Nat → List DictEntry
  | [], _ => []
  | (k, x) :: r, tk => ⟨hashInt k, .int k tk, .str x (tk + 1)⟩ :: ents r (tk + 3)
noncomputable def Fresh (es : List DictEntry) : List Pair → Prop
  | [] => True
  | (k, _) :: r => (∀ e ∈ es, e.hash ≠ hashInt k) ∧ (∀ y ∈ r, hashInt y.1 ≠ hashInt k) ∧ Fresh es r
theorem Fresh.push {es : List DictEntry} {e : DictEntry} : ∀ {ps : List Pair}, Fresh es ps → (∀ y ∈ ps, hashInt y.1 ≠ e.hash) → Fresh (es ++ [e]) ps
  | [], _, _ => trivial
  | (k, x) :: r, ⟨h1, h2, h3⟩, h => ⟨fun d hd => by
      rcases List.mem_append.mp hd with q | q
      · exact h1 d q
      · simp only [List.mem_singleton] at q
        subst q
        exact fun z => h _ (.head _) z.symm, h2, h3.push fun y hy => h y (.tail _ hy)⟩
theorem does_subLong {s0 : Shared} {r : Pos} {i : Nat} (hn : n₀ ≤ s0.heap.objs.size) : ∀ (ps : List Pair) (l : List Obj) (es : List DictEntry) (ep tk : Nat), l[i]? = some (dObj es ep) → es.length + ps.length < 100000 → Fresh es ps →
    Does p w n₀ ann b env q (forIn (ps.map fun y => (keyT y.1, valT r y.2)) PUnit.unit fun (y : Sem Value × Sem Value) (_ : PUnit) => (do
        let kv ← y.1
        let vv ← holding [kv] y.2
        holding [kv, vv] (dictSet (s0.heap.objs.size + i) kv vv)
        pure (ForInStep.yield PUnit.unit) : Sem (ForInStep PUnit))) (SS s0 l tk) PUnit.unit (SS s0 (l.set i (dObj (es ++ ents ps tk) (ep + ps.length))) (tk + 3 * ps.length))
  | [], l, es, ep, tk, hl, _, _ => by
    have : l.set i (dObj es ep) = l := by
      obtain ⟨h, e⟩ := List.getElem?_eq_some_iff.mp hl
      rw [← e]; exact List.set_getElem_self h
    simp only [List.map_nil, List.forIn_nil, ents, List.append_nil, List.length_nil, Nat.mul_zero, Nat.add_zero, this]
    exact does_pure
  | (k, x) :: ps, l, es, ep, tk, hl, hz, ⟨h1, h2, h3⟩ => by
    rw [List.length_cons] at hz
    rw [List.map_cons, List.forIn_cons]
    refine does_bind (a := ForInStep.yield PUnit.unit) (s' := SS s0 (l.set i (dObj (es ++ [⟨hashInt k, .int k tk, .str x (tk + 1)⟩]) (ep + 1))) (tk + 3)) ?_ ?_
    · refine does_bind (does_mkInt (i := k) (s := SS s0 l tk)) (does_bind (does_holding (does_valT (s := SS s0 l (tk + 1)))) ?_)
      exact does_bind (does_holding (does_dictSet (tk := tk + 2) hn hl (by omega) h1)) does_pure
    · have hi := (List.getElem?_eq_some_iff.mp hl).1
      have ih := does_subLong (r := r) hn ps (l.set i (dObj (es ++ [⟨hashInt k, .int k tk, .str x (tk + 1)⟩]) (ep + 1))) (es ++ [⟨hashInt k, .int k tk, .str x (tk + 1)⟩]) (ep + 1) (tk + 3)
        (by rw [List.getElem?_set_self hi]) (by simp; omega) (h3.push h2)
      rw [List.set_set] at ih
      have e1 : es ++ [⟨hashInt k, .int k tk, .str x (tk + 1)⟩] ++ ents ps (tk + 3) = es ++ ents ((k, x) :: ps) tk := by simp [ents]
      have e2 : ep + 1 + ps.length = ep + ((k, x) :: ps).length := by simp; omega
      have e3 : tk + 3 + 3 * ps.length = tk + 3 * ((k, x) :: ps).length := by simp; omega
      rw [e1, e2, e3] at ih
      exact ih
end
end HL
end
section
open PySem PySem.W PySem.Calls PyProof.Rows
namespace HL
section
variable {p : Program} {w : World} {n₀ : Nat} {ann : Option Value}
variable {b : List Stmt} {env : Env} {q : Pos} {α β : Type} {s s' s'' : Shared}
theorem set_last {l : List Obj} {o o' : Obj} : (l ++ [o]).set l.length o' = l ++ [o'] := by simp
theorem does_subDictLong {s0 : Shared} {r : Pos} {ps : List Pair} {l : List Obj} {tk : Nat} (hn : n₀ ≤ s0.heap.objs.size) (h1 : 15 < ps.length) (h2 : ps.length < 100000) (hf : Fresh [] ps) :
    Does p w n₀ ann b env q (subDict (ps.map fun y => (keyT y.1, valT r y.2))) (SS s0 l tk) (s0.heap.objs.size + l.length) (SS s0 (l ++ [dObj (ents ps tk) ps.length]) (tk + 3 * ps.length)) := by
  unfold subDict
  refine does_bind does_alloc ?_
  have e : { SS s0 l tk with heap := (SS s0 l tk).heap.push { cls := .type "dict", data := .dict #[] } } = SS s0 (l ++ [dObj [] 0]) tk := ss_push
  rw [e, ss_size]
  refine does_bind (a := ()) (does_holding ?_) does_pure
  rw [if_neg (by rw [List.length_map]; omega)]
  refine does_bind does_rule (does_bind (a := PUnit.unit) ?_ does_pure)
  have h := does_subLong (p := p) (w := w) (ann := ann) (b := b) (env := env) (q := q) (r := r) (i := l.length) hn ps (l ++ [dObj [] 0]) [] 0 tk (by simp) (by simpa using h2) hf
  rw [set_last, List.nil_append, Nat.zero_add] at h
  exact h
noncomputable def entsS : List Pair → Nat → List DictEntry
  | [], _ => []
  | (k, x) :: r, tk => ⟨hashInt k, .int k tk, .str x (tk + 1)⟩ :: entsS r (tk + 2)
noncomputable def vsS : List Pair → Nat → List (Value × Value)
  | [], _ => []
  | (k, x) :: r, tk => (.int k tk, .str x (tk + 1)) :: vsS r (tk + 2)
theorem does_evalPairs {r : Pos} : ∀ (ps : List Pair) (s : Shared), Does p w n₀ ann b env q (evalPairs (ps.map fun y => (keyT y.1, valT r y.2))) s (vsS ps s.toks) { s with toks := s.toks + 2 * ps.length }
  | [], s => does_pure
  | (k, x) :: ps, s => by
    rw [List.map_cons, evalPairs]
    refine does_bind does_mkInt (does_bind (does_holding does_valT) (does_bind (does_holding (does_evalPairs ps _)) ?_))
    have e : s.toks + 1 + 1 + 2 * ps.length = s.toks + 2 * ((k, x) :: ps).length := by simp; omega
    dsimp only
    rw [e]
    exact does_pure
theorem does_storeShort {s0 : Shared} {i : Nat} (hn : n₀ ≤ s0.heap.objs.size) : ∀ (ps : List Pair) (l : List Obj) (es : List DictEntry) (ep tk tk' : Nat), l[i]? = some (dObj es ep) → es.length + ps.length < 100000 → Fresh es ps →
    Does p w n₀ ann b env q (forIn (vsS ps tk') PUnit.unit fun (x : Value × Value) (_ : PUnit) => (do dictSet (s0.heap.objs.size + i) x.1 x.2; pure (ForInStep.yield PUnit.unit) : Sem (ForInStep PUnit))) (SS s0 l tk) PUnit.unit (SS s0 (l.set i (dObj (es ++ entsS ps tk') (ep + ps.length))) (tk + ps.length))
  | [], l, es, ep, tk, tk', hl, _, _ => by
    have : l.set i (dObj es ep) = l := by
      obtain ⟨h, e⟩ := List.getElem?_eq_some_iff.mp hl
      rw [← e]; exact List.set_getElem_self h
    simp only [vsS, List.forIn_nil, entsS, List.append_nil, List.length_nil, Nat.add_zero, this]
    exact does_pure
  | (k, x) :: ps, l, es, ep, tk, tk', hl, hz, ⟨h1, h2, h3⟩ => by
    rw [List.length_cons] at hz
    rw [vsS, List.forIn_cons]
    refine does_bind (a := ForInStep.yield PUnit.unit) (s' := SS s0 (l.set i (dObj (es ++ [⟨hashInt k, .int k tk', .str x (tk' + 1)⟩]) (ep + 1))) (tk + 1)) ?_ ?_
    · exact does_bind (does_dictSet hn hl (by omega) h1) does_pure
    · have hi := (List.getElem?_eq_some_iff.mp hl).1
      have ih := does_storeShort hn ps (l.set i (dObj (es ++ [⟨hashInt k, .int k tk', .str x (tk' + 1)⟩]) (ep + 1))) (es ++ [⟨hashInt k, .int k tk', .str x (tk' + 1)⟩]) (ep + 1) (tk + 1) (tk' + 2)
        (by rw [List.getElem?_set_self hi]) (by simp; omega) (h3.push h2)
      rw [List.set_set] at ih
      have e1 : es ++ [⟨hashInt k, .int k tk', .str x (tk' + 1)⟩] ++ entsS ps (tk' + 2) = es ++ entsS ((k, x) :: ps) tk' := by simp [entsS]
      have e2 : ep + 1 + ps.length = ep + ((k, x) :: ps).length := by simp; omega
      have e3 : tk + 1 + ps.length = tk + ((k, x) :: ps).length := by simp; omega
      rw [e1, e2, e3] at ih
      exact ih
theorem does_subDictShort {s0 : Shared} {r : Pos} {ps : List Pair} {l : List Obj} {tk : Nat} (hn : n₀ ≤ s0.heap.objs.size) (h1 : ps.length ≤ 15) (hf : Fresh [] ps) :
    Does p w n₀ ann b env q (subDict (ps.map fun y => (keyT y.1, valT r y.2))) (SS s0 l tk) (s0.heap.objs.size + l.length) (SS s0 (l ++ [dObj (entsS ps tk) ps.length]) (tk + 3 * ps.length)) := by
  unfold subDict
  refine does_bind does_alloc ?_
  have e : { SS s0 l tk with heap := (SS s0 l tk).heap.push { cls := .type "dict", data := .dict #[] } } = SS s0 (l ++ [dObj [] 0]) tk := ss_push
  rw [e, ss_size]
  refine does_bind (a := ()) (does_holding ?_) does_pure
  rw [if_pos (by rw [List.length_map]; omega)]
  refine does_bind (does_evalPairs ps _) (does_holding (does_bind (a := PUnit.unit) ?_ does_pure))
  have h := does_storeShort (p := p) (w := w) (ann := ann) (b := b) (env := env) (q := q) (i := l.length) hn ps (l ++ [dObj [] 0]) [] 0 (tk + 2 * ps.length) tk (by simp) (by simp; omega) hf
  rw [set_last, List.nil_append, Nat.zero_add] at h
  have e3 : tk + 2 * ps.length + ps.length = tk + 3 * ps.length := by omega
  rw [e3] at h
  exact h
noncomputable def IntEnt (e : DictEntry) : Prop := ∃ k t, e.key = .int k t ∧ e.hash = hashInt k
theorem ents_int : ∀ (ps : List Pair) (tk : Nat), ∀ e ∈ ents ps tk, IntEnt e
  | [], _, e, he => nomatch he
  | (k, x) :: ps, tk, e, he => by
    rcases List.mem_cons.mp he with rfl | he
    · exact ⟨k, tk, rfl, rfl⟩
    · exact ents_int ps _ e he
theorem entsS_int : ∀ (ps : List Pair) (tk : Nat), ∀ e ∈ entsS ps tk, IntEnt e
  | [], _, e, he => nomatch he
  | (k, x) :: ps, tk, e, he => by
    rcases List.mem_cons.mp he with rfl | he
    · exact ⟨k, tk, rfl, rfl⟩
    · exact entsS_int ps _ e he
theorem does_mergeLoop {s0 : Shared} {tk j : Nat} {ss : List DictEntry} {eps : Nat} {f : Nat → PUnit → Sem (ForInStep PUnit)} (hn : n₀ ≤ s0.heap.objs.size) (hj : 0 < j) (hi : ∀ e ∈ ss, IntEnt e)
    (hf : ∀ i, f i PUnit.unit = (do
      let es ← dictEntries (s0.heap.objs.size + j)
      match es[i]? with
      | some e => do
        holding [e.key, e.val] (dictPut (s0.heap.objs.size + 0) e.hash e.key e.val)
        let ep ← dictEpoch (s0.heap.objs.size + j)
        if (ep != eps) = true then do unsupported "dict.changed-during-merge"; pure (ForInStep.yield PUnit.unit) else pure (ForInStep.yield PUnit.unit)
      | none => do unsupported "dict.changed-during-merge"; pure (ForInStep.yield PUnit.unit))) : ∀ (m i : Nat) (l : List Obj) (es : List DictEntry) (ep : Nat), i + m = ss.length → l[0]? = some (dObj es ep) → l[j]? = some (dObj ss eps) → es.length + m < 100000 →
      (∀ e ∈ ss.drop i, ∀ d ∈ es, d.hash ≠ e.hash) → (ss.drop i).Pairwise (fun d e => d.hash ≠ e.hash) →
    Does p w n₀ ann b env q (forIn (List.range' i m) PUnit.unit f) (SS s0 l tk) PUnit.unit (SS s0 (l.set 0 (dObj (es ++ ss.drop i) (ep + m))) tk)
  | 0, i, l, es, ep, hm, h0, _, _, _, _ => by
    have : l.set 0 (dObj es ep) = l := by
      obtain ⟨h, e⟩ := List.getElem?_eq_some_iff.mp h0
      rw [← e]; exact List.set_getElem_self h
    have hd : ss.drop i = [] := List.drop_eq_nil_of_le (by omega)
    rw [hd, List.append_nil]
    simp only [List.range'_zero, List.forIn_nil, Nat.add_zero, this]
    exact does_pure
  | m + 1, i, l, es, ep, hm, h0, hl, hz, ha, hp => by
    have hlt : i < ss.length := by omega
    have hdr : ss.drop i = ss[i] :: ss.drop (i + 1) := List.drop_eq_getElem_cons hlt
    obtain ⟨k, t, hk, hh⟩ := hi ss[i] (List.getElem_mem hlt)
    rw [hdr] at ha hp
    obtain ⟨hp1, hp2⟩ := List.pairwise_cons.mp hp
    rw [List.range'_succ, List.forIn_cons]
    have h0' := (List.getElem?_eq_some_iff.mp h0).1
    refine does_bind (a := ForInStep.yield PUnit.unit) (s' := SS s0 (l.set 0 (dObj (es ++ [ss[i]]) (ep + 1))) tk) ?_ ?_
    · rw [hf]
      refine does_bind (does_dictEntries (es := ss.toArray) (ss_get hl) rfl) ?_
      have : ss.toArray[i]? = some ss[i] := by simp [hlt]
      rw [this]
      dsimp only
      have hput := does_dictPut (p := p) (w := w) (ann := ann) (b := b) (env := env) (q := q) (t := t) (v := ss[i].val) (k := k) (tk := tk) hn h0 (by omega) (fun d hd => by rw [← hh]; exact ha _ (.head _) d hd)
      have he : (⟨hashInt k, .int k t, ss[i].val⟩ : DictEntry) = ss[i] := by rw [← hh, ← hk]
      rw [he, ← hh, ← hk] at hput
      refine does_bind (does_holding hput) ?_
      refine does_bind (does_dictEpoch (es := ss.toArray) (ep := eps) (ss_get (by rw [List.getElem?_set_ne (by omega)]; exact hl)) rfl) ?_
      rw [if_neg (by simp)]
      exact does_pure
    · have ih := does_mergeLoop (tk := tk) hn hj hi hf m (i + 1) (l.set 0 (dObj (es ++ [ss[i]]) (ep + 1))) (es ++ [ss[i]]) (ep + 1) (by omega) (by rw [List.getElem?_set_self h0']) (by rw [List.getElem?_set_ne (by omega)]; exact hl) (by simp; omega)
        (fun e he d hd => by
          rcases List.mem_append.mp hd with z | z
          · exact ha e (.tail _ he) d z
          · simp only [List.mem_singleton] at z
            subst z
            exact hp1 e he) hp2
      rw [List.set_set] at ih
      have e1 : es ++ [ss[i]] ++ ss.drop (i + 1) = es ++ ss.drop i := by rw [hdr]; simp
      have e2 : ep + 1 + m = ep + (m + 1) := by omega
      rw [e1, e2] at ih
      exact ih
end
end HL
end
section
open PySem PySem.W PySem.Calls PyProof.Rows
namespace HL
section
variable {p : Program} {w : World} {n₀ : Nat} {ann : Option Value}
variable {b : List Stmt} {env : Env} {q : Pos} {α β : Type} {s s' s'' : Shared}
theorem does_merge {s0 : Shared} {tk j : Nat} {l : List Obj} {ss es : List DictEntry} {eps ep : Nat} (hn : n₀ ≤ s0.heap.objs.size) (hN : 2 ≤ s0.heap.objs.size) (hj : 0 < j) (hi : ∀ e ∈ ss, IntEnt e)
    (h0 : l[0]? = some (dObj es ep)) (hl : l[j]? = some (dObj ss eps)) (hne : es ≠ []) (hz : es.length + ss.length < 100000) (ha : ∀ e ∈ ss, ∀ d ∈ es, d.hash ≠ e.hash) (hp : ss.Pairwise (fun d e => d.hash ≠ e.hash)) :
    Does p w n₀ ann b env q (mergeMapping (s0.heap.objs.size + 0) (.ref (s0.heap.objs.size + j)) false) (SS s0 l tk) () (SS s0 (l.set 0 (dObj (es ++ ss) (ep + ss.length))) tk) := by
  unfold mergeMapping
  refine does_bind (does_isInstance_ref (ss_get hl) rfl sub_dict_dict) ?_
  dsimp only
  rw [if_pos rfl]
  refine does_bind (does_specialOf_ref (ss_get hl) rfl (PySem.F.slot_dict_iter).lookup) ?_
  have e1 : (some (Value.builtin "dict.__iter__") == some (.builtin "dict.__iter__")) = true := by decide +kernel
  have e2 : ((s0.heap.objs.size + j) == sysModules) = false := by
    show ((s0.heap.objs.size + j) == 1) = false
    simp; omega
  rw [e1]
  refine does_bind does_pure ?_
  dsimp only
  rw [e2, if_neg Bool.false_ne_true]
  refine does_bind (does_dictEntries (es := es.toArray) (ss_get h0) rfl) ?_
  rw [if_neg (by simpa using hne)]
  refine does_bind (does_dictEntries (es := ss.toArray) (ss_get hl) rfl) ?_
  refine does_bind (does_dictEpoch (es := ss.toArray) (ep := eps) (ss_get hl) rfl) ?_
  refine does_bind (a := PUnit.unit) ?_ does_pure
  have e : ss.toArray.size = ss.length := by simp
  rw [e]
  have h := fun f hf => does_mergeLoop (p := p) (w := w) (ann := ann) (b := b) (env := env) (q := q) (tk := tk) (f := f) hn hj hi hf ss.length 0 l es ep (by omega) h0 hl hz (by simpa using ha) (by simpa using hp)
  rw [List.drop_zero, ← List.range_eq_range'] at h
  refine h _ fun i => ?_
  refine congrArg _ (funext fun es' => ?_)
  cases es'[i]? <;> rfl
end
end HL
end
section
open PySem PySem.W PySem.Calls PyProof.Rows
namespace HL
noncomputable abbrev Dis (ps : List Pair) : Prop := ps.Pairwise fun x y => hashInt x.1 ≠ hashInt y.1
theorem Dis.fresh : ∀ {ps : List Pair}, Dis ps → Fresh [] ps
  | [], _ => trivial
  | (k, x) :: r, h => ⟨(fun e he => by cases he), (fun y hy => Ne.symm ((List.pairwise_cons.mp h).1 y hy)), Dis.fresh (List.pairwise_cons.mp h).2⟩
theorem ents_mem : ∀ {ps : List Pair} {tk : Nat} {e : DictEntry}, e ∈ ents ps tk → ∃ y ∈ ps, e.hash = hashInt y.1
  | [], _, _, h => nomatch h
  | (k, x) :: r, tk, e, h => by
    rcases List.mem_cons.mp h with rfl | h
    · exact ⟨_, .head _, rfl⟩
    · obtain ⟨y, hy, e⟩ := ents_mem h; exact ⟨y, .tail _ hy, e⟩
theorem entsS_mem : ∀ {ps : List Pair} {tk : Nat} {e : DictEntry}, e ∈ entsS ps tk → ∃ y ∈ ps, e.hash = hashInt y.1
  | [], _, _, h => nomatch h
  | (k, x) :: r, tk, e, h => by
    rcases List.mem_cons.mp h with rfl | h
    · exact ⟨_, .head _, rfl⟩
    · obtain ⟨y, hy, e⟩ := entsS_mem h; exact ⟨y, .tail _ hy, e⟩
theorem ents_pair : ∀ {ps : List Pair} {tk : Nat}, Dis ps → (ents ps tk).Pairwise fun d e => d.hash ≠ e.hash
  | [], _, _ => .nil
  | (k, x) :: r, tk, h => by
    obtain ⟨h1, h2⟩ := List.pairwise_cons.mp h
    refine List.pairwise_cons.mpr ⟨fun e he => ?_, ents_pair h2⟩
    obtain ⟨y, hy, q⟩ := ents_mem he
    rw [q]; exact h1 y hy
theorem entsS_pair : ∀ {ps : List Pair} {tk : Nat}, Dis ps → (entsS ps tk).Pairwise fun d e => d.hash ≠ e.hash
  | [], _, _ => .nil
  | (k, x) :: r, tk, h => by
    obtain ⟨h1, h2⟩ := List.pairwise_cons.mp h
    refine List.pairwise_cons.mpr ⟨fun e he => ?_, entsS_pair h2⟩
    obtain ⟨y, hy, q⟩ := entsS_mem he
    rw [q]; exact h1 y hy
theorem ents_len : ∀ {ps : List Pair} {tk : Nat}, (ents ps tk).length = ps.length
  | [], _ => rfl
  | (k, x) :: r, tk => by rw [ents, List.length_cons, List.length_cons, ents_len]
theorem entsS_len : ∀ {ps : List Pair} {tk : Nat}, (entsS ps tk).length = ps.length
  | [], _ => rfl
  | (k, x) :: r, tk => by rw [entsS, List.length_cons, List.length_cons, entsS_len]
theorem ents_app : ∀ {ps qs : List Pair} {tk : Nat}, ents (ps ++ qs) tk = ents ps tk ++ ents qs (tk + 3 * ps.length)
  | [], qs, tk => by simp [ents]
  | (k, x) :: r, qs, tk => by
    rw [List.cons_append, ents, ents, ents_app, List.cons_append]
    have : tk + 3 + 3 * r.length = tk + 3 * ((k, x) :: r).length := by simp; omega
    rw [this]
noncomputable abbrev mkI (r : Pos) (y : Pair) : Option (Sem Value) × Sem Value := (some (keyT y.1), valT r y.2)
noncomputable abbrev mkP (r : Pos) (y : Pair) : Sem Value × Sem Value := (keyT y.1, valT r y.2)
noncomputable def flushT (run : List (Sem Value × Sem Value)) : Option Addr → Sem (Option Addr)
  | none => do let x ← subDict run; pure (some x)
  | some d => do
    let sub ← holding [Value.ref d] (subDict run)
    (holding [Value.ref d, Value.ref sub] (mergeMapping d (Value.ref sub) false)).onRaise fun x => do
      let _ ← holding [Value.ref d, x] (runValue (Code.builtin "proto.let_go" { }))
      pure ()
    pure (some d)
section
variable {p : Program} {w : World} {n₀ : Nat} {ann : Option Value}
variable {b : List Stmt} {env : Env} {q : Pos} {α β : Type} {s s' s'' : Shared}
theorem does_gather {γ : Type} {r : Pos} {F : Option Addr × List (Sem Value × Sem Value) → Sem γ} {f : (Option (Sem Value) × Sem Value) → (Option Addr × List (Sem Value × Sem Value)) → Sem (ForInStep (Option Addr × List (Sem Value × Sem Value)))} {c : γ} {main : Option Addr}
    (h1 : ∀ y run, run.length + 1 ≠ 17 → f (mkI r y) (main, run) = pure (.yield (main, run ++ [mkP r y]))) :
    ∀ (xs : List Pair) (run : List (Sem Value × Sem Value)) (rest : List (Option (Sem Value) × Sem Value)), run.length + xs.length < 17 → Does p w n₀ ann b env q (forIn rest (main, run ++ xs.map (mkP r)) f >>= F) s c s' → Does p w n₀ ann b env q (forIn (xs.map (mkI r) ++ rest) (main, run) f >>= F) s c s'
  | [], run, rest, _, h => by simpa using h
  | x :: xs, run, rest, hl, h => by
    rw [List.length_cons] at hl
    rw [List.map_cons, List.cons_append, List.forIn_cons, h1 x run (by omega), pure_bind]
    refine does_gather h1 xs (run ++ [mkP r x]) rest (by simp; omega) ?_
    rw [List.append_assoc]
    exact h
theorem does_chunk {γ : Type} {r : Pos} {F : Option Addr × List (Sem Value × Sem Value) → Sem γ} {f : (Option (Sem Value) × Sem Value) → (Option Addr × List (Sem Value × Sem Value)) → Sem (ForInStep (Option Addr × List (Sem Value × Sem Value)))} {c : γ} {main : Option Addr} {d : Addr} {s1 : Shared}
    (h1 : ∀ y run, run.length + 1 ≠ 17 → f (mkI r y) (main, run) = pure (.yield (main, run ++ [mkP r y])))
    (h2 : ∀ y run, run.length + 1 = 17 → f (mkI r y) (main, run) = (flushT (run ++ [mkP r y]) main >>= fun m => pure (.yield (m, []))))
    (ch : List Pair) (rest : List (Option (Sem Value) × Sem Value)) (hl : ch.length = 17) (hf : Does p w n₀ ann b env q (flushT (ch.map (mkP r)) main) s (some d) s1) (h : Does p w n₀ ann b env q (forIn rest (some d, []) f >>= F) s1 c s') :
    Does p w n₀ ann b env q (forIn (ch.map (mkI r) ++ rest) (main, []) f >>= F) s c s' := by
  obtain ⟨xs, y, rfl⟩ : ∃ xs y, ch = xs ++ [y] := by
    have hne : ch ≠ [] := by intro e; rw [e] at hl; cases hl
    exact ⟨_, _, (List.dropLast_concat_getLast hne).symm⟩
  have hd : xs.length = 16 := by simpa using hl
  rw [List.map_append, List.append_assoc]
  refine does_gather h1 xs [] _ (by rw [hd]; decide) ?_
  rw [List.map_singleton, List.singleton_append, List.forIn_cons, h2 _ _ (by simp [hd])]
  rw [List.map_append, List.map_singleton] at hf
  simp only [List.nil_append, bind_assoc, pure_bind]
  exact does_bind hf h
theorem does_flush0 {s0 : Shared} {r : Pos} {ps : List Pair} {tk : Nat} (hn : n₀ ≤ s0.heap.objs.size) (hl : ps.length = 17) (hd : Dis ps) :
    Does p w n₀ ann b env q (flushT (ps.map (mkP r)) none) (SS s0 [] tk) (some (s0.heap.objs.size + 0)) (SS s0 [dObj (ents ps tk) 17] (tk + 51)) := by
  have h := does_subDictLong (p := p) (w := w) (ann := ann) (b := b) (env := env) (q := q) (r := r) (l := []) (tk := tk) hn (ps := ps) (by omega) (by omega) hd.fresh
  rw [hl] at h
  exact does_bind h does_pure
theorem does_flush1 {s0 : Shared} {r : Pos} {ps : List Pair} {tk tk' : Nat} {es se : List DictEntry} {ep : Nat} {subs : List Obj} (hn : n₀ ≤ s0.heap.objs.size) (hN : 2 ≤ s0.heap.objs.size) (hne : es ≠ []) (hz : es.length + ps.length < 100000)
    (ha : ∀ e ∈ es, ∀ y ∈ ps, e.hash ≠ hashInt y.1) (hd : Dis ps)
    (hs : Does p w n₀ ann b env q (subDict (ps.map (mkP r))) (SS s0 (dObj es ep :: subs) tk) (s0.heap.objs.size + (dObj es ep :: subs).length) (SS s0 (dObj es ep :: subs ++ [dObj se ps.length]) tk'))
    (h1 : ∀ e ∈ se, IntEnt e) (h2 : ∀ e ∈ se, ∃ y ∈ ps, e.hash = hashInt y.1) (h3 : se.Pairwise fun d e => d.hash ≠ e.hash) (h4 : se.length = ps.length) :
    Does p w n₀ ann b env q (flushT (ps.map (mkP r)) (some (s0.heap.objs.size + 0))) (SS s0 (dObj es ep :: subs) tk) (some (s0.heap.objs.size + 0)) (SS s0 (dObj (es ++ se) (ep + ps.length) :: (subs ++ [dObj se ps.length])) tk') := by
  refine does_bind (does_holding hs) (does_bind (a := ()) (does_onRaise (does_holding ?_)) does_pure)
  have h := does_merge (p := p) (w := w) (ann := ann) (b := b) (env := env) (q := q) (tk := tk') (j := (dObj es ep :: subs).length) (l := dObj es ep :: subs ++ [dObj se ps.length]) (ss := se) (es := es) (eps := ps.length) (ep := ep) hn hN (by simp) h1
    rfl (by simp) hne (by rw [h4]; exact hz) (fun e he d hd' => by obtain ⟨y, hy, e'⟩ := h2 e he; rw [e']; exact ha d hd' y hy) h3
  rw [h4] at h
  exact h
end
end HL
end
section
open PySem PySem.W PySem.Calls PyProof.Rows
namespace HL
noncomputable def subsOf : List (List Pair) → Nat → List Obj
  | [], _ => []
  | ch :: r, tk => dObj (ents ch tk) 17 :: subsOf r (tk + 51)
section
variable {p : Program} {w : World} {n₀ : Nat} {ann : Option Value}
variable {b : List Stmt} {env : Env} {q : Pos} {α β : Type} {s s' s'' : Shared}
theorem does_chunks {γ : Type} {r : Pos} {F : Option Addr × List (Sem Value × Sem Value) → Sem γ} {f : (Option (Sem Value) × Sem Value) → (Option Addr × List (Sem Value × Sem Value)) → Sem (ForInStep (Option Addr × List (Sem Value × Sem Value)))} {c : γ} {s0 : Shared}
    (hn : n₀ ≤ s0.heap.objs.size) (hN : 2 ≤ s0.heap.objs.size)
    (h1 : ∀ main y run, run.length + 1 ≠ 17 → f (mkI r y) (main, run) = pure (.yield (main, run ++ [mkP r y])))
    (h2 : ∀ main y run, run.length + 1 = 17 → f (mkI r y) (main, run) = (flushT (run ++ [mkP r y]) main >>= fun m => pure (.yield (m, [])))) (rest : List (Option (Sem Value) × Sem Value)) :
    ∀ (chs : List (List Pair)) (es : List DictEntry) (ep : Nat) (subs : List Obj) (tk : Nat), (∀ ch ∈ chs, ch.length = 17) → es ≠ [] → es.length + chs.flatten.length < 100000 → (∀ e ∈ es, ∀ y ∈ chs.flatten, e.hash ≠ hashInt y.1) → Dis chs.flatten →
      Does p w n₀ ann b env q (forIn rest (some (s0.heap.objs.size + 0), []) f >>= F) (SS s0 (dObj (es ++ ents chs.flatten tk) (ep + chs.flatten.length) :: (subs ++ subsOf chs tk)) (tk + 51 * chs.length)) c s' →
      Does p w n₀ ann b env q (forIn (chs.flatten.map (mkI r) ++ rest) (some (s0.heap.objs.size + 0), []) f >>= F) (SS s0 (dObj es ep :: subs) tk) c s'
  | [], es, ep, subs, tk, _, _, _, _, _, h => by simpa [ents, subsOf] using h
  | ch :: chs, es, ep, subs, tk, hl, hne, hz, ha, hd, h => by
    rw [List.flatten_cons] at hz ha hd
    rw [List.length_append] at hz
    have hch := hl ch (.head _)
    obtain ⟨d1, d2, d3⟩ := List.pairwise_append.mp hd
    rw [List.flatten_cons, List.map_append, List.append_assoc]
    have hs := does_subDictLong (p := p) (w := w) (ann := ann) (b := b) (env := env) (q := q) (r := r) (l := dObj es ep :: subs) (tk := tk) hn (ps := ch) (by omega) (by omega) (Dis.fresh d1)
    refine does_chunk (h1 _) (h2 _) ch _ hch (does_flush1 (r := r) (ps := ch) (es := es) (se := ents ch tk) hn hN hne (by omega) (fun e he y hy => ha e he y (List.mem_append_left _ hy)) d1 hs (ents_int _ _) (fun e he => ents_mem he) (ents_pair d1) ents_len) ?_
    rw [hch]
    refine does_chunks hn hN h1 h2 rest chs (es ++ ents ch tk) (ep + 17) (subs ++ [dObj (ents ch tk) 17]) (tk + 51) (fun c hc => hl c (.tail _ hc)) (by simp [hne]) (by rw [List.length_append, ents_len]; omega) (fun e he y hy => ?_) d2 ?_
    · rcases List.mem_append.mp he with z | z
      · exact ha e z y (List.mem_append_right _ hy)
      · obtain ⟨x, hx, e'⟩ := ents_mem z
        rw [e']; exact d3 x hx y hy
    · have e1 : es ++ ents ch tk ++ ents chs.flatten (tk + 51) = es ++ ents (ch :: chs).flatten tk := by rw [List.flatten_cons, ents_app, hch, List.append_assoc]
      have e2 : ep + 17 + chs.flatten.length = ep + (ch :: chs).flatten.length := by rw [List.flatten_cons, List.length_append, hch]; omega
      have e3 : subs ++ [dObj (ents ch tk) 17] ++ subsOf chs (tk + 51) = subs ++ subsOf (ch :: chs) tk := by simp [subsOf]
      have e4 : tk + 51 + 51 * chs.length = tk + 51 * (ch :: chs).length := by simp; omega
      rw [e1, e2, e3, e4]
      exact h
theorem does_display {s0 : Shared} {r : Pos} {ch0 last : List Pair} {chs : List (List Pair)} {tk : Nat} (hn : n₀ ≤ s0.heap.objs.size) (hN : 2 ≤ s0.heap.objs.size) (hc0 : ch0.length = 17) (hcs : ∀ ch ∈ chs, ch.length = 17)
    (hl1 : last ≠ []) (hl2 : last.length ≤ 15) (hz : chs.flatten.length < 50000) (hd : Dis (ch0 ++ (chs.flatten ++ last))) :
    Does p w n₀ ann b env q (dictDisplay ((ch0 ++ (chs.flatten ++ last)).map (mkI r))) (SS s0 [] tk) (.ref (s0.heap.objs.size + 0))
      (SS s0 (dObj (ents (ch0 ++ chs.flatten) tk ++ entsS last (tk + 51 * (chs.length + 1))) (17 + chs.flatten.length + last.length) :: (subsOf chs (tk + 51) ++ [dObj (entsS last (tk + 51 * (chs.length + 1))) last.length])) (tk + 51 * (chs.length + 1) + 3 * last.length)) := by
  obtain ⟨d1, d2, d3⟩ := List.pairwise_append.mp hd
  obtain ⟨d4, d5, d6⟩ := List.pairwise_append.mp d2
  unfold dictDisplay
  dsimp only
  rw [List.map_append]
  refine does_chunk (main := none) (r := r) (fun y run hr => ?_) (fun y run hr => ?_) ch0 _ hc0 (does_flush0 hn hc0 d1) ?_
  · have e : ((run ++ [(keyT y.1, valT r y.2)]).length == 17) = false := by simp; omega
    dsimp only [mkI]
    rw [e, if_neg Bool.false_ne_true]
  · have e : ((run ++ [(keyT y.1, valT r y.2)]).length == 17) = true := by simp; omega
    dsimp only [mkI]
    rw [e, if_pos rfl, if_neg (by simp)]
    rfl
  rw [List.map_append]
  refine does_chunks hn hN (fun main y run hr => ?_) (fun main y run hr => ?_) _ chs (ents ch0 tk) 17 [] (tk + 51) hcs (by intro e; have := congrArg List.length e; rw [ents_len, hc0] at this; cases this) (by rw [ents_len]; omega) (fun e he y hy => ?_) d4 ?_
  · have e : ((run ++ [(keyT y.1, valT r y.2)]).length == 17) = false := by simp; omega
    dsimp only [mkI]
    rw [e, if_neg Bool.false_ne_true]
  · have e : ((run ++ [(keyT y.1, valT r y.2)]).length == 17) = true := by simp; omega
    dsimp only [mkI]
    rw [e, if_pos rfl, if_neg (by simp)]
    cases main <;> rfl
  · obtain ⟨x, hx, e'⟩ := ents_mem he
    rw [e']; exact d3 x hx y (List.mem_append_left _ hy)
  have e0 : last.map (mkI r) = last.map (mkI r) ++ [] := by simp
  rw [e0]
  refine does_gather (r := r) (fun y run hr => ?_) last [] [] (by simp; omega) ?_
  · have e : ((run ++ [(keyT y.1, valT r y.2)]).length == 17) = false := by simp; omega
    dsimp only [mkI]
    rw [e, if_neg Bool.false_ne_true]
  rw [List.forIn_nil, pure_bind]
  dsimp only
  rw [if_neg (by simpa using hl1)]
  have e1 : ents ch0 tk ++ ents chs.flatten (tk + 51) = ents (ch0 ++ chs.flatten) tk := by rw [ents_app, hc0]
  have e4 : tk + 51 + 51 * chs.length = tk + 51 * (chs.length + 1) := by omega
  rw [e1, e4, List.nil_append, List.nil_append]
  have hs := does_subDictShort (p := p) (w := w) (ann := ann) (b := b) (env := env) (q := q) (r := r) (l := dObj (ents (ch0 ++ chs.flatten) tk) (17 + chs.flatten.length) :: subsOf chs (tk + 51)) (tk := tk + 51 * (chs.length + 1)) hn (ps := last) hl2 (Dis.fresh d5)
  have hf := does_flush1 (r := r) (ps := last) (es := ents (ch0 ++ chs.flatten) tk) (se := entsS last (tk + 51 * (chs.length + 1))) hn hN (by intro e; have := congrArg List.length e; rw [ents_len, List.length_append, hc0] at this; simp at this) (by rw [ents_len, List.length_append]; omega)
    (fun e he y hy => ?_) d5 hs (entsS_int _ _) (fun e he => entsS_mem he) (entsS_pair d5) entsS_len
  · exact does_bind hf does_pure
  · obtain ⟨x, hx, e'⟩ := ents_mem he
    rw [e']
    rcases List.mem_append.mp hx with z | z
    · exact d3 x z y (List.mem_append_right _ hy)
    · exact d6 x z y hy
end
end HL
end
section
open PySem PySem.W PySem.Calls PyProof.Rows
namespace HL
noncomputable def keyOf : Option Expr → Option Int
  | some (.Constant (.int k) _ _) => some k
  | _ => none
noncomputable def valOf : Expr → Option Str
  | .Constant (.str x) _ _ => some x
  | _ => none
theorem keyOf_is {o : Option Expr} {k : Int} (h : keyOf o = some k) : ∃ a c, o = some (.Constant (.int k) a c) := by
  unfold keyOf at h
  split at h
  · cases h; exact ⟨_, _, rfl⟩
  · cases h
theorem valOf_is {o : Expr} {k : Str} (h : valOf o = some k) : ∃ a c, o = .Constant (.str k) a c := by
  unfold valOf at h
  split at h
  · cases h; exact ⟨_, _, rfl⟩
  · cases h
noncomputable def prsOf : List (Option Expr) → List Expr → Option (List Pair)
  | [], [] => some []
  | o :: ks, v :: vs => match keyOf o, valOf v with
    | some k, some x => (prsOf ks vs).map ((k, x) :: ·)
    | _, _ => none
  | _, _ => none
theorem prs_items {env : Env} {r : Pos} : ∀ {ks : List (Option Expr)} {vs : List Expr} {ps : List Pair}, prsOf ks vs = some ps →
    (evalEachOpt ks env).zip ((evalEach vs env).map fun v => do let x ← v; standAt r; pure x) = ps.map (mkI r)
  | [], [], ps, h => by
    simp only [prsOf, Option.some.injEq] at h
    subst h; rfl
  | [], _ :: _, ps, h => by cases h
  | _ :: _, [], ps, h => by cases h
  | o :: ks, v :: vs, ps, h => by
    unfold prsOf at h
    split at h
    · rename_i k x h1 h2
      obtain ⟨a, c, rfl⟩ := keyOf_is h1
      obtain ⟨a', c', rfl⟩ := valOf_is h2
      simp only [Option.map_eq_some_iff] at h
      obtain ⟨ps', h', rfl⟩ := h
      have ih := prs_items (env := env) (r := r) h'
      show (some (eval (.Constant (.int k) a c) env), (do let x ← eval (.Constant (.str x) a' c') env; standAt r; pure x)) :: _ = _
      rw [List.map_cons]
      exact (congrArg (List.cons _) ih).trans rfl
    · cases h
theorem hashInt_small {k : Int} (h0 : 0 ≤ k) (h1 : k < 2 ^ 60) : hashInt k = k := by
  have e : rawHash k = k := by
    unfold rawHash
    have : ((k.natAbs % (2 ^ 61 - 1 : Nat) : Nat) : Int) = k := by omega
    simp only [if_neg (show ¬ k < 0 by omega)]
    rw [show ((k.natAbs : Int) % ((2 ^ 61 - 1 : Nat) : Int)) = k by omega]
    rw [if_neg (by simp; omega)]
  unfold hashInt
  rw [e, if_neg (by simp; omega)]
noncomputable def incr : Int → List Pair → Bool
  | _, [] => true
  | m, (k, _) :: r => decide (m < k) && decide (k < 2 ^ 60) && incr k r
theorem incr_above : ∀ {ps : List Pair} {m : Int}, 0 ≤ m → incr m ps = true → ∀ y ∈ ps, m < y.1 ∧ y.1 < 2 ^ 60
  | (k, x) :: r, m, h0, h, y, hy => by
    simp only [incr, Bool.and_eq_true, decide_eq_true_eq] at h
    obtain ⟨⟨h1, h2⟩, h3⟩ := h
    rcases List.mem_cons.mp hy with rfl | hy
    · exact ⟨h1, h2⟩
    · have := incr_above (by omega) h3 y hy
      exact ⟨by omega, this.2⟩
theorem incr_dis : ∀ {ps : List Pair} {m : Int}, 0 ≤ m → incr m ps = true → Dis ps
  | [], _, _, _ => .nil
  | (k, x) :: r, m, h0, h => by
    have hb := incr_above h0 h
    simp only [incr, Bool.and_eq_true, decide_eq_true_eq] at h
    obtain ⟨⟨h1, h2⟩, h3⟩ := h
    refine List.pairwise_cons.mpr ⟨fun y hy => ?_, incr_dis (by omega) h3⟩
    have h4 := incr_above (by omega) h3 y hy
    show hashInt k ≠ hashInt y.1
    rw [hashInt_small (by omega) h2, hashInt_small (by omega) h4.2]
    omega
noncomputable def chunksN : Nat → List Pair → List (List Pair)
  | 0, _ => []
  | n + 1, l => l.take 17 :: chunksN n (l.drop 17)
theorem chunksN_len : ∀ (n : Nat) {l : List Pair}, 17 * n ≤ l.length → ∀ ch ∈ chunksN n l, ch.length = 17
  | 0, l, h, ch, hc => by cases hc
  | n + 1, l, h, ch, hc => by
    rcases List.mem_cons.mp hc with rfl | hc
    · rw [List.length_take]; omega
    · exact chunksN_len n (by rw [List.length_drop]; omega) ch hc
theorem chunksN_flat : ∀ (n : Nat) {l : List Pair}, (chunksN n l).flatten = l.take (17 * n)
  | 0, l => by simp [chunksN]
  | n + 1, l => by
    rw [chunksN, List.flatten_cons, chunksN_flat n, show 17 * (n + 1) = 17 + 17 * n by omega, List.take_add]
theorem chunksN_count : ∀ (n : Nat) {l : List Pair}, (chunksN n l).length = n
  | 0, _ => rfl
  | n + 1, l => by rw [chunksN, List.length_cons, chunksN_count n]
noncomputable def dictLeft (n : Nat) (ps : List Pair) (tk : Nat) : List Obj :=
  dObj (ents (ps.take (17 * (n + 1))) tk ++ entsS (ps.drop (17 * (n + 1))) (tk + 51 * (n + 1))) ps.length :: (subsOf (chunksN n (ps.drop 17)) (tk + 51) ++ [dObj (entsS (ps.drop (17 * (n + 1))) (tk + 51 * (n + 1))) (ps.drop (17 * (n + 1))).length])
noncomputable def tailT (env : Env) (nm : Str) (np : Pos) (ks : List (Option Expr)) (vs : List Expr) (dp : Pos) (v : Value) : Sem Flow := do
  assignStores env v (← swappedStores [.Name nm np] (.Dict ks vs dp) env) ((assignEach [.Name nm np] env).map (·.2))
section
variable {p : Program} {w : World} {n₀ : Nat} {ann : Option Value}
variable {b : List Stmt} {env : Env} {q : Pos} {α β : Type} {s s' s'' : Shared}
theorem does_evalDict {s0 : Shared} {ks : List (Option Expr)} {vs : List Expr} {dp : Pos} {ps : List Pair} {n tk : Nat} (hps : prsOf ks vs = some ps) (hi : incr 0 ps = true) (hn : n₀ ≤ s0.heap.objs.size) (hN : 2 ≤ s0.heap.objs.size)
    (h1 : 17 * (n + 1) < ps.length) (h2 : ps.length ≤ 17 * (n + 1) + 15) (hz : ps.length < 50000) :
    Does p w n₀ ann b env q (eval (.Dict ks vs dp) env) (SS s0 [] tk) (.ref (s0.heap.objs.size + 0)) (SS s0 (dictLeft n ps tk) (tk + 3 * ps.length)) := by
  show Does p w n₀ ann b env q (do standAt dp; dictDisplay ((evalEachOpt ks env).zip ((evalEach vs env).map fun v => do let x ← v; standAt dp; pure x))) _ _ _
  refine does_bind does_at ?_
  rw [prs_items hps]
  have hd := incr_dis (Int.le_refl 0) hi
  have e0 : ps.take 17 ++ ((chunksN n (ps.drop 17)).flatten ++ ps.drop (17 * (n + 1))) = ps := by
    rw [chunksN_flat, ← List.append_assoc, ← List.take_add, show 17 + 17 * n = 17 * (n + 1) by omega, List.take_append_drop]
  have e1 : ps.take 17 ++ (chunksN n (ps.drop 17)).flatten = ps.take (17 * (n + 1)) := by
    rw [chunksN_flat, ← List.take_add, show 17 + 17 * n = 17 * (n + 1) by omega]
  have l1 : (chunksN n (ps.drop 17)).flatten.length = 17 * n := by rw [chunksN_flat, List.length_take, List.length_drop]; omega
  have l2 : (ps.drop (17 * (n + 1))).length = ps.length - 17 * (n + 1) := List.length_drop
  have h := does_display (p := p) (w := w) (ann := ann) (b := b) (env := env) (q := q) (r := dp) (tk := tk) hn hN (ch0 := ps.take 17) (last := ps.drop (17 * (n + 1))) (chs := chunksN n (ps.drop 17)) (by rw [List.length_take]; omega)
    (chunksN_len n (by rw [List.length_drop]; omega)) (by intro e; have := congrArg List.length e; rw [l2] at this; simp only [List.length_nil] at this; omega) (by rw [l2]; omega) (by rw [l1]; omega) (by rw [e0]; exact hd)
  rw [e0, e1, chunksN_count] at h
  have e2 : 17 + (chunksN n (ps.drop 17)).flatten.length + (ps.drop (17 * (n + 1))).length = ps.length := by rw [l1, l2]; omega
  have e3 : tk + 51 * (n + 1) + 3 * (ps.drop (17 * (n + 1))).length = tk + 3 * ps.length := by rw [l2]; omega
  rw [e2, e3] at h
  exact h
theorem goto_dict {s0 : Shared} {nm : Str} {np ap : Pos} {ks : List (Option Expr)} {vs : List Expr} {dp : Pos} {ps : List Pair} {n tk : Nat} (hps : prsOf ks vs = some ps) (hi : incr 0 ps = true) (hn : n₀ ≤ s0.heap.objs.size) (hN : 2 ≤ s0.heap.objs.size)
    (h1 : 17 * (n + 1) < ps.length) (h2 : ps.length ≤ 17 * (n + 1) + 15) (hz : ps.length < 50000) (K : Flow → Sem Fin) (H : Value → Sem Fin) (gd : Bool → Bool) (lv : List Value → List Value) (pos : Pos) :
    ∃ pos', GoTo p w n₀ ann (SS s0 [] tk) ⟨(exec (.Assign [.Name nm np] (.Dict ks vs dp) ap) env).wrap K H gd lv, .body b env, pos, [topFrame q]⟩ (SS s0 (dictLeft n ps tk) (tk + 3 * ps.length))
      ⟨(tailT env nm np ks vs dp (.ref (s0.heap.objs.size + 0))).wrap K H gd lv, .body b env, pos', [topFrame q]⟩ := by
  have e : exec (.Assign [.Name nm np] (.Dict ks vs dp) ap) env = (do standAt ap; eval (.Dict ks vs dp) env : Sem Value) >>= fun v => tailT env nm np ks vs dp v := rfl
  rw [e, Sem.bind_eq_wrap', Sem.wrap_wrap]
  exact does_bind (does_at (r := ap)) (does_evalDict (env := env) hps hi hn hN h1 h2 hz) (fun v => (tailT env nm np ks vs dp v).wrap K H gd lv) H gd lv pos
end
end HL
end
section
open PySem PySem.W PySem.Calls PyProof.Rows
namespace HL
noncomputable def insAll : BT → Nat → List Obj → BT
  | T, _, [] => T
  | T, n, o :: r => insAll (T.ins n o) (n + 1) r
noncomputable def insOk : BT → Nat → List Obj → Bool
  | _, _, [] => true
  | T, n, o :: r => ((T.ins n o).get n).isSome && insOk (T.ins n o) (n + 1) r
theorem abs_insAll {life : Life} : ∀ {l : List Obj} {T : BT} {n : Nat}, insOk T n l = true → absHeap (insAll T n l) (n + l.length) life = ⟨(absHeap T n life).objs ++ l.toArray, life⟩
  | [], T, n, _ => by simp [insAll, absHeap]
  | o :: r, T, n, h => by
    rw [insOk, Bool.and_eq_true] at h
    have ih := abs_insAll (life := life) h.2
    have e := absHeap_ins (life := life) h.1
    rw [insAll, List.length_cons, show n + (r.length + 1) = n + 1 + r.length by omega, ih, e]
    simp [Heap.push]
theorem abs_SS {l : List Obj} {T : BT} {n m tk tk' : Nat} {life : Life} {g : Array GenState} {d : Drawn} {os : OsState} (h : insOk T n l = true) (hm : m = n + l.length) :
    (SharedT.mk (insAll T n l) m life g d tk' os).abs = SS (SharedT.mk T n life g d tk os).abs l tk' := by
  subst hm
  have e := abs_insAll (life := life) h
  show Shared.mk (absHeap (insAll T n l) (n + l.length) life) g d tk' os = Shared.mk ⟨(absHeap T n life).objs ++ l.toArray, life⟩ g d tk' os
  rw [e]
noncomputable def dKs : Stmt → List (Option Expr)
  | .Assign _ (.Dict ks _ _) _ => ks
  | _ => []
noncomputable def dVs : Stmt → List Expr
  | .Assign _ (.Dict _ vs _) _ => vs
  | _ => []
noncomputable def dPos : Stmt → Pos
  | .Assign _ (.Dict _ _ r) _ => r
  | _ => ⟨0, 0, 0, 0⟩
noncomputable def dNm : Stmt → Str
  | .Assign [.Name x _] _ _ => x
  | _ => Str.ofString ""
noncomputable def dNp : Stmt → Pos
  | .Assign [.Name _ r] _ _ => r
  | _ => ⟨0, 0, 0, 0⟩
noncomputable def dAp : Stmt → Pos
  | .Assign _ _ r => r
  | _ => ⟨0, 0, 0, 0⟩
noncomputable def restK (rest : List Stmt) (env : Env) : Flow → Sem Fin := fun f => match f with
  | .next => (execs rest env).wrap doneF deadEnd id id
  | f => doneF f
theorem execs_cons_rest {st : Stmt} {rest : List Stmt} {env : Env} : (execs (st :: rest) env).wrap doneF deadEnd id id = (exec st env).wrap (restK rest env) deadEnd id id := execs_cons_wrap st rest
end HL
end
section
open PySem PySem.W PySem.Spec PySem.Calls PyProof.Rows
namespace HL
noncomputable def Stood (p q : Program) (loose : List Str) {α : Type} (Yf : Shared → α) (w : World) (y : α) : Prop :=
  ∃ N M s₀ s₁, fencedOpening treeTable p w N = some s₀ ∧ s₀.heap.isNs mainGlobals = true ∧ s₀.gens = #[] ∧
    topRun treeTable p w s₀.heap.objs.size (s₀.heap.nsMap mainGlobals "__annotations__") M s₀ (topStub p) = some s₁ ∧
    (staticsOk (importedModules p.main.body) s₀.heap s₁.heap && namesBound p s₁.heap && gensDone s₁ && laidKept s₀.heap s₁.heap) = true ∧
    openSeen q loose (importedModules p.main.body) (fun _ => true) true s₁ = openGood q loose ∧ Yf s₁ = y
theorem Stood.behind {p q : Program} {loose : List Str} {α : Type} {Yf : Shared → α} {w : World} {y : α} (h : Stood p q loose Yf w y) (hch : chainsOk q = true) :
    (∃ s, AfterRun (opening p) w s) ∧ ∀ s, AfterRun (opening p) w s → ∃ s₀, fenceModules? p s = some s₀ ∧ s₀.gens = #[] ∧ ∃ s₁, TopRan p w s₀ s₁ ∧ s₁.asleep ∧ s₁.gens = #[] ∧ s₁.heap.isNs mainGlobals = true ∧
      Ground q loose [] (fun _ _ => True) w s₁ (s₁.heap.nsMap mainGlobals) (s₁.heap.nsMap builtinsNs) s₁.heap ∧ Yf s₁ = y := by
  obtain ⟨N, M, s₀, s₁, h1, hg, hn, h6, hs, e, ey⟩ := h
  rw [← table_eq_tree] at h1 h6
  obtain ⟨s, h4, h5⟩ := Option.bind_eq_some_iff.mp h1
  have A := AfterImport.of_importEnds h4
  refine ⟨⟨s, A⟩, fun s' hs' => ?_⟩
  obtain rfl : s' = s := AfterImport.unique hs' A
  have z : s₀.asleep := Shared.asleep_of_life (fence_lifeW h5) A.life
  simp only [Bool.and_eq_true] at hs
  obtain ⟨⟨⟨k1, k2⟩, k3⟩, k4⟩ := hs
  obtain ⟨a, l, os, fr⟩ := topRun_spec _ _ _ _ z h6
  obtain ⟨G, g0, g1, g2, g3, g4, g5⟩ := ground_of_open (w := w) (XP := fun _ _ => True) (fun _ _ => trivial) hch e
  exact ⟨s₀, h5, hn, s₁, ⟨a, l, Shared.rest_eq os, (fun b o hb hnb => fr b o (Heap.lt_size hb) (fun q => hnb (.inl q)) (fun q => hnb (.inr (.inl q))) (fun q => hnb (.inr (.inr ((Pin.globalOf_eq hg _).trans q)))) hb),
    g2, statics_of_ok k1, g3, g4, g5, gens_of_done k3, names_of_bound k2, laid_of_kept k4⟩, Shared.asleep_of_life l z, Array.eq_empty_of_size_eq_zero (beq_iff_eq.mp g0), g1, G, ey⟩
theorem holds_stood {r : OpenRow} {q : Program} {loose : List Str} {α : Type} {Yf : Shared → α} {Ya : World → α} {d : DefRec} {kwd : List (Str × Expr)} (st : ∀ w, Stood r.prog q loose Yf w (Ya w))
    (hrec : r.records = []) (hdef : defOf q r.name = some (d, kwd)) (hp : r.prog.theDef r.name = some (d.params, d.body, d.scope)) (hk : kwWritten? d.params.kwonlyargs d.params.kw_defaults = some kwd)
    (k1 : r.wellSaid = true) (ok : (chainsOk q && opensWell r.prog && (frees r.toRowW && r.within.isEmpty)) = true) (hb : r.prog.bare) (hw : r.toRowW.promised)
    (call : WalkX q loose (fun _ _ => True) Yf Ya r.toRowW d kwd fun f vs => PySem.call f vs) : r.Holds := by
  obtain ⟨ok, k5⟩ := Bool.and_eq_true_iff.mp ok
  obtain ⟨hch, o1⟩ := Bool.and_eq_true_iff.mp ok
  obtain ⟨k5, k6⟩ := Bool.and_eq_true_iff.mp k5
  obtain ⟨hsame, hu, ha, hap, hm⟩ := frees_parts k5
  refine ⟨k1, hw, ⟨hb, o1, by show r.makers.map _ = []; rw [hm]; rfl⟩, hw.witness, fun w => ⟨((st w).behind hch).1, fun s' hs' => ?_⟩⟩
  obtain ⟨s₀, hf, hg0, s, hT, hz, hgens, hg, G, y⟩ := ((st w).behind hch).2 s' hs'
  refine ⟨s₀, hf, hg0, s, hT, fun n hn => ?_, (by rw [show r.toRowW.claim.records = [] from hrec]; exact fun x hx => (nomatch hx)), (by rw [show r.toRowW.claim.records = [] from hrec]; exact fun x hx => (nomatch hx)), ?_⟩
  · obtain rfl : n = r.name := by split at hn <;> simp_all
    exact pinned_of_view hg G hdef hp hk
  refine ClaimW.callFrom_of_specG (c := r.toRowW.claim) (tree := fun vs => do match ← nsGet mainNs r.name with
      | some f => do ret (← PySem.call f vs)
      | none => unsupported "claim.caller:no-such-global") hz hgens fun args hpre hlay ord hord => ?_
  have G' : Ground q loose r.toRowW.records (fun _ _ => True) w s (s.heap.nsMap mainGlobals) (s.heap.nsMap builtinsNs) s.heap := by
    rw [show r.toRowW.records = [] from hrec]; exact G
  obtain ⟨⟨vs, s₁⟩, hlaid⟩ := Option.isSome_iff_exists.mp (layAllW_isSome (P := w.params) (ord := ord) G'.has args r.args s (pre_splitW hpre).1)
  have keeps := layAllW_keeps _ _ _ hlaid
  have hal := layAllW_rest _ _ _ hlaid
  obtain ⟨as, hrd, hin, hold⟩ := reads_layAllW hord _ _ _ hlaid hlay s₁.heap (fun _ _ e => e)
  have L : Laid r.toRowW.records w s s₁ args vs as := ⟨⟨ord, hord, hlaid⟩, hrd, hin, hold, keeps, hal.1.trans hgens, hal.2.2.1⟩
  have G₁ := G'.keeps (fun _ _ _ _ _ => trivial) keeps
  obtain ⟨a, o, pm, cd, doc, dV, kV, h1, h2, h3, h4, h5⟩ := G₁.fn hdef
  have hn : s₁.heap.Ns mainGlobals _ := G₁.T.g
  have h := call w s s₁ _ _ G₁ y a o pm cd doc dV kV h2 h3 h4 h5 (defOf_name hdef ▸ h1) L.gens args vs as L hpre hlay L.reads L.well (L.low G.low)
  have hi := ident_freeW hu ha hap
  have hwi : r.toRowW.claim.within = [] := List.isEmpty_iff.mp k6
  have hwr : (!r.writes || r.toRowW.records.isEmpty) = true := by rw [show r.toRowW.records = [] from hrec]; simp
  refine ⟨vs, s₁, hlaid, wpAny_bind (wpAny_nsGet hn ?_)⟩
  rw [h1]
  refine wpAny_bind (wpAny_mono h (fun v s' g => wpAny_pure ?_) fun e s' g => ?_)
  · have z := g.laid (c := r.toRowW.claim) hsame hwi hi L
    exact ⟨_, rfl, z.1, z.2.1, z.2.2, fun q => ⟨namesKept_of hT hg r.keeps keeps g.2.1.old, noTable hwr q⟩⟩
  · have z := g.laid (c := r.toRowW.claim) hsame hwi hi L
    exact ⟨z.1, z.2.1, z.2.2, fun q => ⟨namesKept_of hT hg r.keeps keeps g.2.1.old, noTable hwr q⟩⟩
end HL
end
section
open PySem PySem.W PySem.Calls PyProof.Rows
set_option maxHeartbeats 0
namespace uk0030_01
noncomputable abbrev PW : Program := PySem.Challenge.pw_uk0030_01
noncomputable def fdOf : Stmt → FuncData
  | .FunctionDef n a b _ _ _ s _ _ _ => { name := n, qualname := n, params := a, body := .stmts b, scope := s, globals := 0, closure := [], defaults := .none, kwdefaults := .none }
  | _ => { name := Str.ofString "", qualname := Str.ofString "", params := ⟨[], [], none, [], [], none, []⟩, body := .stmts [], scope := { kind := .module, names := [], isGenerator := false, isCoroutine := false, more := [] }, globals := 0, closure := [], defaults := .none, kwdefaults := .none }
noncomputable def stm (i : Nat) : Stmt := PW.main.body.getD i (.Pass ⟨0, 0, 0, 0⟩)
noncomputable def fd1 (i : Nat) : FuncData := fdOf (stm i)
noncomputable def clsBody : Stmt → List Stmt
  | .ClassDef _ _ _ b _ _ _ _ _ _ _ => b
  | _ => []
noncomputable def fd2 (i j : Nat) : FuncData := fdOf ((clsBody (stm i)).getD j (.Pass ⟨0, 0, 0, 0⟩))
noncomputable def lf : Life := { registered := [], finalised := [], alive := [], known := 0, ids := [], orphanDicts := [], counting := false, cnt := #[], zero := [], soft := 0, below := false, collecting := false, loading := false, debug := 0, thresholds := [2000, 10, 10], woke := false, asked := 0, gcEnabled := true, old := [], middle := [], young := 0, intoMiddle := false }
noncomputable def dr : Drawn := ⟨0, 0, 0, 0⟩
noncomputable abbrev nd := @BT.node
noncomputable abbrev nl := BT.nil
noncomputable abbrev iS : Nat := 9
noncomputable abbrev iD : Nat := 11
noncomputable abbrev nCells : Nat := 29
noncomputable abbrev n0 : Nat := 28
noncomputable abbrev nb : Nat := 32
noncomputable abbrev n1 : Nat := 73
noncomputable abbrev n2 : Nat := 84
noncomputable abbrev n3 : Nat := 91
noncomputable abbrev ne : Nat := 28
noncomputable abbrev ke : Nat := 276
noncomputable abbrev k0 : Nat := 276
noncomputable abbrev ka : Nat := 282
noncomputable abbrev kb : Nat := 282
noncomputable abbrev k1 : Nat := 350
noncomputable abbrev k2 : Nat := 410
noncomputable abbrev k3 : Nat := 417
noncomputable abbrev m1 : Nat := 221
noncomputable abbrev m2 : Nat := 998
noncomputable abbrev m3 : Nat := 29
noncomputable abbrev mR : Nat := 1238
noncomputable abbrev nD : Nat := 130
noncomputable abbrev nF : Nat := 341
noncomputable abbrev kF : Nat := 2681
noncomputable abbrev frA : Nat := 31
noncomputable abbrev pPre : Pos := ⟨0, 0, 0, 0⟩
noncomputable abbrev pFr : Pos := ⟨0, 0, 0, 0⟩
noncomputable abbrev pB : Pos := ⟨0, 0, 0, 0⟩
noncomputable abbrev p1 : Pos := ⟨82, 0, 82, 8⟩
noncomputable abbrev p2 : Pos := ⟨83, 0, 83, 6⟩
noncomputable abbrev p3 : Pos := ⟨84, 0, 85, 30⟩
noncomputable abbrev pF : Pos := ⟨251, 0, 264, 73⟩
noncomputable abbrev codeV : Value := (.ref 30)
noncomputable abbrev annV : Option Value := (some (.ref 6))
noncomputable def o0e (P : Params) : Obj := ⟨(.type "dict"), none, (.dict #[⟨PyData.keyHash P (Str.ofString "__name__"), (.str (Str.ofString "__name__") 1), (.str (Str.ofString "builtins") 160)⟩, ⟨PyData.keyHash P (Str.ofString "__doc__"), (.str (Str.ofString "__doc__") 2), (.builtin "builtins.__doc__:str#opaque")⟩, ⟨PyData.keyHash P (Str.ofString "__package__"), (.str (Str.ofString "__package__") 3), (.builtin "builtins.__package__:str#opaque")⟩, ⟨PyData.keyHash P (Str.ofString "__loader__"), (.str (Str.ofString "__loader__") 4), (.builtin "builtins.__loader__:shared#opaque")⟩, ⟨PyData.keyHash P (Str.ofString "__spec__"), (.str (Str.ofString "__spec__") 5), (.builtin "builtins.__spec__#opaque")⟩, ⟨PyData.keyHash P (Str.ofString "__build_class__"), (.str (Str.ofString "__build_class__") 6), (.builtin "__build_class__")⟩, ⟨PyData.keyHash P (Str.ofString "__import__"), (.str (Str.ofString "__import__") 7), (.builtin "__import__")⟩, ⟨PyData.keyHash P (Str.ofString "abs"), (.str (Str.ofString "abs") 8), (.builtin "abs")⟩, ⟨PyData.keyHash P (Str.ofString "all"), (.str (Str.ofString "all") 9), (.builtin "all")⟩, ⟨PyData.keyHash P (Str.ofString "any"), (.str (Str.ofString "any") 10), (.builtin "any")⟩, ⟨PyData.keyHash P (Str.ofString "ascii"), (.str (Str.ofString "ascii") 11), (.builtin "ascii")⟩, ⟨PyData.keyHash P (Str.ofString "bin"), (.str (Str.ofString "bin") 12), (.builtin "bin")⟩, ⟨PyData.keyHash P (Str.ofString "breakpoint"), (.str (Str.ofString "breakpoint") 13), (.builtin "breakpoint")⟩, ⟨PyData.keyHash P (Str.ofString "callable"), (.str (Str.ofString "callable") 14), (.builtin "callable")⟩, ⟨PyData.keyHash P (Str.ofString "chr"), (.str (Str.ofString "chr") 15), (.builtin "chr")⟩, ⟨PyData.keyHash P (Str.ofString "compile"), (.str (Str.ofString "compile") 16), (.builtin "compile")⟩, ⟨PyData.keyHash P (Str.ofString "delattr"), (.str (Str.ofString "delattr") 17), (.builtin "delattr")⟩, ⟨PyData.keyHash P (Str.ofString "dir"), (.str (Str.ofString "dir") 18), (.builtin "dir")⟩, ⟨PyData.keyHash P (Str.ofString "divmod"), (.str (Str.ofString "divmod") 19), (.builtin "divmod")⟩, ⟨PyData.keyHash P (Str.ofString "eval"), (.str (Str.ofString "eval") 20), (.builtin "eval")⟩, ⟨PyData.keyHash P (Str.ofString "exec"), (.str (Str.ofString "exec") 21), (.builtin "exec")⟩, ⟨PyData.keyHash P (Str.ofString "format"), (.str (Str.ofString "format") 22), (.builtin "format")⟩, ⟨PyData.keyHash P (Str.ofString "getattr"), (.str (Str.ofString "getattr") 23), (.builtin "getattr")⟩, ⟨PyData.keyHash P (Str.ofString "globals"), (.str (Str.ofString "globals") 24), (.builtin "globals")⟩, ⟨PyData.keyHash P (Str.ofString "hasattr"), (.str (Str.ofString "hasattr") 25), (.builtin "hasattr")⟩, ⟨PyData.keyHash P (Str.ofString "hash"), (.str (Str.ofString "hash") 26), (.builtin "hash")⟩, ⟨PyData.keyHash P (Str.ofString "hex"), (.str (Str.ofString "hex") 27), (.builtin "hex")⟩, ⟨PyData.keyHash P (Str.ofString "id"), (.str (Str.ofString "id") 28), (.builtin "id")⟩, ⟨PyData.keyHash P (Str.ofString "input"), (.str (Str.ofString "input") 29), (.builtin "input")⟩, ⟨PyData.keyHash P (Str.ofString "isinstance"), (.str (Str.ofString "isinstance") 30), (.builtin "isinstance")⟩, ⟨PyData.keyHash P (Str.ofString "issubclass"), (.str (Str.ofString "issubclass") 31), (.builtin "issubclass")⟩, ⟨PyData.keyHash P (Str.ofString "iter"), (.str (Str.ofString "iter") 32), (.builtin "iter")⟩, ⟨PyData.keyHash P (Str.ofString "aiter"), (.str (Str.ofString "aiter") 33), (.builtin "aiter")⟩, ⟨PyData.keyHash P (Str.ofString "len"), (.str (Str.ofString "len") 34), (.builtin "len")⟩, ⟨PyData.keyHash P (Str.ofString "locals"), (.str (Str.ofString "locals") 35), (.builtin "locals")⟩, ⟨PyData.keyHash P (Str.ofString "max"), (.str (Str.ofString "max") 36), (.builtin "max")⟩, ⟨PyData.keyHash P (Str.ofString "min"), (.str (Str.ofString "min") 37), (.builtin "min")⟩, ⟨PyData.keyHash P (Str.ofString "next"), (.str (Str.ofString "next") 38), (.builtin "next")⟩, ⟨PyData.keyHash P (Str.ofString "anext"), (.str (Str.ofString "anext") 39), (.builtin "anext")⟩, ⟨PyData.keyHash P (Str.ofString "oct"), (.str (Str.ofString "oct") 40), (.builtin "oct")⟩, ⟨PyData.keyHash P (Str.ofString "ord"), (.str (Str.ofString "ord") 41), (.builtin "ord")⟩, ⟨PyData.keyHash P (Str.ofString "pow"), (.str (Str.ofString "pow") 42), (.builtin "pow")⟩, ⟨PyData.keyHash P (Str.ofString "print"), (.str (Str.ofString "print") 43), (.builtin "print")⟩, ⟨PyData.keyHash P (Str.ofString "repr"), (.str (Str.ofString "repr") 44), (.builtin "repr")⟩, ⟨PyData.keyHash P (Str.ofString "round"), (.str (Str.ofString "round") 45), (.builtin "round")⟩, ⟨PyData.keyHash P (Str.ofString "setattr"), (.str (Str.ofString "setattr") 46), (.builtin "setattr")⟩, ⟨PyData.keyHash P (Str.ofString "sorted"), (.str (Str.ofString "sorted") 47), (.builtin "sorted")⟩, ⟨PyData.keyHash P (Str.ofString "sum"), (.str (Str.ofString "sum") 48), (.builtin "sum")⟩, ⟨PyData.keyHash P (Str.ofString "vars"), (.str (Str.ofString "vars") 49), (.builtin "vars")⟩, ⟨PyData.keyHash P (Str.ofString "None"), (.str (Str.ofString "None") 50), .none⟩, ⟨PyData.keyHash P (Str.ofString "Ellipsis"), (.str (Str.ofString "Ellipsis") 51), .ellipsis⟩, ⟨PyData.keyHash P (Str.ofString "NotImplemented"), (.str (Str.ofString "NotImplemented") 52), .notImplemented⟩, ⟨PyData.keyHash P (Str.ofString "False"), (.str (Str.ofString "False") 53), (.bool false)⟩, ⟨PyData.keyHash P (Str.ofString "True"), (.str (Str.ofString "True") 54), (.bool true)⟩, ⟨PyData.keyHash P (Str.ofString "bool"), (.str (Str.ofString "bool") 55), (.type "bool")⟩, ⟨PyData.keyHash P (Str.ofString "memoryview"), (.str (Str.ofString "memoryview") 56), (.type "memoryview")⟩, ⟨PyData.keyHash P (Str.ofString "bytearray"), (.str (Str.ofString "bytearray") 57), (.type "bytearray")⟩, ⟨PyData.keyHash P (Str.ofString "bytes"), (.str (Str.ofString "bytes") 58), (.type "bytes")⟩, ⟨PyData.keyHash P (Str.ofString "classmethod"), (.str (Str.ofString "classmethod") 59), (.type "classmethod")⟩, ⟨PyData.keyHash P (Str.ofString "complex"), (.str (Str.ofString "complex") 60), (.type "complex")⟩, ⟨PyData.keyHash P (Str.ofString "dict"), (.str (Str.ofString "dict") 61), (.type "dict")⟩, ⟨PyData.keyHash P (Str.ofString "enumerate"), (.str (Str.ofString "enumerate") 62), (.type "enumerate")⟩, ⟨PyData.keyHash P (Str.ofString "filter"), (.str (Str.ofString "filter") 63), (.type "filter")⟩, ⟨PyData.keyHash P (Str.ofString "float"), (.str (Str.ofString "float") 64), (.type "float")⟩, ⟨PyData.keyHash P (Str.ofString "frozenset"), (.str (Str.ofString "frozenset") 65), (.type "frozenset")⟩, ⟨PyData.keyHash P (Str.ofString "property"), (.str (Str.ofString "property") 66), (.type "property")⟩, ⟨PyData.keyHash P (Str.ofString "int"), (.str (Str.ofString "int") 67), (.type "int")⟩, ⟨PyData.keyHash P (Str.ofString "list"), (.str (Str.ofString "list") 68), (.type "list")⟩, ⟨PyData.keyHash P (Str.ofString "map"), (.str (Str.ofString "map") 69), (.type "map")⟩, ⟨PyData.keyHash P (Str.ofString "object"), (.str (Str.ofString "object") 70), (.type "object")⟩, ⟨PyData.keyHash P (Str.ofString "range"), (.str (Str.ofString "range") 71), (.type "range")⟩, ⟨PyData.keyHash P (Str.ofString "reversed"), (.str (Str.ofString "reversed") 72), (.type "reversed")⟩, ⟨PyData.keyHash P (Str.ofString "set"), (.str (Str.ofString "set") 73), (.type "set")⟩, ⟨PyData.keyHash P (Str.ofString "slice"), (.str (Str.ofString "slice") 74), (.type "slice")⟩, ⟨PyData.keyHash P (Str.ofString "staticmethod"), (.str (Str.ofString "staticmethod") 75), (.type "staticmethod")⟩, ⟨PyData.keyHash P (Str.ofString "str"), (.str (Str.ofString "str") 76), (.type "str")⟩, ⟨PyData.keyHash P (Str.ofString "super"), (.str (Str.ofString "super") 77), (.type "super")⟩, ⟨PyData.keyHash P (Str.ofString "tuple"), (.str (Str.ofString "tuple") 78), (.type "tuple")⟩, ⟨PyData.keyHash P (Str.ofString "type"), (.str (Str.ofString "type") 79), (.type "type")⟩, ⟨PyData.keyHash P (Str.ofString "zip"), (.str (Str.ofString "zip") 80), (.type "zip")⟩, ⟨PyData.keyHash P (Str.ofString "__debug__"), (.str (Str.ofString "__debug__") 81), (.bool true)⟩, ⟨PyData.keyHash P (Str.ofString "BaseException"), (.str (Str.ofString "BaseException") 82), (.type "BaseException")⟩, ⟨PyData.keyHash P (Str.ofString "BaseExceptionGroup"), (.str (Str.ofString "BaseExceptionGroup") 83), (.type "BaseExceptionGroup")⟩, ⟨PyData.keyHash P (Str.ofString "Exception"), (.str (Str.ofString "Exception") 84), (.type "Exception")⟩, ⟨PyData.keyHash P (Str.ofString "GeneratorExit"), (.str (Str.ofString "GeneratorExit") 85), (.type "GeneratorExit")⟩, ⟨PyData.keyHash P (Str.ofString "KeyboardInterrupt"), (.str (Str.ofString "KeyboardInterrupt") 86), (.type "KeyboardInterrupt")⟩, ⟨PyData.keyHash P (Str.ofString "SystemExit"), (.str (Str.ofString "SystemExit") 87), (.type "SystemExit")⟩, ⟨PyData.keyHash P (Str.ofString "ArithmeticError"), (.str (Str.ofString "ArithmeticError") 88), (.type "ArithmeticError")⟩, ⟨PyData.keyHash P (Str.ofString "AssertionError"), (.str (Str.ofString "AssertionError") 89), (.type "AssertionError")⟩, ⟨PyData.keyHash P (Str.ofString "AttributeError"), (.str (Str.ofString "AttributeError") 90), (.type "AttributeError")⟩, ⟨PyData.keyHash P (Str.ofString "BufferError"), (.str (Str.ofString "BufferError") 91), (.type "BufferError")⟩, ⟨PyData.keyHash P (Str.ofString "EOFError"), (.str (Str.ofString "EOFError") 92), (.type "EOFError")⟩, ⟨PyData.keyHash P (Str.ofString "ImportError"), (.str (Str.ofString "ImportError") 93), (.type "ImportError")⟩, ⟨PyData.keyHash P (Str.ofString "LookupError"), (.str (Str.ofString "LookupError") 94), (.type "LookupError")⟩, ⟨PyData.keyHash P (Str.ofString "MemoryError"), (.str (Str.ofString "MemoryError") 95), (.type "MemoryError")⟩, ⟨PyData.keyHash P (Str.ofString "NameError"), (.str (Str.ofString "NameError") 96), (.type "NameError")⟩, ⟨PyData.keyHash P (Str.ofString "OSError"), (.str (Str.ofString "OSError") 97), (.type "OSError")⟩, ⟨PyData.keyHash P (Str.ofString "ReferenceError"), (.str (Str.ofString "ReferenceError") 98), (.type "ReferenceError")⟩, ⟨PyData.keyHash P (Str.ofString "RuntimeError"), (.str (Str.ofString "RuntimeError") 99), (.type "RuntimeError")⟩, ⟨PyData.keyHash P (Str.ofString "StopAsyncIteration"), (.str (Str.ofString "StopAsyncIteration") 100), (.type "StopAsyncIteration")⟩, ⟨PyData.keyHash P (Str.ofString "StopIteration"), (.str (Str.ofString "StopIteration") 101), (.type "StopIteration")⟩, ⟨PyData.keyHash P (Str.ofString "SyntaxError"), (.str (Str.ofString "SyntaxError") 102), (.type "SyntaxError")⟩, ⟨PyData.keyHash P (Str.ofString "SystemError"), (.str (Str.ofString "SystemError") 103), (.type "SystemError")⟩, ⟨PyData.keyHash P (Str.ofString "TypeError"), (.str (Str.ofString "TypeError") 104), (.type "TypeError")⟩, ⟨PyData.keyHash P (Str.ofString "ValueError"), (.str (Str.ofString "ValueError") 105), (.type "ValueError")⟩, ⟨PyData.keyHash P (Str.ofString "Warning"), (.str (Str.ofString "Warning") 106), (.type "Warning")⟩, ⟨PyData.keyHash P (Str.ofString "FloatingPointError"), (.str (Str.ofString "FloatingPointError") 107), (.type "FloatingPointError")⟩, ⟨PyData.keyHash P (Str.ofString "OverflowError"), (.str (Str.ofString "OverflowError") 108), (.type "OverflowError")⟩, ⟨PyData.keyHash P (Str.ofString "ZeroDivisionError"), (.str (Str.ofString "ZeroDivisionError") 109), (.type "ZeroDivisionError")⟩, ⟨PyData.keyHash P (Str.ofString "BytesWarning"), (.str (Str.ofString "BytesWarning") 110), (.type "BytesWarning")⟩, ⟨PyData.keyHash P (Str.ofString "DeprecationWarning"), (.str (Str.ofString "DeprecationWarning") 111), (.type "DeprecationWarning")⟩, ⟨PyData.keyHash P (Str.ofString "EncodingWarning"), (.str (Str.ofString "EncodingWarning") 112), (.type "EncodingWarning")⟩, ⟨PyData.keyHash P (Str.ofString "FutureWarning"), (.str (Str.ofString "FutureWarning") 113), (.type "FutureWarning")⟩, ⟨PyData.keyHash P (Str.ofString "ImportWarning"), (.str (Str.ofString "ImportWarning") 114), (.type "ImportWarning")⟩, ⟨PyData.keyHash P (Str.ofString "PendingDeprecationWarning"), (.str (Str.ofString "PendingDeprecationWarning") 115), (.type "PendingDeprecationWarning")⟩, ⟨PyData.keyHash P (Str.ofString "ResourceWarning"), (.str (Str.ofString "ResourceWarning") 116), (.type "ResourceWarning")⟩, ⟨PyData.keyHash P (Str.ofString "RuntimeWarning"), (.str (Str.ofString "RuntimeWarning") 117), (.type "RuntimeWarning")⟩, ⟨PyData.keyHash P (Str.ofString "SyntaxWarning"), (.str (Str.ofString "SyntaxWarning") 118), (.type "SyntaxWarning")⟩, ⟨PyData.keyHash P (Str.ofString "UnicodeWarning"), (.str (Str.ofString "UnicodeWarning") 119), (.type "UnicodeWarning")⟩, ⟨PyData.keyHash P (Str.ofString "UserWarning"), (.str (Str.ofString "UserWarning") 120), (.type "UserWarning")⟩, ⟨PyData.keyHash P (Str.ofString "BlockingIOError"), (.str (Str.ofString "BlockingIOError") 121), (.type "BlockingIOError")⟩, ⟨PyData.keyHash P (Str.ofString "ChildProcessError"), (.str (Str.ofString "ChildProcessError") 122), (.type "ChildProcessError")⟩, ⟨PyData.keyHash P (Str.ofString "ConnectionError"), (.str (Str.ofString "ConnectionError") 123), (.type "ConnectionError")⟩, ⟨PyData.keyHash P (Str.ofString "FileExistsError"), (.str (Str.ofString "FileExistsError") 124), (.type "FileExistsError")⟩, ⟨PyData.keyHash P (Str.ofString "FileNotFoundError"), (.str (Str.ofString "FileNotFoundError") 125), (.type "FileNotFoundError")⟩, ⟨PyData.keyHash P (Str.ofString "InterruptedError"), (.str (Str.ofString "InterruptedError") 126), (.type "InterruptedError")⟩, ⟨PyData.keyHash P (Str.ofString "IsADirectoryError"), (.str (Str.ofString "IsADirectoryError") 127), (.type "IsADirectoryError")⟩, ⟨PyData.keyHash P (Str.ofString "NotADirectoryError"), (.str (Str.ofString "NotADirectoryError") 128), (.type "NotADirectoryError")⟩, ⟨PyData.keyHash P (Str.ofString "PermissionError"), (.str (Str.ofString "PermissionError") 129), (.type "PermissionError")⟩, ⟨PyData.keyHash P (Str.ofString "ProcessLookupError"), (.str (Str.ofString "ProcessLookupError") 130), (.type "ProcessLookupError")⟩, ⟨PyData.keyHash P (Str.ofString "TimeoutError"), (.str (Str.ofString "TimeoutError") 131), (.type "TimeoutError")⟩, ⟨PyData.keyHash P (Str.ofString "IndentationError"), (.str (Str.ofString "IndentationError") 132), (.type "IndentationError")⟩, ⟨PyData.keyHash P (Str.ofString "_IncompleteInputError"), (.str (Str.ofString "_IncompleteInputError") 133), (.type "_IncompleteInputError")⟩, ⟨PyData.keyHash P (Str.ofString "IndexError"), (.str (Str.ofString "IndexError") 134), (.type "IndexError")⟩, ⟨PyData.keyHash P (Str.ofString "KeyError"), (.str (Str.ofString "KeyError") 135), (.type "KeyError")⟩, ⟨PyData.keyHash P (Str.ofString "ModuleNotFoundError"), (.str (Str.ofString "ModuleNotFoundError") 136), (.type "ModuleNotFoundError")⟩, ⟨PyData.keyHash P (Str.ofString "NotImplementedError"), (.str (Str.ofString "NotImplementedError") 137), (.type "NotImplementedError")⟩, ⟨PyData.keyHash P (Str.ofString "PythonFinalizationError"), (.str (Str.ofString "PythonFinalizationError") 138), (.type "PythonFinalizationError")⟩, ⟨PyData.keyHash P (Str.ofString "RecursionError"), (.str (Str.ofString "RecursionError") 139), (.type "RecursionError")⟩, ⟨PyData.keyHash P (Str.ofString "UnboundLocalError"), (.str (Str.ofString "UnboundLocalError") 140), (.type "UnboundLocalError")⟩, ⟨PyData.keyHash P (Str.ofString "UnicodeError"), (.str (Str.ofString "UnicodeError") 141), (.type "UnicodeError")⟩, ⟨PyData.keyHash P (Str.ofString "BrokenPipeError"), (.str (Str.ofString "BrokenPipeError") 142), (.type "BrokenPipeError")⟩, ⟨PyData.keyHash P (Str.ofString "ConnectionAbortedError"), (.str (Str.ofString "ConnectionAbortedError") 143), (.type "ConnectionAbortedError")⟩, ⟨PyData.keyHash P (Str.ofString "ConnectionRefusedError"), (.str (Str.ofString "ConnectionRefusedError") 144), (.type "ConnectionRefusedError")⟩, ⟨PyData.keyHash P (Str.ofString "ConnectionResetError"), (.str (Str.ofString "ConnectionResetError") 145), (.type "ConnectionResetError")⟩, ⟨PyData.keyHash P (Str.ofString "TabError"), (.str (Str.ofString "TabError") 146), (.type "TabError")⟩, ⟨PyData.keyHash P (Str.ofString "UnicodeDecodeError"), (.str (Str.ofString "UnicodeDecodeError") 147), (.type "UnicodeDecodeError")⟩, ⟨PyData.keyHash P (Str.ofString "UnicodeEncodeError"), (.str (Str.ofString "UnicodeEncodeError") 148), (.type "UnicodeEncodeError")⟩, ⟨PyData.keyHash P (Str.ofString "UnicodeTranslateError"), (.str (Str.ofString "UnicodeTranslateError") 149), (.type "UnicodeTranslateError")⟩, ⟨PyData.keyHash P (Str.ofString "ExceptionGroup"), (.str (Str.ofString "ExceptionGroup") 150), (.type "ExceptionGroup")⟩, ⟨PyData.keyHash P (Str.ofString "EnvironmentError"), (.str (Str.ofString "EnvironmentError") 151), (.type "OSError")⟩, ⟨PyData.keyHash P (Str.ofString "IOError"), (.str (Str.ofString "IOError") 152), (.type "OSError")⟩, ⟨PyData.keyHash P (Str.ofString "open"), (.str (Str.ofString "open") 153), (.builtin "open")⟩, ⟨PyData.keyHash P (Str.ofString "quit"), (.str (Str.ofString "quit") 154), (.builtin "builtins.quit#opaque")⟩, ⟨PyData.keyHash P (Str.ofString "exit"), (.str (Str.ofString "exit") 155), (.builtin "builtins.exit#opaque")⟩, ⟨PyData.keyHash P (Str.ofString "copyright"), (.str (Str.ofString "copyright") 156), (.builtin "builtins.copyright#opaque")⟩, ⟨PyData.keyHash P (Str.ofString "credits"), (.str (Str.ofString "credits") 157), (.builtin "builtins.credits#opaque")⟩, ⟨PyData.keyHash P (Str.ofString "license"), (.str (Str.ofString "license") 158), (.builtin "builtins.license#opaque")⟩, ⟨PyData.keyHash P (Str.ofString "help"), (.str (Str.ofString "help") 159), (.builtin "builtins.help#opaque")⟩] 159), #[]⟩
noncomputable def o1e (P : Params) : Obj := ⟨(.type "dict"), none, (.dict #[⟨PyData.keyHash P (Str.ofString "builtins"), (.str (Str.ofString "builtins") 162), (.ref 4)⟩, ⟨PyData.keyHash P (Str.ofString "__main__"), (.str (Str.ofString "__main__") 163), (.ref 5)⟩, ⟨PyData.keyHash P (Str.ofString "_sre"), (.str (Str.ofString "_sre") 244), (.ref 12)⟩] 3), #[]⟩
noncomputable def o2e (P : Params) : Obj := ⟨.none, none, (.dict #[⟨PyData.keyHash P (Str.ofString "\x69mport.loaded._sre"), (.str (Str.ofString "\x69mport.loaded._sre") 183), (.bool true)⟩, ⟨PyData.keyHash P (Str.ofString "class._frozen_importlib.BuiltinImporter"), (.str (Str.ofString "class._frozen_importlib.BuiltinImporter") 185), (.ref 14)⟩, ⟨PyData.keyHash P (Str.ofString "watched.\x69mport"), (.str (Str.ofString "watched.\x69mport") 206), (.ref 18)⟩, ⟨PyData.keyHash P (Str.ofString "class._frozen_importlib.ModuleSpec"), (.str (Str.ofString "class._frozen_importlib.ModuleSpec") 216), (.ref 22)⟩, ⟨PyData.keyHash P (Str.ofString "sys.modules.booked-epoch"), (.str (Str.ofString "sys.modules.booked-epoch") 245), (.int 3 0)⟩, ⟨PyData.keyHash P (Str.ofString "\x69mport.later-laid._sre"), (.str (Str.ofString "\x69mport.later-laid._sre") 270), (.bool true)⟩, ⟨PyData.keyHash P (Str.ofString "watched.library"), (.str (Str.ofString "watched.library") 272), (.ref 27)⟩, ⟨PyData.keyHash P (Str.ofString "watched.library-objects"), (.str (Str.ofString "watched.library-objects") 0), (.str (Str.mk #[12]) 0)⟩, ⟨PyData.keyHash P (Str.ofString "watched.library-deep._sre"), (.str (Str.ofString "watched.library-deep._sre") 273), (.str (Str.mk #[4, 0, 0, 11, 4, 0, 0, 11, 4, 0, 0, 3, 4, 0, 0, 11, 8, 4, 100, 105, 99, 116, 2]) 0)⟩] 9), #[]⟩
noncomputable def o3e (P : Params) : Obj := ⟨(.type "dict"), none, (.dict #[⟨PyData.keyHash P (Str.ofString "__name__"), (.str (Str.ofString "__name__") 165), (.str (Str.ofString "__main__") 164)⟩, ⟨PyData.keyHash P (Str.ofString "__doc__"), (.str (Str.ofString "__doc__") 166), .none⟩, ⟨PyData.keyHash P (Str.ofString "__package__"), (.str (Str.ofString "__package__") 167), .none⟩, ⟨PyData.keyHash P (Str.ofString "__loader__"), (.str (Str.ofString "__loader__") 168), (.builtin "__main__.__loader__#opaque")⟩, ⟨PyData.keyHash P (Str.ofString "__spec__"), (.str (Str.ofString "__spec__") 169), .none⟩, ⟨PyData.keyHash P (Str.ofString "__annotations__"), (.str (Str.ofString "__annotations__") 170), (.ref 6)⟩, ⟨PyData.keyHash P (Str.ofString "__builtins__"), (.str (Str.ofString "__builtins__") 171), (.ref 4)⟩, ⟨PyData.keyHash P (Str.ofString "__file__"), (.str (Str.ofString "__file__") 173), (.str (Str.ofString "/claim/cut.py") 172)⟩, ⟨PyData.keyHash P (Str.ofString "__cached__"), (.str (Str.ofString "__cached__") 174), .none⟩, ⟨PyData.keyHash P (Str.ofString "_sre"), (.str (Str.ofString "_sre") 275), (.ref 12)⟩] 10), #[]⟩
noncomputable def o4e (P : Params) : Obj := ⟨(.type "module"), (some 0), .plain, #[]⟩
noncomputable def o5e (P : Params) : Obj := ⟨(.type "module"), (some 3), .plain, #[]⟩
noncomputable def o6e (P : Params) : Obj := ⟨(.type "dict"), none, (.dict #[] 0), #[]⟩
noncomputable def o7e (P : Params) : Obj := ⟨(.type "tuple"), none, (.seq #[] 0), #[]⟩
noncomputable def o8e (P : Params) : Obj := ⟨.none, none, (.fields #[]), #[]⟩
noncomputable def o9e (P : Params) : Obj := ⟨(.type "code"), none, (.fields #[(.str (Str.ofString "<module>") 176), (.str (Str.ofString "<module>") 177), (.str (Str.ofString "/claim/cut.py") 178), (.int 1 0), (.int 0 0), (.int 0 0), (.int 0 0), (.int 0 0), (.ref 7), (.bool false), (.int 175 0), (.ref 8), .none, .none, .none, .none, (.int 179 0), (.int 1 0), (.str (Str.ofString "/claim/cut.py") 180)]), #[]⟩
noncomputable def o10e (P : Params) : Obj := ⟨(.type "frame"), none, .plain, #[(some (.ref 9)), (some (.ref 3)), (some (.ref 3)), none, (some (.str (Str.ofString "__main__") 164)), none, (some (.ref 0))]⟩
noncomputable def o11e (P : Params) : Obj := ⟨(.type "dict"), none, (.dict #[⟨PyData.keyHash P (Str.ofString "__name__"), (.str (Str.ofString "__name__") 247), (.str (Str.ofString "_sre") 246)⟩, ⟨PyData.keyHash P (Str.ofString "__doc__"), (.str (Str.ofString "__doc__") 248), .none⟩, ⟨PyData.keyHash P (Str.ofString "__package__"), (.str (Str.ofString "__package__") 250), (.str (Str.ofString "") 249)⟩, ⟨PyData.keyHash P (Str.ofString "__loader__"), (.str (Str.ofString "__loader__") 251), (.ref 14)⟩, ⟨PyData.keyHash P (Str.ofString "__spec__"), (.str (Str.ofString "__spec__") 252), (.ref 26)⟩, ⟨PyData.keyHash P (Str.ofString "compile"), (.str (Str.ofString "compile") 253), (.builtin "_sre.compile")⟩, ⟨PyData.keyHash P (Str.ofString "template"), (.str (Str.ofString "template") 254), (.builtin "_sre.template")⟩, ⟨PyData.keyHash P (Str.ofString "getcodesize"), (.str (Str.ofString "getcodesize") 255), (.builtin "_sre.getcodesize")⟩, ⟨PyData.keyHash P (Str.ofString "ascii_iscased"), (.str (Str.ofString "ascii_iscased") 256), (.builtin "_sre.ascii_iscased")⟩, ⟨PyData.keyHash P (Str.ofString "unicode_iscased"), (.str (Str.ofString "unicode_iscased") 257), (.builtin "_sre.unicode_iscased")⟩, ⟨PyData.keyHash P (Str.ofString "ascii_tolower"), (.str (Str.ofString "ascii_tolower") 258), (.builtin "_sre.ascii_tolower")⟩, ⟨PyData.keyHash P (Str.ofString "unicode_tolower"), (.str (Str.ofString "unicode_tolower") 259), (.builtin "_sre.unicode_tolower")⟩, ⟨PyData.keyHash P (Str.ofString "MAGIC"), (.str (Str.ofString "MAGIC") 261), (.int 20230612 260)⟩, ⟨PyData.keyHash P (Str.ofString "CODESIZE"), (.str (Str.ofString "CODESIZE") 263), (.int 4 262)⟩, ⟨PyData.keyHash P (Str.ofString "MAXREPEAT"), (.str (Str.ofString "MAXREPEAT") 265), (.int 4294967295 264)⟩, ⟨PyData.keyHash P (Str.ofString "MAXGROUPS"), (.str (Str.ofString "MAXGROUPS") 267), (.int 1073741823 266)⟩, ⟨PyData.keyHash P (Str.ofString "copyright"), (.str (Str.ofString "copyright") 269), (.str (Str.ofString " SRE 2.2.2 Copyright (c) 1997-2002 by Secret Labs AB ") 268)⟩] 17), #[]⟩
noncomputable def o12e (P : Params) : Obj := ⟨(.type "module"), (some 11), .plain, #[]⟩
noncomputable def o13e (P : Params) : Obj := ⟨(.type "dict"), none, (.dict #[⟨PyData.keyHash P (Str.ofString "__module__"), (.str (Str.ofString "__module__") 189), (.str (Str.ofString "_frozen_importlib") 186)⟩, ⟨PyData.keyHash P (Str.ofString "__firstlineno__"), (.str (Str.ofString "__firstlineno__") 190), (.int 971 187)⟩, ⟨PyData.keyHash P (Str.ofString "__doc__"), (.str (Str.ofString "__doc__") 191), (.builtin "_frozen_importlib.BuiltinImporter.__doc__:str#opaque")⟩, ⟨PyData.keyHash P (Str.ofString "_ORIGIN"), (.str (Str.ofString "_ORIGIN") 192), (.str (Str.ofString "built-in") 188)⟩, ⟨PyData.keyHash P (Str.ofString "find_spec"), (.str (Str.ofString "find_spec") 193), (.builtin "_frozen_importlib.BuiltinImporter.find_spec#opaque")⟩, ⟨PyData.keyHash P (Str.ofString "create_module"), (.str (Str.ofString "create_module") 194), (.builtin "_frozen_importlib.BuiltinImporter.create_module#opaque")⟩, ⟨PyData.keyHash P (Str.ofString "exec_module"), (.str (Str.ofString "exec_module") 195), (.builtin "_frozen_importlib.BuiltinImporter.exec_module#opaque")⟩, ⟨PyData.keyHash P (Str.ofString "get_code"), (.str (Str.ofString "get_code") 196), (.builtin "_frozen_importlib.BuiltinImporter.get_code#opaque")⟩, ⟨PyData.keyHash P (Str.ofString "get_source"), (.str (Str.ofString "get_source") 197), (.builtin "_frozen_importlib.BuiltinImporter.get_source#opaque")⟩, ⟨PyData.keyHash P (Str.ofString "is_package"), (.str (Str.ofString "is_package") 198), (.builtin "_frozen_importlib.BuiltinImporter.is_package#opaque")⟩, ⟨PyData.keyHash P (Str.ofString "load_module"), (.str (Str.ofString "load_module") 199), (.builtin "_frozen_importlib.BuiltinImporter.load_module#opaque")⟩, ⟨PyData.keyHash P (Str.ofString "__static_attributes__"), (.str (Str.ofString "__static_attributes__") 200), (.ref 15)⟩, ⟨PyData.keyHash P (Str.ofString "__dict__"), (.str (Str.ofString "__dict__") 202), (.ref 16)⟩, ⟨PyData.keyHash P (Str.ofString "__weakref__"), (.str (Str.ofString "__weakref__") 204), (.ref 17)⟩] 14), #[]⟩
noncomputable def o14e (P : Params) : Obj := ⟨(.type "type"), none, (.cls { name := (Str.ofString "BuiltinImporter"), bases := [(.type "object")], mro := [(.ref 14), (.type "object")], ns := 13, qualname := (Str.ofString "BuiltinImporter"), hasDict := true, slotNames := [], subclasses := [], abstract := false, collection := none, hasDel := false }), #[]⟩
noncomputable def o15e (P : Params) : Obj := ⟨(.type "tuple"), none, (.seq #[] 0), #[]⟩
noncomputable def o16e (P : Params) : Obj := ⟨(.type "getset_descriptor"), none, (.fields #[(.str (Str.ofString "__dict__") 201), (.ref 14), (.builtin "function.__dict__"), (.builtin "function.__dict__#set")]), #[]⟩
noncomputable def o17e (P : Params) : Obj := ⟨(.type "getset_descriptor"), none, (.fields #[(.str (Str.ofString "__weakref__") 203), (.ref 14), (.builtin "ExceptionGroup.__weakref__"), .none]), #[]⟩
noncomputable def o18e (P : Params) : Obj := ⟨.none, none, (.seq #[(.int 13 0), (.str (Str.mk #[6, 189, 10, 95, 95, 109, 111, 100, 117, 108, 101, 95, 95, 6, 186, 17, 95, 102, 114, 111, 122, 101, 110, 95, 105, 109, 112, 111, 114, 116, 108, 105, 98, 6, 190, 15, 95, 95, 102, 105, 114, 115, 116, 108, 105, 110, 101, 110, 111, 95, 95, 4, 187, 0, 971, 6, 191, 7, 95, 95, 100, 111, 99, 95, 95, 9, 52, 95, 102, 114, 111, 122, 101, 110, 95, 105, 109, 112, 111, 114, 116, 108, 105, 98, 46, 66, 117, 105, 108, 116, 105, 110, 73, 109, 112, 111, 114, 116, 101, 114, 46, 95, 95, 100, 111, 99, 95, 95, 58, 115, 116, 114, 35, 111, 112, 97, 113, 117, 101, 6, 192, 7, 95, 79, 82, 73, 71, 73, 78, 6, 188, 8, 98, 117, 105, 108, 116, 45, 105, 110, 6, 193, 9, 102, 105, 110, 100, 95, 115, 112, 101, 99, 9, 50, 95, 102, 114, 111, 122, 101, 110, 95, 105, 109, 112, 111, 114, 116, 108, 105, 98, 46, 66, 117, 105, 108, 116, 105, 110, 73, 109, 112, 111, 114, 116, 101, 114, 46, 102, 105, 110, 100, 95, 115, 112, 101, 99, 35, 111, 112, 97, 113, 117, 101, 6, 194, 13, 99, 114, 101, 97, 116, 101, 95, 109, 111, 100, 117, 108, 101, 9, 54, 95, 102, 114, 111, 122, 101, 110, 95, 105, 109, 112, 111, 114, 116, 108, 105, 98, 46, 66, 117, 105, 108, 116, 105, 110, 73, 109, 112, 111, 114, 116, 101, 114, 46, 99, 114, 101, 97, 116, 101, 95, 109, 111, 100, 117, 108, 101, 35, 111, 112, 97, 113, 117, 101, 6, 195, 11, 101, 120, 101, 99, 95, 109, 111, 100, 117, 108, 101, 9, 52, 95, 102, 114, 111, 122, 101, 110, 95, 105, 109, 112, 111, 114, 116, 108, 105, 98, 46, 66, 117, 105, 108, 116, 105, 110, 73, 109, 112, 111, 114, 116, 101, 114, 46, 101, 120, 101, 99, 95, 109, 111, 100, 117, 108, 101, 35, 111, 112, 97, 113, 117, 101, 6, 196, 8, 103, 101, 116, 95, 99, 111, 100, 101, 9, 49, 95, 102, 114, 111, 122, 101, 110, 95, 105, 109, 112, 111, 114, 116, 108, 105, 98, 46, 66, 117, 105, 108, 116, 105, 110, 73, 109, 112, 111, 114, 116, 101, 114, 46, 103, 101, 116, 95, 99, 111, 100, 101, 35, 111, 112, 97, 113, 117, 101, 6, 197, 10, 103, 101, 116, 95, 115, 111, 117, 114, 99, 101, 9, 51, 95, 102, 114, 111, 122, 101, 110, 95, 105, 109, 112, 111, 114, 116, 108, 105, 98, 46, 66, 117, 105, 108, 116, 105, 110, 73, 109, 112, 111, 114, 116, 101, 114, 46, 103, 101, 116, 95, 115, 111, 117, 114, 99, 101, 35, 111, 112, 97, 113, 117, 101, 6, 198, 10, 105, 115, 95, 112, 97, 99, 107, 97, 103, 101, 9, 51, 95, 102, 114, 111, 122, 101, 110, 95, 105, 109, 112, 111, 114, 116, 108, 105, 98, 46, 66, 117, 105, 108, 116, 105, 110, 73, 109, 112, 111, 114, 116, 101, 114, 46, 105, 115, 95, 112, 97, 99, 107, 97, 103, 101, 35, 111, 112, 97, 113, 117, 101, 6, 199, 11, 108, 111, 97, 100, 95, 109, 111, 100, 117, 108, 101, 9, 52, 95, 102, 114, 111, 122, 101, 110, 95, 105, 109, 112, 111, 114, 116, 108, 105, 98, 46, 66, 117, 105, 108, 116, 105, 110, 73, 109, 112, 111, 114, 116, 101, 114, 46, 108, 111, 97, 100, 95, 109, 111, 100, 117, 108, 101, 35, 111, 112, 97, 113, 117, 101, 6, 200, 21, 95, 95, 115, 116, 97, 116, 105, 99, 95, 97, 116, 116, 114, 105, 98, 117, 116, 101, 115, 95, 95, 4, 0, 0, 15, 6, 202, 8, 95, 95, 100, 105, 99, 116, 95, 95, 4, 0, 0, 16, 6, 204, 11, 95, 95, 119, 101, 97, 107, 114, 101, 102, 95, 95, 4, 0, 0, 17]) 0), (.bool true), (.bool true), (.str (Str.ofString "") 205), (.int 21 0), (.str (Str.mk #[6, 227, 10, 95, 95, 109, 111, 100, 117, 108, 101, 95, 95, 6, 217, 17, 95, 102, 114, 111, 122, 101, 110, 95, 105, 109, 112, 111, 114, 116, 108, 105, 98, 6, 228, 15, 95, 95, 102, 105, 114, 115, 116, 108, 105, 110, 101, 110, 111, 95, 95, 4, 218, 0, 562, 6, 229, 7, 95, 95, 100, 111, 99, 95, 95, 9, 47, 95, 102, 114, 111, 122, 101, 110, 95, 105, 109, 112, 111, 114, 116, 108, 105, 98, 46, 77, 111, 100, 117, 108, 101, 83, 112, 101, 99, 46, 95, 95, 100, 111, 99, 95, 95, 58, 115, 116, 114, 35, 111, 112, 97, 113, 117, 101, 6, 230, 8, 95, 95, 105, 110, 105, 116, 95, 95, 9, 44, 95, 102, 114, 111, 122, 101, 110, 95, 105, 109, 112, 111, 114, 116, 108, 105, 98, 46, 77, 111, 100, 117, 108, 101, 83, 112, 101, 99, 46, 95, 95, 105, 110, 105, 116, 95, 95, 35, 111, 112, 97, 113, 117, 101, 6, 231, 8, 95, 95, 114, 101, 112, 114, 95, 95, 9, 44, 95, 102, 114, 111, 122, 101, 110, 95, 105, 109, 112, 111, 114, 116, 108, 105, 98, 46, 77, 111, 100, 117, 108, 101, 83, 112, 101, 99, 46, 95, 95, 114, 101, 112, 114, 95, 95, 35, 111, 112, 97, 113, 117, 101, 6, 232, 6, 95, 95, 101, 113, 95, 95, 9, 42, 95, 102, 114, 111, 122, 101, 110, 95, 105, 109, 112, 111, 114, 116, 108, 105, 98, 46, 77, 111, 100, 117, 108, 101, 83, 112, 101, 99, 46, 95, 95, 101, 113, 95, 95, 35, 111, 112, 97, 113, 117, 101, 6, 233, 6, 99, 97, 99, 104, 101, 100, 9, 42, 95, 102, 114, 111, 122, 101, 110, 95, 105, 109, 112, 111, 114, 116, 108, 105, 98, 46, 77, 111, 100, 117, 108, 101, 83, 112, 101, 99, 46, 99, 97, 99, 104, 101, 100, 35, 111, 112, 97, 113, 117, 101, 6, 234, 6, 112, 97, 114, 101, 110, 116, 9, 42, 95, 102, 114, 111, 122, 101, 110, 95, 105, 109, 112, 111, 114, 116, 108, 105, 98, 46, 77, 111, 100, 117, 108, 101, 83, 112, 101, 99, 46, 112, 97, 114, 101, 110, 116, 35, 111, 112, 97, 113, 117, 101, 6, 235, 12, 104, 97, 115, 95, 108, 111, 99, 97, 116, 105, 111, 110, 9, 48, 95, 102, 114, 111, 122, 101, 110, 95, 105, 109, 112, 111, 114, 116, 108, 105, 98, 46, 77, 111, 100, 117, 108, 101, 83, 112, 101, 99, 46, 104, 97, 115, 95, 108, 111, 99, 97, 116, 105, 111, 110, 35, 111, 112, 97, 113, 117, 101, 6, 236, 21, 95, 95, 115, 116, 97, 116, 105, 99, 95, 97, 116, 116, 114, 105, 98, 117, 116, 101, 115, 95, 95, 4, 0, 0, 23, 6, 238, 8, 95, 95, 100, 105, 99, 116, 95, 95, 4, 0, 0, 24, 6, 240, 11, 95, 95, 119, 101, 97, 107, 114, 101, 102, 95, 95, 4, 0, 0, 25, 6, 241, 8, 95, 95, 104, 97, 115, 104, 95, 95, 0]) 0), (.bool true), (.bool true), (.str (Str.ofString "") 242)] 1), #[]⟩
noncomputable def o19e (P : Params) : Obj := ⟨(.type "list"), none, (.seq #[] 0), #[]⟩
noncomputable def o20e (P : Params) : Obj := ⟨(.type "dict"), none, (.dict #[⟨PyData.keyHash P (Str.ofString "name"), (.str (Str.ofString "name") 208), (.str (Str.ofString "_sre") 207)⟩, ⟨PyData.keyHash P (Str.ofString "loader"), (.str (Str.ofString "loader") 209), (.ref 14)⟩, ⟨PyData.keyHash P (Str.ofString "origin"), (.str (Str.ofString "origin") 210), (.str (Str.ofString "built-in") 184)⟩, ⟨PyData.keyHash P (Str.ofString "loader_state"), (.str (Str.ofString "loader_state") 211), .none⟩, ⟨PyData.keyHash P (Str.ofString "submodule_search_locations"), (.str (Str.ofString "submodule_search_locations") 212), .none⟩, ⟨PyData.keyHash P (Str.ofString "_uninitialized_submodules"), (.str (Str.ofString "_uninitialized_submodules") 213), (.ref 19)⟩, ⟨PyData.keyHash P (Str.ofString "_set_fileattr"), (.str (Str.ofString "_set_fileattr") 214), (.bool false)⟩, ⟨PyData.keyHash P (Str.ofString "_cached"), (.str (Str.ofString "_cached") 215), .none⟩, ⟨PyData.keyHash P (Str.ofString "_initializing"), (.str (Str.ofString "_initializing") 243), (.bool false)⟩] 9), #[]⟩
noncomputable def o21e (P : Params) : Obj := ⟨(.type "dict"), none, (.dict #[⟨PyData.keyHash P (Str.ofString "__module__"), (.str (Str.ofString "__module__") 227), (.str (Str.ofString "_frozen_importlib") 217)⟩, ⟨PyData.keyHash P (Str.ofString "__firstlineno__"), (.str (Str.ofString "__firstlineno__") 228), (.int 562 218)⟩, ⟨PyData.keyHash P (Str.ofString "__doc__"), (.str (Str.ofString "__doc__") 229), (.builtin "_frozen_importlib.ModuleSpec.__doc__:str#opaque")⟩, ⟨PyData.keyHash P (Str.ofString "__init__"), (.str (Str.ofString "__init__") 230), (.builtin "_frozen_importlib.ModuleSpec.__init__#opaque")⟩, ⟨PyData.keyHash P (Str.ofString "__repr__"), (.str (Str.ofString "__repr__") 231), (.builtin "_frozen_importlib.ModuleSpec.__repr__#opaque")⟩, ⟨PyData.keyHash P (Str.ofString "__eq__"), (.str (Str.ofString "__eq__") 232), (.builtin "_frozen_importlib.ModuleSpec.__eq__#opaque")⟩, ⟨PyData.keyHash P (Str.ofString "cached"), (.str (Str.ofString "cached") 233), (.builtin "_frozen_importlib.ModuleSpec.cached#opaque")⟩, ⟨PyData.keyHash P (Str.ofString "parent"), (.str (Str.ofString "parent") 234), (.builtin "_frozen_importlib.ModuleSpec.parent#opaque")⟩, ⟨PyData.keyHash P (Str.ofString "has_location"), (.str (Str.ofString "has_location") 235), (.builtin "_frozen_importlib.ModuleSpec.has_location#opaque")⟩, ⟨PyData.keyHash P (Str.ofString "__static_attributes__"), (.str (Str.ofString "__static_attributes__") 236), (.ref 23)⟩, ⟨PyData.keyHash P (Str.ofString "__dict__"), (.str (Str.ofString "__dict__") 238), (.ref 24)⟩, ⟨PyData.keyHash P (Str.ofString "__weakref__"), (.str (Str.ofString "__weakref__") 240), (.ref 25)⟩, ⟨PyData.keyHash P (Str.ofString "__hash__"), (.str (Str.ofString "__hash__") 241), .none⟩] 13), #[]⟩
noncomputable def o22e (P : Params) : Obj := ⟨(.type "type"), none, (.cls { name := (Str.ofString "ModuleSpec"), bases := [(.type "object")], mro := [(.ref 22), (.type "object")], ns := 21, qualname := (Str.ofString "ModuleSpec"), hasDict := true, slotNames := [], subclasses := [], abstract := false, collection := none, hasDel := false }), #[]⟩
noncomputable def o23e (P : Params) : Obj := ⟨(.type "tuple"), none, (.seq #[(.str (Str.ofString "_cached") 219), (.str (Str.ofString "_set_fileattr") 220), (.str (Str.ofString "_uninitialized_submodules") 221), (.str (Str.ofString "loader") 222), (.str (Str.ofString "loader_state") 223), (.str (Str.ofString "name") 224), (.str (Str.ofString "origin") 225), (.str (Str.ofString "submodule_search_locations") 226)] 0), #[]⟩
noncomputable def o24e (P : Params) : Obj := ⟨(.type "getset_descriptor"), none, (.fields #[(.str (Str.ofString "__dict__") 237), (.ref 22), (.builtin "function.__dict__"), (.builtin "function.__dict__#set")]), #[]⟩
noncomputable def o25e (P : Params) : Obj := ⟨(.type "getset_descriptor"), none, (.fields #[(.str (Str.ofString "__weakref__") 239), (.ref 22), (.builtin "ExceptionGroup.__weakref__"), .none]), #[]⟩
noncomputable def o26e (P : Params) : Obj := ⟨(.ref 22), (some 20), .plain, #[]⟩
noncomputable def o27e (P : Params) : Obj := ⟨.none, none, (.seq #[(.int 11 0), (.str (Str.mk #[6, 247, 8, 95, 95, 110, 97, 109, 101, 95, 95, 6, 246, 4, 95, 115, 114, 101, 6, 248, 7, 95, 95, 100, 111, 99, 95, 95, 0, 6, 250, 11, 95, 95, 112, 97, 99, 107, 97, 103, 101, 95, 95, 6, 249, 0, 6, 251, 10, 95, 95, 108, 111, 97, 100, 101, 114, 95, 95, 4, 0, 0, 14, 6, 252, 8, 95, 95, 115, 112, 101, 99, 95, 95, 4, 0, 0, 26, 6, 253, 7, 99, 111, 109, 112, 105, 108, 101, 9, 12, 95, 115, 114, 101, 46, 99, 111, 109, 112, 105, 108, 101, 6, 254, 8, 116, 101, 109, 112, 108, 97, 116, 101, 9, 13, 95, 115, 114, 101, 46, 116, 101, 109, 112, 108, 97, 116, 101, 6, 255, 11, 103, 101, 116, 99, 111, 100, 101, 115, 105, 122, 101, 9, 16, 95, 115, 114, 101, 46, 103, 101, 116, 99, 111, 100, 101, 115, 105, 122, 101, 6, 256, 13, 97, 115, 99, 105, 105, 95, 105, 115, 99, 97, 115, 101, 100, 9, 18, 95, 115, 114, 101, 46, 97, 115, 99, 105, 105, 95, 105, 115, 99, 97, 115, 101, 100, 6, 257, 15, 117, 110, 105, 99, 111, 100, 101, 95, 105, 115, 99, 97, 115, 101, 100, 9, 20, 95, 115, 114, 101, 46, 117, 110, 105, 99, 111, 100, 101, 95, 105, 115, 99, 97, 115, 101, 100, 6, 258, 13, 97, 115, 99, 105, 105, 95, 116, 111, 108, 111, 119, 101, 114, 9, 18, 95, 115, 114, 101, 46, 97, 115, 99, 105, 105, 95, 116, 111, 108, 111, 119, 101, 114, 6, 259, 15, 117, 110, 105, 99, 111, 100, 101, 95, 116, 111, 108, 111, 119, 101, 114, 9, 20, 95, 115, 114, 101, 46, 117, 110, 105, 99, 111, 100, 101, 95, 116, 111, 108, 111, 119, 101, 114, 6, 261, 5, 77, 65, 71, 73, 67, 4, 260, 0, 20230612, 6, 263, 8, 67, 79, 68, 69, 83, 73, 90, 69, 4, 262, 0, 4, 6, 265, 9, 77, 65, 88, 82, 69, 80, 69, 65, 84, 4, 264, 0, 4294967295, 6, 267, 9, 77, 65, 88, 71, 82, 79, 85, 80, 83, 4, 266, 0, 1073741823, 6, 269, 9, 99, 111, 112, 121, 114, 105, 103, 104, 116, 6, 268, 53, 32, 83, 82, 69, 32, 50, 46, 50, 46, 50, 32, 67, 111, 112, 121, 114, 105, 103, 104, 116, 32, 40, 99, 41, 32, 49, 57, 57, 55, 45, 50, 48, 48, 50, 32, 98, 121, 32, 83, 101, 99, 114, 101, 116, 32, 76, 97, 98, 115, 32, 65, 66, 32]) 0), (.bool true), (.bool false), (.str (Str.ofString "_sre") 271)] 0), #[]⟩
noncomputable def Te (P : Params) : BT := (nd (o0e P) (nd (o1e P) (nd (o3e P) (nd (o7e P) (nd (o15e P) nl nl) (nd (o23e P) nl nl)) (nd (o11e P) (nd (o19e P) nl nl) (nd (o27e P) nl nl))) (nd (o5e P) (nd (o9e P) (nd (o17e P) nl nl) (nd (o25e P) nl nl)) (nd (o13e P) (nd (o21e P) nl nl) nl))) (nd (o2e P) (nd (o4e P) (nd (o8e P) (nd (o16e P) nl nl) (nd (o24e P) nl nl)) (nd (o12e P) (nd (o20e P) nl nl) nl)) (nd (o6e P) (nd (o10e P) (nd (o18e P) nl nl) (nd (o26e P) nl nl)) (nd (o14e P) (nd (o22e P) nl nl) nl))))
noncomputable def o11s0 (P : Params) : Obj := ⟨(.type "dict"), none, (.dict #[⟨PyData.keyHash P (Str.ofString "__name__"), (.str (Str.ofString "__name__") 247), (.str (Str.ofString "_sre") 246)⟩, ⟨PyData.keyHash P (Str.ofString "__doc__"), (.str (Str.ofString "__doc__") 248), .none⟩, ⟨PyData.keyHash P (Str.ofString "__package__"), (.str (Str.ofString "__package__") 250), (.str (Str.ofString "") 249)⟩, ⟨PyData.keyHash P (Str.ofString "__loader__"), (.str (Str.ofString "__loader__") 251), (.builtin "off-the-table:_sre.__loader__:shared#opaque")⟩, ⟨PyData.keyHash P (Str.ofString "__spec__"), (.str (Str.ofString "__spec__") 252), (.builtin "off-the-table:_sre.__spec__:shared#opaque")⟩, ⟨PyData.keyHash P (Str.ofString "compile"), (.str (Str.ofString "compile") 253), (.builtin "_sre.compile")⟩, ⟨PyData.keyHash P (Str.ofString "template"), (.str (Str.ofString "template") 254), (.builtin "off-the-table:_sre.template:shared#opaque")⟩, ⟨PyData.keyHash P (Str.ofString "getcodesize"), (.str (Str.ofString "getcodesize") 255), (.builtin "off-the-table:_sre.getcodesize:shared#opaque")⟩, ⟨PyData.keyHash P (Str.ofString "ascii_iscased"), (.str (Str.ofString "ascii_iscased") 256), (.builtin "off-the-table:_sre.ascii_iscased:shared#opaque")⟩, ⟨PyData.keyHash P (Str.ofString "unicode_iscased"), (.str (Str.ofString "unicode_iscased") 257), (.builtin "off-the-table:_sre.unicode_iscased:shared#opaque")⟩, ⟨PyData.keyHash P (Str.ofString "ascii_tolower"), (.str (Str.ofString "ascii_tolower") 258), (.builtin "off-the-table:_sre.ascii_tolower:shared#opaque")⟩, ⟨PyData.keyHash P (Str.ofString "unicode_tolower"), (.str (Str.ofString "unicode_tolower") 259), (.builtin "off-the-table:_sre.unicode_tolower:shared#opaque")⟩, ⟨PyData.keyHash P (Str.ofString "MAGIC"), (.str (Str.ofString "MAGIC") 261), (.int 20230612 260)⟩, ⟨PyData.keyHash P (Str.ofString "CODESIZE"), (.str (Str.ofString "CODESIZE") 263), (.int 4 262)⟩, ⟨PyData.keyHash P (Str.ofString "MAXREPEAT"), (.str (Str.ofString "MAXREPEAT") 265), (.int 4294967295 264)⟩, ⟨PyData.keyHash P (Str.ofString "MAXGROUPS"), (.str (Str.ofString "MAXGROUPS") 267), (.int 1073741823 266)⟩, ⟨PyData.keyHash P (Str.ofString "copyright"), (.str (Str.ofString "copyright") 269), (.str (Str.ofString " SRE 2.2.2 Copyright (c) 1997-2002 by Secret Labs AB ") 268)⟩] 17), #[]⟩
noncomputable def H0 (P : Params) : Heap := { objs := #[o0e P, o1e P, o2e P, o3e P, o4e P, o5e P, o6e P, o7e P, o8e P, o9e P, o10e P, o11s0 P, o12e P, o13e P, o14e P, o15e P, o16e P, o17e P, o18e P, o19e P, o20e P, o21e P, o22e P, o23e P, o24e P, o25e P, o26e P, o27e P], life := lf }
noncomputable def o28sa (P : Params) : Obj := ⟨(.type "tuple"), none, (.seq #[] 0), #[]⟩
noncomputable def o29sa (P : Params) : Obj := ⟨.none, none, (.fields #[]), #[]⟩
noncomputable def o30sa (P : Params) : Obj := ⟨(.type "code"), none, (.fields #[(.str (Str.ofString "<module>") 277), (.str (Str.ofString "<module>") 278), (.str (Str.ofString "/claim/cut.py") 279), (.int 1 0), (.int 0 0), (.int 0 0), (.int 0 0), (.int 0 0), (.ref 28), (.bool false), (.int 276 0), (.ref 29), .none, .none, .none, .none, (.int 280 0), (.int 1 0), (.str (Str.ofString "/claim/cut.py") 281)]), #[]⟩
noncomputable def o31sa (P : Params) : Obj := ⟨(.type "frame"), none, .plain, #[(some (.ref 30)), (some (.ref 3)), (some (.ref 3)), none, (some (.str (Str.ofString "__main__") 164)), none, (some (.ref 0))]⟩
noncomputable def Ha (P : Params) : Heap := { objs := #[o0e P, o1e P, o2e P, o3e P, o4e P, o5e P, o6e P, o7e P, o8e P, o9e P, o10e P, o11s0 P, o12e P, o13e P, o14e P, o15e P, o16e P, o17e P, o18e P, o19e P, o20e P, o21e P, o22e P, o23e P, o24e P, o25e P, o26e P, o27e P, o28sa P, o29sa P, o30sa P, o31sa P], life := lf }
noncomputable def Tb (P : Params) : BT := (nd (o0e P) (nd (o1e P) (nd (o3e P) (nd (o7e P) (nd (o15e P) (nd (o31sa P) nl nl) nl) (nd (o23e P) nl nl)) (nd (o11s0 P) (nd (o19e P) nl nl) (nd (o27e P) nl nl))) (nd (o5e P) (nd (o9e P) (nd (o17e P) nl nl) (nd (o25e P) nl nl)) (nd (o13e P) (nd (o21e P) nl nl) (nd (o29sa P) nl nl)))) (nd (o2e P) (nd (o4e P) (nd (o8e P) (nd (o16e P) nl nl) (nd (o24e P) nl nl)) (nd (o12e P) (nd (o20e P) nl nl) (nd (o28sa P) nl nl))) (nd (o6e P) (nd (o10e P) (nd (o18e P) nl nl) (nd (o26e P) nl nl)) (nd (o14e P) (nd (o22e P) nl nl) (nd (o30sa P) nl nl)))))
noncomputable def o3s1 (P : Params) : Obj := ⟨(.type "dict"), none, (.dict #[⟨PyData.keyHash P (Str.ofString "__name__"), (.str (Str.ofString "__name__") 165), (.str (Str.ofString "cpy313.stringprep") 348)⟩, ⟨PyData.keyHash P (Str.ofString "__doc__"), (.str (Str.ofString "__doc__") 166), .none⟩, ⟨PyData.keyHash P (Str.ofString "__package__"), (.str (Str.ofString "__package__") 167), .none⟩, ⟨PyData.keyHash P (Str.ofString "__loader__"), (.str (Str.ofString "__loader__") 168), (.builtin "__main__.__loader__#opaque")⟩, ⟨PyData.keyHash P (Str.ofString "__spec__"), (.str (Str.ofString "__spec__") 169), .none⟩, ⟨PyData.keyHash P (Str.ofString "__annotations__"), (.str (Str.ofString "__annotations__") 170), (.ref 6)⟩, ⟨PyData.keyHash P (Str.ofString "__builtins__"), (.str (Str.ofString "__builtins__") 171), (.ref 4)⟩, ⟨PyData.keyHash P (Str.ofString "__file__"), (.str (Str.ofString "__file__") 173), (.str (Str.ofString "/claim/cut.py") 172)⟩, ⟨PyData.keyHash P (Str.ofString "__cached__"), (.str (Str.ofString "__cached__") 174), .none⟩, ⟨PyData.keyHash P (Str.ofString "_sre"), (.str (Str.ofString "_sre") 275), (.ref 12)⟩, ⟨PyData.keyHash P (Str.ofString "_wall"), (.str (Str.ofString "_wall") 288), (.ref 38)⟩, ⟨PyData.keyHash P (Str.ofString "ELLIPSIS_MARKER"), (.str (Str.ofString "ELLIPSIS_MARKER") 292), (.str (Str.ofString "...") 291)⟩, ⟨PyData.keyHash P (Str.ofString "_ellipsis_match"), (.str (Str.ofString "_ellipsis_match") 304), (.ref 45)⟩, ⟨PyData.keyHash P (Str.ofString "insort_right"), (.str (Str.ofString "insort_right") 319), (.ref 54)⟩, ⟨PyData.keyHash P (Str.ofString "bisect_right"), (.str (Str.ofString "bisect_right") 333), (.ref 63)⟩, ⟨PyData.keyHash P (Str.ofString "bisect_left"), (.str (Str.ofString "bisect_left") 347), (.ref 72)⟩] 16), #[]⟩
noncomputable def o29s1 (P : Params) : Obj := ⟨.none, none, (.fields #[(.int 2 0), (.int 0 0), (.ref 37), (.int 7 0), (.int 0 0), (.ref 44), (.int 36 0), (.int 0 0), (.ref 53), (.int 42 0), (.int 0 0), (.ref 62), (.int 62 0), (.int 0 0), (.ref 71)]), #[]⟩
noncomputable def o32s1 (P : Params) : Obj := ⟨(.type "tuple"), none, (.seq #[] 0), #[]⟩
noncomputable def o33s1 (P : Params) : Obj := ⟨.none, none, (.fields #[]), #[]⟩
noncomputable def o34s1 (P : Params) : Obj := ⟨(.type "tuple"), none, (.seq #[(.str (Str.ofString "k") 285)] 0), #[]⟩
noncomputable def o35s1 (P : Params) : Obj := ⟨(.type "tuple"), none, (.seq #[] 0), #[]⟩
noncomputable def o36s1 (P : Params) : Obj := ⟨.none, none, (.func { fd1 1 with name := (Str.ofString "_wall"), qualname := (Str.ofString "_wall"), globals := 0, closure := [], defaults := .none, kwdefaults := .none, doc := .none, pyModule := .none, annotations := none, code := .none, closureTuple := .none, builtins := 0 }), #[]⟩
noncomputable def o37s1 (P : Params) : Obj := ⟨(.type "code"), none, (.fields #[(.str (Str.ofString "_wall") 282), (.str (Str.ofString "_wall") 283), (.str (Str.ofString "/claim/cut.py") 284), (.int 2 0), (.int 1 0), (.int 0 0), (.int 0 0), (.int 3 0), (.ref 32), (.bool true), (.int 276 0), (.ref 33), .none, (.ref 34), (.ref 35), (.ref 36), (.int 286 0), (.int 2 0), (.str (Str.ofString "/claim/cut.py") 287)]), #[]⟩
noncomputable def o38s1 (P : Params) : Obj := ⟨(.type "function"), none, (.func { fd1 1 with name := (Str.ofString "_wall"), qualname := (Str.ofString "_wall"), globals := 3, closure := [], defaults := .none, kwdefaults := .none, doc := .none, pyModule := (.str (Str.ofString "__main__") 164), annotations := none, code := (.ref 37), closureTuple := .none, builtins := 0 }), #[]⟩
noncomputable def o39s1 (P : Params) : Obj := ⟨(.type "tuple"), none, (.seq #[] 0), #[]⟩
noncomputable def o40s1 (P : Params) : Obj := ⟨.none, none, (.fields #[]), #[]⟩
noncomputable def o41s1 (P : Params) : Obj := ⟨(.type "tuple"), none, (.seq #[(.str (Str.ofString "want") 296), (.str (Str.ofString "got") 297), (.str (Str.ofString "ws") 298), (.str (Str.ofString "startpos") 299), (.str (Str.ofString "endpos") 300), (.str (Str.ofString "w") 301)] 0), #[]⟩
noncomputable def o42s1 (P : Params) : Obj := ⟨(.type "tuple"), none, (.seq #[] 0), #[]⟩
noncomputable def o43s1 (P : Params) : Obj := ⟨.none, none, (.func { fd1 4 with name := (Str.ofString "_ellipsis_match"), qualname := (Str.ofString "_ellipsis_match"), globals := 0, closure := [], defaults := .none, kwdefaults := .none, doc := .none, pyModule := .none, annotations := none, code := .none, closureTuple := .none, builtins := 0 }), #[]⟩
noncomputable def o44s1 (P : Params) : Obj := ⟨(.type "code"), none, (.fields #[(.str (Str.ofString "_ellipsis_match") 293), (.str (Str.ofString "_ellipsis_match") 294), (.str (Str.ofString "/claim/cut.py") 295), (.int 7 0), (.int 2 0), (.int 0 0), (.int 0 0), (.int 3 0), (.ref 39), (.bool true), (.int 276 0), (.ref 40), .none, (.ref 41), (.ref 42), (.ref 43), (.int 302 0), (.int 7 0), (.str (Str.ofString "/claim/cut.py") 303)]), #[]⟩
noncomputable def o45s1 (P : Params) : Obj := ⟨(.type "function"), none, (.func { fd1 4 with name := (Str.ofString "_ellipsis_match"), qualname := (Str.ofString "_ellipsis_match"), globals := 3, closure := [], defaults := .none, kwdefaults := .none, doc := .none, pyModule := (.str (Str.ofString "cpy313.doctest") 289), annotations := none, code := (.ref 44), closureTuple := .none, builtins := 0 }), #[]⟩
noncomputable def o46s1 (P : Params) : Obj := ⟨(.type "tuple"), none, (.seq #[(.int 0 307), .none] 0), #[]⟩
noncomputable def o47s1 (P : Params) : Obj := ⟨(.type "dict"), none, (.dict #[⟨PyData.keyHash P (Str.ofString "key"), (.str (Str.ofString "key") 308), .none⟩] 1), #[]⟩
noncomputable def o48s1 (P : Params) : Obj := ⟨(.type "tuple"), none, (.seq #[] 0), #[]⟩
noncomputable def o49s1 (P : Params) : Obj := ⟨.none, none, (.fields #[]), #[]⟩
noncomputable def o50s1 (P : Params) : Obj := ⟨(.type "tuple"), none, (.seq #[(.str (Str.ofString "a") 312), (.str (Str.ofString "x") 313), (.str (Str.ofString "lo") 314), (.str (Str.ofString "hi") 315), (.str (Str.ofString "key") 316)] 0), #[]⟩
noncomputable def o51s1 (P : Params) : Obj := ⟨(.type "tuple"), none, (.seq #[] 0), #[]⟩
noncomputable def o52s1 (P : Params) : Obj := ⟨.none, none, (.func { fd1 6 with name := (Str.ofString "insort_right"), qualname := (Str.ofString "insort_right"), globals := 0, closure := [], defaults := .none, kwdefaults := .none, doc := .none, pyModule := .none, annotations := none, code := .none, closureTuple := .none, builtins := 0 }), #[]⟩
noncomputable def o53s1 (P : Params) : Obj := ⟨(.type "code"), none, (.fields #[(.str (Str.ofString "insort_right") 309), (.str (Str.ofString "insort_right") 310), (.str (Str.ofString "/claim/cut.py") 311), (.int 36 0), (.int 4 0), (.int 0 0), (.int 1 0), (.int 3 0), (.ref 48), (.bool true), (.int 276 0), (.ref 49), .none, (.ref 50), (.ref 51), (.ref 52), (.int 317 0), (.int 36 0), (.str (Str.ofString "/claim/cut.py") 318)]), #[]⟩
noncomputable def o54s1 (P : Params) : Obj := ⟨(.type "function"), none, (.func { fd1 6 with name := (Str.ofString "insort_right"), qualname := (Str.ofString "insort_right"), globals := 3, closure := [], defaults := (.ref 46), kwdefaults := (.ref 47), doc := .none, pyModule := (.str (Str.ofString "cpy313.bisect") 305), annotations := none, code := (.ref 53), closureTuple := .none, builtins := 0 }), #[]⟩
noncomputable def o55s1 (P : Params) : Obj := ⟨(.type "tuple"), none, (.seq #[(.int 0 320), .none] 0), #[]⟩
noncomputable def o56s1 (P : Params) : Obj := ⟨(.type "dict"), none, (.dict #[⟨PyData.keyHash P (Str.ofString "key"), (.str (Str.ofString "key") 321), .none⟩] 1), #[]⟩
noncomputable def o57s1 (P : Params) : Obj := ⟨(.type "tuple"), none, (.seq #[] 0), #[]⟩
noncomputable def o58s1 (P : Params) : Obj := ⟨.none, none, (.fields #[]), #[]⟩
noncomputable def o59s1 (P : Params) : Obj := ⟨(.type "tuple"), none, (.seq #[(.str (Str.ofString "a") 325), (.str (Str.ofString "x") 326), (.str (Str.ofString "lo") 327), (.str (Str.ofString "hi") 328), (.str (Str.ofString "key") 329), (.str (Str.ofString "mid") 330)] 0), #[]⟩
noncomputable def o60s1 (P : Params) : Obj := ⟨(.type "tuple"), none, (.seq #[] 0), #[]⟩
noncomputable def o61s1 (P : Params) : Obj := ⟨.none, none, (.func { fd1 7 with name := (Str.ofString "bisect_right"), qualname := (Str.ofString "bisect_right"), globals := 0, closure := [], defaults := .none, kwdefaults := .none, doc := .none, pyModule := .none, annotations := none, code := .none, closureTuple := .none, builtins := 0 }), #[]⟩
noncomputable def o62s1 (P : Params) : Obj := ⟨(.type "code"), none, (.fields #[(.str (Str.ofString "bisect_right") 322), (.str (Str.ofString "bisect_right") 323), (.str (Str.ofString "/claim/cut.py") 324), (.int 42 0), (.int 4 0), (.int 0 0), (.int 1 0), (.int 3 0), (.ref 57), (.bool true), (.int 276 0), (.ref 58), .none, (.ref 59), (.ref 60), (.ref 61), (.int 331 0), (.int 42 0), (.str (Str.ofString "/claim/cut.py") 332)]), #[]⟩
noncomputable def o63s1 (P : Params) : Obj := ⟨(.type "function"), none, (.func { fd1 7 with name := (Str.ofString "bisect_right"), qualname := (Str.ofString "bisect_right"), globals := 3, closure := [], defaults := (.ref 55), kwdefaults := (.ref 56), doc := .none, pyModule := (.str (Str.ofString "cpy313.bisect") 305), annotations := none, code := (.ref 62), closureTuple := .none, builtins := 0 }), #[]⟩
noncomputable def o64s1 (P : Params) : Obj := ⟨(.type "tuple"), none, (.seq #[(.int 0 334), .none] 0), #[]⟩
noncomputable def o65s1 (P : Params) : Obj := ⟨(.type "dict"), none, (.dict #[⟨PyData.keyHash P (Str.ofString "key"), (.str (Str.ofString "key") 335), .none⟩] 1), #[]⟩
noncomputable def o66s1 (P : Params) : Obj := ⟨(.type "tuple"), none, (.seq #[] 0), #[]⟩
noncomputable def o67s1 (P : Params) : Obj := ⟨.none, none, (.fields #[]), #[]⟩
noncomputable def o68s1 (P : Params) : Obj := ⟨(.type "tuple"), none, (.seq #[(.str (Str.ofString "a") 339), (.str (Str.ofString "x") 340), (.str (Str.ofString "lo") 341), (.str (Str.ofString "hi") 342), (.str (Str.ofString "key") 343), (.str (Str.ofString "mid") 344)] 0), #[]⟩
noncomputable def o69s1 (P : Params) : Obj := ⟨(.type "tuple"), none, (.seq #[] 0), #[]⟩
noncomputable def o70s1 (P : Params) : Obj := ⟨.none, none, (.func { fd1 8 with name := (Str.ofString "bisect_left"), qualname := (Str.ofString "bisect_left"), globals := 0, closure := [], defaults := .none, kwdefaults := .none, doc := .none, pyModule := .none, annotations := none, code := .none, closureTuple := .none, builtins := 0 }), #[]⟩
noncomputable def o71s1 (P : Params) : Obj := ⟨(.type "code"), none, (.fields #[(.str (Str.ofString "bisect_left") 336), (.str (Str.ofString "bisect_left") 337), (.str (Str.ofString "/claim/cut.py") 338), (.int 62 0), (.int 4 0), (.int 0 0), (.int 1 0), (.int 3 0), (.ref 66), (.bool true), (.int 276 0), (.ref 67), .none, (.ref 68), (.ref 69), (.ref 70), (.int 345 0), (.int 62 0), (.str (Str.ofString "/claim/cut.py") 346)]), #[]⟩
noncomputable def o72s1 (P : Params) : Obj := ⟨(.type "function"), none, (.func { fd1 8 with name := (Str.ofString "bisect_left"), qualname := (Str.ofString "bisect_left"), globals := 3, closure := [], defaults := (.ref 64), kwdefaults := (.ref 65), doc := .none, pyModule := (.str (Str.ofString "cpy313.bisect") 305), annotations := none, code := (.ref 71), closureTuple := .none, builtins := 0 }), #[]⟩
noncomputable def T1 (P : Params) : BT := (nd (o0e P) (nd (o1e P) (nd (o3s1 P) (nd (o7e P) (nd (o15e P) (nd (o31sa P) (nd (o63s1 P) nl nl) nl) (nd (o47s1 P) nl nl)) (nd (o23e P) (nd (o39s1 P) (nd (o71s1 P) nl nl) nl) (nd (o55s1 P) nl nl))) (nd (o11s0 P) (nd (o19e P) (nd (o35s1 P) (nd (o67s1 P) nl nl) nl) (nd (o51s1 P) nl nl)) (nd (o27e P) (nd (o43s1 P) nl nl) (nd (o59s1 P) nl nl)))) (nd (o5e P) (nd (o9e P) (nd (o17e P) (nd (o33s1 P) (nd (o65s1 P) nl nl) nl) (nd (o49s1 P) nl nl)) (nd (o25e P) (nd (o41s1 P) nl nl) (nd (o57s1 P) nl nl))) (nd (o13e P) (nd (o21e P) (nd (o37s1 P) (nd (o69s1 P) nl nl) nl) (nd (o53s1 P) nl nl)) (nd (o29s1 P) (nd (o45s1 P) nl nl) (nd (o61s1 P) nl nl))))) (nd (o2e P) (nd (o4e P) (nd (o8e P) (nd (o16e P) (nd (o32s1 P) (nd (o64s1 P) nl nl) nl) (nd (o48s1 P) nl nl)) (nd (o24e P) (nd (o40s1 P) (nd (o72s1 P) nl nl) nl) (nd (o56s1 P) nl nl))) (nd (o12e P) (nd (o20e P) (nd (o36s1 P) (nd (o68s1 P) nl nl) nl) (nd (o52s1 P) nl nl)) (nd (o28sa P) (nd (o44s1 P) nl nl) (nd (o60s1 P) nl nl)))) (nd (o6e P) (nd (o10e P) (nd (o18e P) (nd (o34s1 P) (nd (o66s1 P) nl nl) nl) (nd (o50s1 P) nl nl)) (nd (o26e P) (nd (o42s1 P) nl nl) (nd (o58s1 P) nl nl))) (nd (o14e P) (nd (o22e P) (nd (o38s1 P) (nd (o70s1 P) nl nl) nl) (nd (o54s1 P) nl nl)) (nd (o30sa P) (nd (o46s1 P) nl nl) (nd (o62s1 P) nl nl))))))
noncomputable def o3s2 (P : Params) : Obj := ⟨(.type "dict"), none, (.dict #[⟨PyData.keyHash P (Str.ofString "__name__"), (.str (Str.ofString "__name__") 165), (.str (Str.ofString "cpy313.stringprep") 348)⟩, ⟨PyData.keyHash P (Str.ofString "__doc__"), (.str (Str.ofString "__doc__") 166), .none⟩, ⟨PyData.keyHash P (Str.ofString "__package__"), (.str (Str.ofString "__package__") 167), .none⟩, ⟨PyData.keyHash P (Str.ofString "__loader__"), (.str (Str.ofString "__loader__") 168), (.builtin "__main__.__loader__#opaque")⟩, ⟨PyData.keyHash P (Str.ofString "__spec__"), (.str (Str.ofString "__spec__") 169), .none⟩, ⟨PyData.keyHash P (Str.ofString "__annotations__"), (.str (Str.ofString "__annotations__") 170), (.ref 6)⟩, ⟨PyData.keyHash P (Str.ofString "__builtins__"), (.str (Str.ofString "__builtins__") 171), (.ref 4)⟩, ⟨PyData.keyHash P (Str.ofString "__file__"), (.str (Str.ofString "__file__") 173), (.str (Str.ofString "/claim/cut.py") 172)⟩, ⟨PyData.keyHash P (Str.ofString "__cached__"), (.str (Str.ofString "__cached__") 174), .none⟩, ⟨PyData.keyHash P (Str.ofString "_sre"), (.str (Str.ofString "_sre") 275), (.ref 12)⟩, ⟨PyData.keyHash P (Str.ofString "_wall"), (.str (Str.ofString "_wall") 288), (.ref 38)⟩, ⟨PyData.keyHash P (Str.ofString "ELLIPSIS_MARKER"), (.str (Str.ofString "ELLIPSIS_MARKER") 292), (.str (Str.ofString "...") 291)⟩, ⟨PyData.keyHash P (Str.ofString "_ellipsis_match"), (.str (Str.ofString "_ellipsis_match") 304), (.ref 45)⟩, ⟨PyData.keyHash P (Str.ofString "insort_right"), (.str (Str.ofString "insort_right") 319), (.ref 54)⟩, ⟨PyData.keyHash P (Str.ofString "bisect_right"), (.str (Str.ofString "bisect_right") 333), (.ref 63)⟩, ⟨PyData.keyHash P (Str.ofString "bisect_left"), (.str (Str.ofString "bisect_left") 347), (.ref 72)⟩, ⟨PyData.keyHash P (Str.ofString "b1_set"), (.str (Str.ofString "b1_set") 409), (.ref 80)⟩] 17), #[]⟩
noncomputable def o73s2 (P : Params) : Obj := ⟨(.type "list"), none, (.seq #[(.int 173 350), (.int 847 351), (.int 6150 352), (.int 6155 353), (.int 6156 354), (.int 6157 355), (.int 8203 356), (.int 8204 357), (.int 8205 358), (.int 8288 359), (.int 65279 360)] 0), #[]⟩
noncomputable def o74s2 (P : Params) : Obj := ⟨(.type "range"), none, (.fields #[(.int 65024 361), (.int 65040 362), (.int 1 363)]), #[]⟩
noncomputable def o75s2 (P : Params) : Obj := ⟨(.type "list"), none, (.seq #[(.int 65024 366), (.int 65025 367), (.int 65026 368), (.int 65027 369), (.int 65028 370), (.int 65029 371), (.int 65030 372), (.int 65031 373), (.int 65032 374), (.int 65033 375), (.int 65034 376), (.int 65035 377), (.int 65036 378), (.int 65037 379), (.int 65038 380), (.int 65039 381)] 18), #[]⟩
noncomputable def o76s2 (P : Params) : Obj := ⟨(.type "range_iterator"), none, (.fields #[(.int 65040 0), (.int 0 0), (.int 1 0)]), #[]⟩
noncomputable def o77s2 (P : Params) : Obj := ⟨(.type "tuple"), none, (.seq #[] 0), #[]⟩
noncomputable def o78s2 (P : Params) : Obj := ⟨(.type "StopIteration"), none, (.fields #[(.ref 77), .none, .none, .none, (.bool false), .none]), #[]⟩
noncomputable def o79s2 (P : Params) : Obj := ⟨(.type "list"), none, (.seq #[(.int 173 350), (.int 847 351), (.int 6150 352), (.int 6155 353), (.int 6156 354), (.int 6157 355), (.int 8203 356), (.int 8204 357), (.int 8205 358), (.int 8288 359), (.int 65279 360), (.int 65024 366), (.int 65025 367), (.int 65026 368), (.int 65027 369), (.int 65028 370), (.int 65029 371), (.int 65030 372), (.int 65031 373), (.int 65032 374), (.int 65033 375), (.int 65034 376), (.int 65035 377), (.int 65036 378), (.int 65037 379), (.int 65038 380), (.int 65039 381)] 0), #[]⟩
noncomputable def o80s2 (P : Params) : Obj := ⟨(.type "set"), none, (.set #[(65024, (.int 65024 366)), (65025, (.int 65025 367)), (65026, (.int 65026 368)), (65027, (.int 65027 369)), (65028, (.int 65028 370)), (65029, (.int 65029 371)), (6150, (.int 6150 352)), (65030, (.int 65030 372)), (65031, (.int 65031 373)), (65032, (.int 65032 374)), (65033, (.int 65033 375)), (6155, (.int 6155 353)), (6156, (.int 6156 354)), (6157, (.int 6157 355)), (8203, (.int 8203 356)), (8204, (.int 8204 357)), (8205, (.int 8205 358)), (65034, (.int 65034 376)), (65035, (.int 65035 377)), (65036, (.int 65036 378)), (65037, (.int 65037 379)), (65038, (.int 65038 380)), (65039, (.int 65039 381)), (173, (.int 173 350)), (847, (.int 847 351)), (8288, (.int 8288 359)), (65279, (.int 65279 360))] 29 { mask := 127, place := #[0, 1, 2, 3, 4, 5, 6, 7, 8, 9, 10, 11, 12, 13, 14, 15, 16, 17, 18, 19, 20, 21, 22, 45, 79, 96, 127], dummies := #[], finger := 0, led := !(P.followText "set-order"), moves := 2, plain := true }), #[]⟩
noncomputable def o81s2 (P : Params) : Obj := ⟨(.type "list_iterator"), none, (.fields #[.none, (.int 27 0)]), #[]⟩
noncomputable def o82s2 (P : Params) : Obj := ⟨(.type "tuple"), none, (.seq #[] 0), #[]⟩
noncomputable def o83s2 (P : Params) : Obj := ⟨(.type "StopIteration"), none, (.fields #[(.ref 82), .none, .none, .none, (.bool false), .none]), #[]⟩
noncomputable def T2 (P : Params) : BT := (nd (o0e P) (nd (o1e P) (nd (o3s2 P) (nd (o7e P) (nd (o15e P) (nd (o31sa P) (nd (o63s1 P) nl nl) nl) (nd (o47s1 P) (nd (o79s2 P) nl nl) nl)) (nd (o23e P) (nd (o39s1 P) (nd (o71s1 P) nl nl) nl) (nd (o55s1 P) nl nl))) (nd (o11s0 P) (nd (o19e P) (nd (o35s1 P) (nd (o67s1 P) nl nl) nl) (nd (o51s1 P) (nd (o83s2 P) nl nl) nl)) (nd (o27e P) (nd (o43s1 P) (nd (o75s2 P) nl nl) nl) (nd (o59s1 P) nl nl)))) (nd (o5e P) (nd (o9e P) (nd (o17e P) (nd (o33s1 P) (nd (o65s1 P) nl nl) nl) (nd (o49s1 P) (nd (o81s2 P) nl nl) nl)) (nd (o25e P) (nd (o41s1 P) (nd (o73s2 P) nl nl) nl) (nd (o57s1 P) nl nl))) (nd (o13e P) (nd (o21e P) (nd (o37s1 P) (nd (o69s1 P) nl nl) nl) (nd (o53s1 P) nl nl)) (nd (o29s1 P) (nd (o45s1 P) (nd (o77s2 P) nl nl) nl) (nd (o61s1 P) nl nl))))) (nd (o2e P) (nd (o4e P) (nd (o8e P) (nd (o16e P) (nd (o32s1 P) (nd (o64s1 P) nl nl) nl) (nd (o48s1 P) (nd (o80s2 P) nl nl) nl)) (nd (o24e P) (nd (o40s1 P) (nd (o72s1 P) nl nl) nl) (nd (o56s1 P) nl nl))) (nd (o12e P) (nd (o20e P) (nd (o36s1 P) (nd (o68s1 P) nl nl) nl) (nd (o52s1 P) nl nl)) (nd (o28sa P) (nd (o44s1 P) (nd (o76s2 P) nl nl) nl) (nd (o60s1 P) nl nl)))) (nd (o6e P) (nd (o10e P) (nd (o18e P) (nd (o34s1 P) (nd (o66s1 P) nl nl) nl) (nd (o50s1 P) (nd (o82s2 P) nl nl) nl)) (nd (o26e P) (nd (o42s1 P) (nd (o74s2 P) nl nl) nl) (nd (o58s1 P) nl nl))) (nd (o14e P) (nd (o22e P) (nd (o38s1 P) (nd (o70s1 P) nl nl) nl) (nd (o54s1 P) nl nl)) (nd (o30sa P) (nd (o46s1 P) (nd (o78s2 P) nl nl) nl) (nd (o62s1 P) nl nl))))))
noncomputable def o3s3 (P : Params) : Obj := ⟨(.type "dict"), none, (.dict #[⟨PyData.keyHash P (Str.ofString "__name__"), (.str (Str.ofString "__name__") 165), (.str (Str.ofString "cpy313.stringprep") 348)⟩, ⟨PyData.keyHash P (Str.ofString "__doc__"), (.str (Str.ofString "__doc__") 166), .none⟩, ⟨PyData.keyHash P (Str.ofString "__package__"), (.str (Str.ofString "__package__") 167), .none⟩, ⟨PyData.keyHash P (Str.ofString "__loader__"), (.str (Str.ofString "__loader__") 168), (.builtin "__main__.__loader__#opaque")⟩, ⟨PyData.keyHash P (Str.ofString "__spec__"), (.str (Str.ofString "__spec__") 169), .none⟩, ⟨PyData.keyHash P (Str.ofString "__annotations__"), (.str (Str.ofString "__annotations__") 170), (.ref 6)⟩, ⟨PyData.keyHash P (Str.ofString "__builtins__"), (.str (Str.ofString "__builtins__") 171), (.ref 4)⟩, ⟨PyData.keyHash P (Str.ofString "__file__"), (.str (Str.ofString "__file__") 173), (.str (Str.ofString "/claim/cut.py") 172)⟩, ⟨PyData.keyHash P (Str.ofString "__cached__"), (.str (Str.ofString "__cached__") 174), .none⟩, ⟨PyData.keyHash P (Str.ofString "_sre"), (.str (Str.ofString "_sre") 275), (.ref 12)⟩, ⟨PyData.keyHash P (Str.ofString "_wall"), (.str (Str.ofString "_wall") 288), (.ref 38)⟩, ⟨PyData.keyHash P (Str.ofString "ELLIPSIS_MARKER"), (.str (Str.ofString "ELLIPSIS_MARKER") 292), (.str (Str.ofString "...") 291)⟩, ⟨PyData.keyHash P (Str.ofString "_ellipsis_match"), (.str (Str.ofString "_ellipsis_match") 304), (.ref 45)⟩, ⟨PyData.keyHash P (Str.ofString "insort_right"), (.str (Str.ofString "insort_right") 319), (.ref 54)⟩, ⟨PyData.keyHash P (Str.ofString "bisect_right"), (.str (Str.ofString "bisect_right") 333), (.ref 63)⟩, ⟨PyData.keyHash P (Str.ofString "bisect_left"), (.str (Str.ofString "bisect_left") 347), (.ref 72)⟩, ⟨PyData.keyHash P (Str.ofString "b1_set"), (.str (Str.ofString "b1_set") 409), (.ref 80)⟩, ⟨PyData.keyHash P (Str.ofString "in_table_b1"), (.str (Str.ofString "in_table_b1") 416), (.ref 90)⟩] 18), #[]⟩
noncomputable def o29s3 (P : Params) : Obj := ⟨.none, none, (.fields #[(.int 2 0), (.int 0 0), (.ref 37), (.int 7 0), (.int 0 0), (.ref 44), (.int 36 0), (.int 0 0), (.ref 53), (.int 42 0), (.int 0 0), (.ref 62), (.int 62 0), (.int 0 0), (.ref 71), (.int 84 0), (.int 0 0), (.ref 89)]), #[]⟩
noncomputable def o84s3 (P : Params) : Obj := ⟨(.type "tuple"), none, (.seq #[] 0), #[]⟩
noncomputable def o85s3 (P : Params) : Obj := ⟨.none, none, (.fields #[]), #[]⟩
noncomputable def o86s3 (P : Params) : Obj := ⟨(.type "tuple"), none, (.seq #[(.str (Str.ofString "code") 413)] 0), #[]⟩
noncomputable def o87s3 (P : Params) : Obj := ⟨(.type "tuple"), none, (.seq #[] 0), #[]⟩
noncomputable def o88s3 (P : Params) : Obj := ⟨.none, none, (.func { fd1 11 with name := (Str.ofString "in_table_b1"), qualname := (Str.ofString "in_table_b1"), globals := 0, closure := [], defaults := .none, kwdefaults := .none, doc := .none, pyModule := .none, annotations := none, code := .none, closureTuple := .none, builtins := 0 }), #[]⟩
noncomputable def o89s3 (P : Params) : Obj := ⟨(.type "code"), none, (.fields #[(.str (Str.ofString "in_table_b1") 410), (.str (Str.ofString "in_table_b1") 411), (.str (Str.ofString "/claim/cut.py") 412), (.int 84 0), (.int 1 0), (.int 0 0), (.int 0 0), (.int 3 0), (.ref 84), (.bool true), (.int 276 0), (.ref 85), .none, (.ref 86), (.ref 87), (.ref 88), (.int 414 0), (.int 84 0), (.str (Str.ofString "/claim/cut.py") 415)]), #[]⟩
noncomputable def o90s3 (P : Params) : Obj := ⟨(.type "function"), none, (.func { fd1 11 with name := (Str.ofString "in_table_b1"), qualname := (Str.ofString "in_table_b1"), globals := 3, closure := [], defaults := .none, kwdefaults := .none, doc := .none, pyModule := (.str (Str.ofString "cpy313.stringprep") 348), annotations := none, code := (.ref 89), closureTuple := .none, builtins := 0 }), #[]⟩
noncomputable def T3 (P : Params) : BT := (nd (o0e P) (nd (o1e P) (nd (o3s3 P) (nd (o7e P) (nd (o15e P) (nd (o31sa P) (nd (o63s1 P) nl nl) nl) (nd (o47s1 P) (nd (o79s2 P) nl nl) nl)) (nd (o23e P) (nd (o39s1 P) (nd (o71s1 P) nl nl) nl) (nd (o55s1 P) (nd (o87s3 P) nl nl) nl))) (nd (o11s0 P) (nd (o19e P) (nd (o35s1 P) (nd (o67s1 P) nl nl) nl) (nd (o51s1 P) (nd (o83s2 P) nl nl) nl)) (nd (o27e P) (nd (o43s1 P) (nd (o75s2 P) nl nl) nl) (nd (o59s1 P) nl nl)))) (nd (o5e P) (nd (o9e P) (nd (o17e P) (nd (o33s1 P) (nd (o65s1 P) nl nl) nl) (nd (o49s1 P) (nd (o81s2 P) nl nl) nl)) (nd (o25e P) (nd (o41s1 P) (nd (o73s2 P) nl nl) nl) (nd (o57s1 P) (nd (o89s3 P) nl nl) nl))) (nd (o13e P) (nd (o21e P) (nd (o37s1 P) (nd (o69s1 P) nl nl) nl) (nd (o53s1 P) (nd (o85s3 P) nl nl) nl)) (nd (o29s3 P) (nd (o45s1 P) (nd (o77s2 P) nl nl) nl) (nd (o61s1 P) nl nl))))) (nd (o2e P) (nd (o4e P) (nd (o8e P) (nd (o16e P) (nd (o32s1 P) (nd (o64s1 P) nl nl) nl) (nd (o48s1 P) (nd (o80s2 P) nl nl) nl)) (nd (o24e P) (nd (o40s1 P) (nd (o72s1 P) nl nl) nl) (nd (o56s1 P) (nd (o88s3 P) nl nl) nl))) (nd (o12e P) (nd (o20e P) (nd (o36s1 P) (nd (o68s1 P) nl nl) nl) (nd (o52s1 P) (nd (o84s3 P) nl nl) nl)) (nd (o28sa P) (nd (o44s1 P) (nd (o76s2 P) nl nl) nl) (nd (o60s1 P) nl nl)))) (nd (o6e P) (nd (o10e P) (nd (o18e P) (nd (o34s1 P) (nd (o66s1 P) nl nl) nl) (nd (o50s1 P) (nd (o82s2 P) nl nl) nl)) (nd (o26e P) (nd (o42s1 P) (nd (o74s2 P) nl nl) nl) (nd (o58s1 P) (nd (o90s3 P) nl nl) nl))) (nd (o14e P) (nd (o22e P) (nd (o38s1 P) (nd (o70s1 P) nl nl) nl) (nd (o54s1 P) (nd (o86s3 P) nl nl) nl)) (nd (o30sa P) (nd (o46s1 P) (nd (o78s2 P) nl nl) nl) (nd (o62s1 P) nl nl))))))
noncomputable def o3f (P : Params) : Obj := ⟨(.type "dict"), none, (.dict #[⟨PyData.keyHash P (Str.ofString "__name__"), (.str (Str.ofString "__name__") 165), (.str (Str.ofString "law_uk0030_01") 2594)⟩, ⟨PyData.keyHash P (Str.ofString "__doc__"), (.str (Str.ofString "__doc__") 166), .none⟩, ⟨PyData.keyHash P (Str.ofString "__package__"), (.str (Str.ofString "__package__") 167), .none⟩, ⟨PyData.keyHash P (Str.ofString "__loader__"), (.str (Str.ofString "__loader__") 168), (.builtin "__main__.__loader__#opaque")⟩, ⟨PyData.keyHash P (Str.ofString "__spec__"), (.str (Str.ofString "__spec__") 169), .none⟩, ⟨PyData.keyHash P (Str.ofString "__annotations__"), (.str (Str.ofString "__annotations__") 170), (.ref 6)⟩, ⟨PyData.keyHash P (Str.ofString "__builtins__"), (.str (Str.ofString "__builtins__") 171), (.ref 4)⟩, ⟨PyData.keyHash P (Str.ofString "__file__"), (.str (Str.ofString "__file__") 173), (.str (Str.ofString "/claim/cut.py") 172)⟩, ⟨PyData.keyHash P (Str.ofString "__cached__"), (.str (Str.ofString "__cached__") 174), .none⟩, ⟨PyData.keyHash P (Str.ofString "_sre"), (.str (Str.ofString "_sre") 275), (.ref 12)⟩, ⟨PyData.keyHash P (Str.ofString "_wall"), (.str (Str.ofString "_wall") 288), (.ref 38)⟩, ⟨PyData.keyHash P (Str.ofString "ELLIPSIS_MARKER"), (.str (Str.ofString "ELLIPSIS_MARKER") 292), (.str (Str.ofString "...") 291)⟩, ⟨PyData.keyHash P (Str.ofString "_ellipsis_match"), (.str (Str.ofString "_ellipsis_match") 304), (.ref 45)⟩, ⟨PyData.keyHash P (Str.ofString "insort_right"), (.str (Str.ofString "insort_right") 319), (.ref 54)⟩, ⟨PyData.keyHash P (Str.ofString "bisect_right"), (.str (Str.ofString "bisect_right") 333), (.ref 63)⟩, ⟨PyData.keyHash P (Str.ofString "bisect_left"), (.str (Str.ofString "bisect_left") 347), (.ref 72)⟩, ⟨PyData.keyHash P (Str.ofString "b1_set"), (.str (Str.ofString "b1_set") 409), (.ref 80)⟩, ⟨PyData.keyHash P (Str.ofString "in_table_b1"), (.str (Str.ofString "in_table_b1") 416), (.ref 90)⟩, ⟨PyData.keyHash P (Str.ofString "b3_exceptions"), (.str (Str.ofString "b3_exceptions") 2367), (.ref 91)⟩, ⟨PyData.keyHash P (Str.ofString "map_table_b3"), (.str (Str.ofString "map_table_b3") 2375), (.ref 136)⟩, ⟨PyData.keyHash P (Str.ofString "_name_disallowed_re"), (.str (Str.ofString "_name_disallowed_re") 2403), (.ref 141)⟩, ⟨PyData.keyHash P (Str.ofString "_value_disallowed_re"), (.str (Str.ofString "_value_disallowed_re") 2437), (.ref 146)⟩, ⟨PyData.keyHash P (Str.ofString "Headers"), (.str (Str.ofString "Headers") 2593), (.ref 269)⟩, ⟨PyData.keyHash P (Str.ofString "_law_triples"), (.str (Str.ofString "_law_triples") 2601), (.ref 280)⟩, ⟨PyData.keyHash P (Str.ofString "_law_unseen"), (.str (Str.ofString "_law_unseen") 2608), (.ref 287)⟩, ⟨PyData.keyHash P (Str.ofString "_law_beside"), (.str (Str.ofString "_law_beside") 2615), (.ref 294)⟩, ⟨PyData.keyHash P (Str.ofString "_law_letter"), (.str (Str.ofString "_law_letter") 2623), (.ref 301)⟩, ⟨PyData.keyHash P (Str.ofString "_law_typed"), (.str (Str.ofString "_law_typed") 2629), (.ref 306)⟩, ⟨PyData.keyHash P (Str.ofString "_law_prepared"), (.str (Str.ofString "_law_prepared") 2635), (.ref 311)⟩, ⟨PyData.keyHash P (Str.ofString "_law_rule"), (.str (Str.ofString "_law_rule") 2641), (.ref 316)⟩, ⟨PyData.keyHash P (Str.ofString "_law_told"), (.str (Str.ofString "_law_told") 2647), (.ref 321)⟩, ⟨PyData.keyHash P (Str.ofString "_law_helping"), (.str (Str.ofString "_law_helping") 2653), (.ref 326)⟩, ⟨PyData.keyHash P (Str.ofString "_law_is_middle"), (.str (Str.ofString "_law_is_middle") 2664), (.ref 333)⟩, ⟨PyData.keyHash P (Str.ofString "law"), (.str (Str.ofString "law") 2680), (.ref 340)⟩] 34), #[]⟩
noncomputable def o135f (P : Params) : Obj := ⟨(.type "code"), none, (.fields #[(.str (Str.ofString "map_table_b3") 2368), (.str (Str.ofString "map_table_b3") 2369), (.str (Str.ofString "/claim/cut.py") 2370), (.int 87 0), (.int 1 0), (.int 0 0), (.int 0 0), (.int 3 0), (.ref 130), (.bool true), (.int 276 0), (.ref 131), .none, (.ref 132), (.ref 133), (.ref 134), (.int 2373 0), (.int 87 0), (.str (Str.ofString "/claim/cut.py") 2374)]), #[]⟩
noncomputable def o136f (P : Params) : Obj := ⟨(.type "function"), none, (.func { fd1 13 with name := (Str.ofString "map_table_b3"), qualname := (Str.ofString "map_table_b3"), globals := 3, closure := [], defaults := .none, kwdefaults := .none, doc := .none, pyModule := (.str (Str.ofString "cpy313.stringprep") 348), annotations := none, code := (.ref 135), closureTuple := .none, builtins := 0 }), #[]⟩
noncomputable def o140f (P : Params) : Obj := ⟨(.type "tuple"), none, (.seq #[(.int 14 0), (.int 10 0), (.int 4 0), (.int 1 0), (.int 1 0), (.int 22 0), (.int 0 0), (.int 31 0), (.int 16 0), (.int 127 0), (.int 0 0), (.int 13 0), (.int 7 0), (.int 22 0), (.int 0 0), (.int 31 0), (.int 16 0), (.int 127 0), (.int 0 0), (.int 1 0)] 0), #[]⟩
noncomputable def o141f (P : Params) : Obj := ⟨(.type "re.Pattern"), none, (.fields #[(.str (Str.ofString "[\\x00-\\x1F\\x7F]") 2379), (.int 32 2402), (.int 0 0), .none, .none, (.ref 140), (.int 0 0)]), #[]⟩
noncomputable def o145f (P : Params) : Obj := ⟨(.type "tuple"), none, (.seq #[(.int 14 0), (.int 14 0), (.int 4 0), (.int 1 0), (.int 1 0), (.int 9 0), (.int 4294966783 0), (.int 0 0), (.int 0 0), (.int 2147483648 0), (.int 0 0), (.int 0 0), (.int 0 0), (.int 0 0), (.int 0 0), (.int 13 0), (.int 11 0), (.int 9 0), (.int 4294966783 0), (.int 0 0), (.int 0 0), (.int 2147483648 0), (.int 0 0), (.int 0 0), (.int 0 0), (.int 0 0), (.int 0 0), (.int 1 0)] 0), #[]⟩
noncomputable def o146f (P : Params) : Obj := ⟨(.type "re.Pattern"), none, (.fields #[(.str (Str.ofString "[\\x00-\\x08\\x0A-\\x1F\\x7F]") 2405), (.int 32 2436), (.int 0 0), .none, .none, (.ref 145), (.int 0 0)]), #[]⟩
noncomputable def o154f (P : Params) : Obj := ⟨(.type "tuple"), none, (.seq #[.none] 0), #[]⟩
noncomputable def o160f (P : Params) : Obj := ⟨(.type "code"), none, (.fields #[(.str (Str.ofString "__init__") 2450), (.str (Str.ofString "Headers.__init__") 2451), (.str (Str.ofString "/claim/cut.py") 2452), (.int 97 0), (.int 2 0), (.int 0 0), (.int 0 0), (.int 3 0), (.ref 155), (.bool true), (.int 276 0), (.ref 156), .none, (.ref 157), (.ref 158), (.ref 159), (.int 2457 0), (.int 97 0), (.str (Str.ofString "/claim/cut.py") 2458)]), #[]⟩
noncomputable def o161f (P : Params) : Obj := ⟨(.type "function"), none, (.func { fd2 17 0 with name := (Str.ofString "__init__"), qualname := (Str.ofString "Headers.__init__"), globals := 3, closure := [], defaults := (.ref 154), kwdefaults := .none, doc := .none, pyModule := (.str (Str.ofString "cpy313.wsgiref.headers") 2376), annotations := none, code := (.ref 160), closureTuple := .none, builtins := 0 }), #[]⟩
noncomputable def o167f (P : Params) : Obj := ⟨(.type "code"), none, (.fields #[(.str (Str.ofString "_convert_string_type") 2460), (.str (Str.ofString "Headers._convert_string_type") 2461), (.str (Str.ofString "/claim/cut.py") 2462), (.int 107 0), (.int 2 0), (.int 0 0), (.int 1 0), (.int 3 0), (.ref 162), (.bool true), (.int 276 0), (.ref 163), .none, (.ref 164), (.ref 165), (.ref 166), (.int 2467 0), (.int 107 0), (.str (Str.ofString "/claim/cut.py") 2468)]), #[]⟩
noncomputable def o168f (P : Params) : Obj := ⟨(.type "function"), none, (.func { fd2 17 1 with name := (Str.ofString "_convert_string_type"), qualname := (Str.ofString "Headers._convert_string_type"), globals := 3, closure := [], defaults := .none, kwdefaults := .none, doc := .none, pyModule := (.str (Str.ofString "cpy313.wsgiref.headers") 2376), annotations := none, code := (.ref 167), closureTuple := .none, builtins := 0 }), #[]⟩
noncomputable def o174f (P : Params) : Obj := ⟨(.type "code"), none, (.fields #[(.str (Str.ofString "__len__") 2470), (.str (Str.ofString "Headers.__len__") 2471), (.str (Str.ofString "/claim/cut.py") 2472), (.int 115 0), (.int 1 0), (.int 0 0), (.int 0 0), (.int 3 0), (.ref 169), (.bool true), (.int 276 0), (.ref 170), .none, (.ref 171), (.ref 172), (.ref 173), (.int 2474 0), (.int 115 0), (.str (Str.ofString "/claim/cut.py") 2475)]), #[]⟩
noncomputable def o175f (P : Params) : Obj := ⟨(.type "function"), none, (.func { fd2 17 2 with name := (Str.ofString "__len__"), qualname := (Str.ofString "Headers.__len__"), globals := 3, closure := [], defaults := .none, kwdefaults := .none, doc := .none, pyModule := (.str (Str.ofString "cpy313.wsgiref.headers") 2376), annotations := none, code := (.ref 174), closureTuple := .none, builtins := 0 }), #[]⟩
noncomputable def o181f (P : Params) : Obj := ⟨(.type "code"), none, (.fields #[(.str (Str.ofString "__setitem__") 2477), (.str (Str.ofString "Headers.__setitem__") 2478), (.str (Str.ofString "/claim/cut.py") 2479), (.int 118 0), (.int 3 0), (.int 0 0), (.int 0 0), (.int 3 0), (.ref 176), (.bool true), (.int 276 0), (.ref 177), .none, (.ref 178), (.ref 179), (.ref 180), (.int 2483 0), (.int 118 0), (.str (Str.ofString "/claim/cut.py") 2484)]), #[]⟩
noncomputable def o182f (P : Params) : Obj := ⟨(.type "function"), none, (.func { fd2 17 3 with name := (Str.ofString "__setitem__"), qualname := (Str.ofString "Headers.__setitem__"), globals := 3, closure := [], defaults := .none, kwdefaults := .none, doc := .none, pyModule := (.str (Str.ofString "cpy313.wsgiref.headers") 2376), annotations := none, code := (.ref 181), closureTuple := .none, builtins := 0 }), #[]⟩
noncomputable def o186f (P : Params) : Obj := ⟨(.type "code"), none, (.fields #[(.str (Str.ofString "__delitem__") 2486), (.str (Str.ofString "Headers.__delitem__") 2487), (.str (Str.ofString "/claim/cut.py") 2488), (.int 122 0), (.int 2 0), (.int 0 0), (.int 0 0), (.int 3 0), (.ref 183), (.bool true), (.int 276 0), (.ref 184), .none, .none, .none, (.ref 185), (.int 2489 0), (.int 122 0), (.str (Str.ofString "/claim/cut.py") 2490)]), #[]⟩
noncomputable def o187f (P : Params) : Obj := ⟨(.type "function"), none, (.func { fd2 17 4 with name := (Str.ofString "__delitem__"), qualname := (Str.ofString "Headers.__delitem__"), globals := 3, closure := [], defaults := .none, kwdefaults := .none, doc := .none, pyModule := (.str (Str.ofString "cpy313.wsgiref.headers") 2376), annotations := none, code := (.ref 186), closureTuple := .none, builtins := 0 }), #[]⟩
noncomputable def o193f (P : Params) : Obj := ⟨(.type "code"), none, (.fields #[(.str (Str.ofString "__getitem__") 2492), (.str (Str.ofString "Headers.__getitem__") 2493), (.str (Str.ofString "/claim/cut.py") 2494), (.int 126 0), (.int 2 0), (.int 0 0), (.int 0 0), (.int 3 0), (.ref 188), (.bool true), (.int 276 0), (.ref 189), .none, (.ref 190), (.ref 191), (.ref 192), (.int 2497 0), (.int 126 0), (.str (Str.ofString "/claim/cut.py") 2498)]), #[]⟩
noncomputable def o194f (P : Params) : Obj := ⟨(.type "function"), none, (.func { fd2 17 5 with name := (Str.ofString "__getitem__"), qualname := (Str.ofString "Headers.__getitem__"), globals := 3, closure := [], defaults := .none, kwdefaults := .none, doc := .none, pyModule := (.str (Str.ofString "cpy313.wsgiref.headers") 2376), annotations := none, code := (.ref 193), closureTuple := .none, builtins := 0 }), #[]⟩
noncomputable def o200f (P : Params) : Obj := ⟨(.type "code"), none, (.fields #[(.str (Str.ofString "__contains__") 2500), (.str (Str.ofString "Headers.__contains__") 2501), (.str (Str.ofString "/claim/cut.py") 2502), (.int 129 0), (.int 2 0), (.int 0 0), (.int 0 0), (.int 3 0), (.ref 195), (.bool true), (.int 276 0), (.ref 196), .none, (.ref 197), (.ref 198), (.ref 199), (.int 2505 0), (.int 129 0), (.str (Str.ofString "/claim/cut.py") 2506)]), #[]⟩
noncomputable def o201f (P : Params) : Obj := ⟨(.type "function"), none, (.func { fd2 17 6 with name := (Str.ofString "__contains__"), qualname := (Str.ofString "Headers.__contains__"), globals := 3, closure := [], defaults := .none, kwdefaults := .none, doc := .none, pyModule := (.str (Str.ofString "cpy313.wsgiref.headers") 2376), annotations := none, code := (.ref 200), closureTuple := .none, builtins := 0 }), #[]⟩
noncomputable def o207f (P : Params) : Obj := ⟨(.type "code"), none, (.fields #[(.str (Str.ofString "get_all") 2508), (.str (Str.ofString "Headers.get_all") 2509), (.str (Str.ofString "/claim/cut.py") 2510), (.int 132 0), (.int 2 0), (.int 0 0), (.int 0 0), (.int 3 0), (.ref 202), (.bool true), (.int 276 0), (.ref 203), .none, (.ref 204), (.ref 205), (.ref 206), (.int 2513 0), (.int 132 0), (.str (Str.ofString "/claim/cut.py") 2514)]), #[]⟩
noncomputable def o208f (P : Params) : Obj := ⟨(.type "function"), none, (.func { fd2 17 7 with name := (Str.ofString "get_all"), qualname := (Str.ofString "Headers.get_all"), globals := 3, closure := [], defaults := .none, kwdefaults := .none, doc := .none, pyModule := (.str (Str.ofString "cpy313.wsgiref.headers") 2376), annotations := none, code := (.ref 207), closureTuple := .none, builtins := 0 }), #[]⟩
noncomputable def o209f (P : Params) : Obj := ⟨(.type "tuple"), none, (.seq #[.none] 0), #[]⟩
noncomputable def o215f (P : Params) : Obj := ⟨(.type "code"), none, (.fields #[(.str (Str.ofString "get") 2516), (.str (Str.ofString "Headers.get") 2517), (.str (Str.ofString "/claim/cut.py") 2518), (.int 135 0), (.int 3 0), (.int 0 0), (.int 0 0), (.int 3 0), (.ref 210), (.bool true), (.int 276 0), (.ref 211), .none, (.ref 212), (.ref 213), (.ref 214), (.int 2524 0), (.int 135 0), (.str (Str.ofString "/claim/cut.py") 2525)]), #[]⟩
noncomputable def o216f (P : Params) : Obj := ⟨(.type "function"), none, (.func { fd2 17 8 with name := (Str.ofString "get"), qualname := (Str.ofString "Headers.get"), globals := 3, closure := [], defaults := (.ref 209), kwdefaults := .none, doc := .none, pyModule := (.str (Str.ofString "cpy313.wsgiref.headers") 2376), annotations := none, code := (.ref 215), closureTuple := .none, builtins := 0 }), #[]⟩
noncomputable def o220f (P : Params) : Obj := ⟨(.type "code"), none, (.fields #[(.str (Str.ofString "keys") 2527), (.str (Str.ofString "Headers.keys") 2528), (.str (Str.ofString "/claim/cut.py") 2529), (.int 142 0), (.int 1 0), (.int 0 0), (.int 0 0), (.int 3 0), (.ref 217), (.bool true), (.int 276 0), (.ref 218), .none, .none, .none, (.ref 219), (.int 2530 0), (.int 142 0), (.str (Str.ofString "/claim/cut.py") 2531)]), #[]⟩
noncomputable def o221f (P : Params) : Obj := ⟨(.type "function"), none, (.func { fd2 17 9 with name := (Str.ofString "keys"), qualname := (Str.ofString "Headers.keys"), globals := 3, closure := [], defaults := .none, kwdefaults := .none, doc := .none, pyModule := (.str (Str.ofString "cpy313.wsgiref.headers") 2376), annotations := none, code := (.ref 220), closureTuple := .none, builtins := 0 }), #[]⟩
noncomputable def o225f (P : Params) : Obj := ⟨(.type "code"), none, (.fields #[(.str (Str.ofString "values") 2533), (.str (Str.ofString "Headers.values") 2534), (.str (Str.ofString "/claim/cut.py") 2535), (.int 145 0), (.int 1 0), (.int 0 0), (.int 0 0), (.int 3 0), (.ref 222), (.bool true), (.int 276 0), (.ref 223), .none, .none, .none, (.ref 224), (.int 2536 0), (.int 145 0), (.str (Str.ofString "/claim/cut.py") 2537)]), #[]⟩
noncomputable def o226f (P : Params) : Obj := ⟨(.type "function"), none, (.func { fd2 17 10 with name := (Str.ofString "values"), qualname := (Str.ofString "Headers.values"), globals := 3, closure := [], defaults := .none, kwdefaults := .none, doc := .none, pyModule := (.str (Str.ofString "cpy313.wsgiref.headers") 2376), annotations := none, code := (.ref 225), closureTuple := .none, builtins := 0 }), #[]⟩
noncomputable def o232f (P : Params) : Obj := ⟨(.type "code"), none, (.fields #[(.str (Str.ofString "items") 2539), (.str (Str.ofString "Headers.items") 2540), (.str (Str.ofString "/claim/cut.py") 2541), (.int 148 0), (.int 1 0), (.int 0 0), (.int 0 0), (.int 3 0), (.ref 227), (.bool true), (.int 276 0), (.ref 228), .none, (.ref 229), (.ref 230), (.ref 231), (.int 2543 0), (.int 148 0), (.str (Str.ofString "/claim/cut.py") 2544)]), #[]⟩
noncomputable def o233f (P : Params) : Obj := ⟨(.type "function"), none, (.func { fd2 17 11 with name := (Str.ofString "items"), qualname := (Str.ofString "Headers.items"), globals := 3, closure := [], defaults := .none, kwdefaults := .none, doc := .none, pyModule := (.str (Str.ofString "cpy313.wsgiref.headers") 2376), annotations := none, code := (.ref 232), closureTuple := .none, builtins := 0 }), #[]⟩
noncomputable def o239f (P : Params) : Obj := ⟨(.type "code"), none, (.fields #[(.str (Str.ofString "__repr__") 2546), (.str (Str.ofString "Headers.__repr__") 2547), (.str (Str.ofString "/claim/cut.py") 2548), (.int 151 0), (.int 1 0), (.int 0 0), (.int 0 0), (.int 3 0), (.ref 234), (.bool true), (.int 276 0), (.ref 235), .none, (.ref 236), (.ref 237), (.ref 238), (.int 2550 0), (.int 151 0), (.str (Str.ofString "/claim/cut.py") 2551)]), #[]⟩
noncomputable def o240f (P : Params) : Obj := ⟨(.type "function"), none, (.func { fd2 17 12 with name := (Str.ofString "__repr__"), qualname := (Str.ofString "Headers.__repr__"), globals := 3, closure := [], defaults := .none, kwdefaults := .none, doc := .none, pyModule := (.str (Str.ofString "cpy313.wsgiref.headers") 2376), annotations := none, code := (.ref 239), closureTuple := .none, builtins := 0 }), #[]⟩
noncomputable def o244f (P : Params) : Obj := ⟨(.type "code"), none, (.fields #[(.str (Str.ofString "__str__") 2553), (.str (Str.ofString "Headers.__str__") 2554), (.str (Str.ofString "/claim/cut.py") 2555), (.int 154 0), (.int 1 0), (.int 0 0), (.int 0 0), (.int 3 0), (.ref 241), (.bool true), (.int 276 0), (.ref 242), .none, .none, .none, (.ref 243), (.int 2556 0), (.int 154 0), (.str (Str.ofString "/claim/cut.py") 2557)]), #[]⟩
noncomputable def o245f (P : Params) : Obj := ⟨(.type "function"), none, (.func { fd2 17 13 with name := (Str.ofString "__str__"), qualname := (Str.ofString "Headers.__str__"), globals := 3, closure := [], defaults := .none, kwdefaults := .none, doc := .none, pyModule := (.str (Str.ofString "cpy313.wsgiref.headers") 2376), annotations := none, code := (.ref 244), closureTuple := .none, builtins := 0 }), #[]⟩
noncomputable def o251f (P : Params) : Obj := ⟨(.type "code"), none, (.fields #[(.str (Str.ofString "__bytes__") 2559), (.str (Str.ofString "Headers.__bytes__") 2560), (.str (Str.ofString "/claim/cut.py") 2561), (.int 157 0), (.int 1 0), (.int 0 0), (.int 0 0), (.int 3 0), (.ref 246), (.bool true), (.int 276 0), (.ref 247), .none, (.ref 248), (.ref 249), (.ref 250), (.int 2563 0), (.int 157 0), (.str (Str.ofString "/claim/cut.py") 2564)]), #[]⟩
noncomputable def o252f (P : Params) : Obj := ⟨(.type "function"), none, (.func { fd2 17 14 with name := (Str.ofString "__bytes__"), qualname := (Str.ofString "Headers.__bytes__"), globals := 3, closure := [], defaults := .none, kwdefaults := .none, doc := .none, pyModule := (.str (Str.ofString "cpy313.wsgiref.headers") 2376), annotations := none, code := (.ref 251), closureTuple := .none, builtins := 0 }), #[]⟩
noncomputable def o258f (P : Params) : Obj := ⟨(.type "code"), none, (.fields #[(.str (Str.ofString "setdefault") 2566), (.str (Str.ofString "Headers.setdefault") 2567), (.str (Str.ofString "/claim/cut.py") 2568), (.int 160 0), (.int 3 0), (.int 0 0), (.int 0 0), (.int 3 0), (.ref 253), (.bool true), (.int 276 0), (.ref 254), .none, (.ref 255), (.ref 256), (.ref 257), (.int 2572 0), (.int 160 0), (.str (Str.ofString "/claim/cut.py") 2573)]), #[]⟩
noncomputable def o259f (P : Params) : Obj := ⟨(.type "function"), none, (.func { fd2 17 15 with name := (Str.ofString "setdefault"), qualname := (Str.ofString "Headers.setdefault"), globals := 3, closure := [], defaults := .none, kwdefaults := .none, doc := .none, pyModule := (.str (Str.ofString "cpy313.wsgiref.headers") 2376), annotations := none, code := (.ref 258), closureTuple := .none, builtins := 0 }), #[]⟩
noncomputable def o265f (P : Params) : Obj := ⟨(.type "code"), none, (.fields #[(.str (Str.ofString "add_header") 2575), (.str (Str.ofString "Headers.add_header") 2576), (.str (Str.ofString "/claim/cut.py") 2577), (.int 163 0), (.int 3 0), (.int 0 0), (.int 0 0), (.int 11 0), (.ref 260), (.bool true), (.int 276 0), (.ref 261), .none, (.ref 262), (.ref 263), (.ref 264), (.int 2582 0), (.int 163 0), (.str (Str.ofString "/claim/cut.py") 2583)]), #[]⟩
noncomputable def o266f (P : Params) : Obj := ⟨(.type "function"), none, (.func { fd2 17 16 with name := (Str.ofString "add_header"), qualname := (Str.ofString "Headers.add_header"), globals := 3, closure := [], defaults := .none, kwdefaults := .none, doc := .none, pyModule := (.str (Str.ofString "cpy313.wsgiref.headers") 2376), annotations := none, code := (.ref 265), closureTuple := .none, builtins := 0 }), #[]⟩
noncomputable def o268f (P : Params) : Obj := ⟨(.type "dict"), none, (.dict #[⟨PyData.keyHash P (Str.ofString "__module__"), (.str (Str.ofString "__module__") 2445), (.str (Str.ofString "cpy313.wsgiref.headers") 2376)⟩, ⟨PyData.keyHash P (Str.ofString "__firstlineno__"), (.str (Str.ofString "__firstlineno__") 2449), (.int 95 2448)⟩, ⟨PyData.keyHash P (Str.ofString "__init__"), (.str (Str.ofString "__init__") 2459), (.ref 161)⟩, ⟨PyData.keyHash P (Str.ofString "_convert_string_type"), (.str (Str.ofString "_convert_string_type") 2469), (.ref 168)⟩, ⟨PyData.keyHash P (Str.ofString "__len__"), (.str (Str.ofString "__len__") 2476), (.ref 175)⟩, ⟨PyData.keyHash P (Str.ofString "__setitem__"), (.str (Str.ofString "__setitem__") 2485), (.ref 182)⟩, ⟨PyData.keyHash P (Str.ofString "__delitem__"), (.str (Str.ofString "__delitem__") 2491), (.ref 187)⟩, ⟨PyData.keyHash P (Str.ofString "__getitem__"), (.str (Str.ofString "__getitem__") 2499), (.ref 194)⟩, ⟨PyData.keyHash P (Str.ofString "__contains__"), (.str (Str.ofString "__contains__") 2507), (.ref 201)⟩, ⟨PyData.keyHash P (Str.ofString "get_all"), (.str (Str.ofString "get_all") 2515), (.ref 208)⟩, ⟨PyData.keyHash P (Str.ofString "get"), (.str (Str.ofString "get") 2526), (.ref 216)⟩, ⟨PyData.keyHash P (Str.ofString "keys"), (.str (Str.ofString "keys") 2532), (.ref 221)⟩, ⟨PyData.keyHash P (Str.ofString "values"), (.str (Str.ofString "values") 2538), (.ref 226)⟩, ⟨PyData.keyHash P (Str.ofString "items"), (.str (Str.ofString "items") 2545), (.ref 233)⟩, ⟨PyData.keyHash P (Str.ofString "__repr__"), (.str (Str.ofString "__repr__") 2552), (.ref 240)⟩, ⟨PyData.keyHash P (Str.ofString "__str__"), (.str (Str.ofString "__str__") 2558), (.ref 245)⟩, ⟨PyData.keyHash P (Str.ofString "__bytes__"), (.str (Str.ofString "__bytes__") 2565), (.ref 252)⟩, ⟨PyData.keyHash P (Str.ofString "setdefault"), (.str (Str.ofString "setdefault") 2574), (.ref 259)⟩, ⟨PyData.keyHash P (Str.ofString "add_header"), (.str (Str.ofString "add_header") 2584), (.ref 266)⟩, ⟨PyData.keyHash P (Str.ofString "__static_attributes__"), (.str (Str.ofString "__static_attributes__") 2586), (.ref 267)⟩, ⟨PyData.keyHash P (Str.ofString "__dict__"), (.str (Str.ofString "__dict__") 2588), (.ref 270)⟩, ⟨PyData.keyHash P (Str.ofString "__weakref__"), (.str (Str.ofString "__weakref__") 2590), (.ref 271)⟩, ⟨PyData.keyHash P (Str.ofString "__doc__"), (.str (Str.ofString "__doc__") 2591), .none⟩] 4), #[]⟩
noncomputable def o269f (P : Params) : Obj := ⟨(.type "type"), none, (.cls { name := (Str.ofString "Headers"), bases := [(.type "object")], mro := [(.ref 269), (.type "object")], ns := 268, qualname := (Str.ofString "Headers"), hasDict := true, slotNames := [], subclasses := [], abstract := false, collection := none, hasDel := false }), #[none, none, (some (.str (Str.ofString "Headers") 2438)), (some (.str (Str.ofString "Headers") 2446)), (some (.builtin "object.__new__")), (some (.bool true))]⟩
noncomputable def o270f (P : Params) : Obj := ⟨(.type "getset_descriptor"), none, (.fields #[(.str (Str.ofString "__dict__") 2587), (.ref 269), (.builtin "function.__dict__"), (.builtin "function.__dict__#set")]), #[]⟩
noncomputable def o271f (P : Params) : Obj := ⟨(.type "getset_descriptor"), none, (.fields #[(.str (Str.ofString "__weakref__") 2589), (.ref 269), (.builtin "ExceptionGroup.__weakref__"), .none]), #[]⟩
noncomputable def o279f (P : Params) : Obj := ⟨(.type "code"), none, (.fields #[(.str (Str.ofString "_law_triples") 2596), (.str (Str.ofString "_law_triples") 2597), (.str (Str.ofString "/claim/cut.py") 2598), (.int 166 0), (.int 0 0), (.int 0 0), (.int 0 0), (.int 3 0), (.ref 274), (.bool true), (.int 276 0), (.ref 275), .none, (.ref 276), (.ref 277), (.ref 278), (.int 2599 0), (.int 166 0), (.str (Str.ofString "/claim/cut.py") 2600)]), #[]⟩
noncomputable def o280f (P : Params) : Obj := ⟨(.type "function"), none, (.func { fd1 19 with name := (Str.ofString "_law_triples"), qualname := (Str.ofString "_law_triples"), globals := 3, closure := [], defaults := .none, kwdefaults := .none, doc := .none, pyModule := (.str (Str.ofString "law_uk0030_01") 2594), annotations := none, code := (.ref 279), closureTuple := .none, builtins := 0 }), #[]⟩
noncomputable def o286f (P : Params) : Obj := ⟨(.type "code"), none, (.fields #[(.str (Str.ofString "_law_unseen") 2602), (.str (Str.ofString "_law_unseen") 2603), (.str (Str.ofString "/claim/cut.py") 2604), (.int 168 0), (.int 1 0), (.int 0 0), (.int 0 0), (.int 3 0), (.ref 281), (.bool true), (.int 276 0), (.ref 282), .none, (.ref 283), (.ref 284), (.ref 285), (.int 2606 0), (.int 168 0), (.str (Str.ofString "/claim/cut.py") 2607)]), #[]⟩
noncomputable def o287f (P : Params) : Obj := ⟨(.type "function"), none, (.func { fd1 20 with name := (Str.ofString "_law_unseen"), qualname := (Str.ofString "_law_unseen"), globals := 3, closure := [], defaults := .none, kwdefaults := .none, doc := .none, pyModule := (.str (Str.ofString "law_uk0030_01") 2594), annotations := none, code := (.ref 286), closureTuple := .none, builtins := 0 }), #[]⟩
noncomputable def o293f (P : Params) : Obj := ⟨(.type "code"), none, (.fields #[(.str (Str.ofString "_law_beside") 2609), (.str (Str.ofString "_law_beside") 2610), (.str (Str.ofString "/claim/cut.py") 2611), (.int 172 0), (.int 1 0), (.int 0 0), (.int 0 0), (.int 3 0), (.ref 288), (.bool true), (.int 276 0), (.ref 289), .none, (.ref 290), (.ref 291), (.ref 292), (.int 2613 0), (.int 172 0), (.str (Str.ofString "/claim/cut.py") 2614)]), #[]⟩
noncomputable def o294f (P : Params) : Obj := ⟨(.type "function"), none, (.func { fd1 21 with name := (Str.ofString "_law_beside"), qualname := (Str.ofString "_law_beside"), globals := 3, closure := [], defaults := .none, kwdefaults := .none, doc := .none, pyModule := (.str (Str.ofString "law_uk0030_01") 2594), annotations := none, code := (.ref 293), closureTuple := .none, builtins := 0 }), #[]⟩
noncomputable def o300f (P : Params) : Obj := ⟨(.type "code"), none, (.fields #[(.str (Str.ofString "_law_letter") 2616), (.str (Str.ofString "_law_letter") 2617), (.str (Str.ofString "/claim/cut.py") 2618), (.int 174 0), (.int 2 0), (.int 0 0), (.int 0 0), (.int 3 0), (.ref 295), (.bool true), (.int 276 0), (.ref 296), .none, (.ref 297), (.ref 298), (.ref 299), (.int 2621 0), (.int 174 0), (.str (Str.ofString "/claim/cut.py") 2622)]), #[]⟩
noncomputable def o301f (P : Params) : Obj := ⟨(.type "function"), none, (.func { fd1 22 with name := (Str.ofString "_law_letter"), qualname := (Str.ofString "_law_letter"), globals := 3, closure := [], defaults := .none, kwdefaults := .none, doc := .none, pyModule := (.str (Str.ofString "law_uk0030_01") 2594), annotations := none, code := (.ref 300), closureTuple := .none, builtins := 0 }), #[]⟩
noncomputable def o305f (P : Params) : Obj := ⟨(.type "code"), none, (.fields #[(.str (Str.ofString "_law_typed") 2624), (.str (Str.ofString "_law_typed") 2625), (.str (Str.ofString "/claim/cut.py") 2626), (.int 180 0), (.int 2 0), (.int 0 0), (.int 0 0), (.int 3 0), (.ref 302), (.bool true), (.int 276 0), (.ref 303), .none, .none, .none, (.ref 304), (.int 2627 0), (.int 180 0), (.str (Str.ofString "/claim/cut.py") 2628)]), #[]⟩
noncomputable def o306f (P : Params) : Obj := ⟨(.type "function"), none, (.func { fd1 23 with name := (Str.ofString "_law_typed"), qualname := (Str.ofString "_law_typed"), globals := 3, closure := [], defaults := .none, kwdefaults := .none, doc := .none, pyModule := (.str (Str.ofString "law_uk0030_01") 2594), annotations := none, code := (.ref 305), closureTuple := .none, builtins := 0 }), #[]⟩
noncomputable def o310f (P : Params) : Obj := ⟨(.type "code"), none, (.fields #[(.str (Str.ofString "_law_prepared") 2630), (.str (Str.ofString "_law_prepared") 2631), (.str (Str.ofString "/claim/cut.py") 2632), (.int 191 0), (.int 1 0), (.int 0 0), (.int 0 0), (.int 3 0), (.ref 307), (.bool true), (.int 276 0), (.ref 308), .none, .none, .none, (.ref 309), (.int 2633 0), (.int 191 0), (.str (Str.ofString "/claim/cut.py") 2634)]), #[]⟩
noncomputable def o311f (P : Params) : Obj := ⟨(.type "function"), none, (.func { fd1 24 with name := (Str.ofString "_law_prepared"), qualname := (Str.ofString "_law_prepared"), globals := 3, closure := [], defaults := .none, kwdefaults := .none, doc := .none, pyModule := (.str (Str.ofString "law_uk0030_01") 2594), annotations := none, code := (.ref 310), closureTuple := .none, builtins := 0 }), #[]⟩
noncomputable def o315f (P : Params) : Obj := ⟨(.type "code"), none, (.fields #[(.str (Str.ofString "_law_rule") 2636), (.str (Str.ofString "_law_rule") 2637), (.str (Str.ofString "/claim/cut.py") 2638), (.int 193 0), (.int 1 0), (.int 0 0), (.int 0 0), (.int 3 0), (.ref 312), (.bool true), (.int 276 0), (.ref 313), .none, .none, .none, (.ref 314), (.int 2639 0), (.int 193 0), (.str (Str.ofString "/claim/cut.py") 2640)]), #[]⟩
noncomputable def o316f (P : Params) : Obj := ⟨(.type "function"), none, (.func { fd1 25 with name := (Str.ofString "_law_rule"), qualname := (Str.ofString "_law_rule"), globals := 3, closure := [], defaults := .none, kwdefaults := .none, doc := .none, pyModule := (.str (Str.ofString "law_uk0030_01") 2594), annotations := none, code := (.ref 315), closureTuple := .none, builtins := 0 }), #[]⟩
noncomputable def o320f (P : Params) : Obj := ⟨(.type "code"), none, (.fields #[(.str (Str.ofString "_law_told") 2642), (.str (Str.ofString "_law_told") 2643), (.str (Str.ofString "/claim/cut.py") 2644), (.int 208 0), (.int 2 0), (.int 0 0), (.int 0 0), (.int 3 0), (.ref 317), (.bool true), (.int 276 0), (.ref 318), .none, .none, .none, (.ref 319), (.int 2645 0), (.int 208 0), (.str (Str.ofString "/claim/cut.py") 2646)]), #[]⟩
noncomputable def o321f (P : Params) : Obj := ⟨(.type "function"), none, (.func { fd1 26 with name := (Str.ofString "_law_told"), qualname := (Str.ofString "_law_told"), globals := 3, closure := [], defaults := .none, kwdefaults := .none, doc := .none, pyModule := (.str (Str.ofString "law_uk0030_01") 2594), annotations := none, code := (.ref 320), closureTuple := .none, builtins := 0 }), #[]⟩
noncomputable def o325f (P : Params) : Obj := ⟨(.type "code"), none, (.fields #[(.str (Str.ofString "_law_helping") 2648), (.str (Str.ofString "_law_helping") 2649), (.str (Str.ofString "/claim/cut.py") 2650), (.int 222 0), (.int 2 0), (.int 0 0), (.int 0 0), (.int 3 0), (.ref 322), (.bool true), (.int 276 0), (.ref 323), .none, .none, .none, (.ref 324), (.int 2651 0), (.int 222 0), (.str (Str.ofString "/claim/cut.py") 2652)]), #[]⟩
noncomputable def o326f (P : Params) : Obj := ⟨(.type "function"), none, (.func { fd1 27 with name := (Str.ofString "_law_helping"), qualname := (Str.ofString "_law_helping"), globals := 3, closure := [], defaults := .none, kwdefaults := .none, doc := .none, pyModule := (.str (Str.ofString "law_uk0030_01") 2594), annotations := none, code := (.ref 325), closureTuple := .none, builtins := 0 }), #[]⟩
noncomputable def o332f (P : Params) : Obj := ⟨(.type "code"), none, (.fields #[(.str (Str.ofString "_law_is_middle") 2654), (.str (Str.ofString "_law_is_middle") 2655), (.str (Str.ofString "/claim/cut.py") 2656), (.int 240 0), (.int 1 0), (.int 0 0), (.int 0 0), (.int 3 0), (.ref 327), (.bool true), (.int 276 0), (.ref 328), .none, (.ref 329), (.ref 330), (.ref 331), (.int 2662 0), (.int 240 0), (.str (Str.ofString "/claim/cut.py") 2663)]), #[]⟩
noncomputable def o333f (P : Params) : Obj := ⟨(.type "function"), none, (.func { fd1 28 with name := (Str.ofString "_law_is_middle"), qualname := (Str.ofString "_law_is_middle"), globals := 3, closure := [], defaults := .none, kwdefaults := .none, doc := .none, pyModule := (.str (Str.ofString "law_uk0030_01") 2594), annotations := none, code := (.ref 332), closureTuple := .none, builtins := 0 }), #[]⟩
noncomputable def o339f (P : Params) : Obj := ⟨(.type "code"), none, (.fields #[(.str (Str.ofString "law") 2665), (.str (Str.ofString "law") 2666), (.str (Str.ofString "/claim/cut.py") 2667), (.int 251 0), (.int 1 0), (.int 0 0), (.int 0 0), (.int 3 0), (.ref 334), (.bool true), (.int 276 0), (.ref 335), .none, (.ref 336), (.ref 337), (.ref 338), (.int 2678 0), (.int 251 0), (.str (Str.ofString "/claim/cut.py") 2679)]), #[]⟩
noncomputable def o340f (P : Params) : Obj := ⟨(.type "function"), none, (.func { fd1 29 with name := (Str.ofString "law"), qualname := (Str.ofString "law"), globals := 3, closure := [], defaults := .none, kwdefaults := .none, doc := .none, pyModule := (.str (Str.ofString "law_uk0030_01") 2594), annotations := none, code := (.ref 339), closureTuple := .none, builtins := 0 }), #[]⟩
noncomputable def KF0 (P : Params) : Frag := [(3, o3f P), (37, o37s1 P), (38, o38s1 P), (44, o44s1 P), (45, o45s1 P), (46, o46s1 P), (47, o47s1 P), (53, o53s1 P), (54, o54s1 P), (55, o55s1 P), (56, o56s1 P), (62, o62s1 P), (63, o63s1 P), (64, o64s1 P), (65, o65s1 P), (71, o71s1 P), (72, o72s1 P), (80, o80s2 P), (89, o89s3 P), (90, o90s3 P), (135, o135f P), (136, o136f P), (140, o140f P), (141, o141f P), (145, o145f P), (146, o146f P), (154, o154f P), (160, o160f P), (161, o161f P), (167, o167f P), (168, o168f P), (174, o174f P), (175, o175f P), (181, o181f P), (182, o182f P), (186, o186f P), (187, o187f P), (193, o193f P), (194, o194f P), (200, o200f P), (201, o201f P), (207, o207f P), (208, o208f P), (209, o209f P), (215, o215f P), (216, o216f P), (220, o220f P), (221, o221f P), (225, o225f P), (226, o226f P), (232, o232f P), (233, o233f P), (239, o239f P), (240, o240f P), (244, o244f P), (245, o245f P), (251, o251f P), (252, o252f P), (258, o258f P), (259, o259f P), (265, o265f P), (266, o266f P), (268, o268f P), (269, o269f P), (270, o270f P), (271, o271f P), (279, o279f P), (280, o280f P), (286, o286f P), (287, o287f P), (293, o293f P), (294, o294f P), (300, o300f P), (301, o301f P), (305, o305f P), (306, o306f P), (310, o310f P), (311, o311f P), (315, o315f P), (316, o316f P), (320, o320f P), (321, o321f P), (325, o325f P), (326, o326f P), (332, o332f P), (333, o333f P), (339, o339f P), (340, o340f P)]
noncomputable def asF0 : List Nat := [3, 37, 38, 44, 45, 46, 47, 53, 54, 55, 56, 62, 63, 64, 65, 71, 72, 80, 89, 90, 135, 136, 140, 141, 145, 146, 154, 160, 161, 167, 168, 174, 175, 181, 182, 186, 187, 193, 194, 200, 201, 207, 208, 209, 215, 216, 220, 221, 225, 226, 232, 233, 239, 240, 244, 245, 251, 252, 258, 259, 265, 266, 268, 269, 270, 271, 279, 280, 286, 287, 293, 294, 300, 301, 305, 306, 310, 311, 315, 316, 320, 321, 325, 326, 332, 333, 339, 340]
noncomputable def looseL : List Str := ["_wall", "ELLIPSIS_MARKER", "_ellipsis_match", "insort_right", "bisect_right", "bisect_left", "b1_set", "in_table_b1", "b3_exceptions", "map_table_b3", "_name_disallowed_re", "_value_disallowed_re", "Headers", "_law_triples", "_law_unseen", "_law_beside", "_law_letter", "_law_typed", "_law_prepared", "_law_rule", "_law_told", "_law_helping", "_law_is_middle"]
end uk0030_01
namespace uk0030_01
open HL
noncomputable def envT : Env := { scope := PW.main.scope, locals := mainNs, globals := mainNs, cells := [], code := codeV, frame := some frA }
noncomputable def bodyT : List Stmt := behindTheImports PW
noncomputable def cE : Code := .body bodyT envT
noncomputable def BF : List Frame := [topFrame pFr]
noncomputable def Stb (w : World) (os : OsState) : SharedT := ⟨Tb w.params, nb, lf, #[], dr, kb, os⟩
noncomputable def St1 (w : World) (os : OsState) : SharedT := ⟨T1 w.params, n1, lf, #[], dr, k1, os⟩
noncomputable def St2 (w : World) (os : OsState) : SharedT := ⟨T2 w.params, n2, lf, #[], dr, k2, os⟩
noncomputable def St3 (w : World) (os : OsState) : SharedT := ⟨T3 w.params, n3, lf, #[], dr, k3, os⟩
theorem qSeg : @segRunT = @PySem.W.Fast.tw10110043849684766642 := PySem.W.Fast.te10110043849684766642
theorem qTab : treeTable = PySem.W.Fast.tw14364793385576792824 := PySem.W.Fast.te14364793385576792824
theorem qExs : @execs = @PySem.W.Fast.tw12563942051412417395 := PySem.W.Fast.te12563942051412417395
theorem qImp : @impGoT = @PySem.W.Fast.tw14789777615569096658 := PySem.W.Fast.te14789777615569096658
theorem qStart : start = PySem.W.Fast.tw1435165496053646825 := PySem.W.Fast.te1435165496053646825
theorem qTopGo : @topGo = @PySem.W.Fast.tw15667345088766844465 := PySem.W.Fast.te15667345088766844465
theorem qSegS : @segRun = @PySem.W.Fast.tw14374325043358763698 := PySem.W.Fast.te14374325043358763698
theorem qDen : @denote = @PySem.W.Fast.tw11892475500146522536 := PySem.W.Fast.te11892475500146522536
theorem qSeen : @openSeen = @PySem.W.Fast.tw4187177175401517315 := PySem.W.Fast.te4187177175401517315
theorem qFence : @fenceModules? = @PySem.W.Fast.tw14289696077712309145 := PySem.W.Fast.te14289696077712309145
theorem qRest : @restK = fun rest env f => match f with
  | .next => (PySem.W.Fast.tw12563942051412417395 rest env).wrap doneF deadEnd id id
  | f => doneF f := by
  rw [← qExs]; rfl
noncomputable def os0 : OsState := (start (opening PW)).1.os
noncomputable def Sz : SharedT := ⟨.nil, 0, lf, #[], dr, 1, os0⟩
noncomputable def He (w : World) : SharedT := ⟨Te w.params, ne, lf, #[], dr, ke, os0⟩
noncomputable def S0 (w : World) : Shared := ⟨H0 w.params, #[], dr, k0, os0⟩
noncomputable def Sa (w : World) : Shared := ⟨Ha w.params, #[], dr, ka, os0⟩
theorem seg0 (w : World) : (impGoT treeTable (opening PW) w 798 Sz (start (opening PW)).2).map (fun r => (r.1, r.2.atExitBegin)) = some (He w, some []) := by
  rw [qImp, qTab, qStart]
  kernel_rfl
theorem segF (w : World) : fenceModules? PW (He w).abs = some (S0 w) := by
  rw [qFence]
  kernel_rfl
theorem segP (w : World) : topGo treeTable PW w n0 annV 12 (S0 w) (topStub PW) = some (Sa w, ⟨denote treeTable cE, cE, pPre, BF⟩) := by
  rw [qTopGo, qTab, qDen]
  kernel_rfl
theorem segBl (w : World) : segRun treeTable PW w n0 annV 1 1 (Sa w) (blockOf bodyT envT cE pPre BF) = some (.next, (Stb w os0).abs, cE, pB) := by
  unfold blockOf
  rw [qSegS, qTab]
  kernel_rfl
theorem segA (w : World) (os : OsState) : segRunT treeTable PW w n0 annV 1 (m1 + 1) (Stb w os) (piecesOf (bodyT.take iS) envT cE pB BF) = some (.next, St1 w os, cE, p1) := by
  unfold piecesOf
  rw [qSeg, qTab, qExs]
  kernel_rfl
theorem segB' (b c : Bool) (w : World) (os : OsState) : segRunT treeTable PW ((w.withFollow "set-order" b).withFollow "special-get-raises" c) n0 annV 1 (m2 + 1) (St1 ((w.withFollow "set-order" b).withFollow "special-get-raises" c) os) (piecesOf ((bodyT.drop iS).take 1) envT cE p1 BF) = some (.next, St2 ((w.withFollow "set-order" b).withFollow "special-get-raises" c) os, cE, p2) := by
  unfold piecesOf
  rw [qSeg, qTab, qExs]
  cases b <;> cases c
  · kernel_rfl
  · kernel_rfl
  · kernel_rfl
  · kernel_rfl
theorem segB (w : World) (os : OsState) : segRunT treeTable PW w n0 annV 1 (m2 + 1) (St1 w os) (piecesOf ((bodyT.drop iS).take 1) envT cE p1 BF) = some (.next, St2 w os, cE, p2) := by
  have h := segB' (w.params.followText "set-order") ((w.withFollow "set-order" (w.params.followText "set-order")).params.followText "special-get-raises") w os
  rw [World.withFollow_self, World.withFollow_self] at h
  exact h
theorem segC (w : World) (os : OsState) : segRunT treeTable PW w n0 annV 1 (m3 + 1) (St2 w os) (piecesOf ((bodyT.drop (iS + 1)).take (iD - iS - 1)) envT cE p2 BF) = some (.next, St3 w os, cE, p3) := by
  unfold piecesOf
  rw [qSeg, qTab, qExs]
  kernel_rfl
noncomputable def dst : Stmt := bodyT.getD iD (.Pass ⟨0, 0, 0, 0⟩)
theorem dst_is : dst = .Assign [.Name (dNm dst) (dNp dst)] (.Dict (dKs dst) (dVs dst) (dPos dst)) (dAp dst) := by kernel_rfl
noncomputable def prs : List Pair := (prsOf (dKs dst) (dVs dst)).getD []
theorem prs_is : prsOf (dKs dst) (dVs dst) = some prs := by kernel_rfl
theorem prs_incr : incr 0 prs = true := by kernel_rfl
theorem prs_len : prs.length = 650 := by kernel_rfl
noncomputable def L4 : List Obj := dictLeft 37 prs k3
theorem L4_len : L4.length = 39 := by kernel_rfl
noncomputable def St4 (w : World) (os : OsState) : SharedT := ⟨insAll (T3 w.params) n3 L4, nD, lf, #[], dr, k3 + 1950, os⟩
theorem T3_ok (P : Params) : insOk (T3 P) n3 L4 = true := by kernel_rfl
theorem St4_gen {w : World} {os : OsState} {l : List Obj} (h : insOk (T3 w.params) n3 l = true) (hl : l.length = 39) : (SharedT.mk (insAll (T3 w.params) n3 l) nD lf #[] dr (k3 + 1950) os).abs = SS (St3 w os).abs l (k3 + 1950) :=
  abs_SS h (by rw [hl])
theorem St4_abs (w : World) (os : OsState) : (St4 w os).abs = SS (St3 w os).abs L4 (k3 + 1950) := St4_gen (T3_ok w.params) L4_len
noncomputable def vw : Program := { PW with main := { PW.main with body := [stm 0, stm nCells] } }
noncomputable def b3Obj : Obj := dObj (ents (prs.take 646) k3 ++ entsS (prs.drop 646) (k3 + 1938)) 650
noncomputable def KF (P : Params) : Frag := (n3, b3Obj) :: KF0 P
noncomputable def asF : List Nat := n3 :: asF0
theorem asF_is (P : Params) : asF = (KF P).map (·.1) := by kernel_rfl
noncomputable abbrev thrR (pos' : Pos) : Thread := ⟨(tailT envT (dNm dst) (dNp dst) (dKs dst) (dVs dst) (dPos dst) (.ref n3)).wrap (restK (bodyT.drop (iD + 1)) envT) deadEnd id id, cE, pos', BF⟩
theorem segR (w : World) (os : OsState) (pos' : Pos) : (segRunT treeTable PW w n0 annV 1 (mR + 100) (St4 w os) (thrR pos')).map (fun r => (r.1, r.2.2.1, r.2.2.2,
    staticsOk (importedModules PW.main.body) (H0 w.params) r.2.1.abs.heap && namesBound PW r.2.1.abs.heap && gensDone r.2.1.abs && laidKept (H0 w.params) r.2.1.abs.heap,
    openSeen vw looseL (importedModules PW.main.body) (fun _ => true) true r.2.1.abs, X.obsZ asF r.2.1.abs)) = some (.next, cE, pF, true, openGood vw looseL, X.valZ KF nF kF w) := by
  unfold thrR
  rw [qSeg, qTab, qRest, qSeen]
  kernel_rfl
end uk0030_01
end
section
open PySem PySem.W PySem.Calls PyProof.Rows
set_option maxHeartbeats 0
namespace uk0030_01
open HL
theorem start_is : (start (opening PW)).1 = Sz.abs := by kernel_rfl
theorem open_is (w : World) : fencedOpening treeTable PW w 799 = some (S0 w) := by
  obtain ⟨⟨s, t⟩, h1, h2⟩ := Option.map_eq_some_iff.mp (seg0 w)
  obtain ⟨rfl, h3⟩ := Prod.mk.inj h2
  have h4 := imp_go (N := 1) (r := (He w).abs) (impGo_of h1) (by unfold importEnds; rw [h3])
  unfold fencedOpening
  rw [start_is, h4]
  exact segF w
theorem sz_is (w : World) : (S0 w).heap.objs.size = n0 := by kernel_rfl
theorem ann_is (w : World) : (S0 w).heap.nsMap mainGlobals "__annotations__" = annV := by kernel_rfl
theorem ns_is (w : World) : (S0 w).heap.isNs mainGlobals = true := by kernel_rfl
theorem body_is : bodyT = bodyT.take iS ++ ((bodyT.drop iS).take 1 ++ ((bodyT.drop (iS + 1)).take (iD - iS - 1) ++ (bodyT.drop iD ++ []))) := by kernel_rfl
theorem rest_is : bodyT.drop iD = .Assign [.Name (dNm dst) (dNp dst)] (.Dict (dKs dst) (dVs dst) (dPos dst)) (dAp dst) :: bodyT.drop (iD + 1) := by
  rw [← dst_is]; kernel_rfl
theorem size3 (w : World) (os : OsState) : (St3 w os).abs.heap.objs.size = n3 := absHeap_size _ _ _
theorem last_ran (w : World) (s : Shared) (c : Code) (pos : Pos) : topRun treeTable PW w n0 annV 2 s ⟨doneF .next, c, pos, BF⟩ = some s := by
  obtain ⟨h, g, d, t, os⟩ := s
  rfl
theorem dictR (w : World) : ∃ N s₁, segRun treeTable PW w n0 annV 1 N (St3 w os0).abs (piecesOf (bodyT.drop iD) envT cE p3 BF) = some (.next, s₁, cE, pF) ∧
    (staticsOk (importedModules PW.main.body) (H0 w.params) s₁.heap && namesBound PW s₁.heap && gensDone s₁ && laidKept (H0 w.params) s₁.heap) = true ∧
    openSeen vw looseL (importedModules PW.main.body) (fun _ => true) true s₁ = openGood vw looseL ∧ X.obsZ asF s₁ = X.valZ KF nF kF w := by
  have hs := size3 w os0
  obtain ⟨pos', n, hn⟩ := goto_dict (p := PW) (w := w) (n₀ := n0) (ann := annV) (b := bodyT) (env := envT) (q := pFr) (s0 := (St3 w os0).abs) (nm := dNm dst) (np := dNp dst) (ap := dAp dst) (dp := dPos dst) (n := 37) (tk := k3) prs_is prs_incr (by rw [hs]; decide) (by rw [hs]; decide)
    (by rw [prs_len]; decide) (by rw [prs_len]; decide) (by rw [prs_len]; decide) (restK (bodyT.drop (iD + 1)) envT) deadEnd id id p3
  obtain ⟨⟨f, s', c, q⟩, h1, h2⟩ := Option.map_eq_some_iff.mp (segR w os0 pos')
  simp only [Prod.mk.injEq] at h2
  obtain ⟨rfl, rfl, rfl, h3, h4, h5⟩ := h2
  refine ⟨n + (mR + 100), s'.abs, ?_, h3, h4, h5⟩
  have e3 : SS (St3 w os0).abs [] k3 = (St3 w os0).abs := by
    show Shared.mk ⟨_ ++ #[], _⟩ _ _ _ _ = Shared.mk ⟨_, _⟩ _ _ _ _
    rw [Array.append_empty]; rfl
  rw [e3, hs, prs_len] at hn
  rw [rest_is]
  unfold piecesOf
  rw [execs_cons_rest]
  have h6 := segRun_of h1
  rw [St4_abs] at h6
  exact seg_go hn h6
theorem stood (w : World) : Stood PW vw looseL (X.obsZ asF) w (X.valZ KF nF kF w) := by
  obtain ⟨N, s₁, h1, h2, h3, h4⟩ := dictR w
  have k0 := piece_app (rest := []) h1 (piece_nil (last_ran w s₁ cE pF))
  have k1 := piece_app (segRun_of (segC w os0)) k0
  have k2 := piece_app (segRun_of (segB w os0)) k1
  have k3 := piece_app (segRun_of (segA w os0)) k2
  rw [← body_is] at k3
  have k4 := go_top (segP w) (piece_block (segBl w) k3)
  exact ⟨799, _, S0 w, s₁, open_is w, ns_is w, rfl, by rw [sz_is, ann_is]; exact k4, h2, h3, h4⟩
end uk0030_01
end
section
set_option genInjectivity false
set_option genSizeOf false
namespace UK
open PySem PySem.W PySem.Calls PyProof.Rows
inductive D where
  | none | bool (b : Bool) | int (i : Int) | str (x : Str) | tup (xs : List D)
  deriving Inhabited
inductive V where
  | d (x : D) | lst (xs : List D) | dct (kvs : List (Str × D)) | hdr (xs : List D) | ref (k : Nat) | hd (k : Nat) | tup (xs : List V)
  deriving Inhabited
inductive O where
  | list (xs : List D) | dict (kvs : List (Str × D))
  deriving Inhabited
structure Gl where
  p : Program
  w : World
  h₀ : Heap
  cls : Addr
  mg : Str → Option Value
  mb : Str → Option Value
  os : OsState
  gens : Array GenState
noncomputable def Gl.look (G : Gl) (x : Str) : Option Value := match G.mg x with
  | some v => some v
  | none => G.mb x
structure Wd where
  h : Heap
  own : List Addr
  prot : List Addr
  ads : List Addr
noncomputable def Wd.st (w : Wd) (a : Addr) : Prop := a ∉ w.own ∧ a ∉ w.prot ∧ a ∉ w.ads
mutual
noncomputable def DR (w : Wd) : D → Value → Prop
  | .none, v => v = .none
  | .bool b, v => v = .bool b
  | .int i, v => ∃ t, v = .int i t
  | .str x, v => ∃ t, v = .str x t
  | .tup xs, v => ∃ a vs, v = .ref a ∧ w.h.IsTuple a vs ∧ w.st a ∧ DRs w xs vs.toList
noncomputable def DRs (w : Wd) : List D → List Value → Prop
  | [], [] => True
  | x :: xs, v :: vs => DR w x v ∧ DRs w xs vs
  | _, _ => False
end
noncomputable def IsL (h : Heap) (a : Addr) (vs : Array Value) : Prop := ∃ n, h.get? a = some { cls := .type "list", data := .seq vs n }
theorem IsL.list {h : Heap} {a : Addr} {vs : Array Value} : IsL h a vs → h.IsList a vs := fun ⟨n, e⟩ => ⟨_, e, rfl, n, rfl⟩
theorem IsL_get {h h' : Heap} {a vs} (x : IsL h a vs) (k : ∀ o, h.get? a = some o → h'.get? a = some o) : IsL h' a vs :=
  let ⟨n, e⟩ := x; ⟨n, k _ e⟩
noncomputable def hdrM (b : Addr) : Str → Option Value := fun y => if y = ("_headers" : Str) then some (.ref b) else none
noncomputable def HdrOf (C : Addr) (w : Wd) (a b : Addr) : Prop :=
  ∃ o d, w.h.get? a = some o ∧ o.cls = .ref C ∧ o.dict = some d ∧ (∀ c, o.data ≠ .cls c) ∧ w.st a ∧ d ≠ a ∧ w.h.Ns1 d (hdrM b) ∧ w.st d
theorem HdrOf.inst {C : Addr} {w : Wd} {a b : Addr} (x : HdrOf C w a b) : w.h.Inst a C (hdrM b) :=
  let ⟨o, d, e1, e2, e3, e4, _, e6, e7, _⟩ := x; ⟨o, e1, e2, e4, .inr ⟨d, e3, e6, e7⟩⟩
noncomputable def DictR (G : Gl) (w : Wd) (kvs : List (Str × D)) (a : Addr) : Prop :=
  ∃ kvs', w.h.DictOf (strKind G.p G.w) a kvs' ∧ kvs'.map (·.1) = kvs.map (·.1) ∧ DRs w (kvs.map (·.2)) (kvs'.map (·.2))
mutual
noncomputable def VR (G : Gl) (w : Wd) : V → Value → Prop
  | .d x, v => DR w x v
  | .lst xs, v => ∃ a vs, v = .ref a ∧ IsL w.h a vs ∧ w.st a ∧ DRs w xs vs.toList
  | .dct kvs, v => ∃ a, v = .ref a ∧ DictR G w kvs a ∧ w.st a
  | .hdr xs, v => ∃ a b vs, v = .ref a ∧ HdrOf G.cls w a b ∧ IsL w.h b vs ∧ w.st b ∧ DRs w xs vs.toList
  | .ref k, v => ∃ a, v = .ref a ∧ w.ads[k]? = some a
  | .hd k, v => ∃ a b, v = .ref a ∧ HdrOf G.cls w a b ∧ w.ads[k]? = some b
  | .tup xs, v => ∃ a vs, v = .ref a ∧ w.h.IsTuple a vs ∧ w.st a ∧ VRs G w xs vs.toList
noncomputable def VRs (G : Gl) (w : Wd) : List V → List Value → Prop
  | [], [] => True
  | x :: xs, v :: vs => VR G w x v ∧ VRs G w xs vs
  | _, _ => False
end
noncomputable def OR (G : Gl) (w : Wd) : O → Addr → Prop
  | .list xs, a => ∃ vs, IsL w.h a vs ∧ DRs w xs vs.toList
  | .dict kvs, a => DictR G w kvs a
noncomputable def ORs (G : Gl) (w : Wd) : List O → List Addr → Prop
  | [], [] => True
  | x :: xs, a :: as => OR G w x a ∧ ORs G w xs as
  | _, _ => False
structure PerD (w w' : Wd) : Prop where
  st : ∀ b o, w.h.get? b = some o → w.st b → w'.h.get? b = some o ∧ w'.st b
structure Per (w w' : Wd) : Prop extends PerD w w' where
  ref : ∀ (k : Nat) (a : Addr), w.ads[k]? = some a → w'.ads[k]? = some a
theorem IsTuple_get {h h' : Heap} {a vs} (x : h.IsTuple a vs) (k : ∀ o, h.get? a = some o → h'.get? a = some o) : h'.IsTuple a vs :=
  let ⟨o, ho, r⟩ := x; ⟨o, k o ho, r⟩
theorem Ns_get {h h' : Heap} {a m} (x : h.Ns a m) (k : ∀ o, h.get? a = some o → h'.get? a = some o) : h'.Ns a m :=
  let ⟨o, es, ep, ho, r⟩ := x; ⟨o, es, ep, k o ho, r⟩
mutual
theorem DR.perD {w w' : Wd} (P : PerD w w') : ∀ {x : D} {v : Value}, DR w x v → DR w' x v
  | .none, _, h => h
  | .bool _, _, h => h
  | .int _, _, h => h
  | .str _, _, h => h
  | .tup xs, v, ⟨a, vs, e, ht, hs, hd⟩ => ⟨a, vs, e, IsTuple_get ht fun o q => (P.st a o q hs).1,
      (let ⟨o, ho, _⟩ := ht; (P.st a o ho hs).2), DRs.perD P hd⟩
theorem DRs.perD {w w' : Wd} (P : PerD w w') : ∀ {xs : List D} {vs : List Value}, DRs w xs vs → DRs w' xs vs
  | [], [], _ => trivial
  | [], _ :: _, h => h.elim
  | _ :: _, [], h => h.elim
  | x :: xs, v :: vs, ⟨a, b⟩ => ⟨DR.perD P a, DRs.perD P b⟩
end
theorem DR.per {w w' : Wd} (P : Per w w') {x : D} {v : Value} (h : DR w x v) : DR w' x v := h.perD P.toPerD
theorem DRs.per {w w' : Wd} (P : Per w w') {x : List D} {v : List Value} (h : DRs w x v) : DRs w' x v := h.perD P.toPerD
theorem HdrOf.perD {C : Addr} {w w' : Wd} (P : PerD w w') {a b : Addr} (x : HdrOf C w a b) : HdrOf C w' a b := by
  obtain ⟨o, d, e1, e2, e3, e4, e5, e6, e7, e8⟩ := x
  obtain ⟨od, es, ep, hd, r⟩ := id e7
  exact ⟨o, d, (P.st a o e1 e5).1, e2, e3, e4, (P.st a o e1 e5).2, e6, ⟨od, es, ep, (P.st d od hd e8).1, r⟩, (P.st d od hd e8).2⟩
theorem DictOf_get {G : Gl} {h h' : Heap} {a kvs} (x : h.DictOf (strKind G.p G.w) a kvs) (k : ∀ o, h.get? a = some o → h'.get? a = some o) : h'.DictOf (strKind G.p G.w) a kvs :=
  let ⟨o, es, ep, ho, r⟩ := x; ⟨o, es, ep, k o ho, r⟩
theorem DictR.atD {G : Gl} {w w' : Wd} (P : PerD w w') {a kvs} (x : DictR G w kvs a) (k : ∀ o, w.h.get? a = some o → w'.h.get? a = some o) : DictR G w' kvs a :=
  let ⟨kvs', h1, h2, h3⟩ := x; ⟨kvs', DictOf_get h1 k, h2, h3.perD P⟩
theorem DictR.obj {G : Gl} {w : Wd} {a kvs} (x : DictR G w kvs a) : ∃ o, w.h.get? a = some o :=
  let ⟨_, ⟨o, _, _, ho, _⟩, _⟩ := x; ⟨o, ho⟩
mutual
noncomputable def okV (ok : Nat → Bool) : V → Bool
  | .ref k => ok k
  | .hd k => ok k
  | .tup vs => okVs ok vs
  | _ => true
noncomputable def okVs (ok : Nat → Bool) : List V → Bool
  | [] => true
  | v :: vs => okV ok v && okVs ok vs
end
theorem andB {a b : Bool} (h : (a && b) = true) : a = true ∧ b = true := by rwa [Bool.and_eq_true] at h
mutual
theorem VR.mv {G : Gl} {w w' : Wd} (P : PerD w w') {ok : Nat → Bool} (hr : ∀ k a, ok k = true → w.ads[k]? = some a → w'.ads[k]? = some a) : ∀ {v : V} {val : Value}, VR G w v val → okV ok v = true → VR G w' v val
  | .d _, _, h, _ => DR.perD P h
  | .lst xs, v, ⟨a, vs, e, ht, hs, hd⟩, _ => ⟨a, vs, e, IsL_get ht fun o q => (P.st a o q hs).1, (let ⟨_, ho⟩ := ht; (P.st a _ ho hs).2), hd.perD P⟩
  | .dct kvs, v, ⟨a, e, hd, hs⟩, _ => ⟨a, e, hd.atD P fun o q => (P.st a o q hs).1, (let ⟨o, ho⟩ := hd.obj; (P.st a o ho hs).2)⟩
  | .hdr xs, v, ⟨a, b, vs, e, hh, ht, hs, hd⟩, _ => ⟨a, b, vs, e, hh.perD P, IsL_get ht fun o q => (P.st b o q hs).1, (let ⟨_, ho⟩ := ht; (P.st b _ ho hs).2), hd.perD P⟩
  | .ref k, v, ⟨a, e, h⟩, hb => ⟨a, e, hr k a hb h⟩
  | .hd k, v, ⟨a, b, e, hh, h⟩, hb => ⟨a, b, e, hh.perD P, hr k b hb h⟩
  | .tup xs, v, ⟨a, vs, e, ht, hs, hd⟩, hb => ⟨a, vs, e, IsTuple_get ht fun o q => (P.st a o q hs).1, (let ⟨o, ho, _⟩ := ht; (P.st a o ho hs).2), VRs.mv P hr hd hb⟩
theorem VRs.mv {G : Gl} {w w' : Wd} (P : PerD w w') {ok : Nat → Bool} (hr : ∀ k a, ok k = true → w.ads[k]? = some a → w'.ads[k]? = some a) : ∀ {vs : List V} {vals : List Value}, VRs G w vs vals → okVs ok vs = true → VRs G w' vs vals
  | [], [], _, _ => trivial
  | [], _ :: _, h, _ => h.elim
  | _ :: _, [], h, _ => h.elim
  | x :: xs, v :: vs, h, hb => have hb := andB hb; ⟨VR.mv P hr h.1 hb.1, VRs.mv P hr h.2 hb.2⟩
end
mutual
theorem okV_all {ok ok' : Nat → Bool} (h : ∀ k, ok k = true → ok' k = true) : ∀ {v : V}, okV ok v = true → okV ok' v = true
  | .d _, _ => rfl
  | .lst _, _ => rfl
  | .dct _, _ => rfl
  | .hdr _, _ => rfl
  | .ref k, hb => h k hb
  | .hd k, hb => h k hb
  | .tup xs, hb => okVs_all h hb
theorem okVs_all {ok ok' : Nat → Bool} (h : ∀ k, ok k = true → ok' k = true) : ∀ {vs : List V}, okVs ok vs = true → okVs ok' vs = true
  | [], _ => rfl
  | v :: vs, hb => have hb := andB hb; Bool.and_eq_true_iff.mpr ⟨okV_all h hb.1, okVs_all h hb.2⟩
end
mutual
theorem VR.ok {G : Gl} {w : Wd} {ok : Nat → Bool} (h : ∀ k a, w.ads[k]? = some a → ok k = true) : ∀ {v : V} {val : Value}, VR G w v val → okV ok v = true
  | .d _, _, _ => rfl
  | .lst _, _, _ => rfl
  | .dct _, _, _ => rfl
  | .hdr _, _, _ => rfl
  | .ref k, _, ⟨a, _, e⟩ => h k a e
  | .hd k, _, ⟨_, a, _, _, e⟩ => h k a e
  | .tup xs, _, ⟨_, _, _, _, _, hd⟩ => VRs.ok h hd
theorem VRs.ok {G : Gl} {w : Wd} {ok : Nat → Bool} (h : ∀ k a, w.ads[k]? = some a → ok k = true) : ∀ {vs : List V} {vals : List Value}, VRs G w vs vals → okVs ok vs = true
  | [], _, _ => rfl
  | _ :: _, [], h' => h'.elim
  | x :: xs, v :: vs, h' => Bool.and_eq_true_iff.mpr ⟨VR.ok h h'.1, VRs.ok h h'.2⟩
end
noncomputable def below (n : Nat) (v : V) : Bool := okV (fun k => decide (k < n)) v
noncomputable def noRef (j : Nat) (v : V) : Bool := okV (fun k => k != j) v
theorem VR.per {G : Gl} {w w' : Wd} (P : Per w w') {x : V} {v : Value} (h : VR G w x v) : VR G w' x v := h.mv P.toPerD (fun k a _ e => P.ref k a e) (h.ok (ok := fun _ => true) fun _ _ _ => rfl)
theorem VRs.per {G : Gl} {w w' : Wd} (P : Per w w') {x : List V} {v : List Value} (h : VRs G w x v) : VRs G w' x v := h.mv P.toPerD (fun k a _ e => P.ref k a e) (h.ok (ok := fun _ => true) fun _ _ _ => rfl)
theorem VR.below {G : Gl} {w : Wd} {v : V} {val : Value} {n : Nat} (r : VR G w v val) (h : w.ads.length ≤ n) : below n v = true := r.ok fun k a e => decide_eq_true (Nat.lt_of_lt_of_le (List.getElem?_eq_some_iff.mp e).1 h)
theorem below_mono {n m : Nat} (h : n ≤ m) {v : V} (hb : below n v = true) : below m v = true := okV_all (fun k q => decide_eq_true (Nat.lt_of_lt_of_le (of_decide_eq_true q) h)) hb
theorem VR.mvB {G : Gl} {w w' : Wd} (P : PerD w w') {n : Nat} {v : V} {val : Value} (r : VR G w v val) (hb : UK.below n v = true) (hr : ∀ k a, k < n → w.ads[k]? = some a → w'.ads[k]? = some a) : VR G w' v val :=
  r.mv P (fun k a q => hr k a (of_decide_eq_true q)) hb
structure Stp (w w' : Wd) : Prop where
  own : w'.own = w.own
  prot : w'.prot = w.prot
  pre : w.ads <+: w'.ads
  keep : ∀ b o, w.h.get? b = some o → b ∉ w.ads → w'.h.get? b = some o ∧ b ∉ w'.ads
theorem Stp.refl (w : Wd) : Stp w w := ⟨rfl, rfl, List.prefix_rfl, fun _ _ e n => ⟨e, n⟩⟩
theorem Stp.trans {a b c : Wd} (x : Stp a b) (y : Stp b c) : Stp a c :=
  ⟨y.own.trans x.own, y.prot.trans x.prot, x.pre.trans y.pre, fun q o e n => let ⟨e', n'⟩ := x.keep q o e n; y.keep q o e' n'⟩
theorem pre_get {l l' : List Addr} (h : l <+: l') {k : Nat} {a : Addr} (e : l[k]? = some a) : l'[k]? = some a := by
  obtain ⟨t, rfl⟩ := h
  rw [List.getElem?_append_left]
  · exact e
  · exact (List.getElem?_eq_some_iff.mp e).1
theorem Stp.per {w w' : Wd} (x : Stp w w') : Per w w' :=
  { st := fun b o e s => ⟨(x.keep b o e s.2.2).1, by rw [Wd.st, x.own, x.prot]; exact ⟨s.1, s.2.1, (x.keep b o e s.2.2).2⟩⟩, ref := fun k a e => pre_get x.pre e }
end UK
end
section
set_option genInjectivity false
set_option genSizeOf false
namespace UK
open PySem PySem.W PySem.Calls PyProof.Rows
inductive Op2 where
  | add | sub | mul | fdiv | mod | pow
  deriving DecidableEq, Inhabited
inductive Cm where
  | eq | ne | lt | le | gt | ge | is | isnot | inn | notin
  deriving DecidableEq, Inhabited
inductive Bi where
  | len | chr | ord | sum | abs | sorted | list | int | str | min
  deriving DecidableEq, Inhabited
inductive Me where
  | lower | upper | find | split | startswith | endswith | index | count | join | append | insert | extend
  deriving DecidableEq, Inhabited
inductive IK where
  | e | range | enum
  deriving DecidableEq, Inhabited
inductive T where
  | name (x : Nat) | tup (ts : List T)
  deriving Inhabited
inductive E where
  | lit (c : D) | name (x : Nat) | dots
  | bin (op : Op2) (a b : E) | neg (a : E) | not (a : E)
  | and (a b : E) | or (a b : E) | ite (c a b : E)
  | cmp (a : E) (op : Cm) (b : E) | cmp2 (a : E) (op : Cm) (b : E) (op' : Cm) (c : E)
  | tuple (as : List E) | list (as : List E) | dict0
  | index (a i : E) | slice (a lo hi st : E)
  | comp (elt : E) (t : T) (k : IK) (its : List E) (conds : List E) (caps : List Nat)
  | call (f : Nat) (as : List E) | bi (b : Bi) (as : List E) | meth (m : Me) (o : E) (as : List E)
  | hm (f : Nat) (o : E) (as : List E) | newH | attrH (o : E) | conv (nm : Bool) (o e : E)
  | b3get (e : E) | inB1 (e : E)
  deriving Inhabited
inductive S where
  | assign (t : T) (e : E)
  | dset (x : Nat) (k v : E)          -- x[k] = v, a dict
  | hset (o k v : E)                  -- o[k] = v, a Headers
  | aug (x : Nat) (op : Op2) (e : E)
  | expr (e : E) | ret (e : E)
  | ite (c : E) (a b : List S)
  | while (c : E) (b : List S)
  | for (t : T) (k : IK) (its : List E) (b : List S)
  | assert (c : E)
  | delx (x : Nat) (i : E)            -- del x[i], a list
  | delh (o k : E)                    -- del o[k], a Headers
  | slset (o e : E)                   -- o[:] = e
  | stuck
  deriving Inhabited
noncomputable abbrev Loc := List (Nat × V)
noncomputable abbrev Led := List O
noncomputable def get : Loc → Nat → Option V
  | [], _ => none
  | (y, v) :: r, x => if y = x then some v else get r x
noncomputable def put : Loc → Nat → V → Loc
  | [], x, v => [(x, v)]
  | (y, u) :: r, x, v => if y = x then (y, v) :: r else (y, u) :: put r x v
noncomputable def gd (p : Prop) [Decidable p] {α : Type} (x : Option α) : Option α := if p then x else none
noncomputable def V.str? : V → Option Str
  | .d (.str x) => some x
  | _ => none
noncomputable def V.int? : V → Option Int
  | .d (.int x) => some x
  | _ => none
noncomputable def D.str? : D → Option Str
  | .str x => some x
  | _ => .none
noncomputable def D.int? : D → Option Int
  | .int x => some x
  | _ => .none
noncomputable def D.bool? : D → Option Bool
  | .bool x => some x
  | _ => .none
noncomputable def O.list? : O → Option (List D)
  | .list x => some x
  | _ => none
noncomputable def O.dict? : O → Option (List (Str × D))
  | .dict x => some x
  | _ => none
noncomputable def one? {α : Type} : List α → Option α
  | [x] => some x
  | _ => none
noncomputable def two? {α : Type} : List α → Option (α × α)
  | [x, y] => some (x, y)
  | _ => none
noncomputable def three? {α : Type} : List α → Option (α × α × α)
  | [x, y, z] => some (x, y, z)
  | _ => none
noncomputable def zero? {α : Type} : List α → Option Unit
  | [] => some ()
  | _ => none
noncomputable def ofV : V → Option D
  | .d x => some x
  | _ => none
noncomputable def atEq (a b : D) : Option Bool := match a with
  | .none => match b with
    | .none => some true
    | .str _ => some false
    | _ => none
  | .bool a => b.bool?.map (a == ·)
  | .int a => b.int?.map (a == ·)
  | .str a => match b with
    | .none => some false
    | .str b => some (a == b)
    | _ => none
  | .tup _ => none
noncomputable def pairsEq (f : D → D → Option Bool) : List D → List D → Option Bool
  | [], ys => match ys with
    | [] => some true
    | _ :: _ => some false
  | x :: xs, ys => match ys with
    | [] => some false
    | y :: ys => (f x y).bind fun a => (pairsEq f xs ys).map (a && ·)
noncomputable def dEq (a b : D) : Option Bool := match a with
  | .tup xs => match b with
    | .tup ys => pairsEq atEq xs ys
    | _ => none
  | a => atEq a b
noncomputable def dEqs : List D → List D → Option Bool := pairsEq dEq
noncomputable def dMem (x : D) : List D → Option Bool
  | [] => some false
  | y :: ys => (dEq y x).bind fun a => (dMem x ys).map (a || ·)
noncomputable def Led.list (led : Led) (v : V) : Option (List D) :=
  match v with
  | .lst xs => some xs
  | .ref k => (led[k]?).bind O.list?
  | _ => none
noncomputable def Led.dict (led : Led) (v : V) : Option (List (Str × D)) :=
  match v with
  | .dct xs => some xs
  | .ref k => (led[k]?).bind O.dict?
  | _ => none
noncomputable def cap : Nat := 4096
noncomputable def truD : D → Option Bool
  | .none => some false
  | .bool b => some b
  | .int i => some (i != 0)
  | .str x => gd (x.length ≤ cap) (some (x.length != 0))
  | .tup _ => none
noncomputable def tru (led : Led) (v : V) : Option Bool := (ofV v).bind truD
noncomputable def addD : D → D → Option D
  | .int a, y => y.int?.map fun b => .int (a + b)
  | .str a, y => y.str?.bind fun b => gd (a.length + b.length ≤ cap) (some (.str (a ++ b)))
  | _, _ => none
noncomputable def subD (a b : Int) : Option D := some (.int (a - b))
noncomputable def mulD (a b : Int) : Option D := gd (a.natAbs < 2 ^ 32 ∨ b.natAbs < 2 ^ 32) (some (.int (a * b)))
noncomputable def fdivD (a b : Int) : Option D := gd (0 < b ∧ b < 2 ^ 30) (some (.int (a.fdiv b)))
noncomputable def modD (a b : Int) : Option D := gd (0 < b) (some (.int (a.fmod b)))
noncomputable def powD (a b : Int) : Option D := gd (0 ≤ b ∧ b ≤ 1000 ∧ a.natAbs < 2 ^ 32) (some (.int (a ^ b.toNat)))
noncomputable def ints2 (f : Int → Int → Option D) (x y : D) : Option D := x.int?.bind fun a => y.int?.bind fun b => f a b
noncomputable def bin2 (op : Op2) (a b : D) : Option D := match op with
  | .add => addD a b
  | .sub => ints2 subD a b
  | .mul => ints2 mulD a b
  | .fdiv => ints2 fdivD a b
  | .mod => ints2 modD a b
  | .pow => ints2 powD a b
noncomputable def catL (led : Led) (a b : V) : Option (V × Led) := (led.list a).bind fun xs => (led.list b).bind fun ys => gd (xs.length + ys.length ≤ cap) (some (.ref led.length, led ++ [.list (xs ++ ys)]))
noncomputable def evBin (led : Led) (op : Op2) (a b : V) : Option (V × Led) := match a with
  | .d x => (ofV b).bind fun y => (bin2 op x y).map fun z => (.d z, led)
  | a => match op with
    | .add => catL led a b
    | _ => none
noncomputable def ltD : D → D → Option Bool
  | .int a, y => y.int?.map fun b => decide (a < b)
  | .str a, y => y.str?.map fun b => decide (a.cps.toList < b.cps.toList)
  | _, _ => none
noncomputable def leD : D → D → Option Bool
  | .int a, y => y.int?.map fun b => decide (a ≤ b)
  | .str a, y => y.str?.map fun b => !decide (b.cps.toList < a.cps.toList)
  | _, _ => none
noncomputable def gtD (x y : D) : Option Bool := x.int?.bind fun a => y.int?.map fun b => decide (b < a)
noncomputable def geD (x y : D) : Option Bool := x.int?.bind fun a => y.int?.map fun b => decide (b ≤ a)
noncomputable def inD (x y : D) : Option Bool := x.str?.bind fun a => y.str?.map fun b => Txt.contains b a
noncomputable def cmpD (op : Cm) (a b : D) : Option Bool := match op with
  | .eq => atEq a b
  | .ne => (atEq a b).map (!·)
  | .lt => ltD a b
  | .le => leD a b
  | .gt => gtD a b
  | .ge => geD a b
  | _ => none
noncomputable def isD (a : V) (b : D) : Option Bool :=
  match b with
  | .none => match a with
    | .d .none => some true
    | _ => some false
  | .bool b => match a with
    | .d (.bool c) => some (b == c)
    | _ => some false
  | _ => none
noncomputable def evIn (led : Led) (a b : V) : Option Bool := (ofV a).bind fun x => match b with
  | .d y => inD x y
  | b => (led.list b).bind (dMem x)
noncomputable def eqL (led : Led) (a b : V) : Option Bool := (led.list a).bind fun xs => (led.list b).bind fun ys => dEqs xs ys
noncomputable def evEq (led : Led) (a b : V) : Option Bool := match a with
  | .d x => (ofV b).bind fun y => atEq x y
  | a => eqL led a b
noncomputable def evRel (op : Cm) (a b : V) : Option Bool := (ofV a).bind fun x => (ofV b).bind fun y => cmpD op x y
noncomputable def evCmp (led : Led) (op : Cm) (a b : V) : Option Bool :=
  match op with
  | .is => (ofV b).bind fun y => isD a y
  | .isnot => (ofV b).bind fun y => (isD a y).map (!·)
  | .inn => evIn led a b
  | .notin => (evIn led a b).map (!·)
  | .eq => evEq led a b
  | .ne => (evEq led a b).map (!·)
  | op => evRel op a b
noncomputable def allD : List V → Option (List D)
  | [] => some []
  | v :: vs => (ofV v).bind fun x => (allD vs).map (x :: ·)
noncomputable def chars (x : Str) : List D := x.cps.toList.map fun c => .str ⟨#[c]⟩
noncomputable def atI (xs : List D) (i : Int) : Option V := ((seqIndex? i xs.length).bind (xs[·]?)).map .d
noncomputable def idxD (i : Int) : D → Option V
  | .str x => (Txt.charAt x i).map fun c => .d (.str ⟨#[c]⟩)
  | .tup xs => atI xs i
  | _ => none
noncomputable def evIndex (led : Led) (a i : V) : Option V := (ofV i).bind fun
  | .int i => gd (-(2 ^ 62) < i ∧ i < 2 ^ 62) (match a with
      | .d y => idxD i y
      | a => (led.list a).bind fun xs => atI xs i)
  | .str k => (led.dict a).bind fun kvs => (kvs.lookup k).map .d
  | _ => none
noncomputable def endOf (v : V) : Option (Option Int) := (ofV v).bind fun
  | .none => some none
  | .int i => gd (-(2 ^ 62) < i ∧ i < 2 ^ 62) (some (some i))
  | _ => none
noncomputable def pickD (xs : List D) (lo hi st : Option Int) : List D :=
  (sliceRange (sliceBounds lo hi st xs.length).1 (sliceBounds lo hi st xs.length).2.1 (sliceBounds lo hi st xs.length).2.2).filterMap (xs[·]?)
noncomputable def slcL (led : Led) (a : V) (lo hi st : Option Int) : Option (V × Led) := (led.list a).bind fun xs => gd (xs.length ≤ cap) (some (.ref led.length, led ++ [.list (pickD xs lo hi st)]))
noncomputable def evSlice (led : Led) (a lo hi st : V) : Option (V × Led) := (ofV st).bind fun
  | .none => (endOf lo).bind fun l => (endOf hi).bind fun h => match a with
    | .d y => y.str?.bind fun x => gd (x.length ≤ cap) (some (.d (.str (Txt.slice x l h)), led))
    | a => slcL led a l h none
  | .int s => gd (s = -1) ((endOf lo).bind fun l => (endOf hi).bind fun h => gd (l = none ∧ h = none) (slcL led a none none (some (-1))))
  | _ => none
noncomputable def ins {α : Type} (le : α → α → Bool) (x : α) : List α → List α
  | [] => [x]
  | y :: ys => if le y x then y :: ins le x ys else x :: y :: ys
noncomputable def isort {α : Type} (le : α → α → Bool) : List α → List α
  | [] => []
  | x :: xs => ins le x (isort le xs)
noncomputable def leS (a b : Str) : Bool := !decide (b.cps.toList < a.cps.toList)
noncomputable def intsOf : List D → Option (List Int)
  | [] => some []
  | x :: r => x.int?.bind fun i => (intsOf r).map (i :: ·)
noncomputable def strsOf : List D → Option (List Str)
  | [] => some []
  | x :: r => x.str?.bind fun i => (strsOf r).map (i :: ·)
noncomputable def sortOf (xs : List D) : Option (List D) := match intsOf xs with
  | some is => some ((isort (fun a b => decide (a ≤ b)) is).map .int)
  | none => match strsOf xs with
    | some ss => some ((isort leS ss).map .str)
    | none => none
noncomputable def itemsD : D → Option (List D)
  | .str x => some (chars x)
  | .tup xs => some xs
  | _ => none
noncomputable def itemsOf (led : Led) : V → Option (List D)
  | .d y => itemsD y
  | v => led.list v
noncomputable def lenOf (led : Led) (v : V) : Option Nat := match v with
  | .d y => y.str?.map (·.length)
  | v => (led.list v).map (·.length)
noncomputable def chr1 (x : Str) : Option Nat := match x.cps.toList with
  | [c] => some c
  | _ => none
noncomputable def intsL (led : Led) (v : V) : Option (List Int) := (led.list v).bind intsOf
noncomputable def bi1 (led : Led) (b : Bi) (v : V) : Option (V × Led) := match b with
  | .len => (lenOf led v).bind fun n => gd (n ≤ cap) (some (.d (.int n), led))
  | .chr => v.int?.bind fun i => gd (0 ≤ i ∧ i ≤ 0x10FFFF) (some (.d (.str ⟨#[i.toNat]⟩), led))
  | .ord => v.str?.bind fun x => (chr1 x).map fun (c : Nat) => (.d (.int c), led)
  | .sum => (intsL led v).map fun xs => (.d (.int xs.sum), led)
  | .abs => v.int?.map fun i => (.d (.int i.natAbs), led)
  | .sorted => match v with
    | .d y => y.str?.bind fun x => gd (x.length < 64) (some (.ref led.length, led ++ [.list ((isort leS (x.cps.toList.map fun c => ⟨#[c]⟩)).map .str)]))
    | v => (led.list v).bind fun xs => gd (xs.length < 64) ((sortOf xs).map fun ys => (.ref led.length, led ++ [.list ys]))
  | .list => (led.list v).bind fun xs => gd (xs.length < 64) (some (.ref led.length, led ++ [.list xs]))
  | _ => none
noncomputable def evBi (led : Led) (b : Bi) (as : List V) : Option (V × Led) := (one? as).bind (bi1 led b)
noncomputable def isStrV (v : V) : Bool := v.str?.isSome
noncomputable def V.ref? : V → Option Nat
  | .ref k => some k
  | _ => none
noncomputable def ledL (led : Led) (v : V) : Option (Nat × List D) := v.ref?.bind fun k => (led[k]?).bind fun o => o.list?.map fun xs => (k, xs)
noncomputable def isListV (led : Led) (v : V) : Bool := (ledL led v).isSome
noncomputable def methAt (led : Led) (m : Me) (o : V) : Bool :=
  match m with
  | .append => isListV led o
  | .insert => isListV led o
  | .extend => isListV led o
  | _ => isStrV o
noncomputable def m_case (f : Str → Str) (led : Led) (x : Str) (as : List V) : Option (V × Led) := (zero? as).bind fun _ => gd ((f x).length ≤ cap) (some (.d (.str (f x)), led))
noncomputable def m_find (led : Led) (x : Str) (as : List V) : Option (V × Led) := (three? as).bind fun p => p.1.str?.bind fun y => p.2.1.int?.bind fun lo => p.2.2.int?.bind fun hi =>
  gd (0 ≤ lo ∧ 0 ≤ hi ∧ hi ≤ x.length ∧ x.length ≤ cap) (some (.d (.int (match Builtin.Str.occurrences x y lo.toNat hi.toNat 1 with | i :: _ => (i : Int) | [] => -1)), led))
noncomputable def m_text (g : Str → Str → Option D) (led : Led) (x : Str) (as : List V) : Option (V × Led) := (one? as).bind fun v => v.str?.bind fun y => (g x y).map fun d => (.d d, led)
noncomputable def m_join (led : Led) (x : Str) (as : List V) : Option (V × Led) := (one? as).bind fun v => ((led.list v).bind strsOf).bind fun ys => gd ((ys.map (·.length)).sum + ys.length * x.length ≤ cap) (some (.d (.str (Txt.join x ys)), led))
noncomputable def m_split (led : Led) (x : Str) (as : List V) : Option (V × Led) := (one? as).bind fun v => v.str?.bind fun y =>
  gd (0 < y.length ∧ y.length ≤ x.length ∧ Builtin.Str.strKind y ≤ Builtin.Str.strKind x ∧ x.length ≤ cap)
    (gd ((Builtin.Str.occurrences x y 0 x.length (x.length + 1)).isEmpty = false)
      (gd ((Builtin.Str.partsBetween x (Builtin.Str.occurrences x y 0 x.length (x.length + 1)) y.length).length ≤ cap)
        (some (.ref led.length, led ++ [.list ((Builtin.Str.partsBetween x (Builtin.Str.occurrences x y 0 x.length (x.length + 1)) y.length).map .str)]))))
noncomputable def m_append (led : Led) (k : Nat) (xs : List D) (as : List V) : Option (V × Led) := (one? as).bind fun v => (ofV v).bind fun x => gd (xs.length < cap) (some (.d .none, led.set k (.list (xs ++ [x]))))
noncomputable def m_insert (led : Led) (k : Nat) (xs : List D) (as : List V) : Option (V × Led) := (two? as).bind fun p => p.1.int?.bind fun i => (ofV p.2).bind fun x =>
  gd (xs.length < cap ∧ 0 ≤ i ∧ i ≤ xs.length) (some (.d .none, led.set k (.list (xs.take i.toNat ++ x :: xs.drop i.toNat))))
noncomputable def mTxt (m : Me) : Led → Str → List V → Option (V × Led) := match m with
  | .lower => m_case Txt.lower
  | .upper => m_case Txt.upper
  | .find => m_find
  | .split => m_split
  | .startswith => m_text fun x y => some (.bool (Txt.startswith x y))
  | .endswith => m_text fun x y => some (.bool (Txt.endswith x y))
  | .index => m_text fun x y => gd (0 ≤ Txt.find x y) (some (.int (Txt.find x y)))
  | .join => m_join
  | _ => fun _ _ _ => none
noncomputable def mLst (m : Me) : Led → Nat → List D → List V → Option (V × Led) := match m with
  | .append => m_append
  | .insert => m_insert
  | _ => fun _ _ _ _ => none
noncomputable def evMeth (led : Led) (m : Me) (o : V) (as : List V) : Option (V × Led) := match m with
  | .append => (ledL led o).bind fun p => m_append led p.1 p.2 as
  | .insert => (ledL led o).bind fun p => m_insert led p.1 p.2 as
  | m => o.str?.bind fun x => mTxt m led x as
end UK
end
section
set_option genInjectivity false
set_option genSizeOf false
namespace UK
open PySem PySem.W PySem.Calls PyProof.Rows
structure Cx where
  F : Nat → List V → Led → Option (V × Led)
  conv : Bool → Str → Bool
  b3 : Int → Option Str
  b1 : Int → Bool
  N : Nat
inductive Src where
  | fz (xs : List D) | live (k i : Nat)
  deriving Inhabited
noncomputable def fzN : List D → Option (D × Src)
  | [] => none
  | x :: xs => some (x, .fz xs)
noncomputable def isHdr : V → Bool
  | .hd _ => true
  | .hdr _ => true
  | _ => false
noncomputable def hdrL : V → Option V
  | .hd k => some (.ref k)
  | .hdr xs => some (.lst xs)
  | _ => none
noncomputable def Src.next (led : Led) : Src → Option (Option (D × Src))
  | .fz xs => some (fzN xs)
  | .live k i => ((led[k]?).bind O.list?).map fun xs => (xs[i]?).map fun x => (x, .live k (i + 1))
noncomputable def rng (lo hi st : Int) : Option (List D) :=
  if st ≠ 0 ∧ Builtin.Range.small lo hi st = true ∧ Builtin.divisionGoesByPylong (hi - lo) st = false then
    some ((List.range (Builtin.Range.rangeSize lo hi st).toNat).map fun (i : Nat) => D.int (lo + (i : Int) * st)) else none
noncomputable def enumD : Nat → List D → List D
  | _, [] => []
  | i, x :: xs => .tup [.int i, x] :: enumD (i + 1) xs
noncomputable def srcE (n : Nat) (led : Led) (vs : List V) : Option Src := (one? vs).bind fun v => match v with
  | .ref k => if k < n then (ledL led v).map fun p => .live k 0 else (led.list v).map .fz
  | v => (itemsOf led v).map .fz
noncomputable def srcR (vs : List V) : Option Src := match vs with
  | [a] => a.int?.bind fun hi => (rng 0 hi 1).map .fz
  | [a, b] => a.int?.bind fun lo => b.int?.bind fun hi => (rng lo hi 1).map .fz
  | [a, b, c] => a.int?.bind fun lo => b.int?.bind fun hi => c.int?.bind fun st => (rng lo hi st).map .fz
  | _ => none
noncomputable def srcN (n : Nat) (led : Led) (vs : List V) : Option Src := (one? vs).bind fun v => match v with
  | .ref k => if k < n then none else (led.list v).map fun xs => .fz (enumD 0 xs)
  | v => (led.list v).map fun xs => .fz (enumD 0 xs)
noncomputable def srcOf (n : Nat) (led : Led) : IK → List V → Option Src
  | .e, vs => srcE n led vs
  | .range, vs => srcR vs
  | .enum, vs => srcN n led vs
noncomputable def D.tup? : D → Option (List D)
  | .tup x => some x
  | _ => .none
mutual
noncomputable def bindD : T → D → Loc → Option Loc
  | .name x, d, loc => some (put loc x (.d d))
  | .tup ts, d, loc => d.tup?.bind fun ds => bindDs ts ds loc
noncomputable def bindDs : List T → List D → Loc → Option Loc
  | [], ds, loc => (zero? ds).map fun _ => loc
  | t :: ts, ds, loc => match ds with
    | d :: ds => (bindD t d loc).bind fun loc' => bindDs ts ds loc'
    | [] => none
end
noncomputable def capt (caps : List Nat) (loc : Loc) : Loc := caps.filterMap fun x => (get loc x).map fun v => (x, v)
noncomputable def keepL (n : Nat) (y : Option D) (led' : Led) : Option Led := match y with
  | none => some (led'.take (n + 1))
  | some y => ((led'[n]?).bind O.list?).bind fun ys => gd (ys.length < cap) (some ((led'.take (n + 1)).set n (.list (ys ++ [y]))))
noncomputable def compLoop (n : Nat) (turn : D → Led → Option (Option D × Led)) : Nat → Src → Led → Option Led
  | 0, _, _ => none
  | N + 1, src, led => (src.next led).bind fun r => match r with
    | none => some led
    | some p => (turn p.1 led).bind fun q => (keepL n q.1 q.2).bind fun l => compLoop n turn N p.2 l
mutual
noncomputable def evE (cx : Cx) : E → Loc → Led → Option (V × Led)
  | .lit c, _, led => some (.d c, led)
  | .name x, loc, led => (get loc x).map fun v => (v, led)
  | .dots, _, led => some (.d (.str ⟨#[46, 46, 46]⟩), led)
  | .bin op a b, loc, led => (evE cx a loc led).bind fun p => (evE cx b loc p.2).bind fun q => evBin q.2 op p.1 q.1
  | .neg a, loc, led => (evE cx a loc led).bind fun p => p.1.int?.map fun i => (.d (.int (-i)), p.2)
  | .not a, loc, led => (evE cx a loc led).bind fun p => (tru p.2 p.1).map fun b => (.d (.bool !b), p.2)
  | .and a b, loc, led => (evE cx a loc led).bind fun p => (tru p.2 p.1).bind fun t => cond t (evE cx b loc p.2) (some p)
  | .or a b, loc, led => (evE cx a loc led).bind fun p => (tru p.2 p.1).bind fun t => cond t (some p) (evE cx b loc p.2)
  | .ite c a b, loc, led => (evE cx c loc led).bind fun p => (tru p.2 p.1).bind fun t => cond t (evE cx a loc p.2) (evE cx b loc p.2)
  | .cmp a op b, loc, led => (evE cx a loc led).bind fun p => (evE cx b loc p.2).bind fun q => (evCmp q.2 op p.1 q.1).map fun r => (.d (.bool r), q.2)
  | .cmp2 a op b op' c, loc, led => (evE cx a loc led).bind fun p => (evE cx b loc p.2).bind fun q => (evCmp q.2 op p.1 q.1).bind fun t =>
      cond t ((evE cx c loc q.2).bind fun u => (evCmp u.2 op' q.1 u.1).map fun r => (.d (.bool r), u.2)) (some (.d (.bool false), q.2))
  | .tuple as, loc, led => (evEs cx as loc led).map fun p => match allD p.1 with
      | some ds => (.d (.tup ds), p.2)
      | none => (.tup p.1, p.2)
  | .list as, loc, led => (evEs cx as loc led).bind fun p => (allD p.1).map fun ds => (.ref p.2.length, p.2 ++ [.list ds])
  | .dict0, _, led => some (.ref led.length, led ++ [.dict []])
  | .index a i, loc, led => (evE cx a loc led).bind fun p => (evE cx i loc p.2).bind fun q => (evIndex q.2 p.1 q.1).map fun r => (r, q.2)
  | .slice a lo hi st, loc, led => (evE cx a loc led).bind fun p => (evE cx lo loc p.2).bind fun l => (evE cx hi loc l.2).bind fun h => (evE cx st loc h.2).bind fun t => evSlice t.2 p.1 l.1 h.1 t.1
  | .comp elt t k its conds caps, loc, led => (evEs cx its loc led).bind fun p => (srcOf p.2.length p.2 k p.1).bind fun src =>
      (compLoop p.2.length (fun d led => (bindD t d (capt caps loc)).bind fun loc' => (evConds cx conds loc' led).bind fun c =>
        cond c.1 ((evE cx elt loc' c.2).bind fun y => (ofV y.1).map fun d => (some d, y.2)) (some (none, c.2))) cx.N src (p.2 ++ [.list []])).map fun l => (.ref p.2.length, l)
  | .call f as, loc, led => (evEs cx as loc led).bind fun p => cx.F f p.1 p.2
  | .bi b as, loc, led => (evEs cx as loc led).bind fun p => evBi p.2 b p.1
  | .meth m o as, loc, led => (evE cx o loc led).bind fun v => gd (methAt v.2 m v.1 = true) ((evEs cx as loc v.2).bind fun p => evMeth p.2 m v.1 p.1)
  | .hm f o as, loc, led => (evE cx o loc led).bind fun v => (evEs cx as loc v.2).bind fun p => gd (isHdr v.1 = true) (cx.F f (v.1 :: p.1) p.2)
  | .newH, _, led => some (.hd led.length, led ++ [.list []])
  | .attrH o, loc, led => (evE cx o loc led).bind fun v => (hdrL v.1).map fun x => (x, v.2)
  | .conv nm o e, loc, led => (evE cx o loc led).bind fun v => (evE cx e loc v.2).bind fun q => q.1.str?.bind fun x => gd (isHdr v.1 = true ∧ cx.conv nm x = true) (some (.d (.str x), q.2))
  | .b3get e, loc, led => (evE cx e loc led).bind fun v => v.1.int?.map fun c => match cx.b3 c with
      | some x => (.d (.str x), v.2)
      | none => (.d .none, v.2)
  | .inB1 e, loc, led => (evE cx e loc led).bind fun v => v.1.int?.map fun c => (.d (.bool (cx.b1 c)), v.2)
noncomputable def evEs (cx : Cx) : List E → Loc → Led → Option (List V × Led)
  | [], _, led => some ([], led)
  | e :: es, loc, led => (evE cx e loc led).bind fun p => (evEs cx es loc p.2).map fun q => (p.1 :: q.1, q.2)
noncomputable def evConds (cx : Cx) : List E → Loc → Led → Option (Bool × Led)
  | [], _, led => some (true, led)
  | e :: es, loc, led => (evE cx e loc led).bind fun p => (tru p.2 p.1).bind fun t => cond t (evConds cx es loc p.2) (some (false, p.2))
end
inductive Fl where
  | nx | ret (v : V)
  deriving Inhabited
noncomputable def O.frz : O → V
  | .list xs => .lst xs
  | .dict xs => .dct xs
noncomputable def freeze (lo : Nat) (full : Led) (v : V) : Option (V × Nat) := match v with
  | .ref k => gd (lo ≤ k) ((full[k]?).map fun o => (o.frz, k + 1))
  | .hd k => gd (lo ≤ k) (((full[k]?).bind O.list?).map fun xs => (.hdr xs, k + 1))
  | .tup _ => none
  | v => some (v, lo)
structure BS where
  lo : Nat
  loc : Loc
  base : Led
  deriving Inhabited
noncomputable def V.own? : V → Option Nat
  | .ref j => some j
  | .hd j => some j
  | _ => none
noncomputable def place (full : Led) (n₀ : Nat) (x k : Nat) (v : Nat → V) (b : BS) : Option BS :=
  gd (b.lo ≤ k) ((full[k]?).bind fun o => match get b.loc x with
    | none => some ⟨k + 1, put b.loc x (v b.base.length), b.base ++ [o]⟩
    | some u => u.own?.bind fun j => gd (n₀ ≤ j ∧ j < b.base.length ∧ b.loc.all (fun p => p.1 == x || noRef j p.2) = true) (some ⟨k + 1, put b.loc x (v j), b.base.set j o⟩))
noncomputable def bindN (mu : List Nat) (n₀ : Nat) (full : Led) (x : Nat) (v : V) (b : BS) : Option BS :=
  cond (mu.contains x) (match v with
    | .ref k => place full n₀ x k .ref b
    | .hd k => place full n₀ x k .hd b
    | _ => none)
  ((freeze b.lo full v).map fun p => ⟨p.2, put b.loc x p.1, b.base⟩)
noncomputable def bindNs (mu : List Nat) (n₀ : Nat) (full : Led) : List Nat → List V → BS → Option BS
  | [], vs, b => (zero? vs).map fun _ => b
  | x :: xs, vs, b => match vs with
    | v :: vs => gd (xs.contains x = false) ((bindN mu n₀ full x v b).bind fun b => bindNs mu n₀ full xs vs b)
    | [] => none
noncomputable def nameOfT : T → Option Nat
  | .name x => some x
  | _ => none
noncomputable def namesOfT : List T → Option (List Nat)
  | [] => some []
  | t :: ts => (nameOfT t).bind fun x => (namesOfT ts).map (x :: ·)
noncomputable def itemsT : V → Option (List V)
  | .tup vs => some vs
  | .d y => y.tup?.map (·.map .d)
  | _ => none
noncomputable def bindV (mu : List Nat) (n₀ : Nat) (full : Led) (t : T) (v : V) (b : BS) : Option BS :=
  match t with
  | .name x => bindN mu n₀ full x v b
  | .tup ts => (namesOfT ts).bind fun xs => (itemsT v).bind fun vs => bindNs mu n₀ full xs vs b
noncomputable def trunc (m n : Nat) (loc : Loc) (led : Led) : Option (Loc × Led) :=
  gd ((loc.take m).all (fun p => below n p.2) = true) (some (loc.take m, led.take n))
noncomputable abbrev Res := Fl × Loc × Led
noncomputable def andThen (r : Res) (f : Loc → Led → Option Res) : Option Res := match r.1 with
  | .nx => f r.2.1 r.2.2
  | .ret _ => some r
noncomputable def loopOn (m n : Nat) (next : Loc → Led → Option Res) (r : Res) : Option Res := andThen r fun loc led => (trunc m n loc led).bind fun q => next q.1 q.2
noncomputable def whileLoop (cond : Loc → Led → Option (Bool × Led)) (body : Loc → Led → Option Res) : Nat → Loc → Led → Option Res
  | 0, _, _ => none
  | N + 1, loc, led => (cond loc led).bind fun c => bif c.1 then (body loc (c.2.take led.length)).bind (loopOn loc.length led.length (whileLoop cond body N)) else some (.nx, loc, c.2.take led.length)
noncomputable def forLoop (t : T) (body : Loc → Led → Option Res) : Nat → Src → Loc → Led → Option Res
  | 0, _, _, _ => none
  | N + 1, src, loc, led => (src.next led).bind fun r => match r with
    | none => some (.nx, loc, led)
    | some p => (bindD t p.1 loc).bind fun loc' => (body loc' led).bind (loopOn loc.length led.length (forLoop t body N p.2))
noncomputable def laidK (kvs : List (Str × D)) (k : Str) (v : D) : List (Str × D) := if kvs.any (fun p => p.1 = k) then kvs.map (fun p => if p.1 = k then (p.1, v) else p) else kvs ++ [(k, v)]
noncomputable def endAt (i : Int) (n : Nat) : Option Nat := gd ((i = 0 ∨ i = -1) ∧ n ≤ cap) (seqIndex? i n)
noncomputable def isHd : V → Bool
  | .hd _ => true
  | _ => false
mutual
noncomputable def evS (cx : Cx) (mu : List Nat) (n₀ : Nat) : S → Loc → Led → Option Res
  | .assign t e, loc, led => (evE cx e loc led).bind fun p => (bindV mu n₀ p.2 t p.1 ⟨led.length, loc, p.2.take led.length⟩).map fun b => (.nx, b.loc, b.base)
  | .dset x k v, loc, led => (evE cx v loc led).bind fun p => (ofV p.1).bind fun d => (get loc x).bind fun o => o.ref?.bind fun j => (evE cx k loc p.2).bind fun q => q.1.str?.bind fun k =>
      ((q.2[j]?).bind O.dict?).bind fun kvs => gd (kvs.length < cap) (some (.nx, loc, (q.2.set j (.dict (laidK kvs k d))).take led.length))
  | .hset o k v, loc, led => (evE cx v loc led).bind fun p => (evE cx o loc p.2).bind fun h => (evE cx k loc h.2).bind fun q => gd (isHd h.1 = true) ((cx.F 0 [h.1, q.1, p.1] q.2).map fun r => (.nx, loc, r.2.take led.length))
  | .aug x op e, loc, led => (get loc x).bind fun u => u.int?.bind fun a => (evE cx e loc led).bind fun p => p.1.int?.bind fun b => match op with
      | .add => some (.nx, put loc x (.d (.int (a + b))), p.2.take led.length)
      | .sub => some (.nx, put loc x (.d (.int (a - b))), p.2.take led.length)
      | _ => none
  | .expr e, loc, led => (evE cx e loc led).map fun p => (.nx, loc, p.2.take led.length)
  | .ret e, loc, led => (evE cx e loc led).map fun p => (.ret p.1, loc, p.2)
  | .ite c a b, loc, led => (evE cx c loc led).bind fun p => (tru p.2 p.1).bind fun t => cond t (evSs cx mu n₀ a loc (p.2.take led.length)) (evSs cx mu n₀ b loc (p.2.take led.length))
  | .while c b, loc, led => whileLoop (fun loc led => (evE cx c loc led).bind fun p => (tru p.2 p.1).map fun r => (r, p.2)) (fun loc led' => evSs cx mu led.length b loc led') cx.N loc led
  | .for t k its b, loc, led => (evEs cx its loc led).bind fun p => (srcOf led.length p.2 k p.1).bind fun src => forLoop t (fun loc led' => evSs cx mu led.length b loc led') cx.N src loc (p.2.take led.length)
  | .assert c, loc, led => (evE cx c loc led).bind fun p => (tru p.2 p.1).bind fun t => cond t (some (.nx, loc, p.2.take led.length)) none
  | .delx x i, loc, led => (get loc x).bind fun u => u.ref?.bind fun k => (evE cx i loc led).bind fun p => p.1.int?.bind fun i => ((p.2[k]?).bind O.list?).bind fun xs =>
      (endAt i xs.length).map fun j => (.nx, loc, (p.2.set k (.list (xs.eraseIdx j))).take led.length)
  | .delh o k, loc, led => (evE cx o loc led).bind fun h => (evE cx k loc h.2).bind fun q => gd (isHd h.1 = true) ((cx.F 1 [h.1, q.1] q.2).map fun r => (.nx, loc, r.2.take led.length))
  | .slset o e, loc, led => (evE cx e loc led).bind fun p => (evE cx o loc p.2).bind fun q => q.1.ref?.bind fun k => (q.2.list p.1).bind fun ys => ((q.2[k]?).bind O.list?).bind fun xs =>
      gd (ys.length ≤ cap ∧ xs.length ≤ cap) (some (.nx, loc, (q.2.set k (.list ys)).take led.length))
  | .stuck, _, _ => none
noncomputable def evSs (cx : Cx) (mu : List Nat) (n₀ : Nat) : List S → Loc → Led → Option Res
  | [], loc, led => some (.nx, loc, led)
  | s :: ss, loc, led => (evS cx mu n₀ s loc led).bind fun r => andThen r fun loc led => evSs cx mu n₀ ss loc led
end
structure Fn where
  params : List Nat
  dflt : List D
  kw : List (Nat × D)
  mu : List Nat
  body : List S
  deriving Inhabited
noncomputable def freezes (lo : Nat) (full : Led) : List V → Option (List V × Nat)
  | [] => some ([], lo)
  | v :: vs => (freeze lo full v).bind fun p => (freezes p.2 full vs).map fun q => (p.1 :: q.1, q.2)
noncomputable def resO (n₀ : Nat) (led : Led) (v : Nat → V) (k : Nat) : Option (V × Led) := if k < n₀ then some (v k, led.take n₀) else (led[k]?).map fun o => (v n₀, led.take n₀ ++ [o])
noncomputable def resV (n₀ : Nat) (led : Led) (v : V) : Option (V × Led) := match v with
  | .ref k => resO n₀ led .ref k
  | .hd k => resO n₀ led .hd k
  | .tup vs => (freezes n₀ led vs).map fun p => (.tup p.1, led.take n₀)
  | v => some (v, led.take n₀)
noncomputable def zipP : List Nat → List V → Loc
  | x :: xs, v :: vs => (x, v) :: zipP xs vs
  | _, _ => []
noncomputable def argsV (fn : Fn) (as : List V) : Option Loc :=
  gd (as.length ≤ fn.params.length ∧ fn.params.length ≤ as.length + fn.dflt.length)
    (some (zipP fn.params (as ++ (fn.dflt.drop (as.length + fn.dflt.length - fn.params.length)).map .d) ++ fn.kw.map fun p => (p.1, .d p.2)))
noncomputable def Fl.val : Fl → V
  | .ret v => v
  | .nx => .d .none
noncomputable def runF (fns : List Fn) (cx : Cx) : Nat → Nat → List V → Led → Option (V × Led)
  | 0, _, _, _ => none
  | k + 1, f, as, led => (fns[f]?).bind fun fn => (argsV fn as).bind fun loc => (evSs { cx with F := runF fns cx k } fn.mu led.length fn.body loc led).bind fun r => resV led.length r.2.2 r.1.val
end UK
end
section
set_option genInjectivity false
set_option genSizeOf false
namespace UK
open PySem PySem.W PySem.Calls PyProof.Rows
theorem bindW {α β : Type} {o : Option α} {f : α → Option β} {K : β → Prop} (h : (o.bind f).elim False K) : o.elim False fun a => (f a).elim False K := by
  cases o <;> exact h
theorem mapW {α β : Type} {o : Option α} {f : α → β} {K : β → Prop} (h : (o.map f).elim False K) : o.elim False fun a => K (f a) := by
  cases o <;> exact h
theorem gdW {p : Prop} [Decidable p] {α : Type} {x : Option α} {K : α → Prop} (h : (gd p x).elim False K) : p ∧ x.elim False K := by
  unfold gd at h
  by_cases q : p
  · rw [if_pos q] at h; exact ⟨q, h⟩
  · rw [if_neg q] at h; exact h.elim
theorem isW {α : Type} {o : Option α} {K : α → Prop} (h : o.elim False K) : ∃ a, o = some a ∧ K a := by
  cases o with
  | none => exact h.elim
  | some a => exact ⟨a, rfl, h⟩
theorem toW {α : Type} {o : Option α} {a : α} {K : α → Prop} (h : o = some a) (k : K a) : o.elim False K := by subst h; exact k
theorem ofVW {v : V} {K : D → Prop} (h : (ofV v).elim False K) : ∃ d, v = .d d ∧ K d := by
  cases v <;> first | exact ⟨_, rfl, h⟩ | exact h.elim
theorem D.strW {v : D} {K : Str → Prop} (h : v.str?.elim False K) : ∃ d, v = .str d ∧ K d := by
  cases v <;> first | exact ⟨_, rfl, h⟩ | exact h.elim
theorem D.intW {v : D} {K : Int → Prop} (h : v.int?.elim False K) : ∃ d, v = .int d ∧ K d := by
  cases v <;> first | exact ⟨_, rfl, h⟩ | exact h.elim
theorem V.strW {v : V} {K : Str → Prop} (h : v.str?.elim False K) : ∃ d, v = .d (.str d) ∧ K d := by
  cases v with
  | d x => cases x <;> first | exact ⟨_, rfl, h⟩ | exact h.elim
  | _ => exact h.elim
theorem V.intW {v : V} {K : Int → Prop} (h : v.int?.elim False K) : ∃ d, v = .d (.int d) ∧ K d := by
  cases v with
  | d x => cases x <;> first | exact ⟨_, rfl, h⟩ | exact h.elim
  | _ => exact h.elim
theorem V.refW {v : V} {K : Nat → Prop} (h : v.ref?.elim False K) : ∃ d, v = .ref d ∧ K d := by
  cases v <;> first | exact ⟨_, rfl, h⟩ | exact h.elim
theorem O.listW {o : O} {K : List D → Prop} (h : o.list?.elim False K) : ∃ d, o = .list d ∧ K d := by
  cases o <;> first | exact ⟨_, rfl, h⟩ | exact h.elim
theorem O.dictW {o : O} {K : List (Str × D) → Prop} (h : o.dict?.elim False K) : ∃ d, o = .dict d ∧ K d := by
  cases o <;> first | exact ⟨_, rfl, h⟩ | exact h.elim
noncomputable def Rs (G : Gl) (s : Shared) : Prop := s.os = G.os ∧ s.gens = G.gens
noncomputable def Hp (G : Gl) (w : Wd) (s : Shared) : Prop := w.h = s.heap ∧ Rs G s
noncomputable def Sm (s s' : Shared) : Prop := s'.heap = s.heap ∧ s'.os = s.os ∧ s'.gens = s.gens
theorem Sm.refl (s : Shared) : Sm s s := ⟨rfl, rfl, rfl⟩
theorem Hp.sm {G : Gl} {w : Wd} {s s' : Shared} (x : Hp G w s) (q : Sm s s') : Hp G w s' := ⟨x.1.trans q.1.symm, q.2.1.trans x.2.1, q.2.2.trans x.2.2⟩
noncomputable def NameIs (w : Wd) (env : Env) (x : Str) (v : Value) : Prop :=
  (env.kindOf x = some .local ∧ ∃ m, w.h.Ns env.locals m ∧ m x = some v ∧ env.locals ∉ w.ads) ∨
  ((env.kindOf x = some .cell ∨ env.kindOf x = some .free) ∧ ∃ c, env.cells.lookup x = some c ∧ w.h.IsCell c (some v) ∧ c ∉ w.ads)
structure FrameOk (w : Wd) (env : Env) : Prop where
  kind : env.scope.kind = .function
  globals : env.globals = mainGlobals
  builtins : env.builtins = builtinsNs
  ns : ∃ m, w.h.Ns env.locals m
  lin : env.locals ∈ w.own
  cells : ∀ x, env.kindOf x = some .cell ∨ env.kindOf x = some .free → ∃ c o, env.cells.lookup x = some c ∧ w.h.IsCell c o ∧ (c ∈ w.own ∨ c ∈ w.prot) ∧ c ≠ env.locals
  inj : ∀ x y c, env.kindOf x = some .cell ∨ env.kindOf x = some .free → env.kindOf y = some .cell ∨ env.kindOf y = some .free → env.cells.lookup x = some c → env.cells.lookup y = some c → x = y
structure Ct where
  nms : List Str
  lev : Nat
noncomputable def Ct.nm (C : Ct) (x : Nat) : Str := C.nms.getD x Str.empty
structure Conc (G : Gl) (C : Ct) (A : Around) (w : Wd) (env : Env) (loc : Loc) (led : Led) : Prop where
  keep : ∀ b o, G.h₀.get? b = some o → w.h.get? b = some o ∧ w.st b
  glob : G.h₀.Ns mainGlobals G.mg ∧ G.h₀.Ns builtinsNs G.mb
  nolim : G.h₀.NoLimit
  handled : A.handled = none
  depth : A.depth + 4 * C.lev + 8 ≤ 900
  units : A.units + 64 * C.lev + 64 ≤ 9000
  frame : FrameOk w env
  locs : ∀ x v, get loc x = some v → x < C.nms.length ∧ ∃ val, NameIs w env (C.nm x) val ∧ VR G w v val
  led : ORs G w led w.ads
  nd : w.ads.Nodup
  sep : ∀ a, a ∈ w.own ∨ a ∈ w.prot → a ∉ w.ads
  ownex : ∀ a, a ∈ w.own ∨ a ∈ w.prot → ∃ o, w.h.get? a = some o
  inj : C.nms.Nodup
  op : ∀ a ∈ w.own, a ∉ w.prot
theorem ORs.len {G : Gl} {w : Wd} : ∀ {l : List O} {as : List Addr}, ORs G w l as → l.length = as.length
  | [], [], _ => rfl
  | [], _ :: _, h => h.elim
  | _ :: _, [], h => h.elim
  | _ :: _, _ :: _, ⟨_, h⟩ => congrArg (· + 1) h.len
theorem ORs.get {G : Gl} {w : Wd} : ∀ {l : List O} {as : List Addr} {k : Nat} {o : O}, ORs G w l as → l[k]? = some o → ∃ a, as[k]? = some a ∧ OR G w o a
  | [], _, _, _, _, e => by simp at e
  | _ :: _, [], _, _, h, _ => h.elim
  | x :: l, a :: as, 0, o, ⟨h, _⟩, e => by
    simp only [List.getElem?_cons_zero, Option.some.injEq] at e
    exact ⟨a, rfl, e ▸ h⟩
  | x :: l, a :: as, k + 1, o, ⟨_, h⟩, e => by
    simp only [List.getElem?_cons_succ] at e
    obtain ⟨b, hb, ho⟩ := h.get e
    exact ⟨b, by simpa using hb, ho⟩
noncomputable def Held (env : Env) (a : Addr) : Prop := a = env.locals ∨ ∃ z, (env.kindOf z = some .cell ∨ env.kindOf z = some .free) ∧ env.cells.lookup z = some a
noncomputable def HeldK (env : Env) (w w' : Wd) : Prop := ∀ {b o}, Held env b → w.h.get? b = some o → b ∉ w.ads → w'.h.get? b = some o ∧ b ∉ w'.ads
theorem NameIs.to {w w' : Wd} {env : Env} {x : Str} {v : Value} (K : HeldK env w w') (h : NameIs w env x v) : NameIs w' env x v := by
  rcases h with ⟨k, m, n, e, a⟩ | ⟨k, c, l, i, a⟩
  · obtain ⟨o, es, ep, ho, r⟩ := id n
    exact .inl ⟨k, m, Ns_get n fun o q => (K (.inl rfl) q a).1, e, (K (.inl rfl) ho a).2⟩
  · obtain ⟨o, ho, hd⟩ := id i
    have r := K (.inr ⟨x, k, l⟩) ho a
    exact .inr ⟨k, c, l, ⟨o, r.1, hd⟩, r.2⟩
structure PostE (G : Gl) (w : Wd) (led' : Led) (v : V) (val : Value) (s' : Shared) (w' : Wd) : Prop where
  heap : Hp G w' s'
  stp : Stp w w'
  led : ORs G w' led' w'.ads
  nd : w'.ads.Nodup
  val : VR G w' v val
theorem Conc.to {G : Gl} {C : Ct} {A : Around} {w w' : Wd} {env : Env} {loc : Loc} {led led' : Led} (c : Conc G C A w env loc led) (P : PerD w w') (K : HeldK env w w') (hown : ∀ {a}, a ∈ w.own → a ∈ w'.own) (hin : ∀ {a}, Held env a → a ∈ w.own ∨ a ∈ w.prot → a ∈ w'.own ∨ a ∈ w'.prot)
    (hv : ∀ {x v val}, get loc x = some v → VR G w v val → VR G w' v val) (hl : ORs G w' led' w'.ads) (hn : w'.ads.Nodup) (hs : ∀ a, a ∈ w'.own ∨ a ∈ w'.prot → a ∉ w'.ads) (hex : ∀ a, a ∈ w'.own ∨ a ∈ w'.prot → ∃ o, w'.h.get? a = some o) (hop : ∀ a ∈ w'.own, a ∉ w'.prot) : Conc G C A w' env loc led' where
  keep := fun b o e => P.st b o (c.keep b o e).1 (c.keep b o e).2
  glob := c.glob
  nolim := c.nolim
  handled := c.handled
  depth := c.depth
  units := c.units
  frame := {
    kind := c.frame.kind
    globals := c.frame.globals
    builtins := c.frame.builtins
    ns := c.frame.ns.imp fun m n => Ns_get n fun o q => (K (.inl rfl) q (c.sep _ (.inl c.frame.lin))).1
    lin := hown c.frame.lin
    inj := c.frame.inj
    cells := fun x k => by
      obtain ⟨cc, o, l, ⟨ob, i, hd⟩, m, n⟩ := c.frame.cells x k
      exact ⟨cc, o, l, ⟨ob, (K (.inr ⟨x, k, l⟩) i (c.sep _ m)).1, hd⟩, hin (.inr ⟨x, k, l⟩) m, n⟩ }
  locs := fun x v e => let ⟨l, val, n, r⟩ := c.locs x v e; ⟨l, val, n.to K, hv e r⟩
  led := hl
  nd := hn
  sep := hs
  ownex := hex
  inj := c.inj
  op := hop
theorem Conc.stp {G : Gl} {C : Ct} {A : Around} {w w' : Wd} {env : Env} {loc : Loc} {led led' : Led} (c : Conc G C A w env loc led) (P : Stp w w')
    (hl : ORs G w' led' w'.ads) (hn : w'.ads.Nodup) : Conc G C A w' env loc led' := by
  have ex : ∀ a, a ∈ w.own ∨ a ∈ w.prot → (∃ o, w'.h.get? a = some o) ∧ a ∉ w'.ads := fun a ha => by
    obtain ⟨o, ho⟩ := c.ownex a ha
    have r := P.keep a o ho (c.sep a ha)
    exact ⟨⟨o, r.1⟩, r.2⟩
  refine c.to P.per.toPerD (fun _ e n => P.keep _ _ e n) (fun m => P.own ▸ m) (fun _ m => by rw [P.own, P.prot]; exact m) (fun _ r => r.per P.per) hl hn (fun a ha => ?_) (fun a ha => ?_) fun a ha => ?_
  · rw [P.own, P.prot] at ha; exact (ex a ha).2
  · rw [P.own, P.prot] at ha; exact (ex a ha).1
  · rw [P.own] at ha; rw [P.prot]; exact c.op a ha
theorem PostE.conc {G : Gl} {C : Ct} {A : Around} {w w' : Wd} {env : Env} {loc : Loc} {led led' : Led} {v : V} {val : Value} {s' : Shared} (p : PostE G w led' v val s' w')
    (c : Conc G C A w env loc led) : Conc G C A w' env loc led' := c.stp p.stp p.led p.nd
theorem PostE.trans {G : Gl} {w w' w'' : Wd} {led' led'' : Led} {v v' : V} {val val' : Value} {s' s'' : Shared} (a : PostE G w led' v val s' w') (b : PostE G w' led'' v' val' s'' w'') :
    PostE G w led'' v' val' s'' w'' := ⟨b.heap, a.stp.trans b.stp, b.led, b.nd, b.val⟩
theorem PostE.same {G : Gl} {C : Ct} {A : Around} {w : Wd} {env : Env} {loc : Loc} {led : Led} {v : V} {val : Value} {s' : Shared} (c : Conc G C A w env loc led) (h : Hp G w s')
    (r : VR G w v val) : PostE G w led v val s' w := ⟨h, Stp.refl w, c.led, c.nd, r⟩
noncomputable def Grow (h h' : Heap) : Prop := ∀ b o, h.get? b = some o → h'.get? b = some o
theorem Grow.refl (h : Heap) : Grow h h := fun _ _ e => e
theorem Grow.push (h : Heap) (o : Obj) : Grow h (h.push o) := fun _ _ e => Heap.get?_push_of_some o e
theorem Stp.grow {w : Wd} {h' : Heap} (g : Grow w.h h') : Stp w ⟨h', w.own, w.prot, w.ads⟩ := ⟨rfl, rfl, List.prefix_rfl, fun b o e n => ⟨g b o e, n⟩⟩
theorem OR.moveD {G : Gl} {w w' : Wd} (P : PerD w w') : ∀ {o : O} {a : Addr}, OR G w o a → (∀ ob, w.h.get? a = some ob → w'.h.get? a = some ob) → OR G w' o a
  | .list xs, a, ⟨vs, i, d⟩, k => ⟨vs, IsL_get i k, d.perD P⟩
  | .dict kvs, a, d, k => d.atD P k
theorem OR.move {G : Gl} {w w' : Wd} (P : Per w w') {o : O} {a : Addr} (h : OR G w o a) (k : ∀ ob, w.h.get? a = some ob → w'.h.get? a = some ob) : OR G w' o a := h.moveD P.toPerD k
theorem ORs.moveD {G : Gl} {w w' : Wd} (P : PerD w w') : ∀ {l : List O} {as : List Addr}, ORs G w l as → (∀ a, a ∈ as → ∀ ob, w.h.get? a = some ob → w'.h.get? a = some ob) → ORs G w' l as
  | [], [], _, _ => trivial
  | [], _ :: _, h, _ => h.elim
  | _ :: _, [], h, _ => h.elim
  | _ :: _, a :: as, ⟨x, y⟩, k => ⟨x.moveD P (k a (.head _)), y.moveD P fun b hb => k b (.tail _ hb)⟩
theorem ORs.move {G : Gl} {w w' : Wd} (P : Per w w') {l : List O} {as : List Addr} (h : ORs G w l as) (k : ∀ a, a ∈ as → ∀ ob, w.h.get? a = some ob → w'.h.get? a = some ob) : ORs G w' l as := h.moveD P.toPerD k
theorem ORs.append {G : Gl} {w : Wd} : ∀ {l l' : List O} {as as' : List Addr}, ORs G w l as → ORs G w l' as' → ORs G w (l ++ l') (as ++ as')
  | [], _, [], _, _, h => h
  | [], _, _ :: _, _, h, _ => h.elim
  | _ :: _, _, [], _, h, _ => h.elim
  | _ :: _, _, _ :: _, _, ⟨a, b⟩, h => ⟨a, b.append h⟩
theorem ORs.take {G : Gl} {w : Wd} : ∀ {l : List O} {as : List Addr} (n : Nat), ORs G w l as → ORs G w (l.take n) (as.take n)
  | [], [], n, _ => by simp [ORs]
  | [], _ :: _, _, h => h.elim
  | _ :: _, [], _, h => h.elim
  | _ :: _, _ :: _, 0, _ => trivial
  | _ :: _, _ :: _, n + 1, ⟨a, b⟩ => ⟨a, b.take n⟩
theorem ORs.obj {G : Gl} {w : Wd} : ∀ {l : List O} {as : List Addr}, ORs G w l as → ∀ a ∈ as, ∃ ob, w.h.get? a = some ob
  | [], [], _, _, m => nomatch m
  | [], _ :: _, h, _, _ => h.elim
  | _ :: _, [], h, _, _ => h.elim
  | .list _ :: _, _ :: _, ⟨⟨_, ⟨_, ho⟩, _⟩, _⟩, _, .head _ => ⟨_, ho⟩
  | .dict _ :: _, _ :: _, ⟨x, _⟩, _, .head _ => x.obj
  | _ :: _, _ :: _, ⟨_, h⟩, a, .tail _ m => h.obj a m
theorem Conc.grow {G : Gl} {C : Ct} {A : Around} {w : Wd} {env : Env} {loc : Loc} {led : Led} (c : Conc G C A w env loc led) {h' : Heap} (g : Grow w.h h') :
    Conc G C A ⟨h', w.own, w.prot, w.ads⟩ env loc led :=
  c.stp (Stp.grow g) (c.led.move (Stp.grow g).per fun a _ o e => g a o e) c.nd
theorem PostE.grow {G : Gl} {C : Ct} {A : Around} {w : Wd} {env : Env} {loc : Loc} {led : Led} {v : V} {val : Value} {s' : Shared} (c : Conc G C A w env loc led) (g : Grow w.h s'.heap)
    (r : VR G ⟨s'.heap, w.own, w.prot, w.ads⟩ v val) (rs : Rs G s') : PostE G w led v val s' ⟨s'.heap, w.own, w.prot, w.ads⟩ :=
  ⟨⟨rfl, rs⟩, Stp.grow g, (c.grow g).led, c.nd, r⟩
theorem fresh_ads {G : Gl} {C : Ct} {A : Around} {w : Wd} {env : Env} {loc : Loc} {led : Led} (c : Conc G C A w env loc led) {a : Addr} (f : w.h.get? a = none) : a ∉ w.ads := fun m => by
  obtain ⟨o, ho⟩ := c.led.obj a m
  rw [f] at ho; cases ho
theorem fresh_st {G : Gl} {C : Ct} {A : Around} {w : Wd} {env : Env} {loc : Loc} {led : Led} (c : Conc G C A w env loc led) {a : Addr} (f : w.h.get? a = none) : w.st a := by
  refine ⟨fun m => ?_, fun m => ?_, fresh_ads c f⟩
  · obtain ⟨o, ho⟩ := c.ownex a (.inl m)
    rw [f] at ho; cases ho
  · obtain ⟨o, ho⟩ := c.ownex a (.inr m)
    rw [f] at ho; cases ho
theorem Stp.new {w : Wd} {h' : Heap} {a : Addr} (g : Grow w.h h') (f : w.h.get? a = none) : Stp w ⟨h', w.own, w.prot, w.ads ++ [a]⟩ :=
  ⟨rfl, rfl, List.prefix_append _ _, fun b o e n => ⟨g b o e, fun m => by
    rcases List.mem_append.mp m with m | m
    · exact n m
    · rw [List.mem_singleton] at m; subst m; rw [f] at e; cases e⟩⟩
theorem PostE.new {G : Gl} {C : Ct} {A : Around} {w : Wd} {env : Env} {loc : Loc} {led : Led} {o : O} {a : Addr} {s' : Shared} (c : Conc G C A w env loc led) (g : Grow w.h s'.heap)
    (f : w.h.get? a = none) (r : OR G ⟨s'.heap, w.own, w.prot, w.ads ++ [a]⟩ o a) (rs : Rs G s') :
    PostE G w (led ++ [o]) (.ref led.length) (.ref a) s' ⟨s'.heap, w.own, w.prot, w.ads ++ [a]⟩ :=
  ⟨⟨rfl, rs⟩, Stp.new g f, (c.led.move (Stp.new g f).per fun b _ o e => g b o e).append ⟨r, trivial⟩,
    List.nodup_append.mpr ⟨c.nd, by simp, fun b hb d hd e => fresh_ads c f (by rw [List.mem_singleton] at hd; exact hd ▸ e ▸ hb)⟩,
    ⟨a, rfl, by show (w.ads ++ [a])[led.length]? = some a; rw [c.led.len, List.getElem?_concat_length]⟩⟩
theorem DRs.len {w : Wd} : ∀ {xs : List D} {vs : List Value}, DRs w xs vs → xs.length = vs.length
  | [], [], _ => rfl
  | [], _ :: _, h => h.elim
  | _ :: _, [], h => h.elim
  | _ :: _, _ :: _, ⟨_, b⟩ => congrArg (· + 1) b.len
theorem DRs.append {w : Wd} : ∀ {xs ys : List D} {vs us : List Value}, DRs w xs vs → DRs w ys us → DRs w (xs ++ ys) (vs ++ us)
  | [], _, [], _, _, h => h
  | [], _, _ :: _, _, h, _ => h.elim
  | _ :: _, _, [], _, h, _ => h.elim
  | _ :: _, _, _ :: _, _, ⟨a, b⟩, h => ⟨a, b.append h⟩
theorem DRs.get {w : Wd} : ∀ {xs : List D} {vs : List Value} {i : Nat} {x : D}, DRs w xs vs → xs[i]? = some x → ∃ v, vs[i]? = some v ∧ DR w x v
  | [], _, _, _, _, e => by simp at e
  | _ :: _, [], _, _, h, _ => h.elim
  | x :: l, a :: as, 0, o, ⟨h, _⟩, e => by
    simp only [List.getElem?_cons_zero, Option.some.injEq] at e
    exact ⟨a, rfl, e ▸ h⟩
  | x :: l, a :: as, k + 1, o, ⟨_, h⟩, e => by
    simp only [List.getElem?_cons_succ] at e
    obtain ⟨b, hb, ho⟩ := h.get e
    exact ⟨b, by simpa using hb, ho⟩
noncomputable abbrev Mo (G : Gl) : Model := model G.p G.w
noncomputable abbrev NoE : Value → Shared → Prop := fun _ _ => False
theorem falseE {M : Model} {A : Around} {α : Type} {t : Sem α} {Q : α → Shared → Prop} {E : Value → Shared → Prop} {s : Shared} (h : wpAny M A t Q NoE s) : wpAny M A t Q E s :=
  wpAny_mono h (fun _ _ x => x) fun _ _ x => x.elim
structure St (G : Gl) (C : Ct) (A : Around) (env : Env) (w : Wd) (loc : Loc) (led : Led) (s : Shared) : Prop where
  conc : Conc G C A w env loc led
  heap : Hp G w s
theorem PostE.st {G : Gl} {C : Ct} {A : Around} {w w' : Wd} {env : Env} {loc : Loc} {led led' : Led} {v : V} {val : Value} {s s' : Shared} (p : PostE G w led' v val s' w') (c : St G C A env w loc led s) : St G C A env w' loc led' s' :=
  ⟨p.conc c.conc, p.heap⟩
noncomputable def SE (G : Gl) (C : Ct) (A : Around) (env : Env) (cx : Cx) (e : E) (x : Expr) : Prop :=
  ∀ {w : Wd} {loc : Loc} {led : Led} {s : Shared} {K : V × Led → Prop} {Q : Value → Shared → Prop}, St G C A env w loc led s → (evE cx e loc led).elim False K →
    (∀ {p : V × Led} {val : Value} {s' : Shared} {w' : Wd}, K p → PostE G w p.2 p.1 val s' w' → Q val s') → wpAny (Mo G) A (eval x env) Q NoE s
noncomputable def ST (G : Gl) (C : Ct) (A : Around) (env : Env) (cx : Cx) (e : E) (x : Expr) : Prop :=
  ∀ {w : Wd} {loc : Loc} {led : Led} {s : Shared} {K : Led → Bool → Prop} {Q : Bool → Shared → Prop}, St G C A env w loc led s → (evE cx e loc led).elim False (fun p => (tru p.2 p.1).elim False (K p.2)) →
    (∀ {led' : Led} {b : Bool} {s' : Shared} {w' : Wd}, K led' b → PostE G w led' (.d .none) .none s' w' → Q b s') → wpAny (Mo G) A (isTrue x env (eval x env)) Q NoE s
theorem listW {G : Gl} {w : Wd} {led : Led} (hl : ORs G w led w.ads) {v : V} {val : Value} {K : List D → Prop} (r : VR G w v val) (e : (led.list v).elim False K) :
    ∃ a vs xs, val = .ref a ∧ IsL w.h a vs ∧ DRs w xs vs.toList ∧ K xs := by
  cases v with
  | lst ys =>
    obtain ⟨a, vs, e1, e2, e3, e4⟩ := r
    exact ⟨a, vs, ys, e1, e2, e4, e⟩
  | ref k =>
    obtain ⟨a, e1, e2⟩ := r
    obtain ⟨o, ho, e⟩ := isW (bindW e)
    obtain ⟨ys, rfl, e⟩ := O.listW e
    obtain ⟨b, hb, vs, i, d⟩ := hl.get ho
    rw [e2] at hb
    cases hb
    exact ⟨a, vs, ys, e1, i, d, e⟩
  | _ => exact e.elim
section
variable {G : Gl} {C : Ct} {A : Around} {env : Env} {w : Wd} {loc : Loc} {led led' : Led} {s : Shared}
theorem St.grown {x : D} {val : Value} {s' : Shared} (c : St G C A env w loc led s) (g : Grow w.h s'.heap) (r : DR ⟨s'.heap, w.own, w.prot, w.ads⟩ x val) (rs : Rs G s') : PostE G w led (.d x) val s' ⟨s'.heap, w.own, w.prot, w.ads⟩ :=
  PostE.grow c.conc g r rs
theorem St.val {x : D} {val : Value} (c : St G C A env w loc led s) (r : DR w x val) : PostE G w led (.d x) val s w := PostE.same c.conc c.heap r
theorem St.toks {x : D} {val : Value} {s' : Shared} (c : St G C A env w loc led s) (q : Sm s s') (r : DR w x val) : PostE G w led (.d x) val s' w := PostE.same c.conc (c.heap.sm q) r
theorem PostE.toks {w' : Wd} {v : V} {val : Value} {s s' : Shared} (p : PostE G w led' v val s w') (h : Sm s s') : PostE G w led' (.d .none) .none s' w' :=
  ⟨p.heap.sm h, p.stp, p.led, p.nd, rfl⟩
theorem PostE.toks' {w' : Wd} {v : V} {val : Value} {s s' : Shared} (p : PostE G w led' v val s w') (h : Sm s s') : PostE G w led' v val s' w' :=
  ⟨p.heap.sm h, p.stp, p.led, p.nd, p.val⟩
theorem fresh_size {h : Heap} : h.get? h.objs.size = none := by
  cases q : h.get? h.objs.size with
  | none => rfl
  | some o => exact absurd (Heap.lt_size q) (Nat.lt_irrefl _)
end
end UK
end
section
namespace UK
open PySem PySem.W PySem.Calls PyProof.Rows
section
variable {G : Gl} {C : Ct} {A : Around} {env : Env} {cx : Cx} {w : Wd} {loc : Loc} {led led' : Led} {s : Shared} {E : Value → Shared → Prop}
theorem truthy_sound {v : V} {val : Value} {K : Bool → Prop} (r : VR G w v val) (e : (tru led v).elim False K) {Q : Bool → Shared → Prop}
    (h : ∀ {b s'}, K b → Sm s s' → Q b s') : wpAny (Mo G) A (truthy val) Q E s := by
  obtain ⟨d, rfl, e⟩ := ofVW (bindW e)
  cases d with
  | none => cases r; exact truthy_none (h e (Sm.refl s))
  | bool b => cases r; exact wpAny_pure (h e (Sm.refl s))
  | int i => obtain ⟨t, rfl⟩ := r; exact truthy_int (h e (Sm.refl s))
  | str x =>
    obtain ⟨t, rfl⟩ := r
    obtain ⟨hl, e⟩ := gdW e
    have hl' : x.length ≤ 4096 := hl
    refine P.truthy_str (by omega) ?_
    have : ((x.length : Int) != 0) = (x.length != 0) := by
      rw [Bool.eq_iff_iff]; simp only [bne_iff_ne]; omega
    rw [this]; exact h e ⟨rfl, rfl, rfl⟩
  | tup _ => exact e.elim
theorem ST.plain {e : UK.E} {x : Expr} (h : SE G C A env cx e x) (he : isTrue x env (eval x env) = (do let v ← eval x env; standAt x.pos; holding [v] (PySem.truthy v))) : ST G C A env cx e x :=
  fun c e k => isTrue_plain (h c e fun e p => truthy_sound p.val e fun e q => k e (p.toks q)) he
noncomputable def isC (d : D) (k : Const) : Bool := match d with
  | .none => match k with
    | .none => true
    | _ => false
  | .bool a => match k with
    | .bool b => a == b
    | _ => false
  | .int a => match k with
    | .int b => a == b
    | _ => false
  | .str a => match k with
    | .str b => a == b
    | _ => false
  | .tup _ => false
theorem SE.lit {d : D} {k : Const} {i : Nat} {pos : Pos} (hk : isC d k = true) : SE G C A env cx (.lit d) (.Constant k i pos) := fun {w loc led s K Q} c e h => by
  show wpAny _ _ (constValue env k) _ _ _
  cases d with
  | none => cases k <;> first | exact wpAny_pure (h e (c.val rfl)) | exact Bool.noConfusion hk
  | bool a => cases k <;> first | exact wpAny_pure (h e (c.val (congrArg Value.bool (beq_iff_eq.mp hk)).symm)) | exact Bool.noConfusion hk
  | int a => cases k <;> first | (obtain rfl := eq_of_beq (show (a == _) = true from hk); exact wpAny_mkInt (h e (c.toks ⟨rfl, rfl, rfl⟩ ⟨_, rfl⟩))) | exact Bool.noConfusion hk
  | str a => cases k <;> first | (obtain rfl := eq_of_beq (show (a == _) = true from hk); exact wpAny_mkText (h e (c.toks ⟨rfl, rfl, rfl⟩ ⟨_, rfl⟩))) | exact Bool.noConfusion hk
  | tup _ => exact Bool.noConfusion hk
theorem SE.neg {a : UK.E} {x : Expr} {pos : Pos} (ha : SE G C A env cx a x) : SE G C A env cx (.neg a) (.UnaryOp .USub x pos) := fun c e k => by
  rw [arm_eval_UnaryOp]
  refine wpAny_bind (ha c (bindW e) fun e p => wpAny_bind (wpAny_standAt (wpAny_holding ?_)))
  obtain ⟨i, hi, e⟩ := V.intW (mapW e)
  have r := p.val
  rw [hi] at r
  obtain ⟨t, rfl⟩ := r
  exact PyProof.Rows.neg_int (k e ⟨p.heap, p.stp, p.led, p.nd, _, rfl⟩)
theorem SE.not {a : UK.E} {x : Expr} {pos : Pos} (ha : SE G C A env cx a x) : SE G C A env cx (.not a) (.UnaryOp .Not x pos) := fun c e k => by
  rw [arm_eval_UnaryOp]
  exact wpAny_bind (ha c (bindW e) fun e p => wpAny_bind (wpAny_standAt (wpAny_holding (not_of (truthy_sound p.val (mapW e) fun e q => k e ⟨p.heap.sm q, p.stp, p.led, p.nd, rfl⟩)))))
theorem ST.not {a : UK.E} {x : Expr} {pos : Pos} (ha : ST G C A env cx a x) : ST G C A env cx (.not a) (.UnaryOp .Not x pos) := fun {w loc led s K Q} c e k =>
  isTrue_not (ha (K := fun l b => K l !b) c (by
    obtain ⟨p, hp, e⟩ := isW (bindW e)
    obtain ⟨b, hb, e⟩ := isW (mapW e)
    exact toW hp (toW hb e)) fun e p => k e p)
theorem SE.and {a b : UK.E} {x y : Expr} {pos : Pos} (ha : SE G C A env cx a x) (hb : SE G C A env cx b y) : SE G C A env cx (.and a b) (.BoolOp .And [x, y] pos) := fun c e k =>
  BoolOp_and (ha c (bindW e) fun e p => truthy_sound p.val (bindW e) fun {t s'} e q => by
    cases t with
    | true => exact BoolOp_one (hb ((p.toks' q).st c) e fun e p2 => k e ((p.toks' q).trans p2))
    | false => exact k e (p.toks' q))
theorem SE.or {a b : UK.E} {x y : Expr} {pos : Pos} (ha : SE G C A env cx a x) (hb : SE G C A env cx b y) : SE G C A env cx (.or a b) (.BoolOp .Or [x, y] pos) := fun c e k =>
  BoolOp_or (ha c (bindW e) fun e p => truthy_sound p.val (bindW e) fun {t s'} e q => by
    cases t with
    | true => exact k e (p.toks' q)
    | false => exact BoolOp_one (hb ((p.toks' q).st c) e fun e p2 => k e ((p.toks' q).trans p2)))
theorem condW {α : Type} {t : Bool} {x y : Option α} {K : α → Prop} (h : (cond t x y).elim False K) : (t = true → x.elim False K) ∧ (t = false → y.elim False K) := by
  cases t
  · exact ⟨nofun, fun _ => h⟩
  · exact ⟨fun _ => h, nofun⟩
noncomputable def AndK (cx : Cx) (b : UK.E) (loc : Loc) (K : Led → Bool → Prop) (l : Led) (t : Bool) : Prop := (t = true → (evE cx b loc l).elim False fun p => (tru p.2 p.1).elim False (K p.2)) ∧ (t = false → K l false)
theorem ST.and {a b : UK.E} {x y : Expr} {pos : Pos} (ha : ST G C A env cx a x) (hb : ST G C A env cx b y) : ST G C A env cx (.and a b) (.BoolOp .And [x, y] pos) := fun {w loc led s K Q} c e k =>
  isTrue_and (ha (K := AndK cx b loc K) c (by
    obtain ⟨p, hp, e⟩ := isW (bindW e)
    obtain ⟨t, ht, e⟩ := isW (bindW e)
    refine toW hp (toW ht ?_)
    cases t with
    | true => exact ⟨fun _ => e, nofun⟩
    | false =>
      refine ⟨nofun, fun _ => ?_⟩
      have e : (tru p.2 p.1).elim False (K p.2) := e
      rw [ht] at e
      exact e) fun {l t s' w'} e p => by
    cases t with
    | true => exact isTrue_and (hb (p.st c) (e.1 rfl) fun {l2 t2 s2 w2} e2 p2 => by
        cases t2
        · exact k e2 (p.trans p2)
        · exact isTrue_and_nil (k e2 (p.trans p2)))
    | false => exact k (e.2 rfl) p)
noncomputable def OrK (cx : Cx) (b : UK.E) (loc : Loc) (K : Led → Bool → Prop) (l : Led) (t : Bool) : Prop := (t = false → (evE cx b loc l).elim False fun p => (tru p.2 p.1).elim False (K p.2)) ∧ (t = true → K l true)
theorem ST.or {a b : UK.E} {x y : Expr} {pos : Pos} (ha : ST G C A env cx a x) (hb : ST G C A env cx b y) : ST G C A env cx (.or a b) (.BoolOp .Or [x, y] pos) := fun {w loc led s K Q} c e k =>
  isTrue_or (ha (K := OrK cx b loc K) c (by
    obtain ⟨p, hp, e⟩ := isW (bindW e)
    obtain ⟨t, ht, e⟩ := isW (bindW e)
    refine toW hp (toW ht ?_)
    cases t with
    | false => exact ⟨fun _ => e, nofun⟩
    | true =>
      refine ⟨nofun, fun _ => ?_⟩
      have e : (tru p.2 p.1).elim False (K p.2) := e
      rw [ht] at e
      exact e) fun {l t s' w'} e p => by
    cases t with
    | false => exact isTrue_or (hb (p.st c) (e.1 rfl) fun {l2 t2 s2 w2} e2 p2 => by
        cases t2
        · exact isTrue_or_nil (k e2 (p.trans p2))
        · exact k e2 (p.trans p2))
    | true => exact k (e.2 rfl) p)
noncomputable def IteK (cx : Cx) (a b : UK.E) (loc : Loc) (K : V × Led → Prop) (l : Led) (t : Bool) : Prop := (cond t (evE cx a loc l) (evE cx b loc l)).elim False K
theorem SE.ite {t a b : UK.E} {z x y : Expr} {pos : Pos} (ht : ST G C A env cx t z) (ha : SE G C A env cx a x) (hb : SE G C A env cx b y) : SE G C A env cx (.ite t a b) (.IfExp z x y pos) := fun {w loc led s K Q} c e k =>
  IfExp_ (ht (K := IteK cx a b loc K) c (by
    obtain ⟨p, hp, e⟩ := isW (bindW e)
    exact toW hp (bindW e)) fun {l t s' w'} e p => by
    cases t with
    | true => exact ha (p.st c) e fun e2 p2 => k e2 (p.trans p2)
    | false => exact hb (p.st c) e fun e2 p2 => k e2 (p.trans p2))
theorem ST.ite {t a b : UK.E} {z x y : Expr} {pos : Pos} (ht : ST G C A env cx t z) (ha : ST G C A env cx a x) (hb : ST G C A env cx b y) : ST G C A env cx (.ite t a b) (.IfExp z x y pos) := fun {w loc led s K Q} c e k =>
  isTrue_IfExp (ht (K := IteK cx a b loc fun p => (tru p.2 p.1).elim False (K p.2)) c (by
    obtain ⟨p, hp, e⟩ := isW (bindW e)
    exact toW hp (bindW e)) fun {l t s' w'} e p => by
    cases t with
    | true => exact ha (p.st c) e fun e2 p2 => k e2 (p.trans p2)
    | false => exact hb (p.st c) e fun e2 p2 => k e2 (p.trans p2))
theorem SE.name {n : Nat} {id : Str} {pos : Pos} (hid : id = C.nm n) (h1 : (id == ("__debug__" : Str)) = false) (h2 : (id == ("__classdict__" : Str)) = false) : SE G C A env cx (.name n) (.Name id pos) := fun {w loc led s K Q} c e k => by
  obtain ⟨u, e1, e⟩ := isW (mapW e)
  obtain ⟨_, val, hn, r⟩ := c.conc.locs n _ e1
  subst hid
  have P : Q val s := k e (PostE.same c.conc c.heap r)
  refine wpAny_Name ?_ h1
  rcases hn with ⟨k, m, hm, e, a⟩ | ⟨k | k, cc, l, i, a⟩
  · exact wpAny_loadName_local c.conc.frame.kind k (c.heap.1 ▸ hm) e P
  · exact wpAny_loadName_cell c.conc.frame.kind k l (c.heap.1 ▸ i) P
  · exact wpAny_loadName_free c.conc.frame.kind k l (c.heap.1 ▸ i) P h2
noncomputable def Op2.to : Op2 → Operator
  | .add => .Add
  | .sub => .Sub
  | .mul => .Mult
  | .fdiv => .FloorDiv
  | .mod => .Mod
  | .pow => .Pow
noncomputable def Op2.is (op : Op2) (op' : Operator) : Bool := decide (op' = op.to)
theorem intBits_le {a : Int} (h : a.natAbs < 2 ^ 32) : Builtin.Int.intBits a ≤ 64 := by
  unfold Builtin.Int.intBits
  split
  · omega
  · rename_i hz
    have hz' : a ≠ 0 := by simpa using hz
    have : a.natAbs.log2 < 32 := (Nat.log2_lt (by omega)).mpr h
    omega
theorem noPylong_of {a b : Int} (h0 : 0 < b) (h1 : b < 2 ^ 30) : Builtin.divisionGoesByPylong a b = false := by
  unfold Builtin.divisionGoesByPylong
  have : b.natAbs.log2 < 30 := (Nat.log2_lt (by omega)).mpr (by omega)
  have h2 : b.natAbs.log2 / 30 = 0 := by omega
  simp only [h2]
  have : (b == 0) = false := by simp; omega
  simp [this]
theorem ints2W {f : Int → Int → Option D} {x y : D} {K : D → Prop} (h : (ints2 f x y).elim False K) : ∃ a b, x = .int a ∧ y = .int b ∧ (f a b).elim False K := by
  obtain ⟨a, rfl, h1⟩ := D.intW (bindW h)
  obtain ⟨b, rfl, h2⟩ := D.intW (bindW h1)
  exact ⟨a, b, rfl, rfl, h2⟩
theorem Op2.isW {op : Op2} {op' : Operator} (h : op.is op' = true) : op' = op.to := of_decide_eq_true h
theorem bin2_sound {op : Op2} {op' : Operator} {x y : D} {xv yv : Value} {K : D → Prop} {Q : Value → Shared → Prop} (c : St G C A env w loc led s) (ho : op.is op' = true) (rx : DR w x xv) (ry : DR w y yv)
    (e : (bin2 op x y).elim False K) (k : ∀ {z val s'}, K z → PostE G w led (.d z) val s' w → Q val s') : wpAny (Mo G) A (binaryOp op' xv yv) Q NoE s := by
  obtain rfl := Op2.isW ho
  cases op with
  | add =>
    cases x with
    | int a =>
      obtain ⟨b, rfl, e1⟩ := D.intW (mapW e)
      obtain ⟨t, rfl⟩ := rx; obtain ⟨u, rfl⟩ := ry
      exact add_int (k e1 (c.toks ⟨rfl, rfl, rfl⟩ ⟨_, rfl⟩))
    | str a =>
      obtain ⟨b, rfl, e1⟩ := D.strW (bindW e)
      obtain ⟨hl, e2⟩ := gdW e1
      obtain ⟨t, rfl⟩ := rx; obtain ⟨u, rfl⟩ := ry
      exact PyProof.Rows.add_str (fun t' tk => k e2 (c.toks ⟨rfl, rfl, rfl⟩ ⟨_, rfl⟩)) (Nat.le_trans hl (by decide))
    | _ => exact e.elim
  | sub =>
    obtain ⟨a, b, rfl, rfl, e2⟩ := ints2W e
    obtain ⟨t, rfl⟩ := rx; obtain ⟨u, rfl⟩ := ry
    exact sub_int (k e2 (c.toks ⟨rfl, rfl, rfl⟩ ⟨_, rfl⟩))
  | mul =>
    obtain ⟨a, b, rfl, rfl, e1⟩ := ints2W e
    obtain ⟨hl, e2⟩ := gdW e1
    obtain ⟨t, rfl⟩ := rx; obtain ⟨u, rfl⟩ := ry
    exact PyProof.Rows.mul_int (k e2 (c.toks ⟨rfl, rfl, rfl⟩ ⟨_, rfl⟩)) (hl.elim (fun h => IntMulOk.of_left (intBits_le h)) fun h => IntMulOk.of_right (intBits_le h))
  | fdiv =>
    obtain ⟨a, b, rfl, rfl, e1⟩ := ints2W e
    obtain ⟨hl, e2⟩ := gdW e1
    obtain ⟨t, rfl⟩ := rx; obtain ⟨u, rfl⟩ := ry
    exact PyProof.Rows.floordiv_int (Int.ne_of_gt hl.1) (k e2 (c.toks ⟨rfl, rfl, rfl⟩ ⟨_, rfl⟩)) (.inl (noPylong_of hl.1 hl.2))
  | mod =>
    obtain ⟨a, b, rfl, rfl, e1⟩ := ints2W e
    obtain ⟨hl, e2⟩ := gdW e1
    obtain ⟨t, rfl⟩ := rx; obtain ⟨u, rfl⟩ := ry
    exact PyProof.Rows.mod_int (Int.ne_of_gt hl) (k e2 (c.toks ⟨rfl, rfl, rfl⟩ ⟨_, rfl⟩))
  | pow =>
    obtain ⟨a, b, rfl, rfl, e1⟩ := ints2W e
    obtain ⟨hl, e2⟩ := gdW e1
    obtain ⟨t, rfl⟩ := rx; obtain ⟨u, rfl⟩ := ry
    exact PyProof.Rows.pow_int_small hl.1 (by omega) (by omega) (k e2 (c.toks ⟨rfl, rfl, rfl⟩ ⟨_, rfl⟩))
end
end UK
end
section
namespace UK
open PySem PySem.W PySem.Calls PyProof.Rows PySem.SeqAt
theorem mapE {α β : Type} {o : Option α} {f : α → β} {b : β} (h : o.map f = some b) : ∃ a, o = some a ∧ f a = b := Option.map_eq_some_iff.mp h
theorem bindE {α β : Type} {o : Option α} {f : α → Option β} {b : β} (h : o.bind f = some b) : ∃ a, o = some a ∧ f a = some b := Option.bind_eq_some_iff.mp h
theorem D.strE {v : D} {d : Str} (h : v.str? = some d) : v = .str d := by cases v <;> cases h; rfl
theorem D.intE {v : D} {d : Int} (h : v.int? = some d) : v = .int d := by cases v <;> cases h; rfl
theorem D.boolE {v : D} {d : Bool} (h : v.bool? = some d) : v = .bool d := by cases v <;> cases h; rfl
section
variable {G : Gl} {C : Ct} {A : Around} {env : Env} {cx : Cx} {w : Wd} {loc : Loc} {led led' : Led} {s : Shared}
inductive At2 : D → D → Bool → Prop
  | nn : At2 .none .none true
  | ns (x : Str) : At2 .none (.str x) false
  | sn (x : Str) : At2 (.str x) .none false
  | bb (a b : Bool) : At2 (.bool a) (.bool b) (a == b)
  | ii (a b : Int) : At2 (.int a) (.int b) (a == b)
  | ss (a b : Str) : At2 (.str a) (.str b) (a == b)
theorem atEqE {x y : D} {b : Bool} (e : atEq x y = some b) : At2 x y b := by
  cases x with
  | none => cases y <;> first | (obtain rfl := Option.some.inj e; first | exact .nn | exact .ns _) | cases e
  | bool a => obtain ⟨q, h, rfl⟩ := mapE e; obtain rfl := D.boolE h; exact .bb _ _
  | int a => obtain ⟨q, h, rfl⟩ := mapE e; obtain rfl := D.intE h; exact .ii _ _
  | str a => cases y <;> first | (obtain rfl := Option.some.inj e; first | exact .sn _ | exact .ss _ _) | cases e
  | tup _ => cases e
theorem atEq_sound {x y : D} {xv yv : Value} {b : Bool} (rx : DR w x xv) (ry : DR w y yv) (e : atEq x y = some b) (A : Around) (s : Shared) : EqAt A s xv yv b := by
  cases atEqE e with
  | nn => cases rx; cases ry; exact EqAt.same _
  | ns => cases rx; obtain ⟨u, rfl⟩ := ry; exact EqAt.none_str _ _
  | sn => cases ry; obtain ⟨u, rfl⟩ := rx; exact EqAt.str_none _ _
  | bb => cases rx; cases ry; exact EqAt.bool_bool _ _
  | ii => obtain ⟨t, rfl⟩ := rx; obtain ⟨u, rfl⟩ := ry; exact EqAt.int_int _ _ _ _
  | ss => obtain ⟨t, rfl⟩ := rx; obtain ⟨u, rfl⟩ := ry; exact EqAt.str_str _ _ _ _
theorem atRc_sound {x y : D} {xv yv : Value} {b : Bool} (rx : DR w x xv) (ry : DR w y yv) (e : atEq x y = some b) (A : Around) (s : Shared) : RcAt A s xv yv b ∧ RcNeAt A s xv yv (!b) := by
  cases atEqE e with
  | nn => cases rx; cases ry; exact ⟨RcAt.none_none, RcNeAt.none_none⟩
  | ns => cases rx; obtain ⟨u, rfl⟩ := ry; exact ⟨RcAt.none_str _ _, RcNeAt.none_str _ _⟩
  | sn => cases ry; obtain ⟨u, rfl⟩ := rx; exact ⟨RcAt.str_none _ _, RcNeAt.str_none _ _⟩
  | bb => cases rx; cases ry; exact ⟨RcAt.bool_bool _ _, RcNeAt.bool_bool _ _⟩
  | ii => obtain ⟨t, rfl⟩ := rx; obtain ⟨u, rfl⟩ := ry; exact ⟨RcAt.int_int _ _ _ _, RcNeAt.int_int _ _ _ _⟩
  | ss => obtain ⟨t, rfl⟩ := rx; obtain ⟨u, rfl⟩ := ry; exact ⟨RcAt.str_str _ _ _ _, RcNeAt.str_str _ _ _ _⟩
theorem IsTuple_inj {h : Heap} {a : Addr} {vs us : Array Value} (x : h.IsTuple a vs) (y : h.IsTuple a us) : vs = us := by
  obtain ⟨o, ho, _, n, hd⟩ := x
  obtain ⟨o', ho', _, n', hd'⟩ := y
  rw [ho] at ho'; cases ho'
  rw [hd] at hd'; cases hd'; rfl
mutual
theorem DR.fun {w : Wd} : ∀ {x y : D} {v : Value}, DR w x v → DR w y v → x = y
  | .none, y, v, h, k => by
    cases h
    cases y with
    | none => rfl
    | bool b => cases k
    | int i => obtain ⟨t, k⟩ := k; cases k
    | str i => obtain ⟨t, k⟩ := k; cases k
    | tup i => obtain ⟨t, _, k, _⟩ := k; cases k
  | .bool b, y, v, h, k => by
    cases h
    cases y with
    | none => cases k
    | bool b => cases k; rfl
    | int i => obtain ⟨t, k⟩ := k; cases k
    | str i => obtain ⟨t, k⟩ := k; cases k
    | tup i => obtain ⟨t, _, k, _⟩ := k; cases k
  | .int b, y, v, h, k => by
    obtain ⟨t, rfl⟩ := h
    cases y with
    | none => cases k
    | bool b => cases k
    | int i => obtain ⟨t, k⟩ := k; cases k; rfl
    | str i => obtain ⟨t, k⟩ := k; cases k
    | tup i => obtain ⟨t, _, k, _⟩ := k; cases k
  | .str b, y, v, h, k => by
    obtain ⟨t, rfl⟩ := h
    cases y with
    | none => cases k
    | bool b => cases k
    | int i => obtain ⟨t, k⟩ := k; cases k
    | str i => obtain ⟨t, k⟩ := k; cases k; rfl
    | tup i => obtain ⟨t, _, k, _⟩ := k; cases k
  | .tup xs, y, v, h, k => by
    obtain ⟨a, vs, rfl, i1, _, d1⟩ := h
    cases y with
    | none => cases k
    | bool b => cases k
    | int i => obtain ⟨t, k⟩ := k; cases k
    | str i => obtain ⟨t, k⟩ := k; cases k
    | tup ys =>
      obtain ⟨t, us, k, i2, _, d2⟩ := k
      cases k
      have := IsTuple_inj i1 i2; subst this
      rw [DRs.fun d1 d2]
theorem DRs.fun {w : Wd} : ∀ {xs ys : List D} {vs : List Value}, DRs w xs vs → DRs w ys vs → xs = ys
  | [], [], _, _, _ => rfl
  | [], _ :: _, [], _, h => h.elim
  | [], _ :: _, _ :: _, h, _ => h.elim
  | _ :: _, [], [], h, _ => h.elim
  | _ :: _, [], _ :: _, _, h => h.elim
  | _ :: _, _ :: _, [], h, _ => h.elim
  | x :: xs, y :: ys, v :: vs, ⟨a, b⟩, ⟨c, d⟩ => by rw [DR.fun a c, DRs.fun b d]
end
open Classical in
noncomputable def eqOf (w : Wd) (x : D) (y : Value) : Bool := if h : ∃ d, DR w d y then (dEq h.choose x).getD false else false
theorem eqOf_eq {x d : D} {y : Value} (h : DR w d y) : eqOf w x y = (dEq d x).getD false := by
  have hx : ∃ d, DR w d y := ⟨d, h⟩
  unfold eqOf
  rw [dif_pos hx, DR.fun hx.choose_spec h]
theorem DRs.at {w : Wd} {xs : List D} {vs : Array Value} (h : DRs w xs vs.toList) {j : Nat} (hj : j < vs.size) : ∃ x, xs[j]? = some x ∧ DR w x vs[j] := by
  have hl := h.len
  have hj' : j < xs.length := by rw [hl]; simpa using hj
  refine ⟨xs[j], by simp [hj'], ?_⟩
  obtain ⟨v, h1, h2⟩ := h.get (i := j) (x := xs[j]) (by simp [hj'])
  rw [Array.getElem?_toList] at h1
  have : v = vs[j] := by simp [hj] at h1; exact h1.symm
  exact this ▸ h2
theorem At2.same {x : D} {b : Bool} (h : At2 x x b) : b = true := by
  generalize hy : x = y at h
  cases h <;> first | rfl | cases hy <;> simp
theorem pairsEq_len {f : D → D → Option Bool} : ∀ {xs ys : List D} {b : Bool}, pairsEq f xs ys = some b → xs.length ≠ ys.length → b = false
  | [], [], _, _, n => absurd rfl n
  | [], _ :: _, _, e, _ => (Option.some.inj e).symm
  | _ :: _, [], _, e, _ => (Option.some.inj e).symm
  | x :: xs, y :: ys, b, e, n => by
    obtain ⟨p, _, e⟩ := bindE e
    obtain ⟨q, h2, rfl⟩ := mapE e
    rw [pairsEq_len h2 (fun q => n (congrArg (· + 1) q)), Bool.and_false]
theorem pairsEq_at {f : D → D → Option Bool} : ∀ {xs ys : List D} {b : Bool}, pairsEq f xs ys = some b →
    ∃ e : Nat → Bool, (∀ j x y, xs[j]? = some x → ys[j]? = some y → f x y = some (e j)) ∧ ((List.range (min xs.length ys.length)).all e && xs.length == ys.length) = b
  | [], [], b, h => ⟨fun _ => true, fun j x y h1 => by simp at h1, Option.some.inj h⟩
  | [], _ :: _, b, h => ⟨fun _ => true, fun j x y h1 => by simp at h1, by rw [← Option.some.inj h]; simp⟩
  | _ :: _, [], b, h => ⟨fun _ => true, fun j x y _ h1 => by simp at h1, by rw [← Option.some.inj h]; simp⟩
  | x :: xs, y :: ys, b, h => by
    obtain ⟨p, h1, h⟩ := bindE h
    obtain ⟨q, h2, rfl⟩ := mapE h
    obtain ⟨e, he, hb⟩ := pairsEq_at h2
    refine ⟨fun j => Nat.casesOn j p e, fun j x' y' k1 k2 => ?_, ?_⟩
    · cases j with
      | zero => obtain rfl := Option.some.inj k1; obtain rfl := Option.some.inj k2; exact h1
      | succ j => exact he j x' y' k1 k2
    · rw [← hb]
      simp only [List.length_cons, Nat.add_min_add_right, List.range_succ_eq_map, List.all_cons, List.all_map, Bool.and_assoc]
      have : (xs.length + 1 == ys.length + 1) = (xs.length == ys.length) := by rw [Bool.eq_iff_iff]; simp
      rw [this]
      rfl
theorem pairsEq_same {f : D → D → Option Bool} (hf : ∀ x b, f x x = some b → b = true) : ∀ {xs : List D} {b : Bool}, pairsEq f xs xs = some b → b = true
  | [], _, e => (Option.some.inj e).symm
  | x :: xs, b, e => by
    obtain ⟨p, h1, e⟩ := bindE e
    obtain ⟨q, h2, rfl⟩ := mapE e
    rw [hf _ _ h1, pairsEq_same hf h2]; rfl
theorem tup_sound {xs ys : List D} {vs us : Array Value} {a b : Addr} {r : Bool} (hh : Hp G w s) (hu : A.units < cLine) (i1 : w.h.IsTuple a vs) (i2 : w.h.IsTuple b us) (d1 : DRs w xs vs.toList) (d2 : DRs w ys us.toList)
    (e : pairsEq atEq xs ys = some r) : RcAt A s (.ref a) (.ref b) r := by
  obtain ⟨f, hf, hr⟩ := pairsEq_at e
  have l1 := d1.len; have l2 := d2.len
  simp only [Array.length_toList] at l1 l2
  rw [hh.1] at i1 i2
  rw [← hr, l1, l2]
  refine RcAt.tuples i1 i2 hu fun j h1 h2 => ?_
  obtain ⟨x, x1, x2⟩ := d1.at h1
  obtain ⟨y, y1, y2⟩ := d2.at h2
  exact atEq_sound x2 y2 (hf j x y x1 y1) _ _
theorem dEq_sound {x y : D} {xv yv : Value} {b : Bool} (hh : Hp G w s) (hu : A.units < cLine) (rx : DR w x xv) (ry : DR w y yv) (e : dEq x y = some b) : EqAt A s xv yv b := by
  cases x with
  | tup xs =>
    cases y with
    | tup ys =>
      obtain ⟨a, vs, rfl, i1, s1, d1⟩ := rx
      obtain ⟨a', us, rfl, i2, s2, d2⟩ := ry
      by_cases h : a = a'
      · subst h
        obtain rfl := IsTuple_inj i1 i2
        obtain rfl := DRs.fun d1 d2
        obtain rfl := pairsEq_same (fun _ _ h => (atEqE h).same) e
        exact EqAt.same _
      · exact EqAt.of_refs h (tup_sound hh hu i1 i2 d1 d2 e)
    | _ => cases e
  | _ => exact atEq_sound rx ry e _ _
theorem list_sound {xs ys : List D} {vs us : Array Value} {a b : Addr} {r : Bool} (hh : Hp G w s) (hu : A.units + 1 < cLine) (i1 : w.h.IsList a vs) (i2 : w.h.IsList b us) (d1 : DRs w xs vs.toList) (d2 : DRs w ys us.toList)
    (e : dEqs xs ys = some r) : RcAt A s (.ref a) (.ref b) r ∧ RcNeAt A s (.ref a) (.ref b) (!r) := by
  have l1 := d1.len; have l2 := d2.len
  simp only [Array.length_toList] at l1 l2
  rw [hh.1] at i1 i2
  by_cases h : vs.size = us.size
  · obtain ⟨f, hf, hr⟩ := pairsEq_at e
    have hr' : (List.range vs.size).all f = r := by
      rw [← hr, l1, l2, h]; simp
    have he : ∀ j (h1 : j < vs.size) (h2 : j < us.size), EqAt A.in1 s vs[j] us[j] (f j) := fun j h1 h2 => by
      obtain ⟨x, x1, x2⟩ := d1.at h1
      obtain ⟨y, y1, y2⟩ := d2.at h2
      exact dEq_sound hh hu x2 y2 (hf j x y x1 y1)
    rw [← hr']
    exact ⟨RcAt.lists i1 i2 h (by omega) he, RcNeAt.lists i1 i2 h (by omega) he⟩
  · have := pairsEq_len e (by rw [l1, l2]; exact h)
    subst this
    exact ⟨RcAt.lists_lengths i1 i2 (by simpa using h) (by omega), RcNeAt.lists_lengths i1 i2 (by simpa using h) (by omega)⟩
theorem dMem_all {x : D} : ∀ {ys : List D} {vs : List Value} {b : Bool}, DRs w ys vs → dMem x ys = some b → (∀ v ∈ vs, ∃ d r, DR w d v ∧ dEq d x = some r) ∧ vs.any (eqOf w x) = b
  | [], [], b, _, e => ⟨fun _ h => (nomatch h), Option.some.inj e⟩
  | [], _ :: _, _, h, _ => h.elim
  | _ :: _, [], _, h, _ => h.elim
  | y :: ys, v :: vs, b, ⟨a1, a2⟩, e => by
    obtain ⟨p, h1, e⟩ := bindE e
    obtain ⟨q, h2, rfl⟩ := mapE e
    obtain ⟨k1, k2⟩ := dMem_all a2 h2
    refine ⟨List.forall_mem_cons.mpr ⟨⟨y, p, a1, h1⟩, k1⟩, ?_⟩
    rw [List.any_cons, k2, eqOf_eq a1, h1]; rfl
theorem mem_sound {x : D} {xv : Value} {ys : List D} {a : Addr} {vs : Array Value} {b : Bool} (hh : Hp G w s) (hu : A.units + 1 < cLine) (rx : DR w x xv) (i : w.h.IsList a vs) (d : DRs w ys vs.toList)
    (e : dMem x ys = some b) {E : Value → Shared → Prop} {Q : Value → Shared → Prop} :
    (Q (.bool b) s → wpAny (Mo G) A (compareOp .In xv (.ref a)) Q E s) ∧ (Q (.bool (!b)) s → wpAny (Mo G) A (compareOp .NotIn xv (.ref a)) Q E s) := by
  obtain ⟨k1, k2⟩ := dMem_all d e
  have he : ∀ y, y ∈ vs → EqAt A.in1 s y xv (eqOf w x y) := fun y hy => by
    obtain ⟨d, r, h1, h2⟩ := k1 y (by simpa using hy)
    rw [eqOf_eq h1, h2]
    exact dEq_sound hh hu h1 rx h2
  have k3 : vs.any (eqOf w x) = b := by rw [← k2, Array.any_toList]
  rw [hh.1] at i
  exact ⟨fun h => in_listAt _ i he (by rw [k3]; exact h), fun h => notIn_listAt _ i he (by rw [k3]; exact h)⟩
noncomputable def Cm.to : Cm → CmpOp
  | .eq => .Eq
  | .ne => .NotEq
  | .lt => .Lt
  | .le => .LtE
  | .gt => .Gt
  | .ge => .GtE
  | .is => .Is
  | .isnot => .IsNot
  | .inn => .In
  | .notin => .NotIn
noncomputable def cmIs (op : Cm) (op' : CmpOp) : Bool := decide (op.to = op')
theorem cmIs_is {op : Cm} {op' : CmpOp} (h : cmIs op op' = true) : op.to = op' := of_decide_eq_true h
theorem VR.notNone {v : V} {val : Value} (r : VR G w v val) (h : ∀ x, v ≠ .d x) : ∃ a, val = .ref a := by
  cases v with
  | d x => exact absurd rfl (h x)
  | lst xs => obtain ⟨a, _, e, _⟩ := r; exact ⟨a, e⟩
  | dct xs => obtain ⟨a, e, _⟩ := r; exact ⟨a, e⟩
  | hdr xs => obtain ⟨a, _, _, e, _⟩ := r; exact ⟨a, e⟩
  | ref xs => obtain ⟨a, e, _⟩ := r; exact ⟨a, e⟩
  | hd xs => obtain ⟨a, _, e, _⟩ := r; exact ⟨a, e⟩
  | tup xs => obtain ⟨a, _, e, _⟩ := r; exact ⟨a, e⟩
theorem isD_sound {a : V} {b : D} {av bv : Value} {r : Bool} (ra : VR G w a av) (rb : DR w b bv) (e : isD a b = some r) {M : Model} {E : Value → Shared → Prop} {Q : Value → Shared → Prop} :
    (Q (.bool r) s → wpAny M A (compareOp .Is av bv) Q E s) ∧ (Q (.bool (!r)) s → wpAny M A (compareOp .IsNot av bv) Q E s) := by
  cases b with
  | none =>
    cases rb
    have : (av == Value.none) = r := by
      cases a with
      | d x =>
        cases x with
        | none => cases ra; exact Option.some.inj e
        | bool b => cases ra; exact Option.some.inj e
        | tup _ => obtain ⟨t, _, rfl, _⟩ := ra; exact Option.some.inj e
        | _ => obtain ⟨t, rfl⟩ := ra; exact Option.some.inj e
      | _ => obtain ⟨a, rfl⟩ := VR.notNone ra (fun _ => nofun); exact Option.some.inj e
    rw [← this]
    exact ⟨is_none_gen, isnot_none_gen⟩
  | bool b =>
    cases rb
    have hp : plainIs av (.bool b) = true ∧ (av == Value.bool b) = r := by
      cases a with
      | d x =>
        cases x with
        | none => cases ra; exact ⟨rfl, Option.some.inj e⟩
        | bool c =>
          cases ra
          refine ⟨rfl, Eq.trans ?_ (Option.some.inj e)⟩
          cases b <;> cases c <;> rfl
        | tup i => obtain ⟨t, _, rfl, _⟩ := ra; exact ⟨rfl, Option.some.inj e⟩
        | _ => obtain ⟨t, rfl⟩ := ra; exact ⟨rfl, Option.some.inj e⟩
      | _ => obtain ⟨a, rfl⟩ := VR.notNone ra (fun _ => nofun); exact ⟨rfl, Option.some.inj e⟩
    rw [← hp.2]
    exact ⟨wpAny_is_plain hp.1, wpAny_isNot_plain hp.1⟩
  | _ => cases e
variable {E : Value → Shared → Prop} {Q : Value → Shared → Prop}
theorem in_sound {a b : V} {av bv : Value} {r : Bool} (c : St G C A env w loc led s) (hu : A.units + 1 < cLine) (ra : VR G w a av) (rb : VR G w b bv) (e : evIn led a b = some r) :
    (Q (.bool r) s → wpAny (Mo G) A (compareOp .In av bv) Q E s) ∧ (Q (.bool (!r)) s → wpAny (Mo G) A (compareOp .NotIn av bv) Q E s) := by
  obtain ⟨x, h, e1⟩ := bindE e
  obtain ⟨_, rfl, rfl⟩ := ofVW (toW h rfl)
  have fin : ∀ {ys : List D}, led.list b = some ys → dMem x ys = some r → (Q (.bool r) s → wpAny (Mo G) A (compareOp .In av bv) Q E s) ∧ (Q (.bool (!r)) s → wpAny (Mo G) A (compareOp .NotIn av bv) Q E s) := fun h e => by
    obtain ⟨l, vs, _, rfl, i, d, rfl⟩ := listW (K := fun z => z = _) c.conc.led rb (toW h rfl)
    exact mem_sound c.heap hu ra i.list d e
  cases b with
  | d y =>
    obtain ⟨p, h3, e2⟩ := bindE e1
    obtain ⟨q, h2, rfl⟩ := mapE e2
    obtain rfl := D.strE h3
    obtain rfl := D.strE h2
    obtain ⟨t, rfl⟩ := ra; obtain ⟨u, rfl⟩ := rb
    exact ⟨PyProof.Rows.in_str, PyProof.Rows.notIn_str⟩
  | _ => obtain ⟨ys, h3, e2⟩ := bindE e1; exact fin h3 e2
theorem eq_sound {a b : V} {av bv : Value} {r : Bool} (c : St G C A env w loc led s) (hu : A.units + 1 < cLine) (ra : VR G w a av) (rb : VR G w b bv) (e : evEq led a b = some r) : RcAt A s av bv r ∧ RcNeAt A s av bv (!r) := by
  have fin : eqL led a b = some r → RcAt A s av bv r ∧ RcNeAt A s av bv (!r) := fun e => by
    obtain ⟨xs, h1, e⟩ := bindE e
    obtain ⟨ys, h2, e⟩ := bindE e
    obtain ⟨l, vs, _, rfl, i1, d1, rfl⟩ := listW (K := fun z => z = _) c.conc.led ra (toW h1 rfl)
    obtain ⟨l', us, _, rfl, i2, d2, rfl⟩ := listW (K := fun z => z = _) c.conc.led rb (toW h2 rfl)
    exact list_sound c.heap hu i1.list i2.list d1 d2 e
  cases a with
  | d x =>
    obtain ⟨y, h, e1⟩ := bindE e
    obtain ⟨_, rfl, rfl⟩ := ofVW (toW h rfl)
    exact atRc_sound ra rb e1 A s
  | _ => exact fin e
theorem rel_sound {op : Cm} {a b : V} {av bv : Value} {r : Bool} (ra : VR G w a av) (rb : VR G w b bv) (e : evRel op a b = some r) (h0 : op ≠ .eq) (h1 : op ≠ .ne) (h : Q (.bool r) s) : wpAny (Mo G) A (compareOp op.to av bv) Q E s := by
  obtain ⟨x, h2, e1⟩ := bindE e
  obtain ⟨y, h3, e2⟩ := bindE e1
  clear e e1
  obtain ⟨_, rfl, rfl⟩ := ofVW (toW h2 rfl)
  obtain ⟨_, rfl, rfl⟩ := ofVW (toW h3 rfl)
  cases op with
  | eq => exact absurd rfl h0
  | ne => exact absurd rfl h1
  | lt =>
    cases x with
    | int a => obtain ⟨q, i2, rfl⟩ := mapE e2; obtain rfl := D.intE i2; obtain ⟨t, rfl⟩ := ra; obtain ⟨u, rfl⟩ := rb; exact PyProof.Rows.lt_int h
    | str a => obtain ⟨q, i2, rfl⟩ := mapE e2; obtain rfl := D.strE i2; obtain ⟨t, rfl⟩ := ra; obtain ⟨u, rfl⟩ := rb; exact PyProof.Rows.lt_str h
    | _ => cases e2
  | le =>
    cases x with
    | int a => obtain ⟨q, i2, rfl⟩ := mapE e2; obtain rfl := D.intE i2; obtain ⟨t, rfl⟩ := ra; obtain ⟨u, rfl⟩ := rb; exact PySem.P.le_int h
    | str a => obtain ⟨q, i2, rfl⟩ := mapE e2; obtain rfl := D.strE i2; obtain ⟨t, rfl⟩ := ra; obtain ⟨u, rfl⟩ := rb; exact PySem.P.le_str h
    | _ => cases e2
  | gt => obtain ⟨p, i1, e3⟩ := bindE e2; obtain ⟨q, i2, rfl⟩ := mapE e3; obtain rfl := D.intE i1; obtain rfl := D.intE i2; obtain ⟨t, rfl⟩ := ra; obtain ⟨u, rfl⟩ := rb; exact PyProof.Rows.gt_int h
  | ge => obtain ⟨p, i1, e3⟩ := bindE e2; obtain ⟨q, i2, rfl⟩ := mapE e3; obtain rfl := D.intE i1; obtain rfl := D.intE i2; obtain ⟨t, rfl⟩ := ra; obtain ⟨u, rfl⟩ := rb; exact PySem.P.ge_int h
  | _ => cases e2
theorem evCmp_sound {op : Cm} {op' : CmpOp} {a b : V} {av bv : Value} {K : Bool → Prop} (c : St G C A env w loc led s) (ho : cmIs op op' = true) (ra : VR G w a av) (rb : VR G w b bv) (e : (evCmp led op a b).elim False K)
    (k : ∀ {r}, K r → Q (.bool r) s) : wpAny (Mo G) A (compareOp op' av bv) Q E s := by
  obtain ⟨r, e, h⟩ := isW e
  have h := k h
  obtain rfl := cmIs_is ho
  have hu : A.units + 1 < cLine := by have := c.conc.units; show _ < 9900; omega
  cases op with
  | eq => exact (eq_sound c hu ra rb e).1 _ _ _ _ h
  | ne => obtain ⟨q, e1, rfl⟩ := mapE e; exact (eq_sound c hu ra rb e1).2 _ _ _ _ h
  | is =>
    obtain ⟨y, h3, e1⟩ := bindE e
    obtain ⟨_, rfl, rfl⟩ := ofVW (toW h3 rfl)
    exact (isD_sound ra rb e1).1 h
  | isnot =>
    obtain ⟨y, h3, e1⟩ := bindE e
    obtain ⟨_, rfl, rfl⟩ := ofVW (toW h3 rfl)
    obtain ⟨q, e2, rfl⟩ := mapE e1
    exact (isD_sound ra rb e2).2 h
  | inn => exact (in_sound c hu ra rb e).1 h
  | notin => obtain ⟨q, e1, rfl⟩ := mapE e; exact (in_sound c hu ra rb e1).2 h
  | _ => exact rel_sound ra rb e nofun nofun h
end
end UK
end
section
namespace UK
open PySem PySem.W PySem.Calls PyProof.Rows PySem.SeqAt
section
variable {G : Gl} {C : Ct} {A : Around} {env : Env} {cx : Cx} {w : Wd} {loc : Loc} {led led' : Led} {s : Shared}
theorem PostE.behind {w1 w2 : Wd} {v v' : V} {val val' : Value} {s1 s2 : Shared} {led1 led2 : Led} (p1 : PostE G w led1 v val s1 w1) (p2 : PostE G w1 led2 v' val' s2 w2) {d : D} {r : Value} (h : DR w2 d r) : PostE G w led2 (.d d) r s2 w2 :=
  ⟨p2.heap, p1.stp.trans p2.stp, p2.led, p2.nd, h⟩
theorem evBin_sound {op : Op2} {op' : Operator} {x y : V} {xv yv : Value} {K : V × Led → Prop} {Q : Value → Shared → Prop} (c : St G C A env w loc led s) (ho : op.is op' = true) (rx : VR G w x xv) (ry : VR G w y yv)
    (e : (evBin led op x y).elim False K) (k : ∀ {p : V × Led} {val s' w'}, K p → PostE G w p.2 p.1 val s' w' → Q val s') : wpAny (Mo G) A (binaryOp op' xv yv) Q NoE s := by
  have cat : (catL led x y).elim False K → op = .add → wpAny (Mo G) A (binaryOp op' xv yv) Q NoE s := fun e1 ha => by
    subst ha
    obtain rfl := Op2.isW ho
    clear ho
    obtain ⟨a, us, xs, rfl, i1, d1, e2⟩ := listW c.conc.led rx (bindW e1)
    obtain ⟨b, vs, ys, rfl, i2, d2, e3⟩ := listW c.conc.led ry (bindW e2)
    obtain ⟨hl, e4⟩ := gdW e3
    have l1 := d1.len; have l2 := d2.len
    simp only [Array.length_toList] at l1 l2
    obtain ⟨n, ho⟩ := i1
    obtain ⟨n2, ho2⟩ := i2
    rw [c.heap.1] at ho ho2
    have hc : us.size + vs.size ≤ 4096 := by rw [← l1, ← l2]; exact hl
    have g : Grow w.h (s.heap.push { cls := .type "list", data := .seq (us ++ vs) }) := c.heap.1 ▸ Grow.push _ _
    refine concat_meets ⟨_, ho, rfl⟩ ⟨_, ho2, rfl⟩ noFill_list_add seq_list_add PySem.F.slot_list_add PySem.F.entry_list_add (PySem.F.args_list_add_2 _ _)
      (list_addW a b us vs n n2 _ _ _ _ (Nat.le_trans hc (by decide))) ⟨ho, ho2, ?_⟩
    exact k e4 (PostE.new (s' := { s with heap := s.heap.push { cls := .type "list", data := .seq (us ++ vs) } }) (o := .list (xs ++ ys)) c.conc g (c.heap.1 ▸ fresh_size)
      ⟨us ++ vs, ⟨0, Heap.get?_push_size _ rfl⟩, by rw [Array.toList_append]; exact (d1.append d2).per (Stp.new g (c.heap.1 ▸ fresh_size)).per⟩ c.heap.2)
  cases x with
  | d x =>
    obtain ⟨y, rfl, e1⟩ := ofVW (bindW e)
    exact bin2_sound c ho rx ry (mapW e1) fun e2 p => k e2 p
  | _ =>
    cases op with
    | add => exact cat e rfl
    | _ => exact e.elim
theorem SE.bin {op : Op2} {op' : Operator} {a b : UK.E} {l r : Expr} {pos : Pos} (ho : op.is op' = true) (ha : SE G C A env cx a l) (hb : SE G C A env cx b r) :
    SE G C A env cx (.bin op a b) (.BinOp l op' r pos) := fun c e k =>
  wpAny_BinOp (ha c (bindW e) fun e p1 => hb (p1.st c) (bindW e) fun e p2 => evBin_sound (p2.st (p1.st c)) ho (p1.val.per p2.stp.per) p2.val e fun e p3 => k e ((p1.trans p2).trans p3))
theorem SE.cmp {op : Cm} {op' : CmpOp} {a b : UK.E} {l r : Expr} {pos : Pos} (ho : cmIs op op' = true) (hm : behindInMarks op' r = false) (ha : SE G C A env cx a l) (hb : SE G C A env cx b r) :
    SE G C A env cx (.cmp a op b) (.Compare l [op'] [r] pos) := fun c e k =>
  wpAny_Compare1 (ha c (bindW e) fun e p1 => hb (p1.st c) (bindW e) fun e p2 => evCmp_sound (p2.st (p1.st c)) ho (p1.val.per p2.stp.per) p2.val (mapW e) fun e => k e (p1.behind p2 rfl)) hm
theorem ST.cmp {op : Cm} {op' : CmpOp} {a b : UK.E} {l r : Expr} {pos : Pos} (ho : cmIs op op' = true) (hm : behindInMarks op' r = false) (ha : SE G C A env cx a l) (hb : SE G C A env cx b r) :
    ST G C A env cx (.cmp a op b) (.Compare l [op'] [r] pos) := fun {w loc led s K Q} c e k =>
  have e : (evE cx (.cmp a op b) loc led).elim False (fun p => (tru p.2 p.1).elim False (K p.2)) := e
  wpAny_isTrue_Compare1 (ha c (bindW e) fun e p1 => hb (p1.st c) (bindW e) fun e p2 => evCmp_sound (p2.st (p1.st c)) ho (p1.val.per p2.stp.per) p2.val (mapW e) fun e => wpAny_pure (k e (p1.behind p2 rfl))) hm
theorem SE.cmp2 {op op2 : Cm} {op' op2' : CmpOp} {a b d : UK.E} {l r t : Expr} {pos : Pos} (ho : cmIs op op' = true) (ho2 : cmIs op2 op2' = true) (hm : lastMarks [op', op2'] [r, t] = false)
    (ha : SE G C A env cx a l) (hb : SE G C A env cx b r) (hd : SE G C A env cx d t) : SE G C A env cx (.cmp2 a op b op2 d) (.Compare l [op', op2'] [r, t] pos) := fun c e k =>
  Compare_chain (ha c (bindW e) fun e p1 => chain_link (hb (p1.st c) (bindW e) fun e p2 => evCmp_sound (p2.st (p1.st c)) ho (p1.val.per p2.stp.per) p2.val (bindW e) fun {q} e => wpAny_pure (by
    cases q with
    | false => exact k e (p1.behind p2 rfl)
    | true => exact chain_last (hd (p2.st (p1.st c)) (bindW e) fun e p3 => evCmp_sound (p3.st (p2.st (p1.st c))) ho2 (p2.val.per p3.stp.per) p3.val (mapW e) fun e => k e ((p1.trans p2).behind p3 rfl))))) hm
theorem ST.cmp2 {op op2 : Cm} {op' op2' : CmpOp} {a b d : UK.E} {l r t : Expr} {pos : Pos} (ho : cmIs op op' = true) (ho2 : cmIs op2 op2' = true) (hm : lastMarks [op', op2'] [r, t] = false)
    (ha : SE G C A env cx a l) (hb : SE G C A env cx b r) (hd : SE G C A env cx d t) : ST G C A env cx (.cmp2 a op b op2 d) (.Compare l [op', op2'] [r, t] pos) := fun c e k =>
  isTrue_chain (ha c (bindW e) fun e p1 => test_link (hb (p1.st c) (bindW e) fun e p2 => evCmp_sound (p2.st (p1.st c)) ho (p1.val.per p2.stp.per) p2.val (bindW e) fun {q} e => wpAny_pure (by
    cases q with
    | false => exact k e (p1.behind p2 rfl)
    | true => exact test_last (hd (p2.st (p1.st c)) (bindW e) fun e p3 => evCmp_sound (p3.st (p2.st (p1.st c))) ho2 (p2.val.per p3.stp.per) p3.val (mapW e) fun e => wpAny_pure (k e ((p1.trans p2).behind p3 rfl)))))) hm
structure PostEs (G : Gl) (w : Wd) (led' : Led) (vs : List V) (vals : List Value) (s' : Shared) (w' : Wd) : Prop where
  heap : Hp G w' s'
  stp : Stp w w'
  led : ORs G w' led' w'.ads
  nd : w'.ads.Nodup
  val : VRs G w' vs vals
theorem PostEs.st {w' : Wd} {v : List V} {val : List Value} {s' : Shared} (p : PostEs G w led' v val s' w') (c : St G C A env w loc led s) : St G C A env w' loc led' s' := ⟨c.conc.stp p.stp p.led p.nd, p.heap⟩
noncomputable def SEs (G : Gl) (C : Ct) (A : Around) (env : Env) (cx : Cx) (es : List UK.E) (xs : List Expr) : Prop :=
  ∀ {w : Wd} {loc : Loc} {led : Led} {s : Shared} {pos : Pos} {K : List V × Led → Prop} {Q : List Value → Shared → Prop}, St G C A env w loc led s → (evEs cx es loc led).elim False K →
    (∀ {p : List V × Led} {vals : List Value} {s' : Shared} {w' : Wd}, K p → PostEs G w p.2 p.1 vals s' w' → Q vals s') → wpAny (Mo G) A (spliced (backTo pos (starEach xs env))) Q NoE s
theorem SEs.nil : SEs G C A env cx [] [] := fun c e k => spliced_none (k e ⟨c.heap, Stp.refl _, c.conc.led, c.conc.nd, trivial⟩)
noncomputable def noStar : Expr → Bool
  | .Starred _ _ => false
  | _ => true
theorem starEach_cons {x : Expr} {xs : List Expr} {env : Env} (h : noStar x = true) : starEach (x :: xs) env = (false, eval x env) :: starEach xs env := by
  cases x <;> first | rfl | exact Bool.noConfusion h
theorem SEs.cons {e : UK.E} {es : List UK.E} {x : Expr} {xs : List Expr} (hn : noStar x = true) (h1 : SE G C A env cx e x) (h2 : SEs G C A env cx es xs) : SEs G C A env cx (e :: es) (x :: xs) := fun {w loc led s pos K Q} c e k => by
  rw [starEach_cons hn]
  exact spliced_cons (h1 c (bindW e) fun e p1 => h2 (p1.st c) (mapW e) fun e p2 => k e ⟨p2.heap, p1.stp.trans p2.stp, p2.led, p2.nd, p1.val.per p2.stp.per, p2.val⟩)
theorem allD_sound {w : Wd} : ∀ {vs : List V} {ds : List D} {vals : List Value}, allD vs = some ds → VRs G w vs vals → DRs w ds vals
  | [], _, [], e, _ => Option.some.inj e ▸ trivial
  | [], _, _ :: _, _, h => h.elim
  | _ :: _, _, [], _, h => h.elim
  | v :: vs, ds, val :: vals, e, ⟨a, b⟩ => by
    obtain ⟨x, h1, e⟩ := bindE e
    obtain ⟨xs, h2, rfl⟩ := mapE e
    obtain ⟨_, rfl, rfl⟩ := ofVW (toW h1 rfl)
    exact ⟨a, allD_sound h2 b⟩
theorem VRs.len {w : Wd} : ∀ {vs : List V} {vals : List Value}, VRs G w vs vals → vs.length = vals.length
  | [], [], _ => rfl
  | [], _ :: _, h => h.elim
  | _ :: _, [], h => h.elim
  | _ :: _, _ :: _, ⟨_, b⟩ => congrArg (· + 1) b.len
theorem evEs_len : ∀ {es : List UK.E} {loc : Loc} {led : Led} {p : List V × Led}, evEs cx es loc led = some p → p.1.length = es.length
  | [], _, _, _, e => Option.some.inj e ▸ rfl
  | e :: es, loc, led, p, ev => by
    obtain ⟨q, _, ev⟩ := bindE ev
    obtain ⟨r, h, rfl⟩ := mapE ev
    exact congrArg (· + 1) (evEs_len h)
theorem lenK {es : List UK.E} {K : List V × Led → Prop} (e : (evEs cx es loc led).elim False K) : (evEs cx es loc led).elim False fun p => p.1.length = es.length ∧ K p := by
  obtain ⟨p, h, e⟩ := isW e
  exact toW h ⟨evEs_len h, e⟩
theorem SE.tuple {es : List UK.E} {xs : List Expr} {k : Nat} {pos : Pos} (hs : es.length ≤ 1000) (h : SEs G C A env cx es xs) : SE G C A env cx (.tuple es) (.Tuple xs k pos) := fun {w loc led s K Q} c e kk => by
  rw [arm_eval_Tuple]
  refine wpAny_bind (wpAny_standAt (wpAny_bind (h c (lenK (mapW e)) fun {p vals s1 w1} e p1 => ?_)))
  have hz : vals.length ≤ sizeLine := by rw [← p1.val.len, e.1]; exact Nat.le_trans hs (by decide)
  refine wpAny_newTuple ?_ hz
  have c1 := (p1.st c).conc
  have g : Grow w1.h (s1.heap.push { cls := .type "tuple", data := .seq vals.toArray }) := p1.heap.1 ▸ Grow.push _ _
  have ht : Heap.IsTuple (s1.heap.push { cls := .type "tuple", data := .seq vals.toArray }) s1.heap.objs.size vals.toArray := ⟨_, Heap.get?_push_size _ rfl, rfl, 0, rfl⟩
  have hst : w1.st s1.heap.objs.size := fresh_st c1 (p1.heap.1 ▸ fresh_size)
  refine kk e.2 (w' := ⟨s1.heap.push { cls := .type "tuple", data := .seq vals.toArray }, w1.own, w1.prot, w1.ads⟩) ?_
  cases ha : allD p.1 with
  | some ds => exact ⟨⟨rfl, p1.heap.2⟩, p1.stp.trans (Stp.grow g), (c1.grow g).led, c1.nd, _, _, rfl, ht, hst, (allD_sound ha p1.val).per (Stp.grow g).per⟩
  | none => exact ⟨⟨rfl, p1.heap.2⟩, p1.stp.trans (Stp.grow g), (c1.grow g).led, c1.nd, _, _, rfl, ht, hst, p1.val.per (Stp.grow g).per⟩
theorem SE.list {es : List UK.E} {xs : List Expr} {pos : Pos} (hs : es.length ≤ 1000) (h : SEs G C A env cx es xs) : SE G C A env cx (.list es) (.List xs pos) := fun {w loc led s K Q} c e kk => by
  rw [arm_eval_List]
  refine wpAny_bind (wpAny_standAt (wpAny_bind (h c (lenK (bindW e)) fun {p vals s1 w1} e p1 => ?_)))
  have hz : vals.length ≤ sizeLine := by rw [← p1.val.len, e.1]; exact Nat.le_trans hs (by decide)
  refine wpAny_newList ?_ hz
  obtain ⟨ds, ha, e2⟩ := isW (mapW e.2)
  have g : Grow w1.h (s1.heap.push { cls := .type "list", data := .seq vals.toArray }) := p1.heap.1 ▸ Grow.push _ _
  have p2 := PostE.new (s' := { s1 with heap := s1.heap.push { cls := .type "list", data := .seq vals.toArray } }) (o := .list ds) (p1.st c).conc g (p1.heap.1 ▸ fresh_size)
    ⟨vals.toArray, ⟨0, Heap.get?_push_size _ rfl⟩, (allD_sound ha p1.val).per (Stp.new g (p1.heap.1 ▸ fresh_size)).per⟩ p1.heap.2
  exact kk e2 ⟨p2.heap, p1.stp.trans p2.stp, p2.led, p2.nd, p2.val⟩
end
end UK
end
section
namespace UK
open PySem PySem.W PySem.Calls PyProof.Rows PySem.SeqAt
section
variable {G : Gl} {C : Ct} {A : Around} {env : Env} {cx : Cx} {w : Wd} {loc : Loc} {led led' : Led} {s : Shared}
theorem subscripted_wp {M : Model} {slice : Expr} {o i : Value} {E : Value → Shared → Prop} {Q : Value → Shared → Prop} {s : Shared} (h : wpAny M A (getItem o i) Q E s) :
    wpAny M A (subscripted slice false o i) Q E s := by
  unfold subscripted
  split
  · exact wpAny_operating h
  · rename_i hf; cases hf
  · exact wpAny_operating h
theorem Subscript_wp {p : Program} {w : World} {value slice : Expr} {pos : Pos} {E : Value → Shared → Prop} {Q : Value → Shared → Prop} {s : Shared}
    (h : wpAny (model p w) A (eval value env) (fun o s₁ => wpAny (model p w) A (eval slice env) (fun i s₂ => ItemOn (model p w) A E o i Q s₂) E s₁) E s) :
    wpAny (model p w) A (eval (.Subscript value slice pos) env) Q E s := by
  rw [eval_Subscript]
  refine wpAny_bind (wpAny_mono h (fun o s₁ h₁ => wpAny_bind (wpAny_holding (wpAny_mono h₁ (fun i s₂ h₂ => wpAny_bind (wpAny_standAt ?_)) fun _ _ x => x)))
    fun _ _ x => x)
  obtain ⟨T, id, hl, hT, hg⟩ := h₂
  refine wpAny_bind ?_
  rw [getitemInPython_of_ne hT.not_modules]
  refine wpAny_bind (wpAny_specialOf hT hl ?_)
  have fin : wpAny (model p w) A (subscripted slice false o i) (fun r s₃ => wpAny (model p w) A (letTemporaryGo value o r >>= fun _ => pure r) Q E s₃) E s₂ :=
    subscripted_wp (wpAny_mono hg (fun r s₃ h₃ => wpAny_bind (wpAny_letTemporaryGo (wpAny_pure h₃))) fun _ _ x => x)
  first
    | exact wpAny_pure (wpAny_bind fin)
    | exact wpAny_bind (wpAny_pure (wpAny_bind fin))
    | exact wpAny_bind fin
theorem getItem_list_at {a : Addr} {vs : Array Value} {i : Int} {t : Tok} {j : Nat} {x : Value} {E : Value → Shared → Prop} {Q : Value → Shared → Prop} {p : Program} {W : World} (hl : s.heap.IsList a vs) (h1 : -(2 ^ 62) < i) (h2 : i < 2 ^ 62)
    (hj : seqIndex? i vs.size = some j) (hx : vs[j]? = some x) (h : Q x s) : wpAny (model p W) A (getItem (.ref a) (.int i t)) Q E s := by
  unfold seqIndex? at hj
  dsimp only at hj
  by_cases hi : i < 0
  · rw [if_pos hi] at hj
    split at hj
    · rename_i hb
      simp only [Option.some.injEq] at hj
      subst hj
      rw [Bool.and_eq_true, decide_eq_true_eq, decide_eq_true_eq] at hb
      exact wpAny_getItem_list_neg hl hi (by omega) (by omega) hx h
    · cases hj
  · rw [if_neg hi] at hj
    split at hj
    · rename_i hb
      simp only [Option.some.injEq] at hj
      subst hj
      exact wpAny_getItem_list hl (by omega) (by omega) hx h
    · cases hj
theorem strAt {x : Str} {i : Int} {c : Nat} (h : Txt.charAt x i = some c) : Txt.item x i = ⟨#[c]⟩ := by
  unfold Txt.item
  rw [h]; rfl
theorem dictW {G : Gl} {w : Wd} {led : Led} (hl : ORs G w led w.ads) {v : V} {val : Value} {K : List (Str × D) → Prop} (r : VR G w v val) (e : (led.dict v).elim False K) : ∃ a kvs, val = .ref a ∧ DictR G w kvs a ∧ K kvs := by
  cases v with
  | dct ys => obtain ⟨a, e1, e2, e3⟩ := r; exact ⟨a, ys, e1, e2, e⟩
  | ref k =>
    obtain ⟨a, e1, e2⟩ := r
    obtain ⟨o, ho, e3⟩ := isW (bindW e)
    obtain ⟨ys, rfl, e4⟩ := O.dictW e3
    obtain ⟨b, hb, d⟩ := hl.get ho
    obtain rfl := Option.some.inj (e2.symm.trans hb)
    exact ⟨a, ys, e1, d, e4⟩
  | _ => exact e.elim
theorem lookup_valueAt {w : Wd} : ∀ {kvs : List (Str × D)} {kvs' : List (Str × Value)} {k : Str} {x : D}, kvs'.map (·.1) = kvs.map (·.1) → DRs w (kvs.map (·.2)) (kvs'.map (·.2)) → kvs.lookup k = some x →
    ∃ v, PySem.valueAt kvs' k = some v ∧ DR w x v
  | [], _, _, _, _, _, e => nomatch e
  | _ :: _, [], _, _, h, _, _ => nomatch h
  | (a, b) :: l, (a', b') :: l', k, x, h, d, e => by
    have h1 : a' = a := (List.cons.inj h).1
    have h2 := (List.cons.inj h).2
    rw [List.lookup_cons] at e
    by_cases hk : k = a
    · rw [beq_iff_eq.mpr hk] at e
      obtain rfl := Option.some.inj e
      exact ⟨b', by simp [PySem.valueAt, h1, hk], d.1⟩
    · rw [beq_eq_false_iff_ne.mpr hk] at e
      obtain ⟨v, hv, hd⟩ := lookup_valueAt h2 d.2 e
      refine ⟨v, ?_, hd⟩
      unfold PySem.valueAt at hv ⊢
      rw [List.find?_cons_of_neg (by simpa [h1] using fun q => hk q.symm)]
      exact hv
theorem DRs.size {xs : List D} {vs : Array Value} (d : DRs w xs vs.toList) : xs.length = vs.size := by
  have := d.len
  simpa using this
variable {Q : Value → Shared → Prop}
theorem atIW {i : Int} {xs : List D} {vs : Array Value} {K : V → Prop} (d : DRs w xs vs.toList) (e : (atI xs i).elim False K) : ∃ j x v, seqIndex? i vs.size = some j ∧ vs[j]? = some v ∧ DR w x v ∧ K (.d x) := by
  obtain ⟨j, h1, e1⟩ := isW (bindW (mapW e))
  obtain ⟨x, h2, e2⟩ := isW e1
  obtain ⟨v, hv, hr⟩ := d.get h2
  exact ⟨j, x, v, d.size ▸ h1, by rw [← Array.getElem?_toList]; exact hv, hr, e2⟩
theorem evIndex_sound {x y : V} {xv yv : Value} {K : V → Prop} (c : St G C A env w loc led s) (rx : VR G w x xv) (ry : VR G w y yv) (e : (evIndex led x y).elim False K) (k : ∀ {d val s'}, K (.d d) → DR w d val → Sm s s' → Q val s') : ItemOn (Mo G) A NoE xv yv Q s := by
  obtain ⟨y, rfl, e1⟩ := ofVW (bindW e)
  cases y with
  | int i =>
    obtain ⟨t, rfl⟩ := ry
    obtain ⟨hi, e2⟩ := gdW e1
    have lst : ∀ {v : V}, VR G w v xv → ((led.list v).bind fun xs => atI xs i).elim False K → ItemOn (Mo G) A NoE xv (.int i t) Q s := fun rx e2 => by
      obtain ⟨a, vs, xs, rfl, ht, hd, e3⟩ := listW c.conc.led rx (bindW e2)
      obtain ⟨j, x, v, h1, h2, h3, e4⟩ := atIW hd e3
      have ht := ht.list
      rw [c.heap.1] at ht
      obtain ⟨o, ho, hc, n, hdt⟩ := id ht
      exact ⟨"list", _, PySem.F.slot_list_getitem.lookup, ⟨o, ho, hc⟩, getItem_list_at ht hi.1 hi.2 h1 h2 (k e4 h3 (Sm.refl s))⟩
    cases x with
    | d q =>
      cases q with
      | str q =>
        obtain ⟨u, rfl⟩ := rx
        obtain ⟨ch, h1, e3⟩ := isW (mapW e2)
        refine SB.item (by unfold fitsSsize; simp; omega) (by rw [h1]; rfl) ?_
        rw [strAt h1]
        exact k e3 ⟨_, rfl⟩ ⟨rfl, rfl, rfl⟩
      | tup q =>
        obtain ⟨a, vs, rfl, ht, hs, hd⟩ := rx
        obtain ⟨j, x, v, h1, h2, h3, e4⟩ := atIW hd e2
        rw [c.heap.1] at ht
        obtain ⟨o, ho, hc, n, hdt⟩ := id ht
        exact ⟨"tuple", _, PySem.F.slot_tuple_getitem.lookup, ⟨o, ho, hc⟩, PyProof.Rows.getItem_tuple ht (by omega) (by omega) h1 h2 (k e4 h3 (Sm.refl s))⟩
      | _ => exact e2.elim
    | _ => exact lst rx e2
  | str key =>
    obtain ⟨t, rfl⟩ := ry
    obtain ⟨a, kvs, rfl, ⟨kvs', hm, h2, h3⟩, e3⟩ := dictW c.conc.led rx (bindW e1)
    obtain ⟨d, h4, e4⟩ := isW (mapW e3)
    obtain ⟨v, hv, hr⟩ := lookup_valueAt h2 h3 h4
    rw [c.heap.1] at hm
    exact ⟨"dict", _, PySem.F.slot_dict_getitem.lookup, hm.typeIs, wpAny_getItem_of (strKind_is _ _ _ _) hm.mapOf hv (k e4 hr ⟨rfl, rfl, rfl⟩)⟩
  | _ => exact e1.elim
theorem SE.index {a i : UK.E} {x y : Expr} {pos : Pos} (ha : SE G C A env cx a x) (hi : SE G C A env cx i y) : SE G C A env cx (.index a i) (.Subscript x y pos) := fun c e k =>
  Subscript_wp (ha c (bindW e) fun e p1 => hi (p1.st c) (bindW e) fun e p2 => evIndex_sound (p2.st (p1.st c)) (p1.val.per p2.stp.per) p2.val (mapW e) fun e r q => k e (p1.behind (p2.toks' q) r))
theorem DRs.get_none {w : Wd} : ∀ {xs : List D} {vs : List Value} {i : Nat}, DRs w xs vs → xs[i]? = none → vs[i]? = none := by
  intro xs vs i h e
  rw [List.getElem?_eq_none_iff] at e ⊢
  rw [← h.len]; exact e
theorem DRs.pick {w : Wd} {xs : List D} {vs : List Value} (h : DRs w xs vs) : ∀ (is : List Nat), DRs w (is.filterMap (xs[·]?)) (is.filterMap (vs[·]?))
  | [] => trivial
  | i :: is => by
    cases e : xs[i]? with
    | none =>
      rw [List.filterMap_cons_none e, List.filterMap_cons_none (h.get_none e)]
      exact h.pick is
    | some x =>
      obtain ⟨v, hv, hr⟩ := h.get e
      rw [List.filterMap_cons_some e, List.filterMap_cons_some hv]
      exact ⟨hr, h.pick is⟩
theorem DRs.slice {w : Wd} {xs : List D} {vs : Array Value} (h : DRs w xs vs.toList) (lo hi st : Option Int) : DRs w (pickD xs lo hi st) (slicePick vs lo hi st).toList := by
  have e : slicePick vs lo hi st = ((sliceRange (sliceBounds lo hi st xs.length).1 (sliceBounds lo hi st xs.length).2.1 (sliceBounds lo hi st xs.length).2.2).filterMap (vs.toList[·]?)).toArray := by
    unfold slicePick
    have hl := h.len
    simp only [Array.length_toList] at hl
    rw [hl]
    simp only [Array.getElem?_toList]
  rw [e]
  exact h.pick _
noncomputable def partOf : Option Int → Tok → Option (Int × Tok)
  | none, _ => none
  | some i, t => some (i, t)
theorem endOf_sound {v : V} {val : Value} {K : Option Int → Prop} (r : VR G w v val) (e : (endOf v).elim False K) : ∃ o t, val = partValue (partOf o t) ∧ IsPart val o ∧ K o := by
  obtain ⟨d, rfl, e1⟩ := ofVW (bindW e)
  cases d with
  | none => cases r; exact ⟨_, 0, rfl, .none, e1⟩
  | int i => obtain ⟨h, e2⟩ := gdW e1; obtain ⟨t, rfl⟩ := r; exact ⟨some i, t, rfl, .int _ _, e2⟩
  | _ => exact e1.elim
theorem partOf_map (o : Option Int) (t : Tok) : (partOf o t).map (·.1) = o := by cases o <;> rfl
noncomputable abbrev slcS (s : Shared) (lv hv zv : Value) : Shared := { s with heap := s.heap.push { cls := .type "slice", data := .fields #[lv, hv, zv] } }
theorem slcL_sound {x : V} {xv lv hv zv : Value} {lo hi st : Option Int} {K : V × Led → Prop} (c : St G C A env w loc led s) (rx : VR G w x xv) (p1 : IsPart lv lo) (p2 : IsPart hv hi) (p3 : IsPart zv st) (h0 : st ≠ some 0) (e : (slcL led x lo hi st).elim False K)
    (k : ∀ {p : V × Led} {val s' w'}, K p → PostE G w p.2 p.1 val s' w' → Q val s') : ItemOn (Mo G) A NoE xv (.ref s.heap.objs.size) Q (slcS s lv hv zv) := by
  have g : Grow w.h (slcS s lv hv zv).heap := c.heap.1 ▸ Grow.push _ _
  have c1 := c.conc.grow g
  obtain ⟨a, vs, xs, rfl, ht, hd, e1⟩ := listW c1.led (rx.per (Stp.grow g).per) (bindW e)
  obtain ⟨hl, e2⟩ := gdW e1
  have hsz : vs.size ≤ sizeLine := by
    rw [← hd.size]; exact Nat.le_trans hl (by decide)
  have ht := ht.list
  obtain ⟨ob, ho, hc, n, hdt⟩ := id ht
  refine ⟨"list", _, PySem.F.slot_list_getitem.lookup, ⟨ob, ho, hc⟩, wpAny_getItem_list_slice ht (Heap.IsSliceOf.new _ _ _ _) p1 p2 p3 h0 ?_ hsz⟩
  have g2 : Grow (slcS s lv hv zv).heap ((slcS s lv hv zv).heap.push { cls := .type "list", data := .seq (slicePick vs lo hi st) }) := Grow.push _ _
  have p4 := PostE.new (s' := { s with heap := (slcS s lv hv zv).heap.push { cls := .type "list", data := .seq (slicePick vs lo hi st) } }) (o := .list (pickD xs lo hi st)) c1 g2 fresh_size
    ⟨_, ⟨0, Heap.get?_push_size _ rfl⟩, (hd.slice lo hi st).per (Stp.new g2 fresh_size).per⟩ c.heap.2
  exact k e2 ⟨p4.heap, (Stp.grow g).trans p4.stp, p4.led, p4.nd, p4.val⟩
theorem sliceOn {x l h z : V} {xv lv hv zv : Value} {K : V × Led → Prop} (c : St G C A env w loc led s) (rx : VR G w x xv) (rl : VR G w l lv) (rh : VR G w h hv) (rz : VR G w z zv)
    (e : (evSlice led x l h z).elim False K) (k : ∀ {p : V × Led} {val s' w'}, K p → PostE G w p.2 p.1 val s' w' → Q val s') : ItemOn (Mo G) A NoE xv (.ref s.heap.objs.size) Q (slcS s lv hv zv) := by
  obtain ⟨st, rfl, e1⟩ := ofVW (bindW e)
  cases st with
  | none =>
    cases rz
    obtain ⟨lo, tl, q1, i1, e2⟩ := endOf_sound rl (bindW e1)
    obtain ⟨hi, th, q2, i2, e3⟩ := endOf_sound rh (bindW e2)
    cases x with
    | d y =>
      obtain ⟨q, rfl, e4⟩ := D.strW (bindW e3)
      obtain ⟨hl, e5⟩ := gdW e4
      obtain ⟨t, rfl⟩ := rx
      subst q1 q2
      have hsz : (Txt.slice q lo hi).length ≤ sizeLine := Nat.le_trans (Txt.slice_le q lo hi) (Nat.le_trans hl (by decide))
      refine ⟨"str", _, PySem.F.slot_str_getitem.lookup, typeIs_str _ _ _, wpAny_getItem_str_slice (l := partOf lo tl) (u := partOf hi th) (st := none) ⟨_, Heap.get?_push_size _ rfl, rfl, rfl⟩ rfl ?_⟩
      have em : sliceMade q t (partOf lo tl) (partOf hi th) none = if ((1 : Int) == 1 && (Builtin.Str.strSliceIndices lo hi 1 q.length).length == q.length) = true then .val (.str q t) else .str ⟨((Builtin.Str.strSliceIndices lo hi 1 q.length).filterMap (q.cps[·]?)).toArray⟩ := by
        unfold sliceMade slicePicked
        rw [partOf_map, partOf_map]; rfl
      rw [em]
      refine PySem.post_val_or_str ⟨hsz, fun t' tk => ?_⟩
      have g : Grow w.h (slcS s (partValue (partOf lo tl)) (partValue (partOf hi th)) .none).heap := c.heap.1 ▸ Grow.push _ _
      exact k e5 (c.grown (s' := { s with heap := s.heap.push { cls := .type "slice", data := .fields #[partValue (partOf lo tl), partValue (partOf hi th), .none] }, toks := tk }) g ⟨_, rfl⟩ c.heap.2)
    | _ => exact slcL_sound c rx i1 i2 .none nofun e3 k
  | int z =>
    obtain ⟨tz, rfl⟩ := rz
    obtain ⟨rfl, e2⟩ := gdW e1
    obtain ⟨lo, tl, q1, i1, e3⟩ := endOf_sound rl (bindW e2)
    obtain ⟨hi, th, q2, i2, e4⟩ := endOf_sound rh (bindW e3)
    obtain ⟨⟨rfl, rfl⟩, e5⟩ := gdW e4
    exact slcL_sound c rx i1 i2 (.int _ _) (by decide) e5 k
  | _ => exact e1.elim
noncomputable def SP (G : Gl) (C : Ct) (A : Around) (env : Env) (cx : Cx) (e : UK.E) (x : Option Expr) : Prop :=
  ∀ {w : Wd} {loc : Loc} {led : Led} {s : Shared} {K : V × Led → Prop} {Q : Value → Shared → Prop}, St G C A env w loc led s → (evE cx e loc led).elim False K →
    (∀ {p : V × Led} {val : Value} {s' : Shared} {w' : Wd}, K p → PostE G w p.2 p.1 val s' w' → Q val s') → wpAny (Mo G) A (evalPart x env) Q NoE s
theorem SP.none : SP G C A env cx (.lit .none) none := fun c e k => wpAny_pure (k e (c.val rfl))
theorem SP.some {e : UK.E} {x : Expr} (h : SE G C A env cx e x) : SP G C A env cx e (some x) := fun c ev k => by
  rw [evalPart_some]
  exact h c ev k
theorem SE.slice {a l h z : UK.E} {x : Expr} {xl xh xz : Option Expr} {p pos : Pos} (ha : SE G C A env cx a x) (hl : SP G C A env cx l xl) (hu : SP G C A env cx h xh) (hz : SP G C A env cx z xz) :
    SE G C A env cx (.slice a l h z) (.Subscript x (.Slice xl xh xz p) pos) := fun c e k =>
  Subscript_wp (ha c (bindW e) fun e p1 => wpAny_Slice (hl (p1.st c) (bindW e) fun e p2 => hu (p2.st (p1.st c)) (bindW e) fun e p3 => hz (p3.st (p2.st (p1.st c))) (bindW e) fun e p4 =>
    sliceOn (p4.st (p3.st (p2.st (p1.st c)))) (((p1.val.per p2.stp.per).per p3.stp.per).per p4.stp.per) ((p2.val.per p3.stp.per).per p4.stp.per) (p3.val.per p4.stp.per) p4.val e fun e p5 => k e ((((p1.trans p2).trans p3).trans p4).trans p5)))
theorem SE.dict0 {pos : Pos} : SE G C A env cx .dict0 (.Dict [] [] pos) := fun {w loc led s K Q} c e k => by
  have g : Grow w.h (s.heap.push { cls := .type "dict", data := .dict #[] }) := c.heap.1 ▸ Grow.push _ _
  exact wpAny_Dict_empty (k e (PostE.new (s' := { s with heap := s.heap.push { cls := .type "dict", data := .dict #[] } }) (o := .dict []) c.conc g (c.heap.1 ▸ fresh_size) ⟨[], Heap.DictOf.new s.heap, rfl, trivial⟩ c.heap.2))
end
end UK
end
section
namespace UK
open PySem PySem.W PySem.Calls PyProof.Rows PySem.SeqAt
section
variable {G : Gl} {C : Ct} {A : Around} {env : Env} {cx : Cx} {w : Wd} {loc : Loc} {led led' : Led} {s : Shared}
theorem St.ns (c : St G C A env w loc led s) : s.heap.Ns env.globals G.mg ∧ s.heap.Ns env.builtins G.mb := by
  rw [c.conc.frame.globals, c.conc.frame.builtins, ← c.heap.1]
  exact ⟨Ns_get c.conc.glob.1 fun o e => (c.conc.keep _ o e).1, Ns_get c.conc.glob.2 fun o e => (c.conc.keep _ o e).1⟩
theorem loadGlobal_look (c : St G C A env w loc led s) {x : Str} {v : Value} {E : Value → Shared → Prop} {Q : Value → Shared → Prop} (hv : G.look x = some v) (h : Q v s) :
    wpAny (Mo G) A (loadGlobal env x) Q E s := by
  unfold Gl.look at hv
  cases e : G.mg x with
  | some u => rw [e] at hv; obtain rfl := Option.some.inj hv; exact loadGlobal_global c.ns.1 e h
  | none => rw [e] at hv; exact loadGlobal_builtin c.ns.1 e c.ns.2 hv h
theorem global_name (c : St G C A env w loc led s) {x : Str} {pos : Pos} {v : Value} {E : Value → Shared → Prop} {Q : Value → Shared → Prop} (hk : env.kindOf x = some .globalImplicit) (hv : G.look x = some v)
    (hd : (x == ("__debug__" : Str)) = false) (h : Q v s) : wpAny (Mo G) A (eval (.Name x pos) env) Q E s :=
  Name_function_global c.conc.frame.kind hk (loadGlobal_look c hv h) hd
noncomputable def noStars (xs : List Expr) : Bool := xs.all noStar
theorem noStars_plain {pos : Pos} : ∀ {xs : List Expr}, noStars xs = true → (backTo pos (starEach xs env)).any (·.1) = false
  | [], _ => rfl
  | x :: xs, h => by
    unfold noStars at h
    rw [List.all_cons, Bool.and_eq_true] at h
    rw [starEach_cons h.1]
    show (false || (backTo pos (starEach xs env)).any (·.1)) = false
    rw [noStars_plain (xs := xs) h.2]; rfl
theorem insD_perm {α : Type} {le : α → α → Bool} (x : α) : ∀ xs : List α, (ins le x xs).Perm (x :: xs)
  | [] => .refl _
  | y :: ys => by
    unfold ins
    split
    · exact ((insD_perm x ys).cons y).trans (List.Perm.swap x y ys)
    · exact .refl _
theorem isort_perm {α : Type} {le : α → α → Bool} : ∀ xs : List α, (isort le xs).Perm xs
  | [] => .refl _
  | x :: xs => (insD_perm x _).trans ((isort_perm xs).cons x)
theorem ins_pair {α : Type} {le : α → α → Bool} (tot : ∀ a b, le a b = true ∨ le b a = true) (tr : ∀ a b c, le a b = true → le b c = true → le a c = true) (x : α) :
    ∀ xs : List α, xs.Pairwise (fun a b => le a b = true) → (ins le x xs).Pairwise (fun a b => le a b = true)
  | [], _ => by simp [ins]
  | y :: ys, h => by
    obtain ⟨h1, h2⟩ := List.pairwise_cons.mp h
    unfold ins
    split
    · rename_i hy
      refine List.pairwise_cons.mpr ⟨fun b hb => ?_, ins_pair tot tr x ys h2⟩
      rcases List.mem_cons.mp ((insD_perm x ys).mem_iff.mp hb) with rfl | hb
      · exact hy
      · exact h1 b hb
    · rename_i hy
      have hx : le x y = true := (tot x y).resolve_right hy
      refine List.pairwise_cons.mpr ⟨fun b hb => ?_, h⟩
      rcases List.mem_cons.mp hb with rfl | hb
      · exact hx
      · exact tr _ _ _ hx (h1 b hb)
theorem isort_pair {α : Type} {le : α → α → Bool} (tot : ∀ a b, le a b = true ∨ le b a = true) (tr : ∀ a b c, le a b = true → le b c = true → le a c = true) :
    ∀ xs : List α, (isort le xs).Pairwise (fun a b => le a b = true)
  | [] => .nil
  | x :: xs => ins_pair tot tr x _ (isort_pair tot tr xs)
theorem isort_is {α : Type} {le : α → α → Bool} (tot : ∀ a b, le a b = true ∨ le b a = true) (tr : ∀ a b c, le a b = true → le b c = true → le a c = true) (anti : ∀ a b, le a b = true → le b a = true → a = b)
    {xs ys : List α} (hp : ys.Perm xs) (hs : ys.Pairwise (fun a b => le a b = true)) : ys = isort le xs :=
  List.Perm.eq_of_pairwise (fun a b _ _ => anti a b) hs (isort_pair tot tr xs) (hp.trans (isort_perm xs).symm)
theorem leS_tot (a b : Str) : leS a b = true ∨ leS b a = true := by
  unfold leS
  simp only [Bool.not_eq_true', decide_eq_false_iff_not]
  by_cases h : b.cps.toList < a.cps.toList
  · exact .inr (List.lt_asymm h)
  · exact .inl h
theorem leS_tr (a b c : Str) (h1 : leS a b = true) (h2 : leS b c = true) : leS a c = true := by
  unfold leS at *
  simp only [Bool.not_eq_true', decide_eq_false_iff_not] at *
  exact List.le_trans h1 h2
theorem leS_anti (a b : Str) (h1 : leS a b = true) (h2 : leS b a = true) : a = b := by
  unfold leS at *
  simp only [Bool.not_eq_true', decide_eq_false_iff_not] at *
  have := List.le_antisymm h1 h2
  obtain ⟨⟨x⟩⟩ := a; obtain ⟨⟨y⟩⟩ := b
  simpa using this
theorem pairwise_of_rising : ∀ (p : Str) (l : List Str), risingS p l = true → (p :: l).Pairwise (fun a b => leS a b = true)
  | p, [], _ => by simp
  | p, x :: r, h => by
    have h' : (!Spec.ltCps x.cps.toList p.cps.toList && risingS x r) = true := h
    rw [Bool.and_eq_true] at h'
    have ih := pairwise_of_rising x r h'.2
    have hx : leS p x = true := by unfold leS; rw [← ltCps_eq]; exact h'.1
    refine List.pairwise_cons.mpr ⟨fun b hb => ?_, ih⟩
    rcases List.mem_cons.mp hb with rfl | hb
    · exact hx
    · exact leS_tr _ _ _ hx ((List.pairwise_cons.mp ih).1 b hb)
theorem pairwise_of_sortedS : ∀ (l : List Str), sortedS l = true → l.Pairwise (fun a b => leS a b = true)
  | [], _ => .nil
  | x :: r, h => pairwise_of_rising x r h
theorem intsAre_of {w : Wd} : ∀ {xs : List D} {is : List Int} {vs : List Value}, intsOf xs = some is → DRs w xs vs → IntsAre vs is
  | [], _, [], e, _ => Option.some.inj e ▸ .nil
  | [], _, _ :: _, _, h => h.elim
  | _ :: _, _, [], _, h => h.elim
  | x :: xs, is, v :: vs, e, ⟨a, b⟩ => by
    obtain ⟨i, h1, e1⟩ := bindE e
    obtain ⟨r, h2, rfl⟩ := mapE e1
    obtain rfl := D.intE h1
    obtain ⟨t, rfl⟩ := a
    exact .cons _ _ (intsAre_of h2 b)
theorem strsAre_of {w : Wd} : ∀ {xs : List D} {is : List Str} {vs : List Value}, strsOf xs = some is → DRs w xs vs → StrsAre vs is
  | [], _, [], e, _ => Option.some.inj e ▸ .nil
  | [], _, _ :: _, _, h => h.elim
  | _ :: _, _, [], _, h => h.elim
  | x :: xs, is, v :: vs, e, ⟨a, b⟩ => by
    obtain ⟨i, h1, e1⟩ := bindE e
    obtain ⟨r, h2, rfl⟩ := mapE e1
    obtain rfl := D.strE h1
    obtain ⟨t, rfl⟩ := a
    exact .cons _ _ (strsAre_of h2 b)
theorem DRs_ints {w : Wd} : ∀ {vs : List Value} {is : List Int}, IntsAre vs is → DRs w (is.map D.int) vs
  | _, _, .nil => trivial
  | _, _, .cons n t h => ⟨⟨t, rfl⟩, DRs_ints h⟩
theorem DRs_strs {w : Wd} : ∀ {vs : List Value} {is : List Str}, StrsAre vs is → DRs w (is.map D.str) vs
  | _, _, .nil => trivial
  | _, _, .cons n t h => ⟨⟨t, rfl⟩, DRs_strs h⟩
theorem St.newL {xs : List D} {out : Array Value} {a : Addr} {s' : Shared} (c : St G C A env w loc led s) (g : Grow s.heap s'.heap) (f : s.heap.get? a = none) (hl : IsL s'.heap a out)
    (d : ∀ w' : Wd, Stp w w' → DRs w' xs out.toList) (rs : Rs G s') : PostE G w (led ++ [.list xs]) (.ref led.length) (.ref a) s' ⟨s'.heap, w.own, w.prot, w.ads ++ [a]⟩ :=
  have g : Grow w.h s'.heap := c.heap.1 ▸ g
  have f : w.h.get? a = none := c.heap.1 ▸ f
  PostE.new (o := .list xs) c.conc g f ⟨out, hl, d _ (Stp.new g f)⟩ rs
noncomputable def biVal : Bi → Value
  | .len => .builtin "len"
  | .chr => .builtin "chr"
  | .ord => .builtin "ord"
  | .sum => .builtin "sum"
  | .abs => .builtin "abs"
  | .sorted => .builtin "sorted"
  | .list => .type "list"
  | .int => .type "int"
  | .str => .type "str"
  | .min => .builtin "min"
theorem preSum_ints {xs : Array (Int × Tok)} {is : List Int} (h : IntsAre (intItems xs).toList is) : preSum (numAt xs) xs.size = is.sum := by
  have h2 := h.numsOf
  rw [nums_intItems] at h2
  rw [preSum_eq, List.take_of_length_le (by simp), h2]
theorem sorted_chars {x : Str} {t : Tok} {E : Value → Shared → Prop} {Q : Value → Shared → Prop} (hh : A.handled = none) (hl : x.length < 64)
    (h : ∀ s' out, (∀ b o, s.heap.get? b = some o → s'.heap.get? b = some o) → s'.os = s.os ∧ s'.gens = s.gens → ∀ a, s.heap.get? a = none → IsL s'.heap a out → StrsAre out.toList (isort leS (x.cps.toList.map fun c => (⟨#[c]⟩ : Str))) → Q (.ref a) s') :
    wpAny (Mo G) A (call (.builtin "sorted") [.str x t]) Q E s := by
  refine Calls.call_function_entry kind_sorted plain_sorted entry_sorted (args_sorted1 _) ?_
  unfold Builtin.«sorted»
  refine wpAny_bind (m := checkCount "sorted" 1 1 _) (wpAny_pure ?_)
  refine wpAny_bind (PySem.wpAny_collect_str (by first | exact hh | simpa using hh) x t (fun s' acc k1 k2 k3 k4 k5 => ?_) (Nat.le_of_lt (Nat.lt_of_lt_of_le hl (by decide))))
  have hsz : acc.size = x.cps.size := k5.1
  have hS : StrsAre acc.toList (x.cps.toList.map fun c => (⟨#[c]⟩ : Str)) := by
    have : ∀ (vs : List Value) (cs : List Nat), vs.length = cs.length → (∀ (j : Nat) (v : Value), vs[j]? = some v → ∃ (c : Nat) (u : Tok), cs[j]? = some c ∧ v = Value.str ⟨#[c]⟩ u) → StrsAre vs (cs.map fun c => (⟨#[c]⟩ : Str)) := by
      intro vs
      induction vs with
      | nil => intro cs hc _; cases cs with
        | nil => exact .nil
        | cons _ _ => cases hc
      | cons v vs ih => intro cs hc hv; cases cs with
        | nil => cases hc
        | cons c cs =>
          obtain ⟨c', u, e1, rfl⟩ := hv 0 v rfl
          cases e1
          exact .cons _ _ (ih cs (by simpa using hc) fun j v' e' => hv (j + 1) v' (by simpa using e'))
    refine this _ _ (by simpa using hsz) fun j v hv => ?_
    obtain ⟨ch, u, e1, e2⟩ := k5.2 j v (by simpa using hv)
    exact ⟨ch, u, by simpa using e1, e2⟩
  refine wpAny_bind (wpAny_newList ?_ (by rw [Array.length_toList, hsz]; exact Nat.le_of_lt (Nat.lt_of_lt_of_le hl (by decide))))
  have hoL : (s'.heap.push (seqObj "list" acc.toList.toArray 0)).get? s'.heap.objs.size = some (seqObj "list" acc.toList.toArray 0) := Heap.get?_push_size _ rfl
  have h64 : acc.toList.length < 64 := by rw [Array.length_toList, hsz]; exact hl
  refine wpAny_bind (wpAny_holding (wpAny_call_entry slot_list_sort ⟨_, hoL, rfl⟩ entry_list_sort
    (list_sort_treeK strKind_oneLt (s := { s' with heap := s'.heap.push (seqObj "list" acc.toList.toArray 0) }) (n := 0) hoL hS.keysOf (fun v₁ v₂ rest e => keyKind_strs (by rw [← e]; exact hS)) h64 fun st' hp hs => ⟨_, rfl, ?_⟩) (args_list_sort _)))
  refine wpAny_pure ⟨_, rfl, ?_⟩
  obtain ⟨ss', q1, q2, q3⟩ := sorted_out_str hS hp hs
  have hex := isort_is leS_tot leS_tr leS_anti q2 (pairwise_of_sortedS _ q3)
  rw [hex] at q1
  have hf : s.heap.get? s'.heap.objs.size = none := by
    cases q : s.heap.get? s'.heap.objs.size with
    | none => rfl
    | some o => exact absurd (Heap.lt_size (k1 _ _ q)) (Nat.lt_irrefl _)
  obtain ⟨e, he⟩ := sortedHeap_at (vs := acc.toList) (out := (arrOf st').map (·.2)) hoL
  refine h { s' with heap := sortedHeap (s'.heap.push (seqObj "list" acc.toList.toArray 0)) s'.heap.objs.size acc.toList ((arrOf st').map (·.2)) } _ (fun b o hb => ?_) ⟨k4, k2⟩ _ hf ⟨e, he⟩ q1
  have hlt : b < s'.heap.objs.size := Heap.lt_size (k1 _ _ hb)
  show Heap.get? (sortedHeap (s'.heap.push (seqObj "list" acc.toList.toArray 0)) s'.heap.objs.size acc.toList ((arrOf st').map (·.2))) b = some o
  rw [sortedHeap_old (Nat.ne_of_lt hlt) (by rw [size_push']; exact Nat.lt_succ_of_lt hlt), Heap.get?_push_ne _ _ _ (Nat.ne_of_lt hlt)]
  exact k1 _ _ hb
theorem VRs.one {w : Wd} {v : V} {vals : List Value} (r : VRs G w [v] vals) : ∃ x, vals = [x] ∧ VR G w v x := by
  cases vals with
  | nil => exact r.elim
  | cons x l => cases l with
    | nil => exact ⟨x, rfl, r.1⟩
    | cons _ _ => exact r.2.elim
theorem oneW {vs : List V} {vals : List Value} {K : V → Prop} (r : VRs G w vs vals) (e : (one? vs).elim False K) : ∃ v x, vals = [x] ∧ VR G w v x ∧ K v := by
  match vs, e with
  | [v], e => obtain ⟨x, h, r⟩ := r.one; exact ⟨v, x, h, r, e⟩
theorem lenW {v : V} {val : Value} {K : Nat → Prop} {E : Value → Shared → Prop} {Q : Value → Shared → Prop} (c : St G C A env w loc led s) (r : VR G w v val) (e : (lenOf led v).elim False fun n => n ≤ cap ∧ K n) (k : ∀ {n : Nat} {s' t}, K n → Sm s s' → Q (.int n t) s') :
    wpAny (Mo G) A (call (.builtin "len") [val]) Q E s := by
  have lst : ∀ {v : V}, VR G w v val → ((led.list v).map (·.length)).elim False (fun n => n ≤ cap ∧ K n) → wpAny (Mo G) A (call (.builtin "len") [val]) Q E s := fun r e => by
    obtain ⟨a, us, xs, rfl, hl, d, hc, e1⟩ := listW c.conc.led r (mapW e)
    have hc' : xs.length ≤ 4096 := hc
    have hl := hl.list
    rw [c.heap.1] at hl
    rw [d.size] at hc' e1
    exact call_len_list hl (by omega) (k e1 ⟨rfl, rfl, rfl⟩)
  cases v with
  | d y =>
    obtain ⟨q, rfl, hc, e1⟩ := D.strW (mapW e)
    obtain ⟨t, rfl⟩ := r
    have hc' : q.length ≤ 4096 := hc
    exact PyProof.Rows.len_str (by omega) (k e1 ⟨rfl, rfl, rfl⟩)
  | _ => exact lst r e
theorem intsW {v : V} {val : Value} {K : List Int → Prop} (c : St G C A env w loc led s) (r : VR G w v val) (e : (intsL led v).elim False K) : ∃ a ys is, val = .ref a ∧ s.heap.IsList a (intItems ys) ∧ IntsAre (intItems ys).toList is ∧ K is := by
  obtain ⟨a, us, xs, rfl, hl, d, e1⟩ := listW c.conc.led r (bindW e)
  obtain ⟨is, h, e2⟩ := isW e1
  have hl := hl.list
  rw [c.heap.1] at hl
  have hi := intsAre_of h d
  obtain ⟨us⟩ := us
  obtain ⟨ys, hys⟩ := hi.allInts.items
  have hys' : (⟨us⟩ : Array Value) = intItems ys := hys
  rw [hys'] at hl hi
  exact ⟨a, ys, is, rfl, hl, hi, e2⟩
theorem sortOf_is {xs ys : List D} (h : sortOf xs = some ys) : (∃ is, intsOf xs = some is ∧ ys = (isort (fun a b => decide (a ≤ b)) is).map .int) ∨ ∃ ss, strsOf xs = some ss ∧ ys = (isort leS ss).map .str := by
  unfold sortOf at h
  cases e : intsOf xs with
  | some is => rw [e] at h; exact .inl ⟨is, rfl, (Option.some.inj h).symm⟩
  | none =>
    rw [e] at h
    cases e2 : strsOf xs with
    | some ss => rw [e2] at h; exact .inr ⟨ss, rfl, (Option.some.inj h).symm⟩
    | none => rw [e2] at h; cases h
theorem sorted_list {v : V} {val : Value} {K : V × Led → Prop} {Q : Value → Shared → Prop} (c : St G C A env w loc led s) (r : VR G w v val) (e : ((led.list v).bind fun xs => gd (xs.length < 64) ((sortOf xs).map fun ys => (V.ref led.length, led ++ [O.list ys]))).elim False K)
    (k : ∀ {p : V × Led} {val s' w'}, K p → PostE G w p.2 p.1 val s' w' → Q val s') : wpAny (Mo G) A (call (.builtin "sorted") [val]) Q NoE s := by
  obtain ⟨a, us, xs, rfl, hli, d, e1⟩ := listW c.conc.led r (bindW e)
  obtain ⟨hl, e2⟩ := gdW e1
  obtain ⟨ys, hy, e3⟩ := isW (mapW e2)
  have hli := hli.list
  have hz := d.len
  rw [c.heap.1] at hli
  obtain ⟨us⟩ := us
  rw [hz] at hl
  have fin : ∀ {out : Array Value}, (∀ w' : Wd, DRs w' ys out.toList) → Q (.ref (s.heap.objs.size + 1)) { s with heap := sortedAll s.heap us out } := by
    intro out d'
    obtain ⟨ep, he⟩ := sortedAll_at s.heap us out
    refine k e3 (c.newL (s' := { s with heap := sortedAll s.heap us out }) (fun b o e => sortedAll_old e) ?_ ⟨ep, he⟩ (fun w' _ => d' w') c.heap.2)
    cases q : s.heap.get? (s.heap.objs.size + 1) with
    | none => rfl
    | some o => exact absurd (Heap.lt_size q) (Nat.not_lt.mpr (Nat.le_succ _))
  rcases sortOf_is hy with ⟨is, h1, rfl⟩ | ⟨ss, h1, rfl⟩
  · refine PyProof.Rows.sorted_ints hli (intsAre_of h1 d) hl fun out ns' h1 h2 h3 => fin (fun w' => ?_)
    have hex : ns' = isort (fun a b => decide (a ≤ b)) is := isort_is (fun a b => by simp only [decide_eq_true_eq]; omega) (fun a b c => by simp only [decide_eq_true_eq]; omega)
      (fun a b => by simp only [decide_eq_true_eq]; omega) h2 (by simpa using h3)
    rw [hex] at h1
    exact DRs_ints h1
  · refine PyProof.Rows.sorted_strs hli (strsAre_of h1 d) hl fun out ns' h1 h2 h3 => fin (fun w' => ?_)
    rw [isort_is leS_tot leS_tr leS_anti h2 (pairwise_of_sortedS _ h3)] at h1
    exact DRs_strs h1
theorem bi1_sound {b : Bi} {v : V} {val : Value} {K : V × Led → Prop} {Q : Value → Shared → Prop} (c : St G C A env w loc led s) (r : VR G w v val) (e : (bi1 led b v).elim False K)
    (k : ∀ {p : V × Led} {val s' w'}, K p → PostE G w p.2 p.1 val s' w' → Q val s') : wpAny (Mo G) A (call (biVal b) [val]) Q NoE s := by
  cases b with
  | len =>
    obtain ⟨n, h, e1⟩ := isW (bindW e)
    obtain ⟨hc, e2⟩ := gdW e1
    exact lenW (K := fun n => K (.d (.int n), led)) c r (toW h ⟨hc, e2⟩) fun e q => k e (c.toks q ⟨_, rfl⟩)
  | chr =>
    obtain ⟨i, rfl, e1⟩ := V.intW (bindW e)
    obtain ⟨hc, e2⟩ := gdW e1
    obtain ⟨t, rfl⟩ := r
    exact P.chr_of_int (by simp; omega) (k e2 (c.toks ⟨rfl, rfl, rfl⟩ ⟨_, rfl⟩))
  | ord =>
    obtain ⟨q, rfl, e1⟩ := V.strW (bindW e)
    obtain ⟨ch, h, e2⟩ := isW (mapW e1)
    obtain ⟨t, rfl⟩ := r
    have : q = ⟨#[ch]⟩ := by
      obtain ⟨⟨l⟩⟩ := q
      unfold chr1 at h
      split at h
      · rename_i e
        obtain rfl := Option.some.inj h
        exact congrArg Str.mk (congrArg Array.mk e)
      · cases h
    subst this
    exact P.ord_of_char (k e2 (c.toks ⟨rfl, rfl, rfl⟩ ⟨_, rfl⟩))
  | sum =>
    obtain ⟨a, ys, is, rfl, hl, hi, e1⟩ := intsW c r (mapW e)
    refine sum_intListG c.conc.handled hl fun h' tk t' g => ?_
    rw [preSum_ints hi]
    exact k e1 (c.grown (s' := { s with heap := h', toks := tk }) (c.heap.1 ▸ g) ⟨_, rfl⟩ c.heap.2)
  | abs =>
    obtain ⟨i, rfl, e1⟩ := V.intW (mapW e)
    obtain ⟨t, rfl⟩ := r
    refine call_abs_int fun u tk => ?_
    rw [show (if i < 0 then -i else i) = (i.natAbs : Int) by split <;> omega]
    exact k e1 (c.toks (s' := { s with toks := tk }) ⟨rfl, rfl, rfl⟩ ⟨_, rfl⟩)
  | sorted =>
    cases v with
    | d y =>
      obtain ⟨q, rfl, e1⟩ := D.strW (bindW e)
      obtain ⟨hl, e2⟩ := gdW e1
      obtain ⟨t, rfl⟩ := r
      exact sorted_chars c.conc.handled hl fun s' out g kr a ha hi hs => k e2 (c.newL g ha hi (fun w' _ => DRs_strs hs) ⟨kr.1.trans c.heap.2.1, kr.2.trans c.heap.2.2⟩)
    | _ => exact sorted_list c r e k
  | list =>
    obtain ⟨a, us, xs, rfl, hli, d, e1⟩ := listW c.conc.led r (bindW e)
    obtain ⟨hl, e2⟩ := gdW e1
    have hli := hli.list
    rw [c.heap.1] at hli
    obtain ⟨o, ho, hc, n, hd⟩ := id hli
    refine PySem.call_list_seq a (.inl rfl) ho hc hd (fun h' c' g hn => ?_) (by rw [← d.size]; exact Nat.le_of_lt (Nat.lt_of_lt_of_le hl (by decide)))
    exact k e2 (c.newL (s' := { s with heap := h' }) g fresh_size ⟨c', hn⟩ (fun w' p => d.per p.per) c.heap.2)
  | _ => exact e.elim
theorem args_plain {f : Value} {pos : Pos} {xs : List Expr} {E : Value → Shared → Prop} {Q : Args → Shared → Prop} {p : Program} {W : World} (hn : noStars xs = true)
    (h : wpAny (model p W) A (spliced (backTo pos (starEach xs env))) (fun vs s' => Q ⟨vs, []⟩ s') E s) : wpAny (model p W) A (evalArgs f true (backTo pos (starEach xs env)) []) Q E s := by
  unfold evalArgs
  have h2 := noStars_plain (env := env) (pos := pos) hn
  cases xs with
  | nil =>
    show wpAny _ A (spliced [] >>= _) Q E s
    refine wpAny_bind (wpAny_mono h (fun vs s' h' => ?_) fun _ _ x => x)
    refine wpAny_holding ?_
    exact wpAny_bind (wpAny_pure (wpAny_bind (wpAny_pure (wpAny_pure h'))))
  | cons x xs =>
    unfold noStars at hn
    rw [List.all_cons, Bool.and_eq_true] at hn
    rw [starEach_cons hn.1] at h ⊢
    show wpAny _ A (spliced ((false, eval x env) :: backTo pos (starEach xs env)) >>= _) Q E s
    refine wpAny_bind (wpAny_mono h (fun vs s' h' => ?_) fun _ _ x => x)
    refine wpAny_holding ?_
    exact wpAny_bind (wpAny_pure (wpAny_bind (wpAny_pure (wpAny_pure h'))))
theorem biVal_is : ∀ b, (∃ id, biVal b = .builtin id) ∨ ∃ T, biVal b = .type T
  | .len => .inl ⟨_, rfl⟩ | .chr => .inl ⟨_, rfl⟩ | .ord => .inl ⟨_, rfl⟩ | .sum => .inl ⟨_, rfl⟩ | .abs => .inl ⟨_, rfl⟩ | .sorted => .inl ⟨_, rfl⟩ | .min => .inl ⟨_, rfl⟩
  | .list => .inr ⟨_, rfl⟩ | .int => .inr ⟨_, rfl⟩ | .str => .inr ⟨_, rfl⟩
theorem callWith_bi {pos : Pos} {f : Value} {args : List (Bool × Sem Value)} {E : Value → Shared → Prop} {Q : Value → Shared → Prop} {p : Program} {W : World} (hf : (∃ id, f = .builtin id) ∨ ∃ T, f = .type T)
    (hpl : args.any (·.1) = false) (h : wpAny (model p W) A (evalArgs f true args []) (fun a s₁ => wpAny (model p W) A (call f ([] ++ a.pos) a.kw) Q E s₁) E s) :
    wpAny (model p W) A (callWith pos f [] args []) Q E s := by
  rcases hf with ⟨id, rfl⟩ | ⟨T, rfl⟩
  · exact Calls.callWith_builtin hpl h
  · exact PyProof.Rows.callWith_type hpl h
theorem SE.bi {b : Bi} {es : List UK.E} {id : Str} {xs : List Expr} {p pos : Pos} (hk : env.kindOf id = some .globalImplicit) (hv : G.look id = some (biVal b)) (hd : (id == ("__debug__" : Str)) = false)
    (hn : noStars xs = true) (h : SEs G C A env cx es xs) : SE G C A env cx (.bi b es) (.Call (.Name id p) xs [] pos) := fun c e k =>
  Call_ (global_name c hk hv hd (callWith_bi (biVal_is b) (noStars_plain hn) (args_plain hn (h c (bindW e) fun e p1 => by
    obtain ⟨v, x, rfl, r, e1⟩ := oneW p1.val (bindW e)
    exact bi1_sound (p1.st c) r e1 fun e p2 => k e ⟨p2.heap, p1.stp.trans p2.stp, p2.led, p2.nd, p2.val⟩))))
end
end UK
end
section
namespace UK
open PySem PySem.W PySem.Calls PyProof.Rows PySem.SeqAt
section
variable {G : Gl} {C : Ct} {A : Around} {env : Env} {cx : Cx} {w : Wd} {loc : Loc} {led led' : Led} {s : Shared}
theorem mem_of_getElem? {α : Type} {l : List α} {k : Nat} {a : α} (h : l[k]? = some a) : a ∈ l := List.mem_of_getElem? h
theorem ORs.set {w w' : Wd} (P : Per w w') : ∀ {l : List O} {as : List Addr} {k : Nat} {a : Addr} {o : O}, ORs G w l as → as[k]? = some a → as.Nodup →
    (∀ b ∈ as, b ≠ a → ∀ ob, w.h.get? b = some ob → w'.h.get? b = some ob) → OR G w' o a → ORs G w' (l.set k o) as
  | [], [], _, _, _, _, e, _, _, _ => by simp at e
  | [], _ :: _, _, _, _, h, _, _, _, _ => h.elim
  | _ :: _, [], _, _, _, h, _, _, _, _ => h.elim
  | x :: l, b :: as, 0, a, o, ⟨h1, h2⟩, e, nd, keep, ho => by
    simp only [List.getElem?_cons_zero, Option.some.injEq] at e
    subst e
    obtain ⟨n1, n2⟩ := List.nodup_cons.mp nd
    exact ⟨ho, h2.move P fun c hc => keep c (.tail _ hc) fun e => n1 (e ▸ hc)⟩
  | x :: l, b :: as, k + 1, a, o, ⟨h1, h2⟩, e, nd, keep, ho => by
    simp only [List.getElem?_cons_succ] at e
    obtain ⟨n1, n2⟩ := List.nodup_cons.mp nd
    exact ⟨h1.move P (keep b (.head _) fun q => n1 (q ▸ mem_of_getElem? e)), h2.set P e n2 (fun c hc => keep c (.tail _ hc)) ho⟩
theorem Stp.write {w : Wd} {h' : Heap} {a : Addr} (ha : a ∈ w.ads) (other : ∀ b, b ≠ a → ∀ ob, w.h.get? b = some ob → h'.get? b = some ob) : Stp w ⟨h', w.own, w.prot, w.ads⟩ :=
  ⟨rfl, rfl, List.prefix_rfl, fun b o e n => ⟨other b (fun q => n (q ▸ ha)) o e, n⟩⟩
theorem PostE.write {k : Nat} {a : Addr} {o : O} {d : D} {val : Value} {s' : Shared} (c : Conc G C A w env loc led) (hk : w.ads[k]? = some a) (other : ∀ b, b ≠ a → ∀ ob, w.h.get? b = some ob → s'.heap.get? b = some ob)
    (ho : ∀ w' : Wd, Stp w w' → w'.h = s'.heap → OR G w' o a) (hd : ∀ w' : Wd, DR w' d val) (rs : Rs G s') : PostE G w (led.set k o) (.d d) val s' ⟨s'.heap, w.own, w.prot, w.ads⟩ :=
  have P := Stp.write (h' := s'.heap) (mem_of_getElem? hk) other
  ⟨⟨rfl, rs⟩, P, c.led.set P.per hk c.nd (fun b _ => other b) (ho _ P rfl), c.nd, hd _⟩
theorem set_other {h : Heap} {a : Addr} (f : Obj → Obj) : ∀ b, b ≠ a → ∀ ob, h.get? b = some ob → (h.update a f).get? b = some ob :=
  fun b hb ob e => (Heap.get?_update_other _ _ (Ne.symm hb)).trans e
theorem IsL.upd {h : Heap} {a : Addr} {vs : Array Value} (i : IsL h a vs) (g : Array Value → Array Value) : IsL (h.update a (Obj.mapSeq g)) a (g vs) :=
  let ⟨n, e⟩ := i; ⟨_, get?_update_seq e g⟩
theorem St.upd {k : Nat} {a : Addr} {vs : Array Value} {g : Array Value → Array Value} {xs : List D} {s' : Shared} (c : St G C A env w loc led s) (hk : w.ads[k]? = some a) (i : IsL w.h a vs)
    (hs : s'.heap = s.heap.update a (Obj.mapSeq g) ∧ s'.os = s.os ∧ s'.gens = s.gens) (hd : DRs w xs (g vs).toList) : PostE G w (led.set k (.list xs)) (.d .none) .none s' ⟨s'.heap, w.own, w.prot, w.ads⟩ := by
  have hs' : s'.heap = w.h.update a (Obj.mapSeq g) := by rw [hs.1, c.heap.1]
  refine PostE.write c.conc hk ?_ (fun w' P e => ⟨g vs, ?_, hd.per P.per⟩) (fun w' => rfl) ⟨hs.2.1.trans c.heap.2.1, hs.2.2.trans c.heap.2.2⟩
  · rw [hs']; exact set_other _
  · rw [e, hs']; exact i.upd g
theorem ledW {v : V} {val : Value} {K : Nat × List D → Prop} (c : St G C A env w loc led s) (r : VR G w v val) (e : (ledL led v).elim False K) :
    ∃ k a vs xs n, val = .ref a ∧ w.ads[k]? = some a ∧ IsL w.h a vs ∧ s.heap.get? a = some { cls := .type "list", data := .seq vs n } ∧ DRs w xs vs.toList ∧ led[k]? = some (.list xs) ∧ K (k, xs) := by
  obtain ⟨k, rfl, e1⟩ := V.refW (bindW e)
  obtain ⟨o, h, e2⟩ := isW (bindW e1)
  obtain ⟨xs, rfl, e3⟩ := O.listW (mapW e2)
  obtain ⟨a, rfl, ha⟩ := r
  obtain ⟨b, hb, vs, i, d⟩ := c.conc.led.get h
  obtain rfl := Option.some.inj (ha.symm.trans hb)
  obtain ⟨n, i'⟩ := id i
  exact ⟨k, a, vs, xs, n, rfl, ha, i, c.heap.1 ▸ i', d, h, e3⟩
noncomputable def mname : Me → Str
  | .lower => "lower" | .upper => "upper" | .find => "find" | .split => "split" | .startswith => "startswith" | .endswith => "endswith" | .index => "index" | .count => "count" | .join => "join"
  | .append => "append" | .insert => "insert" | .extend => "extend"
noncomputable def mid : Me → String
  | .lower => "str.lower" | .upper => "str.upper" | .find => "str.find" | .split => "str.split" | .startswith => "str.startswith" | .endswith => "str.endswith" | .index => "str.index" | .count => "str.count" | .join => "str.join"
  | .append => "list.append" | .insert => "list.insert" | .extend => "list.extend"
noncomputable def mty : Me → String
  | .append | .insert | .extend => "list"
  | _ => "str"
theorem m_plain : ∀ m, PlainAttrs (mty m)
  | .lower | .upper | .find | .split | .startswith | .endswith | .index | .count | .join => PySem.F.plainAttrs_str
  | .append | .insert | .extend => PySem.F.plainAttrs_list
theorem m_slot : ∀ m, Slot (mty m) (mname m) (mid m)
  | .lower => PySem.F.slot_str_lower | .upper => PySem.F.slot_str_upper | .find => PySem.F.slot_str_find | .split => PySem.F.slot_str_split | .startswith => PySem.F.slot_str_startswith
  | .endswith => PySem.F.slot_str_endswith | .index => PySem.F.slot_str_index | .count => PySem.F.slot_str_count | .join => PySem.F.slot_str_join
  | .append => PySem.F.slot_list_append | .insert => PySem.F.slot_list_insert | .extend => PySem.F.slot_list_extend
theorem m_type : ∀ m, typeOf (.builtin (mid m)) = pure (.type "method_descriptor")
  | .lower => PySem.F.type_str_lower | .upper => PySem.F.type_str_upper | .find => PySem.F.type_str_find | .split => PySem.F.type_str_split | .startswith => PySem.F.type_str_startswith
  | .endswith => PySem.F.type_str_endswith | .index => PySem.F.type_str_index | .count => PySem.F.type_str_count | .join => PySem.F.type_str_join
  | .append => PySem.F.type_list_append | .insert => PySem.F.type_list_insert | .extend => PySem.F.type_list_extend
theorem isSomeW {α : Type} {o : Option α} (h : o.isSome = true) : o.elim False fun _ => True := by
  cases o with
  | none => exact Bool.noConfusion h
  | some _ => trivial
theorem methAt_sound {m : Me} {o : V} {ov : Value} (c : St G C A env w loc led s) (r : VR G w o ov) (e : methAt led m o = true) :
    s.TypeIs ov (mty m) ∧ ∀ a, ov = .ref a → ∃ ob, s.heap.get? a = some ob ∧ ob.dict = none := by
  have hlist : isListV led o = true → s.TypeIs ov "list" ∧ ∀ a, ov = .ref a → ∃ ob, s.heap.get? a = some ob ∧ ob.dict = none := fun e => by
    obtain ⟨k, a, vs, xs, n, rfl, _, _, i, _⟩ := ledW c r (isSomeW e)
    exact ⟨⟨_, i, rfl⟩, fun b hb => by cases hb; exact ⟨_, i, rfl⟩⟩
  have hstr : isStrV o = true → s.TypeIs ov "str" ∧ ∀ a, ov = .ref a → ∃ ob, s.heap.get? a = some ob ∧ ob.dict = none := fun e => by
    obtain ⟨x, rfl, _⟩ := V.strW (isSomeW e)
    obtain ⟨t, rfl⟩ := r
    exact ⟨typeIs_str _ _ _, fun _ e => nomatch e⟩
  cases m <;> first | exact hlist e | exact hstr e
theorem gives_str_find4 (x y : Str) (i j : Int) (t u v z : Tok) (hi : 0 ≤ i) (hj : 0 ≤ j) (hx : j ≤ x.length) :
    Gives (Builtin.«str.find» ⟨[.str x t, .str y u, .int i v, .int j z], []⟩) (.int (match Builtin.Str.occurrences x y i.toNat j.toNat 1 with | k :: _ => (k : Int) | [] => -1)) := by
  show Gives (match Builtin.Str.occurrences x y (max 0 (if i < 0 then i + x.length else i)).toNat (min (max 0 (if j < 0 then j + x.length else j)).toNat x.length) 1 with | k :: _ => retInt k | [] => (do rule "str.find.not-found"; retInt (-1))) _
  rw [if_neg (by omega), if_neg (by omega), Int.max_eq_right hi, Int.max_eq_right hj, Nat.min_eq_left (by omega)]
  cases Builtin.Str.occurrences x y i.toNat j.toNat 1 with
  | nil => exact .rule (.of_eq rfl)
  | cons k _ => exact .of_eq rfl
theorem VRs.two {w : Wd} {v u : V} {vals : List Value} (r : VRs G w [v, u] vals) : ∃ x y, vals = [x, y] ∧ VR G w v x ∧ VR G w u y := by
  cases vals with
  | nil => exact r.elim
  | cons x l => obtain ⟨y, rfl, h⟩ := VRs.one (vals := l) (v := u) r.2; exact ⟨x, y, rfl, r.1, h⟩
theorem VRs.three {w : Wd} {v u z : V} {vals : List Value} (r : VRs G w [v, u, z] vals) : ∃ x y q, vals = [x, y, q] ∧ VR G w v x ∧ VR G w u y ∧ VR G w z q := by
  cases vals with
  | nil => exact r.elim
  | cons x l => obtain ⟨y, q, rfl, h⟩ := VRs.two (vals := l) (v := u) r.2; exact ⟨x, y, q, rfl, r.1, h⟩
theorem VRs.zero {w : Wd} {vals : List Value} (r : VRs G w [] vals) : vals = [] := by
  cases vals with
  | nil => rfl
  | cons x l => exact r.elim
theorem strValues_of {vs : List Value} {ss : List Str} (h : StrsAre vs ss) : ∃ l : List (Str × Tok), strValues l = vs ∧ l.map (·.1) = ss := by
  induction h with
  | nil => exact ⟨[], rfl, rfl⟩
  | cons y t h ih => obtain ⟨l, h1, h2⟩ := ih; exact ⟨(y, t) :: l, by rw [← h1]; rfl, by rw [← h2]; rfl⟩
theorem strsFrom_are : ∀ (k : Tok) (l : List Str), StrsAre (strsFrom k l) l
  | _, [] => .nil
  | k, x :: l => .cons x k (strsFrom_are (k + 1) l)
theorem fitCap {n : Nat} (h : n ≤ cap) : Builtin.Str.tooLong n = false := by
  have h' : n ≤ 4096 := h
  unfold Builtin.Str.tooLong sizeLine
  exact decide_eq_false (by have e : (2 : Nat) ^ 24 = 16777216 := by decide
                            omega)
theorem zeroW {vs : List V} {vals : List Value} {K : Unit → Prop} (r : VRs G w vs vals) (e : (zero? vs).elim False K) : vals = [] ∧ K () := by
  match vs, e with
  | [], e => exact ⟨r.zero, e⟩
theorem twoW {vs : List V} {vals : List Value} {K : V × V → Prop} (r : VRs G w vs vals) (e : (two? vs).elim False K) : ∃ u v x y, vals = [x, y] ∧ VR G w u x ∧ VR G w v y ∧ K (u, v) := by
  match vs, e with
  | [u, v], e => obtain ⟨x, y, h, r1, r2⟩ := r.two; exact ⟨u, v, x, y, h, r1, r2, e⟩
theorem threeW {vs : List V} {vals : List Value} {K : V × V × V → Prop} (r : VRs G w vs vals) (e : (three? vs).elim False K) : ∃ u v z x y q, vals = [x, y, q] ∧ VR G w u x ∧ VR G w v y ∧ VR G w z q ∧ K (u, v, z) := by
  match vs, e with
  | [u, v, z], e => obtain ⟨x, y, q, h, r1, r2, r3⟩ := r.three; exact ⟨u, v, z, x, y, q, h, r1, r2, r3, e⟩
variable {vs : List V} {vals : List Value} {K : V × Led → Prop} {Q : Value → Shared → Prop}
noncomputable abbrev MT (G : Gl) (C : Ct) (A : Around) (m : Me) : Prop := ∀ {env : Env} {w : Wd} {loc : Loc} {led : Led} {s : Shared} {x : Str} {t : Tok} {vs : List V} {vals : List Value} {K : V × Led → Prop} {Q : Value → Shared → Prop},
  St G C A env w loc led s → VRs G w vs vals → (mTxt m led x vs).elim False K → (∀ {p : V × Led} {val s' w'}, K p → PostE G w p.2 p.1 val s' w' → Q val s') → wpAny (Mo G) A (call (.builtin (mid m)) (.str x t :: vals)) Q NoE s
theorem mt_lower : MT G C A .lower := fun {env w loc led s x t vs vals K Q} c rs e k => by
  obtain ⟨rfl, e1⟩ := zeroW rs (bindW e)
  obtain ⟨hl, e2⟩ := gdW e1
  exact call_meets PySem.F.slot_str_lower (typeIs_str _ _ _) PySem.F.entry_str_lower (PySem.F.args_str_lower_1 _) (gives_str_lower _ t (fitCap hl)).meets ⟨fit_le (fitCap hl), k e2 (c.toks ⟨rfl, rfl, rfl⟩ ⟨_, rfl⟩)⟩
theorem mt_upper : MT G C A .upper := fun {env w loc led s x t vs vals K Q} c rs e k => by
  obtain ⟨rfl, e1⟩ := zeroW rs (bindW e)
  obtain ⟨hl, e2⟩ := gdW e1
  exact call_meets PySem.F.slot_str_upper (typeIs_str _ _ _) PySem.F.entry_str_upper (PySem.F.args_str_upper_1 _) (gives_str_upper _ t (fitCap hl)).meets ⟨fit_le (fitCap hl), k e2 (c.toks ⟨rfl, rfl, rfl⟩ ⟨_, rfl⟩)⟩
theorem mt_find : MT G C A .find := fun {env w loc led s x t vs vals K Q} c rs e k => by
  obtain ⟨_, _, _, _, _, _, rfl, r1, r2, r3, e1⟩ := threeW rs (bindW e)
  obtain ⟨y, rfl, e2⟩ := V.strW (bindW e1)
  obtain ⟨lo, rfl, e3⟩ := V.intW (bindW e2)
  obtain ⟨hi, rfl, e4⟩ := V.intW (bindW e3)
  obtain ⟨hl, e5⟩ := gdW e4
  obtain ⟨u, rfl⟩ := r1; obtain ⟨z, rfl⟩ := r2; obtain ⟨q, rfl⟩ := r3
  exact call_meets PySem.F.slot_str_find (typeIs_str _ _ _) PySem.F.entry_str_find (PySem.F.args_str_find_4 _ _ _ _) (gives_str_find4 _ _ _ _ t u z q hl.1 hl.2.1 hl.2.2.1).meets (k e5 (c.toks ⟨rfl, rfl, rfl⟩ ⟨_, rfl⟩))
theorem mt_text {g : Str → Str → Option D} {x : Str} (rs : VRs G w vs vals) (e : (m_text g led x vs).elim False K) : ∃ y u d, vals = [.str y u] ∧ g x y = some d ∧ K (.d d, led) := by
  obtain ⟨_, _, rfl, r, e1⟩ := oneW rs (bindW e)
  obtain ⟨y, rfl, e2⟩ := V.strW (bindW e1)
  obtain ⟨d, h, e3⟩ := isW (mapW e2)
  obtain ⟨u, rfl⟩ := r
  exact ⟨y, u, d, rfl, h, e3⟩
theorem mt_startswith : MT G C A .startswith := fun {env w loc led s x t vs vals K Q} c rs e k => by
  obtain ⟨y, u, d, rfl, h, e1⟩ := mt_text (g := fun x y => some (.bool (Txt.startswith x y))) rs e
  obtain rfl := Option.some.inj h
  exact call_meets PySem.F.slot_str_startswith (typeIs_str _ _ _) PySem.F.entry_str_startswith (PySem.F.args_str_startswith_2 _ _) (gives_str_startswith _ _ t u).meets (k e1 (c.val rfl))
theorem mt_endswith : MT G C A .endswith := fun {env w loc led s x t vs vals K Q} c rs e k => by
  obtain ⟨y, u, d, rfl, h, e1⟩ := mt_text (g := fun x y => some (.bool (Txt.endswith x y))) rs e
  obtain rfl := Option.some.inj h
  exact call_meets PySem.F.slot_str_endswith (typeIs_str _ _ _) PySem.F.entry_str_endswith (PySem.F.args_str_endswith_2 _ _) (gives_str_endswith _ _ t u).meets (k e1 (c.val rfl))
theorem mt_index : MT G C A .index := fun {env w loc led s x t vs vals K Q} c rs e k => by
  obtain ⟨y, u, d, rfl, h, e1⟩ := mt_text (g := fun x y => gd (0 ≤ Txt.find x y) (some (.int (Txt.find x y)))) rs e
  obtain ⟨hf, h1⟩ := gdW (K := fun z => z = d) (toW h rfl)
  subst h1
  cases ho : Builtin.Str.occurrences x y 0 x.length 1 with
  | nil =>
    unfold Txt.find at hf
    rw [ho] at hf
    exact absurd hf (by decide)
  | cons i rest =>
    have hv : Txt.find x y = (i : Int) := by unfold Txt.find; rw [ho]
    exact call_meets PySem.F.slot_str_index (typeIs_str _ _ _) PySem.F.entry_str_index (PySem.F.args_str_index_2 _ _) (gives_str_index x y t u i rest ho).meets (k e1 (c.toks ⟨rfl, rfl, rfl⟩ ⟨_, by rw [hv]⟩))
theorem mt_join : MT G C A .join := fun {env w loc led s x t vs vals K Q} c rs e k => by
  obtain ⟨_, _, rfl, r, e1⟩ := oneW rs (bindW e)
  obtain ⟨a, us, xs, rfl, hli, d, e2⟩ := listW c.conc.led r (bindW (bindW e1))
  obtain ⟨ys, h, e3⟩ := isW e2
  obtain ⟨hl, e4⟩ := gdW e3
  obtain ⟨l, h1, h2⟩ := strValues_of (strsAre_of h d)
  have hfit : Builtin.Str.tooLong ((l.map (·.1)).toArray.foldl (· + ·.length + x.length) 0) = false := by
    rw [StrLaws.joinTotal, h2]
    exact fitCap hl
  rw [c.heap.1] at hli
  refine call_meets PySem.F.slot_str_join (typeIs_str _ _ _) PySem.F.entry_str_join (PySem.F.args_str_join_2 _ _) (meets_str_join_list x t a l hfit) ⟨by rw [h1]; exact hli.list, ?_⟩
  refine post_join l ⟨joinFit_length hfit, fun t' tk => ?_⟩
  rw [h2]
  exact k e4 (c.toks (s' := { s with toks := tk }) ⟨rfl, rfl, rfl⟩ ⟨_, rfl⟩)
theorem mt_split : MT G C A .split := fun {env w loc led s x t vs vals K Q} c rs e k => by
  obtain ⟨_, _, rfl, r, e1⟩ := oneW rs (bindW e)
  obtain ⟨y, rfl, e2⟩ := V.strW (bindW e1)
  obtain ⟨hl, e3⟩ := gdW e2
  obtain ⟨hf, e4⟩ := gdW e3
  obtain ⟨hn, e5⟩ := gdW e4
  obtain ⟨u, rfl⟩ := r
  refine call_meets PySem.F.slot_str_split (typeIs_str _ _ _) PySem.F.entry_str_split (PySem.F.args_str_split_2 _ _)
    (meets_str_split_sep x y t u (by simp; exact ⟨hl.2.1, hl.2.2.1⟩) (by simp; omega) (by simpa using hf) (Nat.le_trans hl.2.2.2 (by decide)) (Nat.le_trans hn (by decide))) ?_
  exact k e5 (c.newL (fun b o e => Heap.get?_push_of_some _ e) fresh_size ⟨0, Heap.get?_push_size _ rfl⟩ (fun w' _ => DRs_strs (strsFrom_are _ _)) c.heap.2)
theorem DRs.parts : ∀ (j : Nat) {xs : List D} {us : List Value}, DRs w xs us → DRs w (xs.take j) (us.take j) ∧ DRs w (xs.drop j) (us.drop j)
  | 0, _, _, h => ⟨trivial, h⟩
  | j + 1, [], [], _ => ⟨trivial, trivial⟩
  | j + 1, [], _ :: _, h => h.elim
  | j + 1, _ :: _, [], h => h.elim
  | j + 1, _ :: _, _ :: _, h => ⟨⟨h.1, (h.2.parts j).1⟩, (h.2.parts j).2⟩
noncomputable abbrev ML (G : Gl) (C : Ct) (A : Around) (m : Me) : Prop := ∀ {env : Env} {w : Wd} {loc : Loc} {led : Led} {s : Shared} {o : V} {ov : Value} {vs : List V} {vals : List Value} {K : V × Led → Prop} {Q : Value → Shared → Prop},
  St G C A env w loc led s → VR G w o ov → VRs G w vs vals → ((ledL led o).bind fun p => mLst m led p.1 p.2 vs).elim False K → (∀ {p : V × Led} {val s' w'}, K p → PostE G w p.2 p.1 val s' w' → Q val s') → wpAny (Mo G) A (call (.builtin (mid m)) (ov :: vals)) Q NoE s
theorem capLine {n : Nat} (h : n ≤ cap) : n ≤ sizeLine := Nat.le_trans h (by decide)
theorem ml_append : ML G C A .append := fun {env w loc led s o ov vs vals K Q} c ro rs e kk => by
  obtain ⟨k, a, us, xs, n, rfl, ha, i, ho, d, _, e1⟩ := ledW c ro (bindW e)
  obtain ⟨_, y, rfl, r, e2⟩ := oneW rs (bindW e1)
  obtain ⟨x, rfl, e3⟩ := ofVW (bindW e2)
  obtain ⟨hl, e4⟩ := gdW e3
  refine call_meets PySem.F.slot_list_append ⟨_, ho, rfl⟩ PySem.F.entry_list_append (PySem.F.args_list_append_2 _ _) (PySem.AutoListH.list_append_list_val_0 a us n y (d.size ▸ capLine (Nat.le_of_lt hl))) ⟨ho, ?_⟩
  exact kk e4 (c.upd (g := fun x => x.push y) ha i ⟨rfl, rfl, rfl⟩ (by rw [Array.toList_push]; exact d.append ⟨r, trivial⟩))
theorem ml_insert : ML G C A .insert := fun {env w loc led s o ov vs vals K Q} c ro rs e kk => by
  obtain ⟨k, a, us, xs, n, rfl, ha, i', ho, d, _, e1⟩ := ledW c ro (bindW e)
  obtain ⟨_, _, y, z, rfl, r1, r2, e2⟩ := twoW rs (bindW e1)
  obtain ⟨i, rfl, e3⟩ := V.intW (bindW e2)
  obtain ⟨x, rfl, e4⟩ := ofVW (bindW e3)
  obtain ⟨hl, e5⟩ := gdW e4
  obtain ⟨t, rfl⟩ := r1
  have hl : xs.length < cap ∧ 0 ≤ i ∧ i ≤ xs.length := hl
  have hsz := d.size
  have hc : xs.length < 4096 := hl.1
  have hfit : ¬(!Builtin.List.listFitsIndex i) = true := by
    unfold Builtin.List.listFitsIndex
    simp
    omega
  refine call_meets PySem.F.slot_list_insert ⟨_, ho, rfl⟩ PySem.F.entry_list_insert (PySem.F.args_list_insert_3 _ _ _) (PySem.AutoSeq1.list_insert_list_int_val_1 a us n i t z hfit (hsz ▸ capLine (Nat.le_of_lt hl.1))) ⟨ho, ?_⟩
  refine kk e5 (c.upd (s := s) (g := fun xs => have k := if i < 0 then (i + (xs.size : Int)).toNat else min i.toNat xs.size; (xs.extract 0 k).push z ++ xs.extract k) ha i' ⟨rfl, rfl, rfl⟩ ?_)
  dsimp only
  rw [if_neg (by omega), Nat.min_eq_left (by omega)]
  have e3 : ((us.extract 0 i.toNat).push z ++ us.extract i.toNat).toList = us.toList.take i.toNat ++ z :: us.toList.drop i.toNat := by
    obtain ⟨us⟩ := us
    rw [Array.toList_append, Array.toList_push, Array.toList_extract, Array.toList_extract, List.extract_eq_take_drop, List.extract_eq_take_drop]
    simp [List.take_of_length_le]
  rw [e3]
  exact (d.parts _).1.append ⟨r2, (d.parts _).2⟩
theorem evMeth_sound {m : Me} {o : V} {ov : Value} (c : St G C A env w loc led s) (ro : VR G w o ov) (rs : VRs G w vs vals) (e : (evMeth led m o vs).elim False K) (k : ∀ {p : V × Led} {val s' w'}, K p → PostE G w p.2 p.1 val s' w' → Q val s') :
    wpAny (Mo G) A (call (.builtin (mid m)) (ov :: vals)) Q NoE s := by
  have txt : MT G C A m → (o.str?.bind fun x => mTxt m led x vs).elim False K → wpAny (Mo G) A (call (.builtin (mid m)) (ov :: vals)) Q NoE s := fun h e1 => by
    obtain ⟨x, rfl, e2⟩ := V.strW (bindW e1)
    obtain ⟨t, rfl⟩ := ro
    exact h c rs e2 k
  cases m with
  | lower => exact txt mt_lower e
  | upper => exact txt mt_upper e
  | find => exact txt mt_find e
  | split => exact txt mt_split e
  | startswith => exact txt mt_startswith e
  | endswith => exact txt mt_endswith e
  | index => exact txt mt_index e
  | count => obtain ⟨_, _, e1⟩ := V.strW (bindW e); exact e1.elim
  | join => exact txt mt_join e
  | append => exact ml_append c ro rs e k
  | insert => exact ml_insert c ro rs e k
  | extend => obtain ⟨_, _, e1⟩ := V.strW (bindW e); exact e1.elim
theorem all_plain {pos : Pos} : ∀ {xs : List Expr}, noStars xs = true → (backTo pos (starEach xs env)).all (fun x => !x.1) = true
  | [], _ => rfl
  | x :: xs, h => by
    unfold noStars at h
    rw [List.all_cons, Bool.and_eq_true] at h
    rw [starEach_cons h.1]
    show (true && (backTo pos (starEach xs env)).all (fun x => !x.1)) = true
    rw [all_plain (xs := xs) h.2]; rfl
theorem SE.meth {m : Me} {o : UK.E} {es : List UK.E} {x : Expr} {name : Str} {xs : List Expr} {apos pos : Pos} (hm : name = mname m) (hbase : attributeBase x name env (eval x env) = eval x env) (hline : (apos.endLine == pos.line) = true)
    (hn : noStars xs = true) (hlen : xs.length < 30) (ho : SE G C A env cx o x) (h : SEs G C A env cx es xs) : SE G C A env cx (.meth m o es) (.Call (.Attribute x name apos) xs [] pos) := fun {w loc led s K Q} c e k => by
  subst hm
  have hfew : ((backTo pos (starEach xs env)).all (fun x => !x.1) && (backToKw pos (keywordEach [] env)).all (fun x => x.1.isSome)
      && decide (xs.length + ([] : List Keyword).length + (if ([] : List Keyword).isEmpty then 0 else 1) < 30)) = true := by
    rw [all_plain hn]
    exact decide_eq_true hlen
  refine wpAny_Call_method_lateS hbase hfew hline (ho c (bindW e) fun e p1 => ?_)
  obtain ⟨hat, e1⟩ := gdW e
  obtain ⟨t1, t2⟩ := methAt_sound (p1.st c) p1.val hat
  exact ⟨mty m, mid m, m_plain m, m_slot m, m_type m, t1, t2, Calls.callWith_builtin (noStars_plain hn) (args_plain hn (h (p1.st c) (bindW e1) fun e p2 =>
    evMeth_sound (p2.st (p1.st c)) (p1.val.per p2.stp.per) p2.val e fun e p3 => k e ⟨p3.heap, (p1.stp.trans p2.stp).trans p3.stp, p3.led, p3.nd, p3.val⟩))⟩
end
end UK
end
section
namespace UK
open PySem PySem.W PySem.Calls PyProof.Rows PySem.SeqAt
section
variable {G : Gl} {C : Ct} {A : Around} {env : Env} {cx : Cx} {w : Wd} {loc : Loc} {led led' : Led} {s : Shared}
theorem get_put {x y : Nat} {v : V} : ∀ {loc : Loc}, get (put loc x v) y = if y = x then some v else get loc y
  | [] => by
    show (if x = y then some v else none) = _
    by_cases h : x = y
    · rw [if_pos h, if_pos h.symm]
    · rw [if_neg h, if_neg (Ne.symm h)]; rfl
  | (z, u) :: r => by
    unfold put
    by_cases hz : z = x
    · subst hz
      rw [if_pos rfl]
      show (if z = y then some v else get r y) = if y = z then some v else (if z = y then some u else get r y)
      by_cases hy : z = y
      · rw [if_pos hy, if_pos hy.symm]
      · rw [if_neg hy, if_neg (Ne.symm hy), if_neg hy]
    · rw [if_neg hz]
      show (if z = y then some u else get (put r x v) y) = if y = x then some v else (if z = y then some u else get r y)
      rw [get_put (loc := r)]
      by_cases hy : z = y
      · subst hy; rw [if_pos rfl, if_neg hz, if_pos rfl]
      · rw [if_neg hy, if_neg hy]
structure Own (w w' : Wd) : Prop where
  own : w'.own = w.own
  prot : w'.prot = w.prot
  ads : w'.ads = w.ads
  keep : ∀ b o, w.h.get? b = some o → b ∉ w.own → w'.h.get? b = some o
theorem Own.refl (w : Wd) : Own w w := ⟨rfl, rfl, rfl, fun _ _ e _ => e⟩
theorem Own.trans {a b c : Wd} (x : Own a b) (y : Own b c) : Own a c := ⟨y.own.trans x.own, y.prot.trans x.prot, y.ads.trans x.ads, fun q o e n => y.keep q o (x.keep q o e n) (by rw [x.own]; exact n)⟩
theorem Own.per {w w' : Wd} (x : Own w w') : Per w w' :=
  { st := fun b o e h => ⟨x.keep b o e h.1, by rw [Wd.st, x.own, x.prot, x.ads]; exact h⟩, ref := fun k a e => by rw [x.ads]; exact e }
theorem Own.grow {w : Wd} {h' : Heap} (g : Grow w.h h') : Own w ⟨h', w.own, w.prot, w.ads⟩ := ⟨rfl, rfl, rfl, fun b o e _ => g b o e⟩
theorem Ns_unique {h : Heap} {a : Addr} {m m' : Str → Option Value} (x : h.Ns a m) (y : h.Ns a m') : m = m' := x.eq_nsMap.trans y.eq_nsMap.symm
theorem Conc.own (c : Conc G C A w env loc led) {w' : Wd} (P : Own w w') {loc' : Loc} (hf : FrameOk w' env) (hex : ∀ a ∈ w.own, ∃ o, w'.h.get? a = some o)
    (hl : ∀ x v, get loc' x = some v → x < C.nms.length ∧ ∃ val, NameIs w' env (C.nm x) val ∧ VR G w' v val) : Conc G C A w' env loc' led where
  keep := fun b o e => by
    obtain ⟨h1, h2⟩ := c.keep b o e
    exact P.per.st b o h1 h2
  glob := c.glob
  nolim := c.nolim
  handled := c.handled
  depth := c.depth
  units := c.units
  frame := hf
  locs := hl
  led := by
    rw [P.ads]
    exact c.led.move P.per fun a ha ob e => P.keep a ob e fun q => c.sep a (.inl q) ha
  nd := by rw [P.ads]; exact c.nd
  sep := by rw [P.own, P.prot, P.ads]; exact c.sep
  ownex := by
    rw [P.own, P.prot]
    intro a ha
    by_cases hm : a ∈ w.own
    · exact hex a hm
    · obtain ⟨o, ho⟩ := c.ownex a ha
      exact ⟨o, P.keep a o ho hm⟩
  inj := c.inj
  op := by rw [P.own, P.prot]; exact c.op
theorem getD_inj {l : List Str} {d : Str} (hn : l.Nodup) {x y : Nat} (hx : x < l.length) (hy : y < l.length) (h : l.getD x d = l.getD y d) : x = y := by
  rw [List.getD_eq_getElem?_getD, List.getD_eq_getElem?_getD, List.getElem?_eq_getElem hx, List.getElem?_eq_getElem hy] at h
  have h : l[x] = l[y] := h
  have hp := List.pairwise_iff_getElem.mp hn
  rcases Nat.lt_trichotomy x y with q | q | q
  · exact absurd h (hp x y hx hy q)
  · exact q
  · exact absurd h.symm (hp y x hy hx q)
theorem nm_inj (c : Conc G C A w env loc led) {x y : Nat} (hx : x < C.nms.length) (hy : y < C.nms.length) (h : C.nm x = C.nm y) : x = y := getD_inj c.inj hx hy h
noncomputable def storable (w : Wd) (env : Env) (x : Str) : Prop := env.kindOf x = some .local ∨ (env.kindOf x = some .cell ∧ ∃ c, env.cells.lookup x = some c ∧ c ∈ w.own)
theorem Conc.stored (c : Conc G C A w env loc led) {w' : Wd} (P : Own w w') (hf : FrameOk w' env) (hex : ∀ a ∈ w.own, ∃ o, w'.h.get? a = some o) {n : Nat} {v : V} {val : Value} (hn : n < C.nms.length)
    (hnew : NameIs w' env (C.nm n) val) (r : VR G w v val) (hold : ∀ {y u}, y < C.nms.length → y ≠ n → NameIs w env (C.nm y) u → NameIs w' env (C.nm y) u) : Conc G C A w' env (put loc n v) led :=
  c.own P hf hex fun y u e => by
    rw [get_put] at e
    by_cases hy : y = n
    · rw [if_pos hy] at e
      obtain rfl := Option.some.inj e
      subst hy
      exact ⟨hn, val, hnew, r.per P.per⟩
    · rw [if_neg hy] at e
      obtain ⟨l, u', i, ru⟩ := c.locs y u e
      exact ⟨l, u', hold l hy i, ru.per P.per⟩
variable {Q : Unit → Shared → Prop}
theorem store_conc (c : St G C A env w loc led s) {n : Nat} {v : V} {val : Value} (hn : n < C.nms.length) (hk : storable w env (C.nm n)) (r : VR G w v val) {E : Value → Shared → Prop}
    (k : ∀ {w' s'}, Own w w' → St G C A env w' (put loc n v) led s' → Q () s') : wpAny (Mo G) A (storeName env (C.nm n) val) Q E s := by
  have f := c.conc.frame
  obtain ⟨m, hm⟩ := f.ns
  have hmS := hm
  rw [c.heap.1] at hmS
  rcases hk with hk | ⟨hk, cc, lc, mo⟩
  · refine wpAny_storeName_local hk hmS (fun h' hn' hs' => ?_) (by rw [f.kind]; rfl)
    have hs' : Heap.SameBut env.locals w.h h' := c.heap.1 ▸ hs'
    have P : Own w ⟨h', w.own, w.prot, w.ads⟩ := ⟨rfl, rfl, rfl, fun b o e hb => hs'.extBut b o (fun q => hb (q ▸ f.lin)) e⟩
    refine k P ⟨c.conc.stored P ⟨f.kind, f.globals, f.builtins, ⟨_, hn'⟩, f.lin, fun x q => ?_, f.inj⟩ (fun a ha => ?_) hn (.inl ⟨hk, _, hn', if_pos rfl, c.conc.sep _ (.inl f.lin)⟩) r fun {y u} l hy i => ?_, rfl, c.heap.2⟩
    · obtain ⟨cc, o, l, ⟨ob, i, hd⟩, m1, n1⟩ := f.cells x q
      exact ⟨cc, o, l, ⟨ob, hs'.extBut cc ob n1 i, hd⟩, m1, n1⟩
    · by_cases q : a = env.locals
      · subst q; obtain ⟨o, _, _, ho, _⟩ := hn'; exact ⟨o, ho⟩
      · obtain ⟨o, ho⟩ := c.conc.ownex a (.inl ha); exact ⟨o, hs'.extBut a o q ho⟩
    · rcases i with ⟨k1, m1, hm1, e1, a1⟩ | ⟨k1, cc, l1, ⟨ob, i1, hd⟩, a1⟩
      · obtain rfl := Ns_unique hm hm1
        exact .inl ⟨k1, _, hn', (if_neg (fun q => hy (nm_inj c.conc l hn q))).trans e1, a1⟩
      · obtain ⟨c2, o2, l2, _, _, n2⟩ := f.cells _ k1
        obtain rfl := Option.some.inj (l1.symm.trans l2)
        exact .inr ⟨k1, cc, l1, ⟨ob, hs'.extBut cc ob n2 i1, hd⟩, a1⟩
  · obtain ⟨c0, o, l, i, _, ne⟩ := f.cells _ (.inl hk)
    obtain rfl := Option.some.inj (l.symm.trans lc)
    refine wpAny_storeName_cell f.kind hk l (c.heap.1 ▸ i) fun h' hc' hs' => ?_
    have hs' : Heap.SameBut c0 w.h h' := c.heap.1 ▸ hs'
    have P : Own w ⟨h', w.own, w.prot, w.ads⟩ := ⟨rfl, rfl, rfl, fun b o e hb => hs'.extBut b o (fun q => hb (q ▸ mo)) e⟩
    refine k P ⟨c.conc.stored P ⟨f.kind, f.globals, f.builtins, ⟨m, Ns_get hm fun o e => hs'.extBut _ o (Ne.symm ne) e⟩, f.lin, fun x q => ?_, f.inj⟩ (fun a ha => ?_) hn (.inr ⟨.inl hk, c0, l, hc', c.conc.sep _ (.inl mo)⟩) r fun {y u} l' hy i => ?_, rfl, c.heap.2⟩
    · obtain ⟨c2, o2, l2, ⟨ob, i2, hd⟩, m2, n2⟩ := f.cells x q
      by_cases hc : c2 = c0
      · subst hc; exact ⟨c2, _, l2, hc', m2, n2⟩
      · exact ⟨c2, o2, l2, ⟨ob, hs'.extBut c2 ob hc i2, hd⟩, m2, n2⟩
    · by_cases q : a = c0
      · subst q; obtain ⟨o, ho, _⟩ := hc'; exact ⟨o, ho⟩
      · obtain ⟨o, ho⟩ := c.conc.ownex a (.inl ha); exact ⟨o, hs'.extBut a o q ho⟩
    · rcases i with ⟨k1, m1, hm1, e1, a1⟩ | ⟨k1, c2, l1, ⟨ob, i1, hd⟩, a1⟩
      · exact .inl ⟨k1, m1, Ns_get hm1 fun o e => hs'.extBut _ o (Ne.symm ne) e, e1, a1⟩
      · have hne : c2 ≠ c0 := fun q => hy (nm_inj c.conc l' hn (f.inj _ _ c2 k1 (.inl hk) l1 (q ▸ l)))
        exact .inr ⟨k1, c2, l1, ⟨ob, hs'.extBut c2 ob hne i1, hd⟩, a1⟩
theorem elimB {α : Type} {o : Option α} {f : α → Bool} (h : o.elim false f = true) : ∃ a, o = some a ∧ f a = true := by
  cases o with
  | none => exact Bool.noConfusion h
  | some a => exact ⟨a, rfl, h⟩
noncomputable def asName : Expr → Option Str
  | .Name id _ => some id
  | _ => none
theorem asName_is {x : Expr} {id : Str} (h : asName x = some id) : ∃ p, x = .Name id p := by
  cases x
  case Name => exact ⟨_, by rw [← Option.some.inj h]⟩
  all_goals exact nomatch h
noncomputable def asTuple : Expr → Option (List Expr)
  | .Tuple es _ _ => some es
  | _ => none
theorem asTuple_is {x : Expr} {es : List Expr} (h : asTuple x = some es) : ∃ k p, x = .Tuple es k p := by
  cases x
  case Tuple => exact ⟨_, _, by rw [← Option.some.inj h]⟩
  all_goals exact nomatch h
mutual
noncomputable def isT (C : Ct) (sc : Scope) (fl : Bool) : T → Expr → Bool
  | .name x, e => (asName e).elim false fun id => decide (x < C.nms.length) && id == C.nm x && (sc.names.lookup id == some .local || (fl && sc.names.lookup id == some .cell))
  | .tup ts, e => (asTuple e).elim false fun es => isTs C sc fl ts es
noncomputable def isTs (C : Ct) (sc : Scope) (fl : Bool) : List T → List Expr → Bool
  | [], es => es.isEmpty
  | t :: ts, es => match es with
    | e :: es => isT C sc fl t e && isTs C sc fl ts es
    | [] => false
end
theorem isT_noStar {sc : Scope} {fl : Bool} {t : T} {e : Expr} (h : isT C sc fl t e = true) : noStar e = true := by
  cases t with
  | name x => obtain ⟨id, h1, _⟩ := elimB h; obtain ⟨p, rfl⟩ := asName_is h1; rfl
  | tup ts => obtain ⟨id, h1, _⟩ := elimB h; obtain ⟨k, p, rfl⟩ := asTuple_is h1; rfl
theorem assignEach_cons {e : Expr} {es : List Expr} (h : noStar e = true) : assignEach (e :: es) env = (false, assign e env) :: assignEach es env := by
  cases e <;> first | rfl | exact Bool.noConfusion h
theorem isTs_len {sc : Scope} {fl : Bool} : ∀ {ts : List T} {es : List Expr}, isTs C sc fl ts es = true → (assignEach es env).length = ts.length ∧ (assignEach es env).findIdx? (·.1) = none
  | [], [], _ => ⟨rfl, rfl⟩
  | [], _ :: _, h => Bool.noConfusion h
  | _ :: _, [], h => Bool.noConfusion h
  | t :: ts, e :: es, h => by
    obtain ⟨h1, h2⟩ := isTs_len (andB h).2
    rw [assignEach_cons (isT_noStar (andB h).1)]
    exact ⟨congrArg (· + 1) h1, by rw [List.findIdx?_cons, h2]; rfl⟩
noncomputable def FnOk (own : List Addr) (env : Env) : Prop := ∀ x, env.kindOf x = some .cell → ∃ c, env.cells.lookup x = some c ∧ c ∈ own
theorem kind_of' {sc : Scope} (hsc : env.scope = sc) {x : Str} {k : NameKind} (h : (sc.names.lookup x == some k) = true) : env.kindOf x = some k := by unfold Env.kindOf; rw [hsc]; exact eq_of_beq h
theorem D.tupW {v : D} {K : List D → Prop} (h : v.tup?.elim False K) : ∃ d, v = .tup d ∧ K d := by
  cases v <;> first | exact ⟨_, rfl, h⟩ | exact h.elim
theorem bindDs_len : ∀ {ts : List T} {ds : List D} {loc loc' : Loc}, bindDs ts ds loc = some loc' → ds.length = ts.length
  | [], [], _, _, _ => rfl
  | [], _ :: _, _, _, h => nomatch h
  | _ :: _, [], _, _, h => nomatch h
  | t :: ts, d :: ds, loc, loc', h => by
    obtain ⟨l, _, h⟩ := bindE h
    exact congrArg (· + 1) (bindDs_len h)
mutual
theorem bindD_conc {sc : Scope} {fl : Bool} (hsc : env.scope = sc) {own : List Addr} (hfl : fl = true → FnOk own env) : ∀ {t : T} {e : Expr} {d : D} {w : Wd} {loc : Loc} {led : Led} {val : Value} {s : Shared} {E : Value → Shared → Prop} {K : Loc → Prop} {Q : Unit → Shared → Prop},
    isT C sc fl t e = true → St G C A env w loc led s → w.own = own → DR w d val → (bindD t d loc).elim False K → (∀ {loc' w' s'}, K loc' → Own w w' → St G C A env w' loc' led s' → Q () s') → wpAny (Mo G) A (assign e env val) Q E s
  | .name x, e, d, w, loc, led, val, s, E, K, Q, ht, c, ho, r, eb, k => by
    obtain ⟨id, h1, h2⟩ := elimB ht
    obtain ⟨pos, rfl⟩ := asName_is h1
    obtain ⟨h3, h4⟩ := andB h2
    obtain ⟨h5, h6⟩ := andB h3
    obtain rfl := eq_of_beq h6
    refine wpAny_assign_Name (store_conc (v := .d d) c (of_decide_eq_true h5) ?_ r fun P c' => k eb P c')
    rcases Bool.or_eq_true_iff.mp h4 with h | h
    · exact .inl (kind_of' hsc h)
    · have hkc := kind_of' hsc (andB h).2
      obtain ⟨cc, l, m⟩ := hfl (andB h).1 _ hkc
      exact .inr ⟨hkc, cc, l, ho ▸ m⟩
  | .tup ts, e, d, w, loc, led, val, s, E, K, Q, ht, c, ho, r, eb, k => by
    obtain ⟨es, h1, h2⟩ := elimB ht
    obtain ⟨kk, pos, rfl⟩ := asTuple_is h1
    obtain ⟨ds, rfl, eb⟩ := D.tupW (bindW eb)
    obtain ⟨a, vs, rfl, i, st, dd⟩ := r
    obtain ⟨l1, l2⟩ := isTs_len (env := env) h2
    obtain ⟨loc', hb, _⟩ := isW eb
    rw [c.heap.1] at i
    refine wpAny_assign_Tuple c.conc.handled i (by rw [l1, ← bindDs_len hb]; exact dd.size) l2 fun h' hx => ?_
    have g : Grow w.h h' := fun b o e => by rw [c.heap.1] at e; exact hx b o (Nat.ne_of_lt (Heap.lt_size e)) e
    exact bindDs_conc hsc hfl (s := { s with heap := h' }) h2 ⟨c.conc.grow g, rfl, c.heap.2⟩ ho (dd.per (Stp.grow g).per) eb fun e P c' => k e ((Own.grow g).trans P) c'
theorem bindDs_conc {sc : Scope} {fl : Bool} (hsc : env.scope = sc) {own : List Addr} (hfl : fl = true → FnOk own env) : ∀ {ts : List T} {es : List Expr} {ds : List D} {w : Wd} {loc : Loc} {led : Led} {vals : List Value} {s : Shared} {E : Value → Shared → Prop} {K : Loc → Prop} {Q : Unit → Shared → Prop},
    isTs C sc fl ts es = true → St G C A env w loc led s → w.own = own → DRs w ds vals → (bindDs ts ds loc).elim False K → (∀ {loc' w' s'}, K loc' → Own w w' → St G C A env w' loc' led s' → Q () s') → wpAny (Mo G) A (assignInOrder ((assignEach es env).map (·.2)) vals) Q E s
  | [], [], [], w, loc, led, vals, s, E, K, Q, _, c, ho, r, eb, k => wpAny_pure (k eb (Own.refl w) c)
  | [], [], _ :: _, w, loc, led, vals, s, E, K, Q, _, c, ho, r, eb, k => eb.elim
  | [], _ :: _, _, _, _, _, _, _, _, _, _, h, _, _, _, _, _ => Bool.noConfusion h
  | _ :: _, [], _, _, _, _, _, _, _, _, _, h, _, _, _, _, _ => Bool.noConfusion h
  | _ :: _, _ :: _, [], _, _, _, _, _, _, _, _, _, _, _, _, eb, _ => eb.elim
  | _ :: _, _ :: _, _ :: _, _, _, _, [], _, _, _, _, _, _, _, r, _, _ => r.elim
  | t :: ts, e :: es, d :: ds, w, loc, led, val :: vals, s, E, K, Q, h, c, ho, r, eb, k => by
    rw [assignEach_cons (isT_noStar (andB h).1)]
    show wpAny _ _ (do holding vals (assign e env val); assignInOrder ((assignEach es env).map (·.2)) vals) _ _ _
    exact wpAny_bind (wpAny_holding (bindD_conc hsc hfl (andB h).1 c ho r.1 (bindW eb) fun e P c' => bindDs_conc hsc hfl (andB h).2 c' (P.own.trans ho) (r.2.per P.per) e fun e2 P2 c2 => k e2 (P.trans P2) c2))
end
end
end UK
end
section
set_option genInjectivity false
set_option genSizeOf false
namespace UK
open PySem PySem.W PySem.Calls PyProof.Rows PySem.SeqAt
structure At (wr : List Addr) (w w' : Wd) : Prop where
  own : w'.own = w.own
  prot : w'.prot = w.prot
  ads : w'.ads = w.ads
  keep : ∀ b o, w.h.get? b = some o → b ∉ wr → w'.h.get? b = some o
theorem At.per {wr : List Addr} {w w' : Wd} (x : At wr w w') (h : ∀ b ∈ wr, b ∈ w.prot) : Per w w' :=
  { st := fun b o e hs => ⟨x.keep b o e fun q => hs.2.1 (h b q), by rw [Wd.st, x.own, x.prot, x.ads]; exact hs⟩, ref := fun k a e => by rw [x.ads]; exact e }
theorem At.refl (wr : List Addr) (w : Wd) : At wr w w := ⟨rfl, rfl, rfl, fun _ _ e _ => e⟩
noncomputable def Plain (h : Heap) (I : Addr) : Prop := ∃ o n, h.get? I = some o ∧ o.cls = .type n ∧
  (["enumerate", "zip", "dict_itemiterator", "dict_reverseitemiterator", "odict_iterator", "itertools.zip_longest", "itertools.pairwise"].contains n) = false
inductive ItAt (G : Gl) (A : Around) (w : Wd) : List Addr → Bool → Src → Value → Prop
  | live {k i : Nat} {I a : Addr} (ha : w.ads[k]? = some a) (it : w.h.IsListIter I a i) : ItAt G A w [I] false (.live k i) (.ref I)
  | row {xs : List D} {I : Addr} {fp : List Addr} {n : Nat} {P : Nat → Value → Prop} {S : Nat → Heap → Prop} {i : Nat} (W : Walks G.p G.w A I fp [I] n P S) (st : S i w.h) (hf : ∀ b ∈ fp, b ∈ [I] ∨ (w.st b ∧ ∃ o, w.h.get? b = some o)) (hi : i ≤ n)
      (hl : xs.length = n - i) (hp : ∀ i h, S i h → Plain h I) (hd : ∀ j v x, P j v → i ≤ j → xs[j - i]? = some x → DR w x v) : ItAt G A w [I] false (.fz xs) (.ref I)
  | enum {e I l : Addr} {items : Array Value} {i : Nat} {old : Value} {ys : List D} (he : IsEnum w.h e I ((i : Nat) : Int) old) (hI : w.h.IsListIter I l i) (hl : w.h.IsList l items) (st : w.st l) (ne : e ≠ I) (d : DRs w ys (items.toList.drop i)) : ItAt G A w [e, I] true (.fz (enumD i ys)) (.ref e)
section
variable {G : Gl} {C : Ct} {A : Around} {env : Env} {cx : Cx} {w : Wd} {loc : Loc} {led led' : Led} {s : Shared}
theorem ItAt.keep {wr : List Addr} {en : Bool} {src : Src} {it : Value} {w w' : Wd} (x : ItAt G A w wr en src it) (P : PerD w w') (hr : ∀ k i a, src = .live k i → w.ads[k]? = some a → w'.ads[k]? = some a)
    (hw : ∀ b ∈ wr, ∀ o, w.h.get? b = some o → w'.h.get? b = some o) : ItAt G A w' wr en src it := by
  cases x with
  | live ha it => obtain ⟨o, ho, r⟩ := it; exact .live (hr _ _ _ rfl ha) ⟨o, hw _ (.head _) o ho, r⟩
  | row W st hf hi hl hp hd =>
    refine .row W (W.frame _ _ _ st fun b hb o e => ?_) (fun b hb => (hf b hb).imp id fun ⟨h, o, q⟩ => ⟨(P.st b o q h).2, o, (P.st b o q h).1⟩) hi hl hp fun j v y h1 h2 h3 => (hd j v y h1 h2 h3).perD P
    exact (hf b hb).elim (fun h => hw b h o e) fun h => (P.st b o e h.1).1
  | enum he hI hl st ne d =>
    obtain ⟨ol, hol, rl⟩ := id hl
    obtain ⟨oi, hoi, ri⟩ := id hI
    exact .enum (hw _ (.head _) _ he) ⟨oi, hw _ (.tail _ (.head _)) _ hoi, ri⟩ ⟨ol, (P.st _ ol hol st).1, rl⟩ (P.st _ ol hol st).2 ne (d.perD P)
theorem letGo_plain {I : Addr} {v : Value} {t : Expr} {E : Value → Shared → Prop} {Q : Unit → Shared → Prop} {M : Model} (h : Plain s.heap I) (hQ : Q () s) : wpAny M A (letOwnedTupleGo t (.ref I) v) Q E s := by
  obtain ⟨o, n, ho, hc, hn⟩ := h
  unfold letOwnedTupleGo
  split
  all_goals first
    | exact wpAny_pure hQ
    | (split
       · rename_i r a e
         cases e
         refine wpAny_bind (wpAny_load ho ?_)
         rw [hc]
         split
         · rename_i m vs e1 e2
           cases e1
           rw [hn]
           exact wpAny_pure hQ
         · exact wpAny_pure hQ
       · exact wpAny_pure hQ)
theorem listiter_plain {h : Heap} {I l : Addr} {i : Nat} (x : h.IsListIter I l i) : Plain h I := let ⟨o, ho, hc, _⟩ := x; ⟨o, _, ho, hc, by decide⟩
theorem tupleiter_plain {h : Heap} {I l : Addr} {i : Nat} (x : h.IsTupleIter I l i) : Plain h I := let ⟨o, ho, hc, _⟩ := x; ⟨o, _, ho, hc, by decide⟩
theorem drop_nil {α : Type} {l : List α} {i : Nat} (h : l.drop i = []) : l[i]? = none := by
  rw [List.getElem?_eq_none_iff]; simpa using h
theorem drop_cons {α : Type} {l : List α} {i : Nat} {x : α} {r : List α} (h : l.drop i = x :: r) : l[i]? = some x ∧ l.drop (i + 1) = r := by
  have h1 : (l.drop i)[0]? = some x := by rw [h]; rfl
  rw [List.getElem?_drop] at h1
  exact ⟨by simpa using h1, by rw [← List.drop_drop, h]; rfl⟩
theorem mem1 {α : Type} {a b : α} (h : a ∈ [b]) : a = b := List.mem_singleton.mp h
theorem mem2 {α : Type} {a b c : α} (h : a ∈ [b, c]) : a = b ∨ a = c := (List.mem_cons.mp h).imp id mem1
theorem ItAt.ex {wr : List Addr} {en : Bool} {src : Src} {it : Value} (x : ItAt G A w wr en src it) : ∀ b ∈ wr, ∃ o, w.h.get? b = some o := by
  intro b hb
  cases x with
  | live ha it => obtain rfl := mem1 hb; exact it.imp fun _ h => h.1
  | row W st hf hi hl hp hd => obtain rfl := mem1 hb; obtain ⟨o, _, ho, _⟩ := hp _ _ st; exact ⟨o, ho⟩
  | enum he hI => rcases mem2 hb with rfl | rfl; exact ⟨_, he⟩; exact hI.imp fun _ h => h.1
theorem Conc.at_ {wr : List Addr} {w' : Wd} (c : Conc G C A w env loc led) (P : At wr w w') (hwp : ∀ b ∈ wr, b ∈ w.prot) (hce : ∀ {a}, Held env a → a ∉ wr)
    (hex : ∀ b ∈ wr, ∃ o, w'.h.get? b = some o) : Conc G C A w' env loc led := by
  refine c.to (P.per hwp).toPerD (fun hb e n => ⟨P.keep _ _ e (hce hb), P.ads ▸ n⟩) (fun m => P.own ▸ m) (fun _ m => by rw [P.own, P.prot]; exact m) (fun _ r => r.per (P.per hwp)) ?_ (P.ads ▸ c.nd) (by rw [P.own, P.prot, P.ads]; exact c.sep) (fun a ha => ?_) (by rw [P.own, P.prot]; exact c.op)
  · rw [P.ads]
    exact c.led.move (P.per hwp) fun a ha o e => P.keep a o e fun q => c.sep a (.inr (hwp a q)) ha
  · rw [P.own, P.prot] at ha
    by_cases q : a ∈ wr
    · exact hex a q
    · exact (c.ownex a ha).imp fun o ho => P.keep a o ho q
structure NextTo (G : Gl) (A : Around) (w : Wd) (wr : List Addr) (en : Bool) (it : Value) (r : Option (D × Src)) (Q : Option Value → Shared → Prop) : Prop where
  fin : r = none → ∀ {w' s'}, Hp G w' s' → At wr w w' → Q none s'
  item : ∀ {y src'}, r = some (y, src') → ∀ {v s'}, (∀ (t : Expr) (E' : Value → Shared → Prop) (R : Unit → Shared → Prop), (en = true → ∃ es k pos, t = .Tuple es k pos) →
      (∀ {w' s2}, Hp G w' s2 → At wr w w' → DR w' y v → ItAt G A w' wr en src' it → R () s2) → wpAny (Mo G) A (letOwnedTupleGo t it v) R E' s') → Q (some v) s'
theorem ItAt.next {wr : List Addr} {en : Bool} {src : Src} {it : Value} {E : Value → Shared → Prop} {r : Option (D × Src)} {Q : Option Value → Shared → Prop} (x : ItAt G A w wr en src it) (hh : Hp G w s) (hl : ORs G w led w.ads) (hA : A.handled = none)
    (hw : ∀ b ∈ wr, b ∈ w.prot) (hex : ∀ a, a ∈ w.own ∨ a ∈ w.prot → ∃ o, w.h.get? a = some o) (ev : src.next led = some r) (K : NextTo G A w wr en it r Q) : wpAny (Mo G) A (pyNext it) Q E s := by
  cases x with
  | @live k i I a ha it =>
    have hsp : ∀ {h' : Heap}, (∀ b o, b ≠ I → s.heap.get? b = some o → h'.get? b = some o) → At [I] w ⟨h', w.own, w.prot, w.ads⟩ := fun k =>
      ⟨rfl, rfl, rfl, fun b o e hb => k b o (fun q => hb (q ▸ .head _)) (hh.1 ▸ e)⟩
    obtain ⟨xs, h1, rfl⟩ := mapE ev
    obtain ⟨o, h2, h3⟩ := bindE h1
    obtain ⟨_, rfl, rfl⟩ := O.listW (toW h3 rfl)
    obtain ⟨b, hb, vs, il, d⟩ := hl.get h2
    obtain rfl := Option.some.inj (ha.symm.trans hb)
    cases hx : xs[i]? with
    | none => exact wpAny_pyNext_list_end hA (hh.1 ▸ it) (hh.1 ▸ il.list) (by rw [← Array.getElem?_toList]; exact d.get_none hx) fun h' he => K.fin (by rw [hx]; rfl) ⟨rfl, hh.2⟩ (hsp fun b o hb e => he b o hb e)
    | some z =>
      obtain ⟨v, hv, hr⟩ := d.get hx
      refine wpAny_pyNext_list_item (hh.1 ▸ it) (hh.1 ▸ il.list) (by rw [← Array.getElem?_toList]; exact hv) fun h' hit' hs' => K.item (by rw [hx]; rfl) fun t E' R _ kR => ?_
      have P := hsp fun b o hb e => hs'.extBut b o hb e
      exact letGo_plain (listiter_plain hit') (kR ⟨rfl, hh.2⟩ P (hr.per (P.per hw)) (.live ha hit'))
  | @row xs I fp n Pv S i W st hf hi hlen hp hd =>
    obtain rfl := Option.some.inj ev
    have hsp : ∀ {h' : Heap}, (∀ b o, b ∉ [I] → s.heap.get? b = some o → h'.get? b = some o) → At [I] w ⟨h', w.own, w.prot, w.ads⟩ := fun k =>
      ⟨rfl, rfl, rfl, fun b o e hb => k b o hb (hh.1 ▸ e)⟩
    cases xs with
    | nil =>
      have : i = n := Nat.le_antisymm hi (Nat.le_of_sub_eq_zero hlen.symm)
      subst this
      exact W.done s _ _ (hh.1 ▸ st) fun h' tk k => K.fin rfl ⟨rfl, hh.2⟩ (hsp k)
    | cons z zs =>
      have hlen : zs.length + 1 = n - i := hlen
      refine W.item i s _ _ (by omega) (hh.1 ▸ st) fun v h' tk hv st' k => K.item rfl fun t E' R _ kR => ?_
      have P := hsp k
      refine letGo_plain (hp _ _ st') (kR ⟨rfl, hh.2⟩ P ((hd i v _ hv (Nat.le_refl _) (by rw [Nat.sub_self]; rfl)).per (P.per hw)) (.row W st' (fun b hb => (hf b hb).imp id fun ⟨h, o, q⟩ => ⟨h, o, k b o (fun q' => h.2.1 (hw b q')) (hh.1 ▸ q)⟩)
        (by omega) (by omega) hp fun j u x h1 h2 h3 => (hd j u x h1 (by omega) ?_).per (P.per hw)))
      rw [show j - i = (j - (i + 1)) + 1 by omega]; exact h3
  | @enum e I l items i old ys he hI hl' st ne d =>
    have hsp : ∀ {h' : Heap}, (∀ b o, b ≠ e → b ≠ I → s.heap.get? b = some o → h'.get? b = some o) → At [e, I] w ⟨h', w.own, w.prot, w.ads⟩ := fun k =>
      ⟨rfl, rfl, rfl, fun b o q hb => k b o (fun q => hb (q ▸ .head _)) (fun q => hb (q ▸ .tail _ (.head _))) (hh.1 ▸ q)⟩
    obtain rfl := Option.some.inj ev
    cases ys with
    | nil =>
      have d0 : items.toList.drop i = [] := by
        cases q : items.toList.drop i with
        | nil => rfl
        | cons _ _ => rw [q] at d; exact d.elim
      exact wpAny_pyNext_enum_end hA (hh.1 ▸ he) (hh.1 ▸ hI) (hh.1 ▸ hl') (by rw [← Array.getElem?_toList]; exact drop_nil d0) fun h' he' => K.fin rfl ⟨rfl, hh.2⟩ (hsp fun b o h1 h2 q => he' b o h2 q)
    | cons y1 ys' =>
      cases q : items.toList.drop i with
      | nil => rw [q] at d; exact d.elim
      | cons v vs' =>
        rw [q] at d
        obtain ⟨hv, hd'⟩ := drop_cons q
        refine wpAny_pyNext_enum_item (hh.1 ▸ he) (hh.1 ▸ hI) (hh.1 ▸ hl') (by rw [← Array.getElem?_toList]; exact hv) ne fun h1 o1 i1 t1 z1 k1 => K.item rfl fun t E' R ht kR => ?_
        obtain ⟨es, k, pos, rfl⟩ := ht rfl
        refine wpAny_letOwnedTupleGo_enum o1 fun h2 he2 hs2 => ?_
        replace hs2 : Heap.SameBut e h1 h2 := hs2
        have P := hsp (h' := h2) fun b o n1 n2 q => hs2.extBut b o n1 (k1 b o n1 n2 q)
        have PP := P.per hw
        have heH : e < s.heap.objs.size := Heap.lt_size (hh.1 ▸ he : s.heap.get? e = some _)
        have hf : w.h.get? s.heap.objs.size = none := by rw [hh.1]; exact fresh_size
        have no : ∀ {P : Prop}, (∃ o, w.h.get? s.heap.objs.size = some o) → P := fun ⟨o, ho⟩ => nomatch hf.symm.trans ho
        refine kR ⟨rfl, hh.2⟩ P ⟨_, #[.int i s.toks, v], rfl, ⟨_, hs2.extBut _ _ (Nat.ne_of_gt heH) t1, rfl, 0, rfl⟩, ⟨fun m => no (hex _ (.inl m)), fun m => no (hex _ (.inr m)), fun m => no (hl.obj _ m)⟩, ⟨_, rfl⟩, d.1.per PP, trivial⟩ (.enum (i := i + 1) (items := items) (old := v) ?_ ?_ ?_ st ne ?_)
        · exact he2
        · obtain ⟨oi, hoi, ri⟩ := i1
          exact ⟨oi, hs2.extBut _ _ (Ne.symm ne) hoi, ri⟩
        · obtain ⟨ol, hol, rl⟩ := id hl'
          exact ⟨ol, (PP.st l ol hol st).1, rl⟩
        · rw [hd']; exact d.2.per PP
structure SrcPost (G : Gl) (A : Around) (w : Wd) (n : Nat) (en : Bool) (src : Src) (it : Value) (s' : Shared) (wr : List Addr) : Prop where
  fr : ∀ b ∈ wr, w.h.get? b = none ∧ ∃ o, s'.heap.get? b = some o
  g : Grow w.h s'.heap
  rs : Rs G s'
  at' : ItAt G A ⟨s'.heap, w.own, wr ++ w.prot, w.ads.take n⟩ wr en src it
theorem take_sub {l : List Addr} {n : Nat} {a : Addr} (h : a ∈ l.take n) : a ∈ l := List.mem_of_mem_take h
theorem st_more {wr : List Addr} {h' : Heap} {n : Nat} {a : Addr} (hs : a ∉ w.own ∧ a ∉ w.prot ∧ a ∉ w.ads.take n) (hwr : a ∉ wr) : Wd.st ⟨h', w.own, wr ++ w.prot, w.ads.take n⟩ a :=
  ⟨hs.1, fun m => (List.mem_append.mp m).elim hwr hs.2.1, hs.2.2⟩
theorem Wd.st.tk {a : Addr} {n : Nat} (hs : w.st a) : a ∉ w.own ∧ a ∉ w.prot ∧ a ∉ w.ads.take n := ⟨hs.1, hs.2.1, fun m => hs.2.2 (take_sub m)⟩
theorem nodup_take {l : List Addr} {n k : Nat} {a : Addr} (hn : l.Nodup) (h : l[k]? = some a) (hk : n ≤ k) : a ∉ l.take n := fun m => by
  have h2 : a ∈ l.drop n := List.mem_of_getElem? (i := k - n) (by rw [List.getElem?_drop, Nat.add_sub_cancel' hk]; exact h)
  rw [← List.take_append_drop n l] at hn
  exact (List.nodup_append.mp hn).2.2 a m a h2 rfl
variable {n : Nat} {E : Value → Shared → Prop} {Q : Value → Shared → Prop}
theorem SrcPost.one {en : Bool} {src : Src} {o : Obj} {s' : Shared} (c : St G C A env w loc led s) (hs : s'.heap = s.heap.push o) (hfr : o.isFreed = false) (hr : Rs G s') (h : ItAt G A ⟨s'.heap, w.own, [s.heap.objs.size] ++ w.prot, w.ads.take n⟩ [s.heap.objs.size] en src (.ref s.heap.objs.size)) :
    SrcPost G A w n en src (.ref s.heap.objs.size) s' [s.heap.objs.size] :=
  ⟨fun b hb => by obtain rfl := mem1 hb; exact ⟨c.heap.1 ▸ fresh_size, o, hs ▸ Heap.get?_push_size _ hfr⟩, hs ▸ c.heap.1 ▸ Grow.push _ _, hr, h⟩
theorem perD_more {h' : Heap} (c : St G C A env w loc led s) (g : Grow w.h h') : PerD w ⟨h', w.own, [s.heap.objs.size] ++ w.prot, w.ads.take n⟩ :=
  ⟨fun b o e hst => ⟨g b o e, st_more hst.tk fun q => by obtain rfl := mem1 q; rw [c.heap.1, fresh_size] at e; cases e⟩⟩
theorem iter_list (c : St G C A env w loc led s) {a : Addr} {vs : Array Value} {xs : List D} (i : w.h.IsList a vs) (d : DRs w xs vs.toList)
    (hs : a ∉ w.own ∧ a ∉ w.prot ∧ a ∉ w.ads.take n) (k : ∀ {it s' wr}, SrcPost G A w n false (.fz xs) it s' wr → Q it s') : wpAny (Mo G) A (pyIter (.ref a)) Q E s := by
  refine wpAny_pyIter_list (c.heap.1 ▸ i) (k (SrcPost.one c rfl rfl c.heap.2 ?_))
  have g : Grow w.h (s.heap.push { cls := .type "list_iterator", data := .fields #[.ref a, .int 0 0] }) := c.heap.1 ▸ Grow.push _ _
  obtain ⟨o, ho, r⟩ := id i
  have ha : a ≠ s.heap.objs.size := fun q => by rw [c.heap.1, q, fresh_size] at ho; cases ho
  refine .row (Walks.list c.conc.handled _ a ha vs) (i := 0) ⟨⟨_, Heap.get?_push_size _ rfl, rfl, rfl⟩, ⟨o, g a o ho, r⟩⟩ (fun b hb => ?_) (Nat.zero_le _) d.size (fun i h st => listiter_plain st.1) fun j v x h1 _ h3 => ?_
  · rcases mem2 hb with rfl | rfl
    · exact .inl (.head _)
    · exact .inr ⟨st_more hs fun q => ha (mem1 q), o, g _ o ho⟩
  · obtain ⟨v', hv, hr⟩ := d.get (i := j) h3
    rw [Array.getElem?_toList, h1] at hv
    obtain rfl := Option.some.inj hv
    exact hr.perD (perD_more c g)
theorem iter_tuple (c : St G C A env w loc led s) {a : Addr} {vs : Array Value} {xs : List D} (i : w.h.IsTuple a vs) (d : DRs w xs vs.toList) (st : w.st a) (k : ∀ {it s' wr}, SrcPost G A w n false (.fz xs) it s' wr → Q it s') : wpAny (Mo G) A (pyIter (.ref a)) Q E s := by
  refine wpAny_pyIter_tuple (c.heap.1 ▸ i) (k (SrcPost.one c rfl rfl c.heap.2 ?_))
  have g : Grow w.h (s.heap.push { cls := .type "tuple_iterator", data := .fields #[.ref a, .int 0 0] }) := c.heap.1 ▸ Grow.push _ _
  obtain ⟨o, ho, r⟩ := id i
  have ha : a ≠ s.heap.objs.size := fun q => by rw [c.heap.1, q, fresh_size] at ho; cases ho
  refine .row (Walks.tuple c.conc.handled _ a ha vs) (i := 0) ⟨⟨_, Heap.get?_push_size _ rfl, rfl, rfl⟩, ⟨o, g a o ho, r⟩⟩ (fun b hb => ?_) (Nat.zero_le _) d.size (fun i h st => tupleiter_plain st.1) fun j v x h1 _ h3 => ?_
  · rcases mem2 hb with rfl | rfl
    · exact .inl (.head _)
    · exact .inr ⟨st_more st.tk fun q => ha (mem1 q), o, g _ o ho⟩
  · obtain ⟨v', hv, hr⟩ := d.get (i := j) h3
    rw [Array.getElem?_toList, h1] at hv
    obtain rfl := Option.some.inj hv
    exact hr.perD (perD_more c g)
theorem iter_str (c : St G C A env w loc led s) {x : Str} {t : Tok} (k : ∀ {it s' wr}, SrcPost G A w n false (.fz (chars x)) it s' wr → Q it s') : wpAny (Mo G) A (pyIter (.str x t)) Q E s := by
  have body : ∀ (ty : String) (W : Walks G.p G.w A s.heap.objs.size [s.heap.objs.size] [s.heap.objs.size] x.cps.size (SignAt x) (fun i h => h.IsStrIter s.heap.objs.size ty x t i)) (hn : (["enumerate", "zip", "dict_itemiterator", "dict_reverseitemiterator", "odict_iterator", "itertools.zip_longest", "itertools.pairwise"].contains ty) = false),
      Q (.ref s.heap.objs.size) { s with heap := s.heap.push { cls := .type ty, data := .fields #[.str x t, .int 0 0] } } := fun ty W hn =>
    k (SrcPost.one (s' := { s with heap := s.heap.push { cls := .type ty, data := .fields #[.str x t, .int 0 0] } }) c rfl rfl c.heap.2 (.row W (i := 0) ⟨_, Heap.get?_push_size _ rfl, rfl, rfl⟩ (fun b hb => .inl hb) (Nat.zero_le _) (by simp [chars]) (fun i h ⟨o, ho, hc, _⟩ => ⟨o, ty, ho, hc, hn⟩) fun j v y h1 _ h3 => by
      obtain ⟨ch, u, e1, rfl⟩ := h1
      unfold chars at h3
      rw [Nat.sub_zero, List.getElem?_map, show x.cps.toList[j]? = some ch by simpa using e1] at h3
      obtain rfl := Option.some.inj h3
      exact ⟨u, rfl⟩))
  cases ha : x.cps.all (· < 128)
  · exact wpAny_pyIter_wide ha (body _ (Walks.strWide c.conc.handled _ x t) (by decide))
  · exact wpAny_pyIter_ascii ha (body _ (Walks.strAscii c.conc.handled _ x t) (by decide))
theorem listW' (c : St G C A env w loc led s) {v : V} {val : Value} {K : List D → Prop} (r : VR G w v val) (hk : ∀ k, v = .ref k → n ≤ k) (e : (led.list v).elim False K) :
    ∃ a vs xs, val = .ref a ∧ w.h.IsList a vs ∧ DRs w xs vs.toList ∧ (a ∉ w.own ∧ a ∉ w.prot ∧ a ∉ w.ads.take n) ∧ K xs := by
  cases v with
  | lst ys => obtain ⟨a, vs, rfl, i, st, d⟩ := r; exact ⟨a, vs, ys, rfl, i.list, d, st.tk, e⟩
  | ref k =>
    obtain ⟨a, rfl, ha⟩ := r
    obtain ⟨o, h, e1⟩ := isW (bindW e)
    obtain ⟨xs, rfl, e2⟩ := O.listW e1
    obtain ⟨b, hb, vs, i, d⟩ := c.conc.led.get h
    obtain rfl := Option.some.inj (ha.symm.trans hb)
    have hm := mem_of_getElem? ha
    exact ⟨a, vs, xs, rfl, i.list, d, ⟨fun m => c.conc.sep a (.inl m) hm, fun m => c.conc.sep a (.inr m) hm, nodup_take c.conc.nd ha (hk k rfl)⟩, e2⟩
  | _ => exact e.elim
theorem iter_e (c : St G C A env w loc led s) {v : V} {val : Value} {K : Src → Prop} (r : VR G w v val) (e : (srcE n led [v]).elim False K) (k : ∀ {src it s' wr}, K src → SrcPost G A w n false src it s' wr → Q it s') : wpAny (Mo G) A (pyIter val) Q E s := by
  have hlist : (∀ k, v = .ref k → n ≤ k) → ((led.list v).map .fz).elim False K → wpAny (Mo G) A (pyIter val) Q E s := fun hk e => by
    obtain ⟨a, vs, xs, rfl, i, d, hs, e1⟩ := listW' (n := n) c r hk (mapW e)
    exact iter_list c i d hs (k e1)
  cases v with
  | ref j =>
    have e : (if j < n then (ledL led (.ref j)).map fun p => Src.live j 0 else (led.list (.ref j)).map .fz).elim False K := e
    by_cases hj : j < n
    · rw [if_pos hj] at e
      obtain ⟨k', a, vs, xs, m, rfl, ha, i, io, d, _, e1⟩ := ledW c r (mapW e)
      obtain ⟨a', q, ha'⟩ := r
      cases q
      exact wpAny_pyIter_list ⟨_, io, rfl, m, rfl⟩ (k e1 (SrcPost.one c rfl rfl c.heap.2 (.live (by show (w.ads.take n)[j]? = some a; rw [List.getElem?_take_of_lt hj]; exact ha') ⟨_, Heap.get?_push_size _ rfl, rfl, rfl⟩)))
    · rw [if_neg hj] at e
      exact hlist (fun i q => by cases q; omega) e
  | d x =>
    cases x with
    | str x => obtain ⟨t, rfl⟩ := r; exact iter_str c (k e)
    | tup xs => obtain ⟨a, vs, rfl, i, st, d⟩ := r; exact iter_tuple c i d st (k e)
    | _ => exact e.elim
  | lst ys => exact hlist nofun e
  | _ => exact e.elim
theorem rngW {lo hi st : Int} {K : List D → Prop} (e : (rng lo hi st).elim False K) : (st ≠ 0 ∧ Builtin.Range.small lo hi st = true ∧ Builtin.divisionGoesByPylong (hi - lo) st = false) ∧
    K ((List.range (Builtin.Range.rangeSize lo hi st).toNat).map fun (i : Nat) => D.int (lo + (i : Int) * st)) := by
  unfold rng at e
  by_cases h : st ≠ 0 ∧ Builtin.Range.small lo hi st = true ∧ Builtin.divisionGoesByPylong (hi - lo) st = false
  · rw [if_pos h] at e; exact ⟨h, e⟩
  · rw [if_neg h] at e; exact e.elim
theorem rangeSize_nn (a b c : Int) : 0 ≤ Builtin.Range.rangeSize a b c := by
  unfold Builtin.Range.rangeSize
  split
  · split
    · have := Int.ediv_nonneg (a := b - a - 1) (b := c) (by omega) (by omega); omega
    · exact Int.le_refl _
  · split
    · have := Int.ediv_nonneg (a := a - b - 1) (b := -c) (by omega) (by omega); omega
    · exact Int.le_refl _
theorem iter_rng (c : St G C A env w loc led s) {r : Addr} {lo hi st : Int} {t u v : Tok} (hr : IsRange s.heap r lo hi st t u v) (h1 : Builtin.Range.small lo hi st = true)
    (k : ∀ {it s' wr}, SrcPost G A w n false (.fz ((List.range (Builtin.Range.rangeSize lo hi st).toNat).map fun (i : Nat) => D.int (lo + (i : Int) * st))) it s' wr → Q it s') : wpAny (Mo G) A (pyIter (.ref r)) Q E s := by
  have hn := rangeSize_nn lo hi st
  refine wpAny_pyIter_range hr h1 (k (SrcPost.one c rfl rfl c.heap.2 (.row (Walks.range (prog := G.p) (w := G.w) c.conc.handled s.heap.objs.size lo st (Builtin.Range.rangeSize lo hi st).toNat) (i := 0) ?_ (fun b hb => .inl hb) (Nat.zero_le _) (by simp) (fun i h st => ⟨_, _, st, rfl, by decide⟩) fun j v y h1 _ h3 => ?_)))
  · show IsRangeIter _ _ (lo + ((0 : Nat) : Int) * st) ((((Builtin.Range.rangeSize lo hi st).toNat : Nat) : Int) - ((0 : Nat) : Int)) st
    have e1 : lo + ((0 : Nat) : Int) * st = lo := by simp
    have e2 : (((Builtin.Range.rangeSize lo hi st).toNat : Nat) : Int) - ((0 : Nat) : Int) = Builtin.Range.rangeSize lo hi st := by simp; omega
    rw [e1, e2]
    exact Heap.get?_push_size _ rfl
  · obtain ⟨t', rfl⟩ := h1
    rw [Nat.sub_zero, List.getElem?_map] at h3
    obtain ⟨j', h4, rfl⟩ := mapE h3
    obtain ⟨_, e⟩ := List.getElem?_eq_some_iff.mp h4
    rw [List.getElem_range] at e
    exact ⟨t', by rw [e]⟩
structure SI1 (G : Gl) (A : Around) (w : Wd) (led1 : Led) (n : Nat) (en : Bool) (src : Src) (it : Value) (s2 : Shared) (w1 : Wd) (wr : List Addr) : Prop where
  stp : Stp w w1
  led : ORs G w1 led1 w1.ads
  nd : w1.ads.Nodup
  sp : SrcPost G A w1 n en src it s2 wr
noncomputable def SI (G : Gl) (C : Ct) (A : Around) (env : Env) (cx : Cx) (k : IK) (its : List UK.E) (x : Expr) (en : Bool) : Prop :=
  ∀ {w : Wd} {loc : Loc} {led : Led} {s : Shared} {n : Nat} {K : Led → Src → Prop} {Q : Value → Shared → Prop}, St G C A env w loc led s → (evEs cx its loc led).elim False (fun p => (srcOf n p.2 k p.1).elim False (K p.2)) →
    (∀ {led1 src it s2 w1 wr}, K led1 src → SI1 G A w led1 n en src it s2 w1 wr → Q it s2) → wpAny (Mo G) A (eval x env) (fun xv s1 => wpAny (Mo G) A (pyIter xv) Q NoE s1) NoE s
theorem SI.e {e : UK.E} {x : Expr} (h : SE G C A env cx e x) : SI G C A env cx .e [e] x false := fun c e k =>
  h c (bindW e) fun {p val s' w'} e p1 => iter_e (p1.st c) p1.val e fun e sp => k e ⟨p1.stp, p1.led, p1.nd, sp⟩
theorem args_call {f : Value} {es : List UK.E} {xs : List Expr} {pos : Pos} {K : List V × Led → Prop} (c : St G C A env w loc led s) (hf : (∃ id, f = .builtin id) ∨ ∃ T, f = .type T) (hn : noStars xs = true)
    (h : SEs G C A env cx es xs) (e : (evEs cx es loc led).elim False K) (k : ∀ {p w1 vals s1}, K p → PostEs G w p.2 p.1 vals s1 w1 → wpAny (Mo G) A (call f vals) Q NoE s1) :
    wpAny (Mo G) A (callWith pos f [] (backTo pos (starEach xs env)) []) Q NoE s :=
  callWith_bi hf (noStars_plain hn) (args_plain hn (h c e k))
theorem SI.range {es : List UK.E} {ID : Str} {xs : List Expr} {p pos : Pos} (hk : env.kindOf ID = some .globalImplicit) (hv : G.look ID = some (.type "range")) (hd : (ID == ("__debug__" : Str)) = false)
    (hn : noStars xs = true) (h : SEs G C A env cx es xs) : SI G C A env cx .range es (.Call (.Name ID p) xs [] pos) false := fun {w loc led s n K Q} c e kk => by
  refine Call_ (global_name c hk hv hd (args_call c (.inr ⟨_, rfl⟩) hn h e fun {q w1 vals s1} e p1 => ?_))
  have fin : ∀ {lo hi st : Int} {t u v : Tok} {tk : Nat}, ((rng lo hi st).map .fz).elim False (K q.2) →
      wpAny (Mo G) A (pyIter (.ref s1.heap.objs.size)) Q NoE { s1 with heap := s1.heap.push { cls := .type "range", data := .fields #[.int lo t, .int hi u, .int st v] }, toks := tk } := fun {lo hi st t u v tk} e1 => by
    obtain ⟨⟨_, h1, _⟩, e2⟩ := rngW (mapW e1)
    have g : Grow w1.h (s1.heap.push { cls := .type "range", data := .fields #[.int lo t, .int hi u, .int st v] }) := p1.heap.1 ▸ Grow.push _ _
    have c1 := (p1.st c).conc.grow g
    exact iter_rng (s := { s1 with heap := s1.heap.push { cls := .type "range", data := .fields #[.int lo t, .int hi u, .int st v] }, toks := tk }) ⟨c1, rfl, p1.heap.2⟩ (Heap.get?_push_size _ rfl) h1 fun sp => kk e2 ⟨p1.stp.trans (Stp.grow g), c1.led, p1.nd, sp⟩
  have pv := p1.val
  obtain ⟨vs, l1⟩ := q
  match vs, e, pv with
  | [a], e, pv =>
    obtain ⟨x, rfl, r⟩ := pv.one
    obtain ⟨i, rfl, e1⟩ := V.intW (bindW e)
    obtain ⟨t, rfl⟩ := r
    exact call_range_1 (fin e1)
  | [a, b], e, pv =>
    obtain ⟨x, y, rfl, r1, r2⟩ := pv.two
    obtain ⟨i, rfl, e1⟩ := V.intW (bindW e)
    obtain ⟨j, rfl, e2⟩ := V.intW (bindW e1)
    obtain ⟨t, rfl⟩ := r1; obtain ⟨u, rfl⟩ := r2
    exact call_range_2 (fin e2)
  | [a, b, d], e, pv =>
    obtain ⟨x, y, z, rfl, r1, r2, r3⟩ := pv.three
    obtain ⟨i, rfl, e1⟩ := V.intW (bindW e)
    obtain ⟨j, rfl, e2⟩ := V.intW (bindW e1)
    obtain ⟨m, rfl, e3⟩ := V.intW (bindW e2)
    obtain ⟨t, rfl⟩ := r1; obtain ⟨u, rfl⟩ := r2; obtain ⟨v, rfl⟩ := r3
    obtain ⟨⟨h0, _, h2⟩, _⟩ := rngW (mapW e3)
    exact call_range_3 h0 (fin e3) (.inl h2)
theorem SI.enum {e0 : UK.E} {ID : Str} {x : Expr} {p pos : Pos} (hk : env.kindOf ID = some .globalImplicit) (hv : G.look ID = some (.type "enumerate")) (hd : (ID == ("__debug__" : Str)) = false)
    (hn : noStar x = true) (h : SE G C A env cx e0 x) : SI G C A env cx .enum [e0] (.Call (.Name ID p) [x] [] pos) true := fun {w loc led s n K Q} c e kk => by
  refine Call_ (global_name c hk hv hd (args_call c (.inr ⟨_, rfl⟩) (by unfold noStars; simp [hn]) (SEs.cons hn h SEs.nil) e fun {q w1 vals s1} e p1 => ?_))
  obtain ⟨v, val, rfl, r, e0⟩ := oneW p1.val (bindW e)
  have main : (∀ k, v = .ref k → n ≤ k) → ((q.2.list v).map fun xs => Src.fz (enumD 0 xs)).elim False (K q.2) → wpAny (Mo G) A (call (.type "enumerate") [val]) (fun xv s1 => wpAny (Mo G) A (pyIter xv) Q NoE s1) NoE s1 := fun hk e => by
    obtain ⟨a, us, xs, rfl, i, d, hs, e1⟩ := listW' (n := n) (p1.st c) r hk (mapW e)
    refine call_enumerate_list (p1.heap.1 ▸ i) fun h' he hI hz k => ?_
    have g : Grow w1.h h' := fun b o e => k b o (p1.heap.1 ▸ e)
    obtain ⟨o, ho, ro⟩ := id i
    have hlt : a < s1.heap.objs.size := by rw [p1.heap.1] at ho; exact Heap.lt_size ho
    have fr : ∀ b, s1.heap.objs.size ≤ b → w1.h.get? b = none := fun b hb => by
      cases q : w1.h.get? b with
      | none => rfl
      | some o => rw [p1.heap.1] at q; exact absurd (Heap.lt_size q) (Nat.not_lt.mpr hb)
    have mm : ∀ {b}, b ∈ [s1.heap.objs.size + 1, s1.heap.objs.size] → s1.heap.objs.size ≤ b := fun m => (mem2 m).elim (fun q => q ▸ Nat.le_succ _) fun q => q ▸ Nat.le_refl _
    obtain ⟨oI, hoI, rI⟩ := id hI
    refine wpAny_pyIter_enum he (kk (wr := [s1.heap.objs.size + 1, s1.heap.objs.size]) e1 ⟨p1.stp, p1.led, p1.nd, fun b hb => ⟨fr b (mm hb), ?_⟩, g, p1.heap.2, .enum he hI ⟨o, g a o ho, ro⟩ (st_more hs fun m => absurd hlt (Nat.not_lt.mpr (mm m))) (Nat.succ_ne_self _) ?_⟩)
    · exact (mem2 hb).elim (fun q => q ▸ ⟨_, he⟩) fun q => q ▸ ⟨_, hoI⟩
    · exact d.perD ⟨fun b o e hst => ⟨g b o e, st_more hst.tk fun q => by rw [fr _ (mm q)] at e; cases e⟩⟩
  cases v with
  | ref k =>
    have e0 : (if k < n then none else (q.2.list (.ref k)).map fun xs => Src.fz (enumD 0 xs)).elim False (K q.2) := e0
    by_cases hk' : k < n
    · rw [if_pos hk'] at e0; exact e0.elim
    · rw [if_neg hk'] at e0; exact main (fun j q => by cases q; omega) e0
  | lst ys => exact main nofun e0
  | _ => exact e0.elim
end
end UK
end
section
namespace UK
open PySem PySem.W PySem.Calls PyProof.Rows PySem.SeqAt
section
variable {G : Gl} {C : Ct} {A : Around} {env : Env} {cx : Cx} {w : Wd} {loc : Loc} {led led' : Led} {s : Shared}
noncomputable def Wd.cut (w : Wd) (n : Nat) : Wd := ⟨w.h, w.own, w.prot, w.ads.take n⟩
theorem cutD (w : Wd) (n : Nat) : PerD w (w.cut n) := ⟨fun b o e h => ⟨e, h.1, h.2.1, fun m => h.2.2 (List.mem_of_mem_take m)⟩⟩
theorem VR.cut {n : Nat} {v : V} {val : Value} (r : VR G w v val) (hb : UK.below n v = true) : VR G (w.cut n) v val := r.mvB (cutD w n) hb fun k a h e => (List.getElem?_take_of_lt h).trans e
theorem Conc.cut (c : Conc G C A w env loc led) (n : Nat) (hb : ∀ {x v}, get loc x = some v → UK.below n v = true) : Conc G C A (w.cut n) env loc (led.take n) :=
  c.to (cutD w n) (fun _ e a => ⟨e, fun q => a (List.mem_of_mem_take q)⟩) id (fun _ m => m) (fun e r => r.cut (hb e)) ((c.led.take n).moveD (cutD w n) fun a _ o e => e) (c.nd.sublist (List.take_sublist n w.ads)) (fun a h m => c.sep a h (List.mem_of_mem_take m)) c.ownex c.op
theorem Conc.weaken (c : Conc G C A w env loc led) {loc' : Loc} (h : ∀ x v, get loc' x = some v → get loc x = some v) : Conc G C A w env loc' led :=
  { c with locs := fun x v e => c.locs x v (h x v e) }
theorem ItAt.self {wr : List Addr} {en : Bool} {src : Src} {it : Value} {E : Value → Shared → Prop} {Q : Value → Shared → Prop} (x : ItAt G A w wr en src it) (hh : Hp G w s) (h : Q it s) : wpAny (Mo G) A (pyIter it) Q E s := by
  cases x with
  | live ha it => exact wpAny_pyIter_listiter (hh.1 ▸ it) h
  | row W st hf hi hl hp hd => exact W.self _ s _ _ (hh.1 ▸ st) h
  | enum he hI hl st ne d => exact wpAny_pyIter_enum (hh.1 ▸ he) h
noncomputable def closOf (env : Env) : List (Str × NameKind) → List (Str × Addr) → List (Str × Addr)
  | [], cs => cs
  | (n, k) :: r, cs => closOf env r (if k == .free then (match env.cells.lookup n with | some c => (n, c) :: cs | none => cs) else cs)
theorem closureFor_is {scope : Scope} (h : ∀ x ∈ scope.names, x.2 = .free → (env.cells.lookup x.1).isSome = true) : closureFor scope env = pure (closOf env scope.names []) := by
  simp only [closureFor]
  have key : ∀ (l : List (Str × NameKind)) (cs : List (Str × Addr)), (∀ x ∈ l, x.2 = .free → (env.cells.lookup x.1).isSome = true) →
      (forIn l cs fun x cs => (do
        let (name, kind) := x
        if (kind == .free) = true then do
          let c ← cellOf env name
          pure (ForInStep.yield ((name, c) :: cs))
        else pure (ForInStep.yield cs) : Sem (ForInStep (List (Str × Addr))))) = pure (closOf env l cs) := by
    intro l
    induction l with
    | nil => intro cs _; rfl
    | cons x l ih =>
      intro cs hx
      obtain ⟨n, k⟩ := x
      rw [List.forIn_cons]
      unfold closOf
      by_cases hk : (k == NameKind.free) = true
      · have hf := hx (n, k) (List.mem_cons_self ..) (eq_of_beq hk)
        obtain ⟨cc, hc⟩ := Option.isSome_iff_exists.mp hf
        simp only [hk, if_true]
        have e1 : cellOf env n = pure cc := by unfold cellOf; rw [show env.cells.lookup n = some cc from hc]
        rw [e1, show env.cells.lookup n = some cc from hc]
        simp only [pure_bind]
        exact ih _ fun y hy => hx y (List.mem_cons_of_mem _ hy)
      · simp only [hk]
        exact ih _ fun y hy => hx y (List.mem_cons_of_mem _ hy)
  have := key scope.names [] h
  simp only [] at this ⊢
  rw [← this]
  first | rfl | simp only [bind_pure]
theorem closOf_lookup : ∀ (l : List (Str × NameKind)) (cs : List (Str × Addr)) (x : Str) (c : Addr), env.cells.lookup x = some c → ((x, NameKind.free) ∈ l ∨ cs.lookup x = some c) → (closOf env l cs).lookup x = some c
  | [], cs, x, c, _, h => by
    rcases h with h | h
    · cases h
    · exact h
  | (n, k) :: l, cs, x, c, e, h => by
    unfold closOf
    refine closOf_lookup l _ x c e ?_
    by_cases hn : x = n
    · subst hn
      by_cases hk : (k == NameKind.free) = true
      · rw [if_pos hk, e]
        exact .inr (by simp)
      · rw [if_neg hk]
        rcases h with h | h
        · rcases List.mem_cons.mp h with h | h
          · cases h; exact absurd (beq_self_eq_true NameKind.free) hk
          · exact .inl h
        · exact .inr h
    · rcases h with h | h
      · rcases List.mem_cons.mp h with h | h
        · cases h; exact absurd rfl hn
        · exact .inl h
      · refine .inr ?_
        split
        · split
          · rw [List.lookup_cons, show (x == n) = false by simpa using hn]; exact h
          · exact h
        · exact h
noncomputable def testBody (env : Env) : Expr → Bool → Sem (ForInStep Bool) := fun c r => if r = true then do let ok ← isTrue c env (eval c env); pure (ForInStep.yield ok) else pure (ForInStep.yield r)
noncomputable def TurnQ (R : Result → Shared → Prop) (c : Code) (I : Shared → Prop) (r : Fin) (s : Shared) : Prop := match r with
  | .done f => R (.ok f) s
  | .again c' => c' = c ∧ I s
theorem compLoop_own {elt target iter : Expr} {ifs : List Expr} {scope : Scope} {pos : Pos} {it acc : Value} {env : Env} {R : Result → Shared → Prop} (I : Nat → Shared → Prop)
    (turn : ∀ n s, I n s → wpAny (Mo G) A (compTurn (.ListComp elt [⟨target, iter, ifs, 0⟩] scope pos) 0 it acc env) (TurnQ R (.compLoop (.ListComp elt [⟨target, iter, ifs, 0⟩] scope pos) 0 it acc env) fun s => ∃ m, m < n ∧ I m s) NoE s) (n : Nat) (h : I n s) : codeAny (Mo G) A (.compLoop (.ListComp elt [⟨target, iter, ifs, 0⟩] scope pos) 0 it acc env) R s := by
  refine codeAny_loop rfl I (fun n s hI => ?_) n h
  show wpAny _ A ((compTurn (.ListComp elt [⟨target, iter, ifs, 0⟩] scope pos) 0 it acc env).onRaise (fun x => do noteFrame x env; theTreesLotGoes x)) _ _ s
  exact wpAny_noted (falseE (turn n s hI))
noncomputable def STs (G : Gl) (C : Ct) (A : Around) (env : Env) (cx : Cx) (es : List E) (xs : List Expr) : Prop :=
  ∀ {w : Wd} {loc : Loc} {led : Led} {s : Shared} {K : Bool × Led → Prop} {Q : Bool → Shared → Prop}, St G C A env w loc led s → (evConds cx es loc led).elim False K →
    (∀ {p : Bool × Led} {s' : Shared} {w' : Wd}, K p → PostE G w p.2 (.d .none) .none s' w' → Q p.1 s') → wpAny (Mo G) A (forIn xs true (testBody env)) Q NoE s
theorem STs.nil : STs G C A env cx [] [] := fun c e k => wpAny_pure (k e (c.val rfl))
theorem tests_false {M : Model} {E : Value → Shared → Prop} {Q : Bool → Shared → Prop} : ∀ (xs : List Expr) {s : Shared}, Q false s → wpAny M A (forIn xs false (testBody env)) Q E s
  | [], s, h => wpAny_pure h
  | x :: xs, s, h => by
    rw [List.forIn_cons]
    exact wpAny_bind (wpAny_pure (tests_false xs h))
noncomputable def CondsK (cx : Cx) (es : List E) (loc : Loc) (K : Bool × Led → Prop) (l : Led) (t : Bool) : Prop := (cond t (evConds cx es loc l) (some (false, l))).elim False K
theorem STs.cons {e : E} {es : List E} {x : Expr} {xs : List Expr} (h1 : ST G C A env cx e x) (h2 : STs G C A env cx es xs) : STs G C A env cx (e :: es) (x :: xs) := fun {w loc led s K Q} c e k => by
  rw [List.forIn_cons]
  refine wpAny_bind (wpAny_bind (h1 (K := CondsK cx es loc K) c ?_ fun {l b s' w'} e p => wpAny_pure ?_))
  · obtain ⟨p, hp, e⟩ := isW (bindW e)
    exact toW hp (bindW e)
  · cases b with
    | true => exact h2 (p.st c) e fun e2 p2 => k e2 (p.trans p2)
    | false => exact tests_false xs (k e p)
theorem foldedSet_other {iter : Expr} (h : (match iter with | .Set _ _ _ => false | _ => true) = true) (x : Value) : foldedSetIterable iter env x = pure x := by
  cases iter <;> first | rfl | exact Bool.noConfusion h
noncomputable def compOk (sc scope : Scope) : Bool :=
  (scope.kind == .function) && scope.names.all fun (n, k) => k != .cell && (k != .free || (sc.names.lookup n == some .cell || sc.names.lookup n == some .free)) && (k != .local || scope.names.lookup n == some .local)
noncomputable def relab (sc scope : Scope) : Scope :=
  { scope with names := scope.names.map fun (n, k) => if (k == .free && sc.kind == .function && sc.names.lookup n == some .cell) then (n, .cell) else (n, k) }
mutual
noncomputable def tNames : T → List Nat
  | .name x => [x]
  | .tup ts => tsNames ts
noncomputable def tsNames : List T → List Nat
  | [] => []
  | t :: ts => tNames t ++ tsNames ts
end
mutual
theorem bindD_get : ∀ {t : T} {d : D} {loc loc' : Loc} {x : Nat}, bindD t d loc = some loc' → x ∉ tNames t → get loc' x = get loc x
  | .name y, d, loc, loc', x, h, hx => by
    obtain rfl := Option.some.inj h
    exact get_put.trans (if_neg fun q => hx (by rw [q]; exact .head _))
  | .tup ts, d, loc, loc', x, h, hx => by
    obtain ⟨ds, _, h2⟩ := bindE h
    exact bindDs_get h2 hx
theorem bindDs_get : ∀ {ts : List T} {ds : List D} {loc loc' : Loc} {x : Nat}, bindDs ts ds loc = some loc' → x ∉ tsNames ts → get loc' x = get loc x
  | [], ds, loc, loc', _, h, _ => by
    obtain ⟨_, _, rfl⟩ := mapE h
    rfl
  | _ :: _, [], _, _, _, h, _ => nomatch h
  | t :: ts, d :: ds, loc, loc', x, h, hx => by
    obtain ⟨loc1, e1, e2⟩ := bindE h
    exact (bindDs_get e2 fun q => hx (List.mem_append_right _ q)).trans (bindD_get e1 fun q => hx (List.mem_append_left _ q))
end
theorem get_capt {caps : List Nat} {loc : Loc} {x : Nat} {v : V} (h : get (capt caps loc) x = some v) : get loc x = some v ∧ x ∈ caps := by
  unfold capt at h
  induction caps with
  | nil => cases h
  | cons y caps ih =>
    rw [List.filterMap_cons] at h
    cases e : get loc y with
    | none =>
      rw [e] at h
      obtain ⟨h1, h2⟩ := ih h
      exact ⟨h1, List.mem_cons_of_mem _ h2⟩
    | some u =>
      rw [e] at h
      simp only [Option.map_some, get] at h
      by_cases hy : y = x
      · subst hy
        rw [if_pos rfl] at h
        exact ⟨e.trans h, List.mem_cons_self ..⟩
      · rw [if_neg hy] at h
        obtain ⟨h1, h2⟩ := ih h
        exact ⟨h1, List.mem_cons_of_mem _ h2⟩
theorem lookup_map2 {g : Str → NameKind → NameKind} : ∀ {l : List (Str × NameKind)} {x : Str}, (l.map fun (n, k) => (n, g n k)).lookup x = (l.lookup x).map (g x)
  | [], x => rfl
  | (n, k) :: l, x => by
    show List.lookup x ((n, g n k) :: l.map fun (n, k) => (n, g n k)) = _
    by_cases h : x = n
    · subst h; simp
    · rw [List.lookup_cons, List.lookup_cons, show (x == n) = false by simpa using h]
      exact lookup_map2
noncomputable def relabK (sc : Scope) (n : Str) (k : NameKind) : NameKind := if (k == .free && sc.kind == .function && sc.names.lookup n == some .cell) then .cell else k
theorem relab_lookup {sc scope : Scope} {x : Str} : (relab sc scope).names.lookup x = (scope.names.lookup x).map (relabK sc x) := by
  rw [← lookup_map2]
  show List.lookup x (scope.names.map _) = _
  congr 1
  refine List.map_congr_left fun p _ => ?_
  obtain ⟨n, k⟩ := p
  show (if (k == .free && sc.kind == .function && sc.names.lookup n == some .cell) then (n, .cell) else (n, k)) = (n, relabK sc n k)
  unfold relabK
  split <;> rfl
theorem lookup_mem {l : List (Str × NameKind)} {x : Str} {k : NameKind} (h : l.lookup x = some k) : (x, k) ∈ l := by
  induction l with
  | nil => cases h
  | cons p l ih =>
    obtain ⟨n, k'⟩ := p
    rw [List.lookup_cons] at h
    by_cases hn : x = n
    · subst hn; rw [beq_self_eq_true] at h; cases h; exact List.mem_cons_self ..
    · rw [show (x == n) = false by simpa using hn] at h; exact List.mem_cons_of_mem _ (ih h)
end
end UK
end
section
namespace UK
open PySem PySem.W PySem.Calls PyProof.Rows PySem.SeqAt
section
variable {G : Gl} {C : Ct} {A : Around} {env : Env} {cx : Cx} {w : Wd} {loc : Loc} {led led' : Led} {s : Shared}
theorem compOk_at {sc scope : Scope} (h : compOk sc scope = true) : scope.kind = .function ∧ (∀ x ∈ scope.names, x.2 ≠ .cell) ∧ (∀ x ∈ scope.names, x.2 = .free → sc.names.lookup x.1 = some .cell ∨ sc.names.lookup x.1 = some .free) ∧
    (∀ x ∈ scope.names, x.2 = .local → scope.names.lookup x.1 = some .local) := by
  have key : ∀ x ∈ scope.names, (x.2 != .cell && (x.2 != .free || (sc.names.lookup x.1 == some .cell || sc.names.lookup x.1 == some .free)) && (x.2 != .local || scope.names.lookup x.1 == some .local)) = true := fun x hx => List.all_eq_true.mp (andB h).2 x hx
  refine ⟨eq_of_beq (andB h).1, fun x hx e => ?_, fun x hx e => ?_, fun x hx e => ?_⟩
  · have k1 := (andB (andB (key x hx)).1).1
    rw [e] at k1; exact Bool.noConfusion k1
  · have k1 := (andB (andB (key x hx)).1).2
    rw [e] at k1
    exact (Bool.or_eq_true_iff.mp ((Bool.or_eq_true_iff.mp k1).resolve_left (by decide))).imp eq_of_beq eq_of_beq
  · have k1 := (andB (key x hx)).2
    rw [e] at k1
    exact eq_of_beq k1
theorem outer_kind {sc scope : Scope} (hok : compOk sc scope = true) {x : Str} (h : (relab sc scope).names.lookup x = some .cell ∨ (relab sc scope).names.lookup x = some .free) :
    scope.names.lookup x = some .free ∧ (sc.names.lookup x = some .cell ∨ sc.names.lookup x = some .free) := by
  obtain ⟨_, k2, k3, _⟩ := compOk_at hok
  rw [relab_lookup] at h
  have main : ∃ k, scope.names.lookup x = some k ∧ (relabK sc x k = .cell ∨ relabK sc x k = .free) := h.elim (fun h => (mapE h).imp fun k q => ⟨q.1, .inl q.2⟩) fun h => (mapE h).imp fun k q => ⟨q.1, .inr q.2⟩
  obtain ⟨k, e, h2⟩ := main
  have hm := lookup_mem e
  have hk : k = .free := by
    unfold relabK at h2
    by_cases hc : (k == .free && sc.kind == .function && sc.names.lookup x == some .cell) = true
    · exact eq_of_beq (andB (andB hc).1).1
    · rw [if_neg hc] at h2
      exact h2.resolve_left (k2 _ hm)
  subst hk
  exact ⟨e, k3 _ hm rfl⟩
theorem Conc.comp {scope : Scope} (c : Conc G C A w env loc led) (hok : compOk env.scope scope = true) {caps : List Nat} (hcap : ∀ x ∈ caps, scope.names.lookup (C.nm x) = some .free)
    {h' : Heap} {wr : List Addr} {D L : Addr} {m : Str → Option Value} (g : Grow w.h h') (hwr : ∀ b ∈ wr, w.h.get? b = none ∧ ∃ o, h'.get? b = some o) (hD : w.h.get? D = none) (hL : w.h.get? L = none) (hDL : D ≠ L) (hDw : D ∉ wr) (hLw : L ∉ wr)
    (hd : IsL h' D #[]) (hns : h'.Ns L m) :
    Conc G C A ⟨h', [L], wr ++ (w.own ++ w.prot), w.ads ++ [D]⟩ (compEnvC scope (closOf env scope.names []) L env) (capt caps loc) (led ++ [.list []]) := by
  obtain ⟨k1, k2, k3, k4⟩ := compOk_at hok
  have hrel : (compEnvC scope (closOf env scope.names []) L env).scope = relab env.scope scope := rfl
  have hkind : ∀ {x}, (compEnvC scope (closOf env scope.names []) L env).kindOf x = (relab env.scope scope).names.lookup x := rfl
  have okind : ∀ {x}, env.kindOf x = env.scope.names.lookup x := rfl
  have cellAt : ∀ x, (compEnvC scope (closOf env scope.names []) L env).kindOf x = some .cell ∨ (compEnvC scope (closOf env scope.names []) L env).kindOf x = some .free →
      (env.kindOf x = some .cell ∨ env.kindOf x = some .free) ∧ ∀ cc, env.cells.lookup x = some cc → (closOf env scope.names []).lookup x = some cc := by
    intro x hx
    rw [hkind] at hx
    obtain ⟨h1, h2⟩ := outer_kind hok hx
    exact ⟨h2, fun cc e => closOf_lookup _ _ _ _ e (.inl (lookup_mem h1))⟩
  have sst : ∀ b, (∃ o, w.h.get? b = some o) → w.st b → Wd.st ⟨h', [L], wr ++ (w.own ++ w.prot), w.ads ++ [D]⟩ b := fun b ⟨o, ho⟩ hs => by
    refine ⟨fun q => ?_, fun q => ?_, fun q => ?_⟩
    · rw [List.mem_singleton] at q; subst q; rw [hL] at ho; cases ho
    · rcases List.mem_append.mp q with q | q
      · rw [(hwr b q).1] at ho; cases ho
      · rcases List.mem_append.mp q with q | q
        · exact hs.1 q
        · exact hs.2.1 q
    · rcases List.mem_append.mp q with q | q
      · exact hs.2.2 q
      · rw [List.mem_singleton] at q; subst q; rw [hD] at ho; cases ho
  have P : Per w ⟨h', [L], wr ++ (w.own ++ w.prot), w.ads ++ [D]⟩ :=
    { st := fun b o e hs => ⟨g b o e, sst b ⟨o, e⟩ hs⟩, ref := fun k a e => pre_get (List.prefix_append _ _) e }
  exact {
    keep := fun b o e => P.st b o (c.keep b o e).1 (c.keep b o e).2
    glob := c.glob
    nolim := c.nolim
    handled := c.handled
    depth := c.depth
    units := c.units
    frame := {
      kind := k1
      globals := c.frame.globals
      builtins := c.frame.builtins
      ns := ⟨m, hns⟩
      lin := List.mem_singleton.mpr rfl
      cells := fun x hx => by
        obtain ⟨h1, h2⟩ := cellAt x hx
        obtain ⟨cc, o, l, ⟨ob, i, hdt⟩, mo, ne⟩ := c.frame.cells x h1
        refine ⟨cc, o, h2 cc l, ⟨ob, g _ _ i, hdt⟩, .inr ?_, fun q => ?_⟩
        · refine List.mem_append.mpr (.inr (List.mem_append.mpr mo))
        · have : cc = L := q
          subst this; rw [hL] at i; cases i
      inj := fun x y cc hx hy l1 l2 => by
        obtain ⟨h1, h2⟩ := cellAt x hx
        obtain ⟨h3, h4⟩ := cellAt y hy
        obtain ⟨c1, _, e1, _⟩ := c.frame.cells x h1
        obtain ⟨c2, _, e2, _⟩ := c.frame.cells y h3
        have q1 := h2 c1 e1
        have q2 := h4 c2 e2
        have l1' : (closOf env scope.names []).lookup x = some cc := l1
        have l2' : (closOf env scope.names []).lookup y = some cc := l2
        rw [q1] at l1'; rw [q2] at l2'
        cases l1'; cases l2'
        exact c.frame.inj x y _ h1 h3 e1 e2 }
    locs := fun x v e => by
      obtain ⟨e1, hx⟩ := get_capt e
      obtain ⟨l, val, i, r⟩ := c.locs x v e1
      refine ⟨l, val, ?_, r.per P⟩
      have hf := hcap x hx
      have hko := k3 _ (lookup_mem hf) rfl
      rcases i with ⟨k, _⟩ | ⟨k, cc, l1, ⟨ob, i, hdt⟩, a1⟩
      · rw [okind] at k
        rcases hko with q | q <;> · rw [q] at k; cases k
      · refine .inr ⟨?_, cc, closOf_lookup _ _ _ _ l1 (.inl (lookup_mem hf)), ⟨ob, g _ _ i, hdt⟩, fun q => ?_⟩
        · rw [hkind, relab_lookup, hf]
          simp only [Option.map_some, relabK]
          split
          · exact .inl rfl
          · exact .inr rfl
        · rcases List.mem_append.mp q with q | q
          · exact a1 q
          · rw [List.mem_singleton] at q; subst q; rw [hD] at i; cases i
    led := (c.led.move P fun a _ o e => g a o e).append ⟨⟨#[], hd, trivial⟩, trivial⟩
    nd := List.nodup_append.mpr ⟨c.nd, by simp, fun b hb d hd' e => fresh_ads c hD (by rw [List.mem_singleton] at hd'; exact hd' ▸ e ▸ hb)⟩
    sep := fun a ha => by
      intro q
      have hold : a ∈ w.own ∨ a ∈ w.prot → False := fun ha' => by
        rcases List.mem_append.mp q with q | q
        · exact c.sep a ha' q
        · rw [List.mem_singleton] at q; subst q
          obtain ⟨o, ho⟩ := c.ownex a ha'
          rw [hD] at ho; cases ho
      have hnew : w.h.get? a = none → a ≠ D → False := fun h1 h2 => by
        rcases List.mem_append.mp q with q | q
        · exact fresh_ads c h1 q
        · rw [List.mem_singleton] at q; exact h2 q
      rcases ha with ha | ha
      · rw [List.mem_singleton] at ha; subst ha; exact hnew hL (Ne.symm hDL)
      · rcases List.mem_append.mp ha with ha | ha
        · exact hnew (hwr a ha).1 fun q => hDw (q ▸ ha)
        · exact hold (List.mem_append.mp ha)
    ownex := fun a ha => by
      rcases ha with ha | ha
      · rw [List.mem_singleton] at ha; subst ha
        obtain ⟨o, _, _, ho, _⟩ := hns; exact ⟨o, ho⟩
      · rcases List.mem_append.mp ha with ha | ha
        · exact (hwr a ha).2
        · obtain ⟨o, ho⟩ := c.ownex a (List.mem_append.mp ha)
          exact ⟨o, g a o ho⟩
    inj := c.inj
    op := fun a ha q => by
      rw [List.mem_singleton] at ha; subst ha
      rcases List.mem_append.mp q with q | q
      · exact hLw q
      · obtain ⟨o, ho⟩ := c.ownex _ (List.mem_append.mp q)
        rw [hL] at ho; cases ho }
noncomputable def turnE (cx : Cx) (elt : E) (t : T) (conds : List E) (cloc : Loc) (n : D) (led : Led) : Option (Option D × Led) := (bindD t n cloc).bind fun loc' => (evConds cx conds loc' led).bind fun c =>
  cond c.1 ((evE cx elt loc' c.2).bind fun y => (ofV y.1).map fun d => (some d, y.2)) (some (none, c.2))
structure CI (G : Gl) (C : Ct) (A : Around) (cenv : Env) (cloc : Loc) (wr : List Addr) (en : Bool) (it : Value) (turn : D → Led → Option (Option D × Led)) (K : Led → Prop) (w1 : Wd) (D L : Addr) (k : Nat) (s' : Shared) (wc : Wd) (ledc : Led) (src : Src) : Prop where
  st : St G C A cenv wc cloc ledc s'
  at' : ItAt G A wc wr en src it
  own : wc.own = [L]
  prot : wc.prot = wr ++ (w1.own ++ w1.prot)
  ads : wc.ads = w1.ads ++ [D]
  old : ∀ b o, w1.h.get? b = some o → b ∉ w1.ads → wc.h.get? b = some o
  run : (compLoop w1.ads.length turn k src ledc).elim False K
noncomputable def CIs (G : Gl) (C : Ct) (A : Around) (cenv : Env) (cloc : Loc) (wr : List Addr) (en : Bool) (it : Value) (turn : D → Led → Option (Option D × Led)) (K : Led → Prop) (w1 : Wd) (D L : Addr) (k : Nat) (s' : Shared) : Prop :=
  ∃ wc ledc src, CI G C A cenv cloc wr en it turn K w1 D L k s' wc ledc src
theorem not_last {a b : Addr} {l : List Addr} {o : Obj} (h : w.h.get? a = none) (e : w.h.get? b = some o) (n : b ∉ l) : b ∉ l ++ [a] := fun q =>
  (List.mem_append.mp q).elim n fun q => by obtain rfl := mem1 q; exact nomatch h.symm.trans e
theorem comp_turn {cenv : Env} {cloc : Loc} {wr : List Addr} {en : Bool} {it : Value} {K : Led → Prop} {w1 : Wd} {D L : Addr} {elt : E} {t : T} {conds : List E} {xe xt iter : Expr} {ifs : List Expr} {scope : Scope} {pos : Pos} {k : Nat} {wc : Wd} {ledc : Led} {src : Src} {R : Result → Shared → Prop}
    (x : CI G C A cenv cloc wr en it (turnE cx elt t conds cloc) K w1 D L k s wc ledc src) (ht : isT C cenv.scope false t xt = true) (hen : en = true → ∃ es k pos, xt = .Tuple es k pos) (hdis : ∀ y v, get cloc y = some v → y ∉ tNames t)
    (hwr : ∀ b ∈ wr, w1.h.get? b = none) (hD : w1.h.get? D = none) (hL : w1.h.get? L = none) (hcel : ∀ {a}, Held cenv a → a ∉ wr) (hc : STs G C A cenv cx conds ifs) (he : SE G C A cenv cx elt xe)
    (hR : ∀ {s' w'}, K ledc → Hp G w' s' → At wr wc w' → R (.ok .next) s') :
    wpAny (Mo G) A (compTurn (.ListComp xe [⟨xt, iter, ifs, 0⟩] scope pos) 0 it (.ref D) cenv) (TurnQ R (.compLoop (.ListComp xe [⟨xt, iter, ifs, 0⟩] scope pos) 0 it (.ref D) cenv) fun s' => ∃ m, m < k ∧ CIs G C A cenv cloc wr en it (turnE cx elt t conds cloc) K w1 D L m s') NoE s := by
  have hwp : ∀ b ∈ wr, b ∈ wc.prot := fun b hb => by rw [x.prot]; exact List.mem_append_left _ hb
  cases k with
  | zero => exact x.run.elim
  | succ N =>
    obtain ⟨r, e1, hrun⟩ := isW (bindW x.run)
    rw [compTurn_list]
    refine wpAny_bind (wpAny_standAt (wpAny_bind (x.at'.next x.st.heap x.st.conc.led x.st.conc.handled hwp x.st.conc.ownex e1 ⟨fun hr {w' s'} hh P => ?_, fun {y src'} hr {v s1} go => ?_⟩)))
    · subst hr
      exact wpAny_pure (hR hrun hh P)
    · subst hr
      refine wpAny_bind (go xt NoE _ hen fun {w2 s2} hh2 P2 dr at2 => ?_)
      have c2 : Conc G C A w2 cenv cloc ledc := x.st.conc.at_ P2 hwp hcel at2.ex
      obtain ⟨cloc', e3, e4⟩ := isW (bindW (bindW hrun))
      refine wpAny_bind (bindD_conc (fl := false) (own := [L]) rfl (fun q => nomatch q) ht ⟨c2, hh2⟩ (P2.own.trans x.own) dr (toW e3 (K := fun l => l = cloc') rfl) fun {l w3 s3} q P3 c3 => ?_)
      subst q
      have ads3 : w3.ads = w1.ads ++ [D] := P3.ads.trans (P2.ads.trans x.ads)
      have own3 : w3.own = [L] := P3.own.trans (P2.own.trans x.own)
      have prot3 : w3.prot = wr ++ (w1.own ++ w1.prot) := P3.prot.trans (P2.prot.trans x.prot)
      have old3 : ∀ b o, w1.h.get? b = some o → b ∉ w1.ads → w3.h.get? b = some o := fun b o e n =>
        P3.keep b o (P2.keep b o (x.old b o e n) fun q => nomatch (hwr b q).symm.trans e) fun q => by
          rw [P2.own, x.own] at q
          obtain rfl := mem1 q
          exact nomatch hL.symm.trans e
      have at3 : ItAt G A w3 wr en src' it := at2.keep P3.per.toPerD (fun k i a _ e => by rw [P3.ads]; exact e) fun b hb o e => P3.keep b o e fun q => c2.op b q (by rw [P2.prot]; exact hwp b hb)
      have fin : ∀ {w6 : Wd} {led6 : Led} {s6 : Shared}, Stp w3 w6 → St G C A cenv w6 l led6 s6 → (compLoop w1.ads.length (turnE cx elt t conds cloc) N src' (led6.take (w1.ads.length + 1))).elim False K →
          ∃ m, m < N + 1 ∧ CIs G C A cenv cloc wr en it (turnE cx elt t conds cloc) K w1 D L m s6 := fun {w6 led6 s6} P6 c6 hr => by
        have hl3 : w3.ads.length = w1.ads.length + 1 := by rw [ads3, List.length_append]; rfl
        have hads : (w6.cut (w1.ads.length + 1)).ads = w3.ads := by
          show w6.ads.take _ = _
          rw [← hl3]
          exact (List.prefix_iff_eq_take.mp P6.pre).symm
        refine ⟨N, Nat.lt_succ_self _, w6.cut (w1.ads.length + 1), led6.take (w1.ads.length + 1), src', ⟨(c6.conc.cut _ fun {z u} e => ?_).weaken fun z u e => (bindD_get e3 (hdis z u e)).trans e, c6.heap⟩, ?_, P6.own.trans own3, P6.prot.trans prot3, hads.trans ads3, fun b o e n => ?_, hr⟩
        · obtain ⟨_, val, _, r⟩ := c3.conc.locs z u e
          exact r.below (Nat.le_of_eq hl3)
        · exact at3.keep ⟨fun b o e hs => ⟨(P6.keep b o e hs.2.2).1, ((cutD w6 (w1.ads.length + 1)).st b o (P6.keep b o e hs.2.2).1 (P6.per.st b o e hs).2).2⟩⟩
            (fun k i a _ e => by rw [hads]; exact e)
            fun b hb o e => (P6.keep b o e (c3.conc.sep b (.inr (by rw [prot3]; exact List.mem_append_left _ hb)))).1
        · exact (P6.keep b o (old3 b o e n) (by rw [ads3]; exact not_last hD e n)).1
      refine wpAny_bind (m := forIn ifs true (testBody cenv)) (hc c3 (bindW e4) fun {q s4 w4} e5 p4 => ?_)
      obtain ⟨b, led4⟩ := q
      cases b with
      | false => exact wpAny_pure ⟨rfl, fin p4.stp (p4.st c3) (bindW e5)⟩
      | true =>
        have e5 : ((evE cx elt l led4).bind fun y => (ofV y.1).map fun d => (some d, y.2)).elim False fun a => ((keepL w1.ads.length a.1 a.2).bind fun l => compLoop w1.ads.length (turnE cx elt t conds cloc) N src' l).elim False K := e5
        refine wpAny_bind (wpAny_bind (he (p4.st c3) (bindW e5) fun {q yv s5 w5} e6 p5 => wpAny_bind ?_))
        obtain ⟨z, hz, e7⟩ := ofVW (mapW e6)
        have c5 := p5.st (p4.st c3)
        have P5 := p4.stp.trans p5.stp
        obtain ⟨o, e8, e9⟩ := isW (bindW (bindW (bindW e7)))
        obtain ⟨ys, rfl, e10⟩ := O.listW e9
        obtain ⟨hcap, e11⟩ := gdW e10
        have hD5 : w5.ads[w1.ads.length]? = some D := pre_get P5.pre (by rw [ads3, List.getElem?_concat_length])
        obtain ⟨a, ha, vs, i, d⟩ := c5.conc.led.get e8
        obtain rfl := Option.some.inj (hD5.symm.trans ha)
        obtain ⟨n, ho⟩ := id i
        have pv := p5.val
        rw [p5.heap.1] at ho
        rw [hz] at pv
        have p6 := c5.upd (s' := { s5 with heap := s5.heap.update D (Obj.mapSeq fun x => x.push yv) }) (g := fun x => x.push yv) (xs := ys ++ [z]) hD5 i ⟨rfl, rfl, rfl⟩ (by rw [Array.toList_push]; exact d.append ⟨pv, trivial⟩)
        refine call_meets PySem.F.slot_list_append ⟨_, ho, rfl⟩ PySem.F.entry_list_append (PySem.F.args_list_append_2 _ _) (PySem.AutoListH.list_append_list_val_0 D vs n yv (d.size ▸ capLine (Nat.le_of_lt hcap))) ⟨ho, ?_⟩
        exact wpAny_pure (wpAny_pure ⟨rfl, fin (P5.trans p6.stp) ((p6.toks' ⟨rfl, rfl, rfl⟩).st c5) (by rw [List.take_set]; exact e11)⟩)
end
end UK
end
section
namespace UK
open PySem PySem.W PySem.Calls PyProof.Rows PySem.SeqAt
section
variable {G : Gl} {C : Ct} {A : Around} {env : Env} {cx : Cx} {w : Wd} {loc : Loc} {led led' : Led} {s : Shared}
structure CEnd (G : Gl) (w w1 : Wd) (D L : Addr) (led : Led) (s : Shared) : Prop where
  stp : Stp w w1
  fD : w1.h.get? D = none
  fL : w1.h.get? L = none
  nd : (w1.ads ++ [D]).Nodup
  nL : L ∉ w1.ads ++ [D]
  rs : Rs G s
  ns : ∃ m, s.heap.Ns L m
  keep : ∀ {b o}, w1.h.get? b = some o → b ∉ w1.ads → s.heap.get? b = some o
  led : ∀ {h' prot'}, (∀ b o, b ≠ L → s.heap.get? b = some o → h'.get? b = some o) → (∀ b ∈ prot', b ∈ w1.prot ∨ b = L) → ORs G ⟨h', w1.own, prot', w1.ads ++ [D]⟩ led (w1.ads ++ [D])
theorem comp_end {cenv : Env} {cloc : Loc} {wr : List Addr} {en : Bool} {it : Value} {turn : D → Led → Option (Option D × Led)} {K : Led → Prop} {w1 w' : Wd} {D L : Addr} {k : Nat} {wc : Wd} {ledc : Led} {src : Src} {s' : Shared}
    (x : CI G C A cenv cloc wr en it turn K w1 D L k s wc ledc src) (hl : cenv.locals = L) (hwr : ∀ b ∈ wr, w1.h.get? b = none) (hD : w1.h.get? D = none) (hL : w1.h.get? L = none) (st1 : Stp w w1) (hh : Hp G w' s') (P : At wr wc w') : CEnd G w w1 D L ledc s' := by
  subst hl
  have hwp : ∀ b ∈ wr, b ∈ wc.prot := fun b hb => by rw [x.prot]; exact List.mem_append_left _ hb
  have hLo : cenv.locals ∈ wc.own := by rw [x.own]; exact .head _
  obtain ⟨m, hm⟩ := x.st.conc.frame.ns
  have kk : ∀ {b o}, wc.h.get? b = some o → b ∉ wr → s'.heap.get? b = some o := fun {b o} e h1 => hh.1 ▸ P.keep b o e h1
  refine ⟨st1, hD, hL, x.ads ▸ x.st.conc.nd, x.ads ▸ x.st.conc.sep _ (.inl hLo), hh.2, ⟨m, Ns_get hm fun o e => kk e fun q => x.st.conc.op _ hLo (hwp _ q)⟩, fun {b o} e n => kk (x.old b o e n) fun q => (nomatch (hwr b q).symm.trans e), fun {h' prot'} h1 h2 => ?_⟩
  have led := x.st.conc.led.moveD (w' := ⟨h', w1.own, prot', w1.ads ++ [D]⟩) ⟨fun b o e hs => ⟨h1 b o (fun q => hs.1 (q ▸ hLo)) (kk e fun q => hs.2.1 (hwp b q)), fun q => hs.2.1 ?_, fun q => ?_, fun q => hs.2.2 (x.ads ▸ q)⟩⟩
    fun a ha o e => h1 a o (fun q => x.st.conc.sep a (.inl (q ▸ hLo)) ha) (kk e fun q => x.st.conc.sep a (.inr (hwp a q)) ha)
  · rw [x.ads] at led; exact led
  · rw [x.prot]; exact List.mem_append_right _ (List.mem_append_left _ q)
  · exact (h2 b q).elim (fun q => hs.2.1 (by rw [x.prot]; exact List.mem_append_right _ (List.mem_append_right _ q))) fun q => hs.1 (q ▸ hLo)
theorem comp_eval {elt : E} {t : T} {k : IK} {its conds : List E} {caps : List Nat} {xe xt iter : Expr} {ifs : List Expr} {scope : Scope} {pos pos' : Pos} {en : Bool} {use : Option (Value → Sem Unit)} {K : V × Led → Prop} {Q : Value → Shared → Prop}
    (hok : compOk env.scope scope = true) (hset : (match iter with | .Set _ _ _ => false | _ => true) = true) (ht : isT C (relab env.scope scope) false t xt = true) (hen : en = true → ∃ es k pos, xt = .Tuple es k pos)
    (hcap : ∀ x ∈ caps, scope.names.lookup (C.nm x) = some .free) (hdis : ∀ x ∈ caps, x ∉ tNames t) (hi : SI G C A env cx k its iter en)
    (hc : ∀ cenv : Env, cenv.scope = relab env.scope scope → STs G C A cenv cx conds ifs) (he : ∀ cenv : Env, cenv.scope = relab env.scope scope → SE G C A cenv cx elt xe)
    (c : St G C A env w loc led s) (e : (evE cx (.comp elt t k its conds caps) loc led).elim False K) (kk : ∀ {w1 D L ledF s'}, K (.ref w1.ads.length, ledF) → CEnd G w w1 D L ledF s' → compPost (Mo G) A NoE use Q (.ref D) L (.ok .next) s') :
    wpAny (Mo G) A (comprehension (.ListComp xe [⟨xt, iter, ifs, 0⟩] scope pos) scope env pos' (newList []) false (eval iter env) use) Q NoE s := by
  obtain ⟨k1, k2, k3, k4⟩ := compOk_at hok
  have hclos : closureFor scope env = pure (closOf env scope.names []) := closureFor_is fun x hx hf => by
    obtain ⟨cc, o, l, _⟩ := c.conc.frame.cells x.1 (k3 x hx hf)
    rw [l]; rfl
  obtain ⟨q0, e1, e2⟩ := isW (bindW e)
  obtain ⟨src0, e3, e4⟩ := isW (bindW e2)
  refine wpAny_comprehension_free (use := use) rfl (foldedSet_other hset) hclos k1 k4 (hi (n := q0.2.length) (K := fun l r => l = q0.2 ∧ r = src0) c (toW e1 (toW e3 ⟨rfl, rfl⟩)) fun {led1 src it s2 w1 wr} q p1 => ?_)
  obtain ⟨rfl, rfl⟩ := q
  have c1 : Conc G C A w1 env loc q0.2 := c.conc.stp p1.stp p1.led p1.nd
  have hlen : q0.2.length = w1.ads.length := p1.led.len
  refine wpAny_newObj_type (wpAny_newFunctionEnv k2 (by intro y hy; simp at hy) (fun h₁ hns₁ hsb₁ => ?_) k1)
  dsimp only at hns₁ hsb₁ ⊢
  generalize hH2 : s2.heap.push { cls := .type "list", dict := none, data := .seq ([] : List Value).toArray } = H2 at hns₁ hsb₁ ⊢
  have hC : H2.objs.size = s2.heap.objs.size + 1 := by rw [← hH2, Heap.size_push]
  have hDL : s2.heap.objs.size < H2.objs.size := hC ▸ Nat.lt_succ_self _
  have old : ∀ b o, s2.heap.get? b = some o → h₁.get? b = some o := fun b o e =>
    hsb₁.extBut b o (Nat.ne_of_lt (Nat.lt_trans (Heap.lt_size e) hDL)) (Heap.get?_push_of_some _ (hH2 ▸ Heap.get?_push_of_some _ e))
  have fresh : ∀ a, s2.heap.objs.size ≤ a → w1.h.get? a = none := fun a ha => by
    cases e : w1.h.get? a with
    | none => rfl
    | some o' => exact absurd (Heap.lt_size (p1.sp.g a o' e)) (Nat.not_lt.mpr ha)
  have hwrlt : ∀ b ∈ wr, b < s2.heap.objs.size := fun b hb => let ⟨o, ho⟩ := (p1.sp.fr b hb).2; Heap.lt_size ho
  have hwr : ∀ b ∈ wr, w1.h.get? b = none := fun b hb => (p1.sp.fr b hb).1
  have hD := fresh _ (Nat.le_refl _)
  have hL := fresh _ (Nat.le_of_lt hDL)
  have g1 : Grow w1.h h₁ := fun b o e => old b o (p1.sp.g b o e)
  have cc := c1.comp hok hcap (wr := wr) (D := s2.heap.objs.size) (L := H2.objs.size) g1 (fun b hb => ⟨hwr b hb, (p1.sp.fr b hb).2.imp fun o ho => old b o ho⟩) hD hL (Nat.ne_of_lt hDL) (fun q => Nat.lt_irrefl _ (hwrlt _ q)) (fun q => Nat.lt_asymm hDL (hwrlt _ q))
    ⟨0, hsb₁.extBut _ _ (Nat.ne_of_lt hDL) (Heap.get?_push_of_some _ (hH2 ▸ Heap.get?_push_size _ rfl))⟩ hns₁
  have hcel : ∀ {a}, Held (compEnvC scope (closOf env scope.names []) H2.objs.size env) a → a ∉ wr := fun h q => by
    rcases h with rfl | ⟨z, hz, l⟩
    · exact Nat.lt_asymm hDL (hwrlt _ q)
    · obtain ⟨h1, h2⟩ := outer_kind hok (x := z) hz
      obtain ⟨c0, o, l0, ⟨ob, i, _⟩, _⟩ := c1.frame.cells z h2
      obtain rfl := Option.some.inj ((closOf_lookup scope.names [] z c0 l0 (.inl (lookup_mem h1))).symm.trans l)
      exact nomatch (hwr _ q).symm.trans i
  have htk : w1.ads.take q0.2.length = w1.ads := List.take_of_length_le (Nat.le_of_eq hlen.symm)
  have at1 : ItAt G A ⟨s2.heap, w1.own, wr ++ w1.prot, w1.ads⟩ wr en src it := htk ▸ p1.sp.at'
  have hat : ItAt G A ⟨h₁, [H2.objs.size], wr ++ (w1.own ++ w1.prot), w1.ads ++ [s2.heap.objs.size]⟩ wr en src it :=
    at1.keep ⟨fun b o e hs => ⟨old b o e, fun q => Nat.lt_asymm hDL (mem1 q ▸ Heap.lt_size e), fun q => (List.mem_append.mp q).elim (fun q => hs.2.1 (List.mem_append_left _ q)) fun q => (List.mem_append.mp q).elim hs.1 fun q => hs.2.1 (List.mem_append_right _ q),
      fun q => (List.mem_append.mp q).elim hs.2.2 fun q => Nat.lt_irrefl _ (mem1 q ▸ Heap.lt_size e)⟩⟩ (fun k i a _ e => pre_get (List.prefix_append _ _) e) fun b _ o e => old b o e
  have loop : ∀ s₃ : Shared, s₃.heap = h₁ ∧ Rs G s₃ →
      codeAny (Mo G) A (.compLoop (.ListComp xe [⟨xt, iter, ifs, 0⟩] scope pos) 0 it (.ref s2.heap.objs.size) (compEnvC scope (closOf env scope.names []) H2.objs.size env))
        (compPost (Mo G) A NoE use Q (.ref s2.heap.objs.size) H2.objs.size) s₃ := fun s₃ h3 =>
    compLoop_own (CIs G C A (compEnvC scope (closOf env scope.names []) H2.objs.size env) (capt caps loc) wr en it (turnE cx elt t conds (capt caps loc)) (fun l => K (.ref w1.ads.length, l)) w1 s2.heap.objs.size H2.objs.size) (fun n s' ⟨wc, ledc, src', x⟩ =>
        comp_turn x ht hen (fun y u e => hdis y (get_capt e).2) hwr hD hL hcel (hc _ rfl) (he _ rfl) fun e hh P => kk e (comp_end x rfl hwr hD hL p1.stp hh P)) cx.N
      ⟨_, _, src, ⟨cc, h3.1.symm, h3.2⟩, hat, rfl, rfl, rfl, fun b o e _ => g1 b o e, hlen ▸ mapW e4⟩
  exact codeAny_compStart_list (loop _ ⟨rfl, p1.sp.rs⟩) (hat.self ⟨rfl, p1.sp.rs⟩ (loop _ ⟨rfl, p1.sp.rs⟩))
theorem SE.comp {elt : E} {t : T} {k : IK} {its conds : List E} {caps : List Nat} {xe xt iter : Expr} {ifs : List Expr} {scope : Scope} {pos : Pos} {en : Bool}
    (hok : compOk env.scope scope = true) (hset : (match iter with | .Set _ _ _ => false | _ => true) = true) (ht : isT C (relab env.scope scope) false t xt = true) (hen : en = true → ∃ es k pos, xt = .Tuple es k pos)
    (hcap : ∀ x ∈ caps, scope.names.lookup (C.nm x) = some .free) (hdis : ∀ x ∈ caps, x ∉ tNames t) (hi : SI G C A env cx k its iter en)
    (hc : ∀ cenv : Env, cenv.scope = relab env.scope scope → STs G C A cenv cx conds ifs) (he : ∀ cenv : Env, cenv.scope = relab env.scope scope → SE G C A cenv cx elt xe) :
    SE G C A env cx (.comp elt t k its conds caps) (.ListComp xe [⟨xt, iter, ifs, 0⟩] scope pos) := fun {w loc led s K Q} c e kk => by
  rw [eval_ListComp]
  refine comp_eval hok hset ht hen hcap hdis hi hc he c e fun {w1 D L ledF s'} e x => ?_
  obtain ⟨m, hm⟩ := x.ns
  exact ⟨m, hm, fun h' hs' => kk (w' := ⟨h', w1.own, w1.prot, w1.ads ++ [D]⟩) e ⟨⟨rfl, x.rs⟩, x.stp.trans ⟨rfl, rfl, List.prefix_append _ _, fun b o e n => ⟨hs'.extBut b o (fun q => by subst q; exact nomatch x.fL.symm.trans e) (x.keep e n), not_last x.fD e n⟩⟩,
    x.led (fun b o n e => hs'.extBut b o n e) fun _ m => .inl m, x.nd, D, rfl, List.getElem?_concat_length⟩⟩
end
end UK
end
section
namespace UK
open PySem PySem.W PySem.Calls PyProof.Rows PySem.SeqAt
theorem forIn_foldl {α β : Type} (f : α → β → Sem (ForInStep β)) (g : β → α → β) : ∀ (l : List α) (c : β), (∀ x ∈ l, ∀ c, f x c = pure (.yield (g c x))) → forIn l c f = pure (l.foldl g c)
  | [], c, _ => rfl
  | x :: l, c, h => by
    rw [List.forIn_cons, h x (List.mem_cons_self ..), pure_bind]
    exact forIn_foldl f g l _ fun y hy => h y (List.mem_cons_of_mem _ hy)
noncomputable def laidD (slots : List (Str × Value)) (p : Str × Value) : List (Str × Value) := if (slots.lookup p.1).isNone then slots ++ [(p.1, p.2)] else slots
theorem lookup_append {l l' : List (Str × Value)} {x : Str} : (l ++ l').lookup x = (l.lookup x).or (l'.lookup x) := by
  induction l with
  | nil => simp
  | cons p l ih =>
    obtain ⟨n, v⟩ := p
    rw [List.cons_append, List.lookup_cons, List.lookup_cons]
    by_cases h : (x == n) = true
    · rw [h]; rfl
    · rw [Bool.not_eq_true] at h; rw [h]; exact ih
theorem laidD_lookup {slots : List (Str × Value)} {p : Str × Value} {x : Str} : (laidD slots p).lookup x = (slots.lookup x).or (if x = p.1 then some p.2 else none) := by
  unfold laidD
  split
  · rename_i h
    rw [lookup_append, List.lookup_cons]
    by_cases hx : x = p.1
    · subst hx; simp
    · rw [show (x == p.1) = false by simpa using hx, if_neg hx]; rfl
  · rename_i h
    by_cases hx : x = p.1
    · subst hx
      rw [if_pos rfl]
      cases e : slots.lookup p.1 with
      | none => rw [e] at h; exact absurd rfl h
      | some v => rfl
    · rw [if_neg hx]; cases slots.lookup x <;> rfl
theorem laidDs_lookup : ∀ (ps : List (Str × Value)) (slots : List (Str × Value)) (x : Str), (ps.foldl laidD slots).lookup x = (slots.lookup x).or (ps.lookup x)
  | [], slots, x => by simp
  | p :: ps, slots, x => by
    rw [List.foldl_cons, laidDs_lookup ps, laidD_lookup, List.lookup_cons]
    by_cases h : x = p.1
    · subst h
      rw [if_pos rfl, beq_self_eq_true]
      cases slots.lookup p.1 <;> simp
    · rw [if_neg h, show (x == p.1) = false by simpa using h]
      cases slots.lookup x <;> simp
noncomputable def slotsOf (ps kwo : List Str) (vals dv : List Value) (kwm : Str → Option Value) : List (Str × Value) :=
  (kwo.map fun n => (n, (kwm n).getD .none)).foldl laidD (((ps.drop (ps.length - dv.length)).zip dv).foldl laidD (ps.zip vals))
noncomputable def bindsOf (ps kwo : List Str) (vals dv : List Value) (kwm : Str → Option Value) : List (Str × Value) :=
  (ps ++ kwo).filterMap fun n => ((slotsOf ps kwo vals dv kwm).lookup n).map (n, ·)
noncomputable def kwLay (n : Str) (r : List (Str × Value) × List Str) (v : Option Value) : Sem (ForInStep (List (Str × Value) × List Str)) := match v with
  | some v => pure (ForInStep.yield (r.1 ++ [(n, v)], r.2))
  | none => pure (ForInStep.yield (r.1, r.2 ++ [n]))
noncomputable def kwStep (kwd : Value) (n : Str) (r : List (Str × Value) × List Str) : Sem (ForInStep (List (Str × Value) × List Str)) :=
  if (r.1.lookup n).isNone = true then
    match kwd with
    | .ref d => nsGet d n >>= kwLay n r
    | _ => pure none >>= kwLay n r
  else pure (ForInStep.yield (r.1, r.2))
noncomputable def dfStep (p : Str × Value) (r : List (Str × Value)) : Sem (ForInStep (List (Str × Value))) :=
  if (r.lookup p.1).isNone = true then pure (ForInStep.yield (r ++ [(p.1, p.2)])) else pure (ForInStep.yield r)
noncomputable def bindT (ps ks : List Str) (vals : List Value) (kwd : Value) (X1 X2 : Sem (List (Str × Value))) (X3 : List (Str × Value) × List Str → Sem (List (Str × Value))) (q : List Value) : Sem (List (Str × Value)) :=
  if (decide (vals.length > ps.length) && true) = true then X1 else
  if (!((ps.take (ps.length - (q.drop (q.length - ps.length)).length)).filter fun n => ((ps.zip vals).lookup n).isNone).isEmpty) = true then X2 else
  forIn ((ps.drop (ps.length - (q.drop (q.length - ps.length)).length)).zip (q.drop (q.length - ps.length))) (ps.zip vals) dfStep >>= fun sl =>
  forIn ks (sl, []) (kwStep kwd) >>= fun q => if (!q.2.isEmpty) = true then X3 q else pure ((ps ++ ks).filterMap fun n => (q.1.lookup n).map (n, ·))
theorem bindArgs_is {fd : FuncData} {ag ko : List Arg} {kd : List (Option Expr)} {df : List Expr} (vals : List Value) (h : fd.params = ⟨[], ag, none, ko, kd, none, df⟩) : ∃ (X1 X2 : Option (Array Value) → Sem (List (Str × Value))) (X3 : List (Str × Value) × List Str → Sem (List (Str × Value))),
    bindArgs fd ⟨vals, []⟩ = (seqItems? fd.defaults >>= fun r => bindT (ag.map (·.arg)) (ko.map (·.arg)) vals fd.kwdefaults (X1 r) (X2 r) X3 (r.getD #[]).toList) := by
  obtain ⟨nm, qn, pa, bd, sc, gl, cl, dfl, kwd⟩ := fd
  dsimp only at h
  subst h
  exact ⟨_, _, _, rfl⟩
section
variable {M : Model} {A : Around} {E : Value → Shared → Prop} {s : Shared}
theorem kw_loop {kwd : Value} {kwm : Str → Option Value} (hk : ∀ n, (kwm n).isSome = true → ∃ d m, kwd = .ref d ∧ s.heap.Ns d m ∧ m n = kwm n) :
    ∀ (l : List Str) (slots : List (Str × Value)) (mi : List Str) (Q : (List (Str × Value) × List Str) → Shared → Prop), (∀ n ∈ l, (kwm n).isSome = true) →
      Q ((l.map fun n => (n, (kwm n).getD .none)).foldl laidD slots, mi) s →
      wpAny M A (forIn l (slots, mi) (kwStep kwd)) Q E s
  | [], slots, mi, Q, _, h => wpAny_pure h
  | n :: l, slots, mi, Q, hl, h => by
    rw [List.forIn_cons]
    have hn := hl n (.head _)
    obtain ⟨v, hv⟩ := Option.isSome_iff_exists.mp hn
    obtain ⟨d, m, e1, e2, e3⟩ := hk n hn
    subst e1
    have ih := fun slots h => kw_loop hk l slots mi Q (fun y hy => hl y (.tail _ hy)) h
    have h : Q ((l.map fun n => (n, (kwm n).getD .none)).foldl laidD (laidD slots (n, (kwm n).getD .none)), mi) s := h
    rw [hv] at h
    rw [hv] at e3
    refine wpAny_bind ?_
    unfold laidD at h
    by_cases hs : (slots.lookup n).isNone = true
    · rw [if_pos hs] at h
      unfold kwStep
      rw [if_pos hs]
      refine wpAny_bind (wpAny_nsGet e2 ?_)
      rw [e3]
      exact wpAny_pure (ih _ h)
    · rw [if_neg hs] at h
      unfold kwStep
      rw [if_neg hs]
      exact wpAny_pure (ih _ h)
end
theorem zip_has {x : Str} : ∀ (qs : List Str) (vs : List Value) (k : Nat), k ≤ vs.length → x ∈ qs.take k → ((qs.zip vs).lookup x).isNone = false
  | [], vs, k, _, h => by rw [List.take_nil] at h; exact nomatch h
  | q :: qs, vs, 0, _, h => nomatch h
  | q :: qs, [], k + 1, hk, _ => absurd hk (Nat.not_succ_le_zero k)
  | q :: qs, v :: vs, k + 1, hk, h => by
    rw [List.zip_cons_cons, List.lookup_cons]
    by_cases hx : x = q
    · subst hx; rw [beq_self_eq_true]; rfl
    · rw [beq_eq_false_iff_ne.mpr hx]
      exact zip_has qs vs k (Nat.le_of_succ_le_succ hk) ((List.mem_cons.mp h).resolve_left hx)
theorem bindsTo_plain {s : Shared} {fd : FuncData} {vals dv : List Value} {kwm : Str → Option Value} {ag ko : List Arg} {kd : List (Option Expr)} {df : List Expr} (hp : fd.params = ⟨[], ag, none, ko, kd, none, df⟩)
    (hd : (fd.defaults = .none ∧ dv = []) ∨ ∃ T, fd.defaults = .ref T ∧ s.heap.IsTuple T dv.toArray)
    (hk : ∀ n, (kwm n).isSome = true → ∃ d m, fd.kwdefaults = .ref d ∧ s.heap.Ns d m ∧ m n = kwm n) (hk2 : ∀ n ∈ ko.map (·.arg), (kwm n).isSome = true)
    (h1 : vals.length ≤ ag.length) (h2 : ag.length ≤ vals.length + dv.length) (h3 : dv.length ≤ ag.length) :
    BindsTo s fd ⟨vals, []⟩ (bindsOf (ag.map (·.arg)) (ko.map (·.arg)) vals dv kwm) := fun M A E Q hQ => by
  obtain ⟨X1, X2, X3, h⟩ := bindArgs_is vals hp
  have hl : (ag.map (·.arg)).length = ag.length := List.length_map ..
  rw [← hl] at h1 h2 h3
  generalize ag.map (·.arg) = ps at *
  generalize ko.map (·.arg) = ks at *
  have main : ∀ x1 x2, wpAny M A (bindT ps ks vals fd.kwdefaults x1 x2 X3 dv) Q E s := fun x1 x2 => by
    unfold bindT
    rw [Nat.sub_eq_zero_of_le h3, List.drop_zero]
    rw [if_neg (by rw [Bool.and_true]; exact fun q => Nat.not_le.mpr (of_decide_eq_true q) h1), if_neg (by
      rw [List.filter_eq_nil_iff.mpr fun x hx q => ?_]
      · exact Bool.noConfusion
      · exact Bool.noConfusion ((zip_has ps vals _ (Nat.sub_le_iff_le_add.mpr h2) hx).symm.trans q))]
    refine wpAny_bind (wpAny_of_eq (forIn_foldl dfStep laidD _ _ fun x _ c => ?_) (wpAny_bind (kw_loop hk ks _ [] _ hk2 (wpAny_pure hQ))))
    unfold dfStep laidD
    by_cases h : (List.lookup x.fst c).isNone = true
    · rw [if_pos h, if_pos h]
    · rw [if_neg h, if_neg h]
  rw [h]
  refine wpAny_bind ?_
  rcases hd with ⟨e, rfl⟩ | ⟨T, e, o, ho, hc, n, hdt⟩
  · rw [e]; exact wpAny_pure (main _ _)
  · rw [e]; exact wpAny_seqItems ho hdt (main _ _)
end UK
end
section
namespace UK
open PySem PySem.W PySem.Calls PyProof.Rows PySem.SeqAt
structure Base (G : Gl) (lev : Nat) (A : Around) (w : Wd) (led : Led) : Prop where
  keep : ∀ b o, G.h₀.get? b = some o → w.h.get? b = some o ∧ w.st b
  glob : G.h₀.Ns mainGlobals G.mg ∧ G.h₀.Ns builtinsNs G.mb
  nolim : G.h₀.NoLimit
  handled : A.handled = none
  depth : A.depth + 4 * lev + 8 ≤ 900
  units : A.units + 64 * lev + 64 ≤ 9000
  led : ORs G w led w.ads
  nd : w.ads.Nodup
  sep : ∀ a, a ∈ w.own ∨ a ∈ w.prot → a ∉ w.ads
  ownex : ∀ a, a ∈ w.own ∨ a ∈ w.prot → ∃ o, w.h.get? a = some o
  op : ∀ a ∈ w.own, a ∉ w.prot
noncomputable def SF (G : Gl) (lev : Nat) (F : Nat → List V → Led → Option (V × Led)) (fa : Nat → Addr) : Prop :=
  ∀ {A : Around} {w : Wd} {led : Led} {f : Nat} {vs : List V} {vals : List Value} {s : Shared} {K : V × Led → Prop} {Q : Value → Shared → Prop}, Base G lev A w led → Hp G w s → VRs G w vs vals → (F f vs led).elim False K →
    (∀ {p : V × Led} {val : Value} {s' : Shared} {w' : Wd}, K p → PostE G w p.2 p.1 val s' w' → Q val s') → wpAny (Mo G) A (call (.ref (fa f)) vals) Q NoE s
noncomputable def FA (G : Gl) (a : Addr) : Prop := ∃ o fd, G.h₀.get? a = some o ∧ o.cls = .type "function" ∧ o.data = .func fd
section
variable {G : Gl} {C : Ct} {A : Around} {env : Env} {cx : Cx} {w : Wd} {loc : Loc} {led led' : Led} {s : Shared}
theorem Conc.base (c : Conc G C A w env loc led) : Base G C.lev A w led :=
  ⟨c.keep, c.glob, c.nolim, c.handled, c.depth, c.units, c.led, c.nd, c.sep, c.ownex, c.op⟩
theorem VRs.append : ∀ {xs ys : List V} {vs us : List Value}, VRs G w xs vs → VRs G w ys us → VRs G w (xs ++ ys) (vs ++ us)
  | [], _, [], _, _, h => h
  | [], _, _ :: _, _, h, _ => h.elim
  | _ :: _, _, [], _, h, _ => h.elim
  | _ :: _, _, _ :: _, _, h1, h => ⟨h1.1, h1.2.append h⟩
theorem Stp.before {w0 : Wd} {v : V} {val : Value} {s' : Shared} {w' : Wd} (P : Stp w0 w) (p : PostE G w led' v val s' w') : PostE G w0 led' v val s' w' := ⟨p.heap, P.trans p.stp, p.led, p.nd, p.val⟩
theorem call_fn {fa : Nat → Addr} {f : Nat} {us : List V} {es : List E} {xs : List Expr} {pos : Pos} {firsts : List Value} {K : V × Led → Prop} {Q : Value → Shared → Prop} (hF : SF G C.lev cx.F fa) (hfn : FA G (fa f)) (hn : noStars xs = true) (h : SEs G C A env cx es xs) (c : St G C A env w loc led s)
    (r : VRs G w us firsts) (e : (evEs cx es loc led).elim False fun p => (cx.F f (us ++ p.1) p.2).elim False K) (k : ∀ {p : V × Led} {val : Value} {s' : Shared} {w' : Wd}, K p → PostE G w p.2 p.1 val s' w' → Q val s') :
    wpAny (Mo G) A (callWith pos (.ref (fa f)) firsts (backTo pos (starEach xs env)) []) Q NoE s := by
  obtain ⟨o, fd, ho, hcls, hdat⟩ := hfn
  exact Calls.callWith_function (o := o) (fd := fd) (args_plain hn (h c e fun e p1 => ⟨⟨p1.heap.1 ▸ ((p1.st c).conc.keep _ _ ho).1, hdat⟩, hF (p1.st c).conc.base p1.heap ((r.per p1.stp.per).append p1.val) e fun e p2 => k e (p1.stp.before p2)⟩))
theorem SE.call {fa : Nat → Addr} {f : Nat} {es : List E} {ID : Str} {xs : List Expr} {p pos : Pos} (hF : SF G C.lev cx.F fa) (hfn : FA G (fa f)) (hk : env.kindOf ID = some .globalImplicit) (hv : G.look ID = some (.ref (fa f))) (hd : (ID == ("__debug__" : Str)) = false)
    (hn : noStars xs = true) (h : SEs G C A env cx es xs) : SE G C A env cx (.call f es) (.Call (.Name ID p) xs [] pos) := fun c e k =>
  Call_ (global_name c hk hv hd (call_fn hF hfn hn h c (us := []) trivial (bindW e) k))
structure CA (G : Gl) (N : Addr) (mN : Str → Option Value) : Prop where
  at' : ClsAt G.h₀ G.cls N mN
  ga : mN "__getattribute__" = none
  gt : mN "__getattr__" = none
  sa : mN "__setattr__" = none
  hd : mN "_headers" = none
theorem hdr_of {v : V} {val : Value} (r : VR G w v val) (h : isHdr v = true) : ∃ a b, val = .ref a ∧ HdrOf G.cls w a b := by
  cases v with
  | hd k => obtain ⟨a, b, e, hh, _⟩ := r; exact ⟨a, b, e, hh⟩
  | hdr xs => obtain ⟨a, b, vs, e, hh, _⟩ := r; exact ⟨a, b, e, hh⟩
  | _ => exact Bool.noConfusion h
theorem Call_own {N : Addr} {mN : Str → Option Value} (hC : CA G N mN) {o : E} {x : Expr} {name : Str} {apos pos : Pos} {xs : List Expr} {kws : List Keyword} {f : Addr} {of : Obj} {y : Option Value} {K : V × Led → Prop} {Q : Value → Shared → Prop} (c : St G C A env w loc led s)
    (hbase : attributeBase x name env (eval x env) = eval x env)
    (hform : methodCallForm (xs.length + kws.length) (backTo pos (starEach xs env)) (backToKw pos (keywordEach kws env)) = true)
    (hline : (apos.endLine == pos.line) = true) (hf : mN name = some (.ref f)) (hfo : G.h₀.get? f = some of) (hfc : of.cls = .type "function") (hname : name ≠ "_headers") (hB : typeLookup (.type "object") name = pure y)
    (ho : SE G C A env cx o x) (e : (evE cx o loc led).elim False K) (hK : ∀ {p}, K p → isHdr p.1 = true)
    (h : ∀ {p a s₁ w'}, K p → PostE G w p.2 p.1 (.ref a) s₁ w' → wpAny (Mo G) A (callWith pos (.ref f) [.ref a] (backTo pos (starEach xs env)) (backToKw pos (keywordEach kws env))) Q NoE s₁) :
    wpAny (Mo G) A (eval (.Call (.Attribute x name apos) xs kws pos) env) Q NoE s := by
  rw [arm_eval_Call, hbase]
  refine wpAny_bind (ho c e fun {p ov s₁ w'} e p1 => wpAny_bind (wpAny_standAt ?_))
  have hpos : methodCallPos true x env apos pos = pure pos := by unfold methodCallPos; rw [hline]; rfl
  obtain ⟨a, b, rfl, hd⟩ := hdr_of p1.val (hK e)
  unfold methodCall
  rw [hform]
  have X := hC.at'.keeps fun b o e => ((p1.st c).conc.keep b o e).1
  have hw := h e p1
  have h0 := ((p1.st c).conc.keep _ _ hfo).1
  obtain ⟨h', g, d, t, os⟩ := s₁
  obtain rfl : w'.h = h' := p1.heap.1
  obtain ⟨nm, q, bs, sn, sub, col, dd, k0, k1, k2, k3, k5, hCo⟩ := X.obj
  refine wpAny_bind (wpAny_holding (method_of hCo X.ns hC.ga hC.gt hf h0 hfc hB hd.inst ?_ ?_))
  · unfold hdrM; rw [if_neg hname]
  · exact wpAny_bind (wpAny_of_eq hpos hw)
theorem few_plain {xs : List Expr} {pos : Pos} (hn : noStars xs = true) (hlen : xs.length < 30) : methodCallForm (xs.length + ([] : List Keyword).length) (backTo pos (starEach xs env)) (backToKw pos (keywordEach [] env)) = true := by
  show ((backTo pos (starEach xs env)).all (fun x => !x.1) && true && decide (xs.length < 30)) = true
  rw [all_plain hn, decide_eq_true hlen]; rfl
theorem SE.hm {N : Addr} {mN : Str → Option Value} (hC : CA G N mN) {fa : Nat → Addr} {f : Nat} {o : E} {es : List E} {x : Expr} {name : Str} {xs : List Expr} {apos pos : Pos} {y : Option Value} (hF : SF G C.lev cx.F fa) (hfn : FA G (fa f))
    (hbase : attributeBase x name env (eval x env) = eval x env) (hline : (apos.endLine == pos.line) = true) (hn : noStars xs = true) (hlen : xs.length < 30) (hf : mN name = some (.ref (fa f))) (hname : name ≠ "_headers")
    (hB : typeLookup (.type "object") name = pure y) (ho : SE G C A env cx o x) (h : SEs G C A env cx es xs) : SE G C A env cx (.hm f o es) (.Call (.Attribute x name apos) xs [] pos) := fun c e k =>
  let ⟨_, _, hfo, hfc, _⟩ := hfn
  Call_own hC c hbase (few_plain hn hlen) hline hf hfo hfc hname hB ho (bindW e) (fun e => let ⟨_, _, e⟩ := isW (bindW e); (gdW e).1) fun {p a s₁ w'} e p1 =>
    call_fn hF hfn hn h (p1.st c) (us := [p.1]) ⟨p1.val, trivial⟩ (by
      obtain ⟨q, h1, e⟩ := isW (bindW e)
      exact toW h1 (gdW e).2) fun e p2 => k e (p1.trans p2)
theorem obj_headers : typeLookup (.type "object") ("_headers" : Str) = pure none := by rw [typeLookup_type, builtinLookup_eq_fast]; kernel_rfl
theorem hdr_ref {v : V} {val : Value} {K : V → Prop} (e : (hdrL v).elim False K) (rv : VR G w v val) : ∃ a b r, val = .ref a ∧ HdrOf G.cls w a b ∧ VR G w r (.ref b) ∧ K r := by
  cases v with
  | hd k => obtain ⟨a, b, e1, hh, h⟩ := rv; exact ⟨a, b, .ref k, e1, hh, ⟨b, rfl, h⟩, e⟩
  | hdr xs => obtain ⟨a, b, vs, e1, hh, i, st, d⟩ := rv; exact ⟨a, b, .lst xs, e1, hh, ⟨b, vs, rfl, i, st, d⟩, e⟩
  | _ => exact e.elim
theorem SE.attrH {N : Addr} {mN : Str → Option Value} (hC : CA G N mN) {o : E} {x : Expr} {pos : Pos} (hbase : attributeBase x ("_headers" : Str) env (eval x env) = eval x env) (ho : SE G C A env cx o x) :
    SE G C A env cx (.attrH o) (.Attribute x ("_headers" : Str) pos) := fun {w loc led s K Q} c e kk => by
  rw [arm_eval_Attribute, hbase]
  refine wpAny_bind (ho c (bindW e) fun {p ov s1 w1} e p1 => ?_)
  obtain ⟨a, b, r, rfl, hd, hr, e1⟩ := hdr_ref (mapW e) p1.val
  refine wpAny_bind (wpAny_standAt (wpAny_bind (wpAny_holding ?_)))
  have X := hC.at'.keeps fun b o e => ((p1.st c).conc.keep b o e).1
  obtain ⟨h', g, d, t, os⟩ := s1
  obtain rfl : w1.h = h' := p1.heap.1
  obtain ⟨nm, q, bs, sn, sub, col, dd, k0, k1, k2, k3, k5, hCo⟩ := X.obj
  refine load_attr hCo X.ns hC.ga hC.hd obj_headers hd.inst (v := .ref b) (by unfold hdrM; rw [if_pos rfl]) rfl ?_
  exact wpAny_bind (wpAny_letTemporaryGo (wpAny_pure (kk e1 ⟨⟨rfl, p1.heap.2⟩, p1.stp, p1.led, p1.nd, hr⟩)))
theorem SE.dots {ID : Str} {pos : Pos} {t : Tok} (hk : env.kindOf ID = some .globalImplicit) (hv : G.look ID = some (.str ⟨#[46, 46, 46]⟩ t)) (hd : (ID == ("__debug__" : Str)) = false) : SE G C A env cx .dots (.Name ID pos) := fun c e k =>
  global_name c hk hv hd (k e (c.val ⟨_, rfl⟩))
end
end UK
end
section
namespace UK
open PySem PySem.W PySem.Calls PyProof.Rows PySem.SeqAt
structure StepS (n₀ : Nat) (w w' : Wd) : Prop where
  own : w'.own = w.own
  prot : w'.prot = w.prot
  keep : ∀ b o, w.h.get? b = some o → w.st b → w'.h.get? b = some o ∧ b ∉ w'.ads
  prots : ∀ b o, b ∈ w.prot → w.h.get? b = some o → w'.h.get? b = some o
  refs : ∀ k a, k < n₀ → w.ads[k]? = some a → w'.ads[k]? = some a
section
variable {G : Gl} {C : Ct} {A : Around} {env : Env} {cx : Cx} {w : Wd} {loc : Loc} {led led' : Led} {s : Shared}
theorem StepS.refl (n : Nat) (w : Wd) : StepS n w w := ⟨rfl, rfl, fun b o e h => ⟨e, h.2.2⟩, fun _ _ _ e => e, fun _ _ _ e => e⟩
theorem StepS.perD {n : Nat} {w w' : Wd} (x : StepS n w w') : PerD w w' := ⟨fun b o e h => ⟨(x.keep b o e h).1, by rw [Wd.st, x.own, x.prot]; exact ⟨h.1, h.2.1, (x.keep b o e h).2⟩⟩⟩
theorem StepS.trans {n : Nat} {a b c : Wd} (x : StepS n a b) (y : StepS n b c) : StepS n a c :=
  ⟨y.own.trans x.own, y.prot.trans x.prot, fun q o e h => let r := x.perD.st q o e h; y.keep q o r.1 r.2, fun q o m e => y.prots q o (by rw [x.prot]; exact m) (x.prots q o m e), fun k a hk e => y.refs k a hk (x.refs k a hk e)⟩
theorem StepS.mono {n m : Nat} {w w' : Wd} (x : StepS n w w') (h : m ≤ n) : StepS m w w' := ⟨x.own, x.prot, x.keep, x.prots, fun k a hk e => x.refs k a (Nat.lt_of_lt_of_le hk h) e⟩
theorem Stp.step {n : Nat} {w' : Wd} (c : Conc G C A w env loc led) (x : Stp w w') : StepS n w w' :=
  ⟨x.own, x.prot, fun b o e h => x.keep b o e h.2.2, fun b o m e => (x.keep b o e (c.sep b (.inr m))).1, fun k a _ e => pre_get x.pre e⟩
theorem Own.step {n : Nat} {w' : Wd} (c : Conc G C A w env loc led) (x : Own w w') : StepS n w w' :=
  ⟨x.own, x.prot, fun b o e h => ⟨x.keep b o e h.1, by rw [x.ads]; exact h.2.2⟩, fun b o m e => x.keep b o e fun q => c.op b q m, fun k a _ e => by rw [x.ads]; exact e⟩
theorem Conc.take (c : Conc G C A w env loc led) {w' : Wd} (P : w.ads <+: w'.ads) : w'.ads.take led.length = w.ads := by
  rw [c.led.len]
  exact (List.prefix_iff_eq_take.mp P).symm
theorem St.take (c : St G C A env w loc led s) {w' : Wd} (P : w.ads <+: w'.ads) : w'.ads.take led.length = w.ads := c.conc.take P
theorem PostE.back {w' : Wd} {v : V} {val : Value} {s' : Shared} (p : PostE G w led' v val s' w') (c : St G C A env w loc led s) :
    Stp w ⟨s'.heap, w.own, w.prot, w.ads⟩ ∧ St G C A env ⟨s'.heap, w.own, w.prot, w.ads⟩ loc (led'.take led.length) s' := by
  have hS : Stp w ⟨s'.heap, w.own, w.prot, w.ads⟩ := ⟨rfl, rfl, List.prefix_rfl, fun b o e n => ⟨p.heap.1 ▸ (p.stp.keep b o e n).1, n⟩⟩
  have h1 := (p.led.take led.length).moveD (cutD w' led.length) fun a _ o e => e
  have hads := c.take p.stp.pre
  rw [hads] at h1
  have hw : w'.cut led.length = ⟨s'.heap, w.own, w.prot, w.ads⟩ := by
    unfold Wd.cut
    rw [hads, p.heap.1, p.stp.own, p.stp.prot]
  exact ⟨hS, c.conc.stp hS (by rw [hw] at h1; exact h1) c.conc.nd, rfl, p.heap.2⟩
noncomputable def Wd.wx (wf : Wd) (bads : List Addr) (lo : Nat) : Wd := ⟨wf.h, wf.own, wf.prot, bads ++ wf.ads.drop lo⟩
structure BI (G : Gl) (C : Ct) (env : Env) (wf : Wd) (n₀ : Nat) (pend : List (Nat × Value)) (b : BS) (bads : List Addr) : Prop where
  nd : (bads ++ wf.ads.drop b.lo).Nodup
  sub : ∀ a ∈ bads, a ∈ wf.ads
  led : ORs G (wf.wx bads b.lo) b.base bads
  rel : ∀ y v, get b.loc y = some v → below bads.length v = true ∧ y < C.nms.length ∧ ∃ val, VR G (wf.wx bads b.lo) v val ∧ ((y, val) ∈ pend ∨ ((∀ u, (y, u) ∉ pend) ∧ NameIs wf env (C.nm y) val))
  all : ∀ y val, (y, val) ∈ pend → ∃ v, get b.loc y = some v
  refs : ∀ k a, k < n₀ → wf.ads[k]? = some a → bads[k]? = some a
  n0 : n₀ ≤ bads.length
theorem wx_perD {wf : Wd} {bads bads' : List Addr} {lo lo' : Nat} (h : ∀ a ∈ bads' ++ wf.ads.drop lo', a ∈ bads ++ wf.ads.drop lo) : PerD (wf.wx bads lo) (wf.wx bads' lo') :=
  ⟨fun b o e hs => ⟨e, hs.1, hs.2.1, fun q => hs.2.2 (h b q)⟩⟩
theorem drop_mem {l : List Addr} {k : Nat} {a : Addr} (h : l[k]? = some a) {lo : Nat} (hk : lo ≤ k) : a ∈ l.drop lo := by
  have : (l.drop lo)[k - lo]? = some a := by rw [List.getElem?_drop, show lo + (k - lo) = k by omega]; exact h
  exact mem_of_getElem? this
theorem drop_sub {l : List Addr} {lo lo' : Nat} (h : lo ≤ lo') {a : Addr} (m : a ∈ l.drop lo') : a ∈ l.drop lo := by
  rw [show lo' = lo + (lo' - lo) by omega, ← List.drop_drop] at m
  exact List.mem_of_mem_drop m
mutual
theorem okV_and {a b : Nat → Bool} : ∀ {v : V}, okV a v = true → okV b v = true → okV (fun k => a k && b k) v = true
  | .d _, _, _ => rfl
  | .lst _, _, _ => rfl
  | .dct _, _, _ => rfl
  | .hdr _, _, _ => rfl
  | .ref k, h, h' => Bool.and_eq_true_iff.mpr ⟨h, h'⟩
  | .hd k, h, h' => Bool.and_eq_true_iff.mpr ⟨h, h'⟩
  | .tup xs, h, h' => okVs_and h h'
theorem okVs_and {a b : Nat → Bool} : ∀ {vs : List V}, okVs a vs = true → okVs b vs = true → okVs (fun k => a k && b k) vs = true
  | [], _, _ => rfl
  | v :: vs, h, h' => Bool.and_eq_true_iff.mpr ⟨okV_and (andB h).1 (andB h').1, okVs_and (andB h).2 (andB h').2⟩
end
theorem BI.step {wf : Wd} {n₀ : Nat} {pend : List (Nat × Value)} {b b' : BS} {bads bads' : List Addr} {x : Nat} {val : Value} {v' : V} (I : BI G C env wf n₀ pend b bads) (hx : ∀ u, (x, u) ∉ pend) (hxn : x < C.nms.length)
    (hloc : b'.loc = put b.loc x v') (hnd : (bads' ++ wf.ads.drop b'.lo).Nodup) (hled : ORs G (wf.wx bads' b'.lo) b'.base bads')
    (hold : ∀ {y v u}, y ≠ x → get b.loc y = some v → below bads.length v = true → VR G (wf.wx bads b.lo) v u → VR G (wf.wx bads' b'.lo) v u) (hl : bads.length ≤ bads'.length) (hv : VR G (wf.wx bads' b'.lo) v' val) (hv' : below bads'.length v' = true)
    (hsub2 : ∀ a ∈ bads', a ∈ wf.ads) (hrefs : ∀ k a, k < n₀ → bads[k]? = some a → bads'[k]? = some a) : BI G C env wf n₀ ((x, val) :: pend) b' bads' where
  nd := hnd
  sub := hsub2
  led := hled
  rel := fun y v e => by
    rw [hloc, get_put] at e
    by_cases hy : y = x
    · subst hy
      rw [if_pos rfl] at e
      obtain rfl := Option.some.inj e
      exact ⟨hv', hxn, val, hv, .inl (.head _)⟩
    · rw [if_neg hy] at e
      obtain ⟨hb, l, u, r, q⟩ := I.rel y v e
      refine ⟨below_mono hl hb, l, u, hold hy e hb r, q.imp (fun q => .tail _ q) fun q => ⟨fun u' m => ?_, q.2⟩⟩
      exact (List.mem_cons.mp m).elim (fun m => hy (congrArg Prod.fst m)) (q.1 u')
  all := fun y u m => by
    rw [hloc, get_put]
    by_cases hy : y = x
    · exact ⟨v', if_pos hy⟩
    · rw [if_neg hy]
      exact I.all y u ((List.mem_cons.mp m).resolve_left fun m => hy (congrArg Prod.fst m))
  refs := fun k a hk e => hrefs k a hk (I.refs k a hk e)
  n0 := Nat.le_trans I.n0 hl
theorem drop_succ_mem {l : List Addr} {k : Nat} {a : Addr} (hn : l.Nodup) (e : l[k]? = some a) : a ∉ l.drop (k + 1) := fun q => by
  obtain ⟨i, hi⟩ := List.mem_iff_getElem?.mp q
  rw [List.getElem?_drop] at hi
  obtain ⟨h1, h2⟩ := List.getElem?_eq_some_iff.mp hi
  obtain ⟨h3, h4⟩ := List.getElem?_eq_some_iff.mp e
  exact (List.pairwise_iff_getElem.mp hn k (k + 1 + i) h3 h1 (by omega)) (h4.trans h2.symm)
structure FW (G : Gl) (wf : Wd) (full : Led) : Prop where
  led : ORs G wf full wf.ads
  nd : wf.ads.Nodup
  sep : ∀ a, a ∈ wf.own ∨ a ∈ wf.prot → a ∉ wf.ads
theorem wx_of {wf : Wd} {bads : List Addr} (h : ∀ a ∈ bads, a ∈ wf.ads) (lo : Nat) : PerD wf (wf.wx bads lo) := ⟨fun b o e hs => ⟨e, hs.1, hs.2.1, fun q => hs.2.2 ((List.mem_append.mp q).elim (h b) List.mem_of_mem_drop)⟩⟩
theorem freeze_sound {wf : Wd} {full : Led} {v : V} {val : Value} {lo : Nat} {bads : List Addr} {K : V × Nat → Prop} (F : FW G wf full) (hnd : (bads ++ wf.ads.drop lo).Nodup) (hsub : ∀ a ∈ bads, a ∈ wf.ads)
    (r : VR G wf v val) (e : (freeze lo full v).elim False K) : ∃ v' lo', K (v', lo') ∧ lo ≤ lo' ∧ VR G (wf.wx bads lo') v' val ∧ (∀ n, below n v' = true) := by
  have P := wx_of (wf := wf) hsub
  have fre : ∀ {k a}, lo ≤ k → wf.ads[k]? = some a → Wd.st (wf.wx bads (k + 1)) a := fun {k a} hk e =>
    ⟨fun m => F.sep a (.inl m) (mem_of_getElem? e), fun m => F.sep a (.inr m) (mem_of_getElem? e), fun q => (List.mem_append.mp q).elim (fun q => (List.nodup_append.mp hnd).2.2 a q a (drop_mem e hk) rfl) (drop_succ_mem F.nd e)⟩
  have pl : ∀ {u}, VR G wf u val → okV (fun _ => false) u = true → VR G (wf.wx bads lo) u val := fun r h => r.mv (P lo) (fun _ _ q => Bool.noConfusion q) h
  cases v with
  | d x => exact ⟨_, _, e, Nat.le_refl _, pl r rfl, fun n => rfl⟩
  | lst xs => exact ⟨_, _, e, Nat.le_refl _, pl r rfl, fun n => rfl⟩
  | dct kvs => exact ⟨_, _, e, Nat.le_refl _, pl r rfl, fun n => rfl⟩
  | hdr xs => exact ⟨_, _, e, Nat.le_refl _, pl r rfl, fun n => rfl⟩
  | ref k =>
    obtain ⟨hk, e1⟩ := gdW e
    obtain ⟨o, h, e2⟩ := isW (mapW e1)
    obtain ⟨a, ev, ha⟩ := r
    obtain ⟨a', ha', ho⟩ := F.led.get h
    obtain rfl := Option.some.inj (ha.symm.trans ha')
    cases o with
    | list xs => obtain ⟨vs, i, d⟩ := ho; exact ⟨_, _, e2, Nat.le_succ_of_le hk, ⟨a, vs, ev, i, fre hk ha, d.perD (P _)⟩, fun n => rfl⟩
    | dict kvs => exact ⟨_, _, e2, Nat.le_succ_of_le hk, ⟨a, ev, DictR.atD (P _) ho fun o q => q, fre hk ha⟩, fun n => rfl⟩
  | hd k =>
    obtain ⟨hk, e1⟩ := gdW e
    obtain ⟨o, h, e2⟩ := isW (bindW (mapW e1))
    obtain ⟨xs, rfl, e3⟩ := O.listW e2
    obtain ⟨a, b, ev, hh, ha⟩ := r
    obtain ⟨a', ha', vs, i, d⟩ := F.led.get h
    obtain rfl := Option.some.inj (ha.symm.trans ha')
    exact ⟨_, _, e3, Nat.le_succ_of_le hk, ⟨a, b, vs, ev, hh.perD (P _), i, fre hk ha, d.perD (P _)⟩, fun n => rfl⟩
  | tup xs => exact e.elim
theorem get_mem : ∀ {loc : Loc} {x : Nat} {v : V}, get loc x = some v → (x, v) ∈ loc
  | [], _, _, h => nomatch h
  | (y, u) :: r, x, v, h => by
    have h : (if y = x then some u else get r x) = some v := h
    by_cases hy : y = x
    · rw [if_pos hy] at h
      obtain rfl := Option.some.inj h
      exact hy ▸ .head _
    · rw [if_neg hy] at h
      exact .tail _ (get_mem h)
theorem getElem?_append_lt {l r : List Addr} {k : Nat} (h : k < l.length) : (l ++ r)[k]? = l[k]? := List.getElem?_append_left h
theorem nodup_set {a : Addr} : ∀ {l : List Addr} {j : Nat}, l.Nodup → a ∉ l → (l.set j a).Nodup
  | [], _, h, _ => h
  | x :: l, 0, h, n => List.nodup_cons.mpr ⟨fun q => n (.tail _ q), (List.nodup_cons.mp h).2⟩
  | x :: l, j + 1, h, n => List.nodup_cons.mpr ⟨fun q => (List.mem_or_eq_of_mem_set q).elim (List.nodup_cons.mp h).1 fun q => n (q ▸ .head _), nodup_set (List.nodup_cons.mp h).2 fun q => n (.tail _ q)⟩
theorem ORs.put {W : Wd} {o : O} {a : Addr} : ∀ {l : List O} {as : List Addr} {j : Nat}, ORs G W l as → OR G W o a → ORs G W (l.set j o) (as.set j a)
  | [], [], _, _, _ => trivial
  | [], _ :: _, _, h, _ => h.elim
  | _ :: _, [], _, h, _ => h.elim
  | _ :: _, _ :: _, 0, h, h' => ⟨h', h.2⟩
  | _ :: _, _ :: _, j + 1, h, h' => ⟨h.1, h.2.put h'⟩
theorem place_sound {wf : Wd} {full : Led} {n₀ : Nat} {pend : List (Nat × Value)} {b : BS} {bads : List Addr} {x k : Nat} {a : Addr} {val : Value} {mk : Nat → V} {K : BS → Prop} (F : FW G wf full) (I : BI G C env wf n₀ pend b bads) (hx : ∀ u, (x, u) ∉ pend)
    (hxn : x < C.nms.length) (ha : wf.ads[k]? = some a) (hmk : ∀ {w' : Wd} {j}, PerD wf w' → w'.ads[j]? = some a → VR G w' (mk j) val) (hbl : ∀ {j n}, j < n → below n (mk j) = true) (e : (place full n₀ x k mk b).elim False K) :
    ∃ b' bads', K b' ∧ BI G C env wf n₀ ((x, val) :: pend) b' bads' := by
  have hlen := I.led.len
  obtain ⟨hk, e1⟩ := gdW e
  obtain ⟨o, ho, e2⟩ := isW (bindW e1)
  obtain ⟨a', ha', hor⟩ := F.led.get ho
  obtain rfl := Option.some.inj (ha.symm.trans ha')
  have ham : a ∈ wf.ads.drop b.lo := drop_mem ha hk
  have haw : a ∈ wf.ads := mem_of_getElem? ha
  have nd := List.nodup_append.mp I.nd
  have hab : a ∉ bads := fun q => nd.2.2 a q a ham rfl
  have had : a ∉ wf.ads.drop (k + 1) := drop_succ_mem F.nd ha
  have hdr : ∀ c ∈ wf.ads.drop (k + 1), c ∈ wf.ads.drop b.lo := fun c m => drop_sub (Nat.le_succ_of_le hk) m
  have gen : ∀ {bads' : List Addr}, bads'.Nodup → (∀ c ∈ bads', c ∈ bads ∨ c = a) → (bads' ++ wf.ads.drop (k + 1)).Nodup ∧ PerD (wf.wx bads b.lo) (wf.wx bads' (k + 1)) ∧ (∀ c ∈ bads', c ∈ wf.ads) := fun {bads'} n h =>
    ⟨List.nodup_append.mpr ⟨n, F.nd.sublist (List.drop_sublist _ _), fun c m d md q => by
      subst q
      exact (h c m).elim (fun m => nd.2.2 c m c (hdr c md) rfl) fun q => had (q ▸ md)⟩,
    wx_perD fun c m => (List.mem_append.mp m).elim (fun m => (h c m).elim (List.mem_append_left _) fun q => List.mem_append_right _ (q ▸ ham)) fun m => List.mem_append_right _ (hdr c m),
    fun c m => (h c m).elim (I.sub c) fun q => q ▸ haw⟩
  cases hg : get b.loc x with
  | none =>
    rw [hg] at e2
    obtain ⟨g1, g2, g3⟩ := gen (bads' := bads ++ [a]) (List.nodup_append.mpr ⟨nd.1, List.nodup_cons.mpr ⟨nofun, .nil⟩, fun c m d md q => hab (mem1 md ▸ q ▸ m)⟩) (fun c m => (List.mem_append.mp m).imp id mem1)
    have hl1 : (bads ++ [a]).length = bads.length + 1 := List.length_append
    refine ⟨_, bads ++ [a], e2, I.step hx hxn rfl g1 ((I.led.moveD g2 fun c _ o e => e).append ⟨hor.moveD (wx_of g3 _) fun o e => e, trivial⟩) (fun {y v u} hy ey hb r => r.mvB g2 hb fun j c hj ec => ?_) (hl1 ▸ Nat.le_succ _) (hmk (wx_of g3 _) ?_) (hbl (by rw [hl1, hlen]; exact Nat.lt_succ_self _)) g3 fun j c hj ec => ?_⟩
    · exact (getElem?_append_lt (hl1 ▸ Nat.lt_succ_of_lt hj)).trans ((getElem?_append_lt hj).trans ((getElem?_append_lt hj).symm.trans ec))
    · exact (getElem?_append_lt (by rw [hl1, hlen]; exact Nat.lt_succ_self _)).trans (by rw [hlen, List.getElem?_concat_length])
    · exact (getElem?_append_lt (List.getElem?_eq_some_iff.mp ec).1).trans ec
  | some u0 =>
    rw [hg] at e2
    obtain ⟨j, _, e3⟩ := isW (bindW e2)
    obtain ⟨⟨h1, h2, h3⟩, e4⟩ := gdW e3
    have hjb : j < bads.length := hlen ▸ h2
    obtain ⟨g1, g2, g3⟩ := gen (bads' := bads.set j a) (nodup_set nd.1 hab) (fun c m => List.mem_or_eq_of_mem_set m)
    have hl1 : (bads.set j a).length = bads.length := List.length_set
    refine ⟨_, bads.set j a, e4, I.step hx hxn rfl g1 ((I.led.moveD g2 fun c _ o e => e).put (hor.moveD (wx_of g3 _) fun o e => e)) (fun {y v u} hy ey hb r => ?_) (Nat.le_of_eq hl1.symm) (hmk (wx_of g3 _) ?_) (hbl (hl1.symm ▸ hjb)) g3 fun i c hi ec => ?_⟩
    · have hno : noRef j v = true := (Bool.or_eq_true_iff.mp (List.all_eq_true.mp h3 (y, v) (get_mem ey))).resolve_left fun q => hy (eq_of_beq q)
      refine r.mv g2 (fun i c q ec => ?_) (okV_and hno hb)
      obtain ⟨q1, q2⟩ := andB q
      have hib : i < bads.length := of_decide_eq_true q2
      exact (getElem?_append_lt (hl1.symm ▸ hib)).trans ((List.getElem?_set_ne (Ne.symm (bne_iff_ne.mp q1))).trans ((getElem?_append_lt hib).symm.trans ec))
    · exact (getElem?_append_lt (hl1.symm ▸ hjb)).trans (List.getElem?_set_self hjb)
    · rw [List.getElem?_set_ne (Ne.symm (Nat.ne_of_lt (Nat.lt_of_lt_of_le hi h1)))]; exact ec
theorem bindN_sound {mu : List Nat} {wf : Wd} {full : Led} {n₀ : Nat} {pend : List (Nat × Value)} {b : BS} {bads : List Addr} {x : Nat} {v : V} {val : Value} {K : BS → Prop} (F : FW G wf full) (I : BI G C env wf n₀ pend b bads) (hx : ∀ u, (x, u) ∉ pend) (hxn : x < C.nms.length)
    (r : VR G wf v val) (e : (bindN mu n₀ full x v b).elim False K) : ∃ b' bads', K b' ∧ BI G C env wf n₀ ((x, val) :: pend) b' bads' := by
  obtain ⟨k1, k2⟩ := condW e
  cases hm : mu.contains x with
  | true =>
    have e1 := k1 hm
    cases v with
    | ref k => obtain ⟨a, ev, ha⟩ := r; exact place_sound (mk := .ref) F I hx hxn ha (fun P h => ⟨a, ev, h⟩) (fun h => decide_eq_true h) e1
    | hd k => obtain ⟨a, c, ev, hh, ha⟩ := r; exact place_sound (mk := .hd) F I hx hxn ha (fun P h => ⟨a, c, ev, hh.perD P, h⟩) (fun h => decide_eq_true h) e1
    | _ => exact e1.elim
  | false =>
    obtain ⟨v', lo', e1, h1, h2, h3⟩ := freeze_sound F I.nd I.sub r (mapW (k2 hm))
    have hdr : ∀ c ∈ wf.ads.drop lo', c ∈ wf.ads.drop b.lo := fun c m => drop_sub h1 m
    have P : PerD (wf.wx bads b.lo) (wf.wx bads lo') := wx_perD fun c m => (List.mem_append.mp m).elim (List.mem_append_left _) fun m => List.mem_append_right _ (hdr c m)
    have nd := List.nodup_append.mp I.nd
    refine ⟨_, bads, e1, I.step hx hxn rfl (List.nodup_append.mpr ⟨nd.1, F.nd.sublist (List.drop_sublist _ _), fun c m d md q => nd.2.2 c m d (hdr d md) q⟩) (I.led.moveD P fun c _ o e => e) (fun {y u t} hy ey hb r => r.mvB P hb fun j c hj ec => ?_) (Nat.le_refl _) h2 (h3 _) I.sub (fun j c _ ec => ec)⟩
    exact (getElem?_append_lt hj).trans ((getElem?_append_lt hj).symm.trans ec)
theorem bindNs_sound {mu : List Nat} {wf : Wd} {full : Led} {n₀ : Nat} (F : FW G wf full) : ∀ {xs : List Nat} {vs : List V} {vals : List Value} {pend : List (Nat × Value)} {b : BS} {bads : List Addr} {K : BS → Prop}, BI G C env wf n₀ pend b bads → (∀ x ∈ xs, ∀ u, (x, u) ∉ pend) → (∀ x ∈ xs, x < C.nms.length) →
    VRs G wf vs vals → (bindNs mu n₀ full xs vs b).elim False K → ∃ b' bads', K b' ∧ BI G C env wf n₀ ((xs.zip vals).reverse ++ pend) b' bads' ∧ xs.length = vals.length ∧ xs.Nodup
  | [], vs, vals, pend, b, bads, K, I, _, _, r, e => by
    obtain ⟨rfl, e1⟩ := zeroW r (mapW e)
    exact ⟨_, bads, e1, I, rfl, .nil⟩
  | _ :: _, [], _, _, _, _, _, _, _, _, _, e => e.elim
  | _ :: _, _ :: _, [], _, _, _, _, _, _, _, r, _ => r.elim
  | x :: xs, v :: vs, val :: vals, pend, b, bads, K, I, hx, hn, r, e => by
    obtain ⟨hc, e1⟩ := gdW e
    have hxx : x ∉ xs := fun m => by
      rw [List.contains_iff_mem.mpr m] at hc
      exact Bool.noConfusion hc
    obtain ⟨b1, bads1, e2, I1⟩ := bindN_sound F I (hx x (.head _)) (hn x (.head _)) r.1 (bindW e1)
    obtain ⟨b2, bads2, e3, I2, h2, h1⟩ := bindNs_sound F I1 (fun y hy u m => (List.mem_cons.mp m).elim (fun m => hxx (by obtain rfl : y = x := congrArg Prod.fst m; exact hy)) (hx y (.tail _ hy) u)) (fun y hy => hn y (.tail _ hy)) r.2 e2
    refine ⟨b2, bads2, e3, ?_, congrArg (· + 1) h2, List.nodup_cons.mpr ⟨hxx, h1⟩⟩
    rw [List.zip_cons_cons, List.reverse_cons, List.append_assoc]
    exact I2
end
end UK
end
section
namespace UK
open PySem PySem.W PySem.Calls PyProof.Rows PySem.SeqAt
section
variable {G : Gl} {C : Ct} {A : Around} {env : Env} {cx : Cx} {w : Wd} {loc : Loc} {led led' : Led} {s : Shared}
theorem PostE.fw {wf : Wd} {v : V} {val : Value} {s' : Shared} (p : PostE G w led' v val s' wf) (c : St G C A env w loc led s) : FW G wf led' := ⟨p.led, p.nd, (p.st c).conc.sep⟩
theorem bind_start {wf : Wd} {n₀ : Nat} (c : Conc G C A w env loc led) (P : Per w wf) (K : HeldK env w wf) (pre : w.ads <+: wf.ads) (F : FW G wf led') (hn : n₀ ≤ led.length) : BI G C env wf n₀ [] ⟨led.length, loc, led'.take led.length⟩ w.ads := by
  have hled := F.led.take led.length
  rw [c.take pre] at hled
  obtain ⟨t, ht⟩ := pre
  have hl := c.led.len
  have hd : wf.ads.drop led.length = t := by rw [← ht, hl, List.drop_left]
  have hw : wf.wx w.ads led.length = wf := by unfold Wd.wx; rw [hd, ht]
  refine ⟨by rw [hd, ht]; exact F.nd, fun a m => by rw [← ht]; exact List.mem_append_left _ m, by rw [hw]; exact hled, fun y u e => ?_, nofun, fun k a hk e => ?_, hl ▸ hn⟩
  · obtain ⟨l, val', i, r⟩ := c.locs y u e
    exact ⟨r.below (Nat.le_refl _), l, val', by rw [hw]; exact r.per P, .inr ⟨nofun, i.to K⟩⟩
  · rw [← ht, getElem?_append_lt (hl ▸ Nat.lt_of_lt_of_le hk hn)] at e
    exact e
theorem PostE.start {wf : Wd} {v : V} {val : Value} {s' : Shared} {n₀ : Nat} (p : PostE G w led' v val s' wf) (c : St G C A env w loc led s) (hn : n₀ ≤ led.length) : BI G C env wf n₀ [] ⟨led.length, loc, led'.take led.length⟩ w.ads :=
  bind_start c.conc p.stp.per (fun _ e n => p.stp.keep _ _ e n) p.stp.pre (p.fw c) hn
noncomputable def delN (xs : List Nat) : Loc → Loc
  | [] => []
  | p :: r => cond (xs.contains p.1) (delN xs r) (p :: delN xs r)
theorem get_delN {xs : List Nat} {y : Nat} : ∀ {loc : Loc}, get (delN xs loc) y = cond (xs.contains y) none (get loc y)
  | [] => by show none = _; cases xs.contains y <;> rfl
  | (z, u) :: r => by
    have ih := get_delN (xs := xs) (y := y) (loc := r)
    show get (cond (xs.contains z) (delN xs r) ((z, u) :: delN xs r)) y = cond (xs.contains y) none (if z = y then some u else get r y)
    by_cases hy : z = y
    · subst hy
      rw [if_pos rfl]
      cases hz : xs.contains z with
      | true => rw [hz] at ih; exact ih
      | false => exact if_pos rfl
    · rw [if_neg hy, ← ih]
      cases xs.contains z with
      | true => rfl
      | false => exact if_neg hy
theorem pair_uniq {x : Nat} {a b : Value} : ∀ {l : List (Nat × Value)}, (l.map (·.1)).Nodup → (x, a) ∈ l → (x, b) ∈ l → a = b
  | p :: l, hn, h1, h2 =>
    have n := List.nodup_cons.mp hn
    (List.mem_cons.mp h1).elim (fun q1 => (List.mem_cons.mp h2).elim (fun q2 => congrArg Prod.snd (q1.trans q2.symm)) fun m2 => absurd (List.mem_map.mpr ⟨(x, b), m2, show x = p.1 from congrArg Prod.fst q1⟩) n.1)
      fun m1 => (List.mem_cons.mp h2).elim (fun q2 => absurd (List.mem_map.mpr ⟨(x, a), m1, show x = p.1 from congrArg Prod.fst q2⟩) n.1) fun m2 => pair_uniq n.2 m1 m2
theorem storable.own {w w' : Wd} {x : Str} (h : storable w env x) (e : w'.own = w.own) : storable w' env x := h.imp id fun ⟨k, c, l, m⟩ => ⟨k, c, l, e ▸ m⟩
structure FinW (G : Gl) (C : Ct) (A : Around) (w : Wd) (env : Env) (n₀ : Nat) (pend : List (Nat × Value)) (b : BS) (wf : Wd) (s1 : Shared) (wB : Wd) (loc0 : Loc) : Prop where
  st : St G C A env wB loc0 b.base s1
  step : StepS n₀ w wB
  own : wB.own = wf.own
  rest : ∀ y u, get b.loc y = some u → y ∉ pend.map (·.1) → get loc0 y = some u
  val : ∀ {x u}, (x, u) ∈ pend → x < C.nms.length ∧ ∃ v, get b.loc x = some v ∧ VR G wB v u
theorem fin_world {wf : Wd} {s1 : Shared} {n₀ : Nat} {pend : List (Nat × Value)} {b : BS} {bads : List Addr} (cf : Conc G C A wf env loc led) (S : StepS n₀ w wf) (I : BI G C env wf n₀ pend b bads) (g : Grow wf.h s1.heap) (hr : Rs G s1)
    (hnd : (pend.map (·.1)).Nodup) : FinW G C A w env n₀ pend b wf s1 ⟨s1.heap, wf.own, wf.prot, bads⟩ (delN (pend.map (·.1)) b.loc) := by
  have Pc : PerD (wf.wx bads b.lo) ⟨s1.heap, wf.own, wf.prot, bads⟩ := ⟨fun d o e hs => ⟨g d o e, hs.1, hs.2.1, fun q => hs.2.2 (List.mem_append_left _ q)⟩⟩
  have Pw : PerD wf ⟨s1.heap, wf.own, wf.prot, bads⟩ := ⟨fun d o e hs => ⟨g d o e, hs.1, hs.2.1, fun q => hs.2.2 (I.sub d q)⟩⟩
  have mv : ∀ {v : V} {val : Value}, VR G (wf.wx bads b.lo) v val → below bads.length v = true → VR G ⟨s1.heap, wf.own, wf.prot, bads⟩ v val := fun r hb => r.mvB Pc hb fun j a hj ea => (getElem?_append_lt hj).symm.trans ea
  refine ⟨⟨?_, rfl, hr⟩, S.trans ⟨rfl, rfl, fun d o e hs => ⟨g d o e, fun q => hs.2.2 (I.sub d q)⟩, fun d o _ e => g d o e, I.refs⟩, rfl, fun y u e hy => ?_, fun {x u} h => ?_⟩
  · -- the names that are not laid yet
    have hk : HeldK env wf ⟨s1.heap, wf.own, wf.prot, bads⟩ := fun _ e n => ⟨g _ _ e, fun q => n (I.sub _ q)⟩
    refine { (cf.weaken (loc' := []) nofun).to Pw hk id (fun _ m => m) nofun (I.led.moveD Pc fun a _ o e => g a o e) (List.nodup_append.mp I.nd).1 (fun a h m => cf.sep a h (I.sub a m)) (fun a h => (cf.ownex a h).imp fun o ho => g a o ho) cf.op with locs := fun y v e => ?_ }
    rw [get_delN] at e
    cases hy : (pend.map (·.1)).contains y with
    | true => rw [hy] at e; exact nomatch e
    | false =>
      rw [hy] at e
      obtain ⟨hb, l, val, r, q⟩ := I.rel y v e
      obtain ⟨_, i⟩ := q.resolve_left fun q => Bool.noConfusion (hy.symm.trans (List.contains_iff_mem.mpr (List.mem_map.mpr ⟨_, q, rfl⟩)))
      exact ⟨l, val, i.to hk, mv r hb⟩
  · rw [get_delN]
    cases hc : (pend.map (·.1)).contains y with
    | true => exact absurd (List.contains_iff_mem.mp hc) hy
    | false => exact e
  · obtain ⟨v, hv⟩ := I.all x u h
    obtain ⟨hb, l, val', r, q⟩ := I.rel x v hv
    obtain rfl : val' = u := q.elim (fun q => pair_uniq hnd q h) fun q => absurd h (q.1 u)
    exact ⟨l, v, hv, mv r hb⟩
noncomputable def TreesFor (G : Gl) (C : Ct) (A : Around) (env : Env) : List (Value → Sem Unit) → List Nat → Prop
  | [], xs => xs = []
  | t :: ts, xs => ∃ x ys, xs = x :: ys ∧ (∀ {val : Value} {E : Value → Shared → Prop} {Q : Unit → Shared → Prop} {s : Shared}, wpAny (Mo G) A (storeName env (C.nm x) val) Q E s → wpAny (Mo G) A (t val) Q E s) ∧ TreesFor G C A env ts ys
theorem stores_conc {vf : Nat → V} {E : Value → Shared → Prop} {Q : Unit → Shared → Prop} :
    ∀ (ts : List (Value → Sem Unit)) (xs : List Nat) (vals : List Value) {w : Wd} {loc : Loc} {s : Shared}, TreesFor G C A env ts xs → xs.length = vals.length → St G C A env w loc led s →
      (∀ {x u}, (x, u) ∈ xs.zip vals → x < C.nms.length ∧ storable w env (C.nm x) ∧ VR G w (vf x) u) →
      (∀ {w' loc' s'}, Own w w' → St G C A env w' loc' led s' → (∀ y, y ∈ xs ∧ get loc' y = some (vf y) ∨ y ∉ xs ∧ get loc' y = get loc y) → Q () s') →
      wpAny (Mo G) A (assignInOrder ts vals) Q E s
  | [], xs, vals, w, loc, s, ht, hl, c, _, k => by
    obtain rfl : xs = [] := ht
    obtain rfl := List.length_eq_zero_iff.mp hl.symm
    exact wpAny_pure (k (Own.refl w) c fun y => .inr ⟨nofun, rfl⟩)
  | t :: ts, xs, [], w, loc, s, ⟨x, ys, e, _⟩, hl, c, _, k => by subst e; exact nomatch hl
  | t :: ts, xs, val :: vals, w, loc, s, ⟨x, ys, e, ht1, ht2⟩, hl, c, hp, k => by
    subst e
    obtain ⟨h1, h2, h3⟩ := hp (x := x) (u := val) (.head _)
    show wpAny _ _ (do holding vals (t val); assignInOrder ts vals) _ _ _
    refine wpAny_bind (wpAny_holding (ht1 (store_conc c h1 h2 h3 fun {w1 s1} P1 c1 => stores_conc (vf := vf) ts ys vals ht2 (Nat.succ.inj hl) c1 (fun {y u} m => ?_) fun {w2 loc2 s2} P2 c2 g2 => k (P1.trans P2) c2 fun y => ?_)))
    · obtain ⟨q1, q2, q3⟩ := hp (x := y) (u := u) (.tail _ m)
      exact ⟨q1, q2.own P1.own, q3.per P1.per⟩
    · rcases g2 y with ⟨m, e⟩ | ⟨m, e⟩
      · exact .inl ⟨.tail _ m, e⟩
      · rw [get_put] at e
        by_cases hy : y = x
        · subst hy; rw [if_pos rfl] at e; exact .inl ⟨.head _, e⟩
        · rw [if_neg hy] at e; exact .inr ⟨fun q => (List.mem_cons.mp q).elim hy m, e⟩
end
noncomputable def FlOk (G : Gl) (w' : Wd) (fl : Fl) (f : Flow) : Prop := match fl with
  | .nx => f = .next
  | .ret v => ∃ val, f = .ret val ∧ VR G w' v val
structure PostS (G : Gl) (C : Ct) (A : Around) (w : Wd) (env : Env) (n₀ : Nat) (r : Res) (f : Flow) (s' : Shared) (w' : Wd) : Prop where
  st : St G C A env w' r.2.1 r.2.2 s'
  step : StepS n₀ w w'
  fl : FlOk G w' r.1 f
noncomputable def SSo (G : Gl) (C : Ct) (A : Around) (env : Env) (cx : Cx) (own : List Addr) (mu : List Nat) (sm : S) (x : Stmt) : Prop :=
  ∀ {w : Wd} {loc : Loc} {led : Led} {s : Shared} {n₀ : Nat} {K : Res → Prop} {Q : Flow → Shared → Prop}, St G C A env w loc led s → w.own = own → n₀ ≤ led.length → (evS cx mu n₀ sm loc led).elim False K →
    (∀ {r : Res} {f : Flow} {s' : Shared} {w' : Wd}, K r → PostS G C A w env n₀ r f s' w' → Q f s') → wpAny (Mo G) A (exec x env) Q NoE s
noncomputable def SSs (G : Gl) (C : Ct) (A : Around) (env : Env) (cx : Cx) (own : List Addr) (mu : List Nat) (ss : List S) (xs : List Stmt) : Prop :=
  ∀ {w : Wd} {loc : Loc} {led : Led} {s : Shared} {n₀ : Nat} {K : Res → Prop} {Q : Flow → Shared → Prop}, St G C A env w loc led s → w.own = own → n₀ ≤ led.length → (evSs cx mu n₀ ss loc led).elim False K →
    (∀ {r : Res} {f : Flow} {s' : Shared} {w' : Wd}, K r → PostS G C A w env n₀ r f s' w' → Q f s') → wpAny (Mo G) A (execs xs env) Q NoE s
section
variable {G : Gl} {C : Ct} {A : Around} {env : Env} {cx : Cx} {w : Wd} {loc : Loc} {led led' : Led} {s : Shared} {own : List Addr} {mu : List Nat} {n₀ : Nat}
theorem StepS.len {n : Nat} {w' : Wd} (x : StepS n w w') (h : n ≤ w.ads.length) : n ≤ w'.ads.length := by
  cases n with
  | zero => exact Nat.zero_le _
  | succ n => exact (List.getElem?_eq_some_iff.mp (x.refs n _ (Nat.lt_succ_self _) (List.getElem?_eq_getElem h))).1
theorem St.len {w' : Wd} {loc' : Loc} {s' : Shared} (c : St G C A env w loc led s) (hn : n₀ ≤ led.length) (P : StepS n₀ w w') (c' : St G C A env w' loc' led' s') : n₀ ≤ led'.length := c'.conc.led.len ▸ P.len (c.conc.led.len ▸ hn)
theorem PostS.after {w1 w' : Wd} {r : Res} {f : Flow} {s' : Shared} (P : StepS n₀ w w1) (p : PostS G C A w1 env n₀ r f s' w') : PostS G C A w env n₀ r f s' w' := ⟨p.st, P.trans p.step, p.fl⟩
theorem SSs.nil : SSs G C A env cx own mu [] [] := fun {w loc led s n₀ K Q} c ho hn e k => wpAny_execs_nil (k e ⟨c, StepS.refl _ _, rfl⟩)
theorem SSs.cons {sm : S} {ss : List S} {x : Stmt} {xs : List Stmt} (h1 : SSo G C A env cx own mu sm x) (h2 : SSs G C A env cx own mu ss xs) : SSs G C A env cx own mu (sm :: ss) (x :: xs) := fun {w loc led s n₀ K Q} c ho hn e k =>
  wpAny_execs_cons (h1 c ho hn (bindW e) fun {r f s1 w1} e p => by
    obtain ⟨fl, loc1, led1⟩ := r
    cases fl with
    | nx => obtain rfl := p.fl; exact h2 p.st (p.step.own.trans ho) (c.len hn p.step p.st) e fun e p2 => k e (p2.after p.step)
    | ret v => obtain ⟨val, rfl, _⟩ := id p.fl; exact k e p)
theorem fin_names {wf : Wd} {s1 : Shared} {pend : List (Nat × Value)} {b : BS} {bads : List Addr} {ts : List (Value → Sem Unit)} {xs : List Nat} {vals : List Value} {E : Value → Shared → Prop} {Q : Unit → Shared → Prop} (cf : Conc G C A wf env loc led) (S : StepS n₀ w wf) (I : BI G C env wf n₀ pend b bads)
    (hnd : (pend.map (·.1)).Nodup) (g : Grow wf.h s1.heap) (hr : Rs G s1) (hl : ∀ {q}, q ∈ xs.zip vals ↔ q ∈ pend) (hlen : xs.length = vals.length) (hst : ∀ {x}, x ∈ xs → storable wf env (C.nm x)) (ht : TreesFor G C A env ts xs)
    (k : ∀ {s2 w2}, PostS G C A w env n₀ (.nx, b.loc, b.base) .next s2 w2 → Q () s2) : wpAny (Mo G) A (assignInOrder ts vals) Q E s1 := by
  have F := fin_world cf S I g hr hnd
  refine stores_conc (vf := fun x => (get b.loc x).getD (.d .none)) ts xs vals ht hlen F.st (fun {x u} m => ?_) fun {w2 loc2 s2} P2 c2 g2 => k ⟨⟨c2.conc.weaken fun y u e => ?_, c2.heap⟩, F.step.trans (Own.step F.st.conc P2), rfl⟩
  · obtain ⟨h1, vv, h2, h3⟩ := F.val (hl.mp m)
    exact ⟨h1, (hst (List.of_mem_zip m).1).own F.own, by rw [h2]; exact h3⟩
  · rcases g2 y with ⟨m, e2⟩ | ⟨m, e2⟩
    · rw [e2, e]; rfl
    · refine e2.trans (F.rest y u e fun q => ?_)
      obtain ⟨z, hz, rfl⟩ := List.mem_map.mp q
      exact m (List.of_mem_zip (hl.mpr hz)).1
theorem fin_name {wf : Wd} {u : Value} {s1 : Shared} {x : Nat} {b : BS} {bads : List Addr} {E : Value → Shared → Prop} {Q : Unit → Shared → Prop} (cf : Conc G C A wf env loc led) (S : StepS n₀ w wf) (I : BI G C env wf n₀ [(x, u)] b bads)
    (g : Grow wf.h s1.heap) (hr : Rs G s1) (hst : storable wf env (C.nm x)) (k : ∀ {s2 w2}, PostS G C A w env n₀ (.nx, b.loc, b.base) .next s2 w2 → Q () s2) : wpAny (Mo G) A (storeName env (C.nm x) u) Q E s1 := by
  have F := fin_world cf S I g hr (List.nodup_cons.mpr ⟨nofun, .nil⟩)
  obtain ⟨h1, vv, h2, h3⟩ := F.val (.head _)
  refine store_conc F.st h1 (hst.own F.own) h3 fun {w2 s2} P2 c2 => k ⟨⟨c2.conc.weaken fun y t e => ?_, c2.heap⟩, F.step.trans (Own.step F.st.conc P2), rfl⟩
  rw [get_put]
  by_cases hy : y = x
  · rw [if_pos hy]; subst hy; exact h2.symm.trans e
  · rw [if_neg hy]; exact F.rest y t e fun q => hy (mem1 q)
theorem isName_store {sc : Scope} (hsc : env.scope = sc) (hfl : FnOk own env) {x : Nat} {e : Expr} (h : isT C sc true (.name x) e = true) : x < C.nms.length ∧ asName e = some (C.nm x) ∧ ∀ {w : Wd}, w.own = own → storable w env (C.nm x) := by
  obtain ⟨id, h1, h2⟩ := elimB h
  obtain ⟨h3, h4⟩ := andB h2
  obtain ⟨h5, h6⟩ := andB h3
  obtain rfl := eq_of_beq h6
  refine ⟨of_decide_eq_true h5, h1, fun ho => ?_⟩
  rcases Bool.or_eq_true_iff.mp h4 with h | h
  · exact .inl (kind_of' hsc h)
  · have hkc := kind_of' hsc (andB h).2
    obtain ⟨cc, l, m⟩ := hfl _ hkc
    exact .inr ⟨hkc, cc, l, ho ▸ m⟩
theorem SSo.assignName {x : Nat} {e : E} {id : Str} {pos' pos : Pos} {value : Expr} (hfl : FnOk own env) (ht : isT C env.scope true (.name x) (.Name id pos') = true) (hs : swapsWith value (some (.Name id pos')) pos.line env = pure false)
    (he : SE G C A env cx e value) : SSo G C A env cx own mu (.assign (.name x) e) (.Assign [.Name id pos'] value pos) := fun {w loc led s n₀ K Q} c ho hn e k => by
  obtain ⟨hx, hid, hst⟩ := isName_store rfl hfl ht
  obtain rfl : id = C.nm x := Option.some.inj hid
  refine wpAny_Assign_Name (he c (bindW e) fun {q val s1 wf} e p => ?_) hs
  obtain ⟨b, bads, e1, I⟩ := bindN_sound (p.fw c) (p.start c hn) nofun hx p.val (mapW e)
  exact fin_name (p.st c).conc (Stp.step c.conc p.stp) I (p.heap.1 ▸ Grow.refl _) p.heap.2 (hst (p.stp.own.trans ho)) (k e1)
theorem DRs.vrs {w : Wd} : ∀ {ds : List D} {vals : List Value}, DRs w ds vals → VRs G w (ds.map .d) vals
  | [], [], _ => trivial
  | [], _ :: _, h => h.elim
  | _ :: _, [], h => h.elim
  | _ :: _, _ :: _, h => ⟨h.1, DRs.vrs h.2⟩
theorem itemsW {v : V} {val : Value} {K : List V → Prop} (r : VR G w v val) (e : (itemsT v).elim False K) : ∃ a us vs, val = .ref a ∧ w.h.IsTuple a us ∧ VRs G w vs us.toList ∧ K vs := by
  cases v with
  | tup vs => obtain ⟨a, us, e1, i, _, d⟩ := r; exact ⟨a, us, vs, e1, i, d, e⟩
  | d y =>
    obtain ⟨ds, rfl, e2⟩ := D.tupW (mapW e)
    obtain ⟨a, us, e1, i, _, d⟩ := r
    exact ⟨a, us, _, e1, i, DRs.vrs d, e2⟩
  | _ => exact e.elim
theorem targets {sc : Scope} (hsc : env.scope = sc) (hfl : FnOk own env) : ∀ {ts : List T} {es : List Expr} {xs : List Nat}, namesOfT ts = some xs → isTs C sc true ts es = true →
    (∀ {x}, x ∈ xs → x < C.nms.length ∧ ∀ {w : Wd}, w.own = own → storable w env (C.nm x)) ∧ TreesFor G C A env ((assignEach es env).map (·.2)) xs ∧ ts.length = xs.length
  | [], [], xs, h, _ => by obtain rfl := Option.some.inj h; exact ⟨nofun, rfl, rfl⟩
  | [], _ :: _, _, _, h => Bool.noConfusion h
  | _ :: _, [], _, _, h => Bool.noConfusion h
  | t :: ts, e :: es, xs, hx, h => by
    obtain ⟨x, e1, e2⟩ := bindE hx
    obtain ⟨ys, e3, rfl⟩ := mapE e2
    obtain ⟨h1, h2, h3⟩ := targets hsc hfl e3 (andB h).2
    cases t with
    | tup _ => exact nomatch e1
    | name y =>
      obtain rfl := Option.some.inj e1
      obtain ⟨q1, q2, q3⟩ := isName_store hsc hfl (andB h).1
      obtain ⟨pos, rfl⟩ := asName_is q2
      exact ⟨fun {z} hz => (List.mem_cons.mp hz).elim (fun q => q ▸ ⟨q1, q3⟩) h1, ⟨y, ys, rfl, wpAny_assign_Name, h2⟩, congrArg (· + 1) h3⟩
structure TupI (G : Gl) (C : Ct) (A : Around) (env : Env) (n₀ : Nat) (wf : Wd) (ts : List T) (es : List Expr) (val : Value) (xs : List Nat) (a : Addr) (us : Array Value) (b : BS) (bads : List Addr) : Prop where
  is : val = .ref a
  tup : wf.h.IsTuple a us
  len : xs.length = us.toList.length
  bi : BI G C env wf n₀ ((xs.zip us.toList).reverse ++ []) b bads
  nd : (((xs.zip us.toList).reverse ++ ([] : List (Nat × Value))).map (·.1)).Nodup
  st : ∀ {x}, x ∈ xs → storable wf env (C.nm x)
  tr : TreesFor G C A env ((assignEach es env).map (·.2)) xs
  tlen : ts.length = xs.length
theorem tup_start {wf : Wd} {v : V} {val : Value} {s' : Shared} {ts : List T} {es : List Expr} {K : BS → Prop} (c : St G C A env w loc led s) (p : PostE G w led' v val s' wf) (ho : w.own = own) (hn : n₀ ≤ led.length) (hfl : FnOk own env) (ht : isTs C env.scope true ts es = true)
    (e : (bindV mu n₀ led' (.tup ts) v ⟨led.length, loc, led'.take led.length⟩).elim False K) : ∃ xs a us b bads, namesOfT ts = some xs ∧ K b ∧ TupI G C A env n₀ wf ts es val xs a us b bads := by
  obtain ⟨xs, h1, e1⟩ := isW (bindW e)
  obtain ⟨a, us, vs, ev, i, d, e2⟩ := itemsW p.val (bindW e1)
  obtain ⟨hx, htr, hxl⟩ := targets (G := G) (A := A) rfl hfl h1 ht
  obtain ⟨b, bads, e3, I, hlen, hnd⟩ := bindNs_sound (p.fw c) (p.start c hn) (fun _ _ _ => nofun) (fun x m => (hx m).1) d e2
  refine ⟨xs, a, us, b, bads, h1, e3, ev, i, hlen, I, ?_, fun m => (hx m).2 (p.stp.own.trans ho), htr, hxl⟩
  rw [List.append_nil, List.map_reverse, List.map_fst_zip (Nat.le_of_eq hlen)]
  exact (List.Perm.nodup_iff (List.reverse_perm xs)).mpr hnd
theorem grow_new {wf : Wd} {h' : Heap} (hh : wf.h = s.heap) (hx : ∀ b o, b ≠ s.heap.objs.size → s.heap.get? b = some o → h'.get? b = some o) : Grow wf.h h' := fun b o e => by
  rw [hh] at e
  exact hx b o (Nat.ne_of_lt (Heap.lt_size e)) e
theorem SSo.assignTup {ts : List T} {e : E} {es : List Expr} {k : Nat} {tpos pos : Pos} {value : Expr} (hfl : FnOk own env) (ht : isTs C env.scope true ts es = true) (hs : swapsWithSole [.Tuple es k tpos] value pos.line env = pure false)
    (hw : swappedStores [.Tuple es k tpos] value env = pure none) (he : SE G C A env cx e value) : SSo G C A env cx own mu (.assign (.tup ts) e) (.Assign [.Tuple es k tpos] value pos) := fun {w loc led s n₀ K Q} c ho hn e kk => by
  refine Assign_Tuple (he c (bindW e) fun {q val s1 wf} e p => ?_) hs hw
  obtain ⟨xs, a, us, b, bads, _, e1, T⟩ := tup_start c p ho hn hfl ht (mapW e)
  obtain rfl := T.is
  obtain ⟨l1, l2⟩ := isTs_len (env := env) ht
  exact wpAny_assign_Tuple c.conc.handled (p.heap.1 ▸ T.tup) (by rw [l1, T.tlen, T.len, Array.length_toList]) l2 fun h' hxb =>
    fin_names (s1 := { s1 with heap := h' }) (p.st c).conc (Stp.step c.conc p.stp) T.bi T.nd (grow_new p.heap.1 hxb) p.heap.2 (by rw [List.append_nil]; exact List.mem_reverse.symm) T.len T.st T.tr (kk e1)
theorem trees_names : ∀ (xs : List Nat), TreesFor G C A env ((xs.map C.nm).map fun n => bindName env n) xs
  | [] => rfl
  | x :: xs => ⟨x, xs, rfl, wpAny_bindName, trees_names xs⟩
theorem zip_rev : ∀ {xs : List Nat} {us : List Value}, xs.length = us.length → xs.reverse.zip us.reverse = (xs.zip us).reverse
  | [], [], _ => rfl
  | _ :: _, [], h => nomatch h
  | [], _ :: _, h => nomatch h
  | x :: xs, u :: us, h => by
    have hl : xs.length = us.length := Nat.succ.inj h
    rw [List.reverse_cons, List.reverse_cons, List.zip_cons_cons, List.reverse_cons, List.zip_append (by rw [List.length_reverse, List.length_reverse, hl]), zip_rev hl]
    rfl
theorem SSo.assignSwap {ts : List T} {xs : List Nat} {e : E} {es : List Expr} {k : Nat} {tpos pos : Pos} {value : Expr} (hfl : FnOk own env) (ht : isTs C env.scope true ts es = true) (hxs : namesOfT ts = some xs) (hs : swapsWithSole [.Tuple es k tpos] value pos.line env = pure false)
    (hw : swappedStores [.Tuple es k tpos] value env = pure (some (xs.map C.nm))) (he : SE G C A env cx e value) : SSo G C A env cx own mu (.assign (.tup ts) e) (.Assign [.Tuple es k tpos] value pos) := fun {w loc led s n₀ K Q} c ho hn e kk => by
  refine Assign_Tuple_swapped (he c (bindW e) fun {q val s1 wf} e p => ?_) hs hw
  obtain ⟨xs', a, us, b, bads, h1, e1, T⟩ := tup_start c p ho hn hfl ht (mapW e)
  obtain rfl := Option.some.inj (hxs.symm.trans h1)
  obtain rfl := T.is
  have hsz : (xs.map C.nm).length = us.size := by rw [List.length_map, T.len, Array.length_toList]
  rw [hsz]
  refine unpackItems_tuple c.conc.handled (p.heap.1 ▸ T.tup) fun h' hxb => ?_
  rw [← List.map_reverse]
  exact fin_names (s1 := { s1 with heap := h' }) (p.st c).conc (Stp.step c.conc p.stp) T.bi T.nd (grow_new p.heap.1 hxb) p.heap.2 (by rw [zip_rev T.len, List.append_nil]) (by rw [List.length_reverse, List.length_reverse, T.len]) (fun m => T.st (List.mem_reverse.mp m)) (trees_names _) (kk e1)
end
end UK
end
section
namespace UK
open PySem PySem.W PySem.Calls PyProof.Rows PySem.SeqAt
section
variable {G : Gl} {C : Ct} {A : Around} {env : Env} {cx : Cx} {w : Wd} {loc : Loc} {led led' : Led} {s : Shared} {own : List Addr} {mu : List Nat} {n₀ : Nat}
theorem PostE.nx {w' : Wd} {v : V} {val : Value} {s' : Shared} (p : PostE G w led' v val s' w') (c : St G C A env w loc led s) : PostS G C A w env n₀ (.nx, loc, led'.take led.length) .next s' ⟨s'.heap, w.own, w.prot, w.ads⟩ :=
  let ⟨S1, c1⟩ := p.back c; ⟨c1, Stp.step c.conc S1, rfl⟩
theorem SSo.expr {e : E} {x : Expr} {pos : Pos} (hi : interactive env = false) (hs : swapsWith x none pos.line env = pure false) (he : SE G C A env cx e x) : SSo G C A env cx own mu (.expr e) (.Expr x pos) := fun c ho hn e k =>
  wpAny_Expr_any (he c (mapW e) fun e p => k e (p.nx c)) hi hs
theorem SSo.ret {e : E} {x : Expr} {pos : Pos} (he : SE G C A env cx e x) : SSo G C A env cx own mu (.ret e) (.Return (some x) pos) := fun c ho hn e k =>
  wpAny_Return_some (he c (mapW e) fun e p => k e ⟨p.st c, Stp.step c.conc p.stp, _, rfl, p.val⟩)
theorem SSo.assert {e : E} {x : Expr} {m : Option Expr} {pos : Pos} (he : ST G C A env cx e x) : SSo G C A env cx own mu (.assert e) (.Assert x m pos) := fun {w loc led s n₀ K Q} c ho hn e k =>
  wpAny_Assert_holds (he (K := fun l t => (cond t (some (Fl.nx, loc, l.take led.length)) none).elim False K) c (by
    obtain ⟨p, hp, e⟩ := isW (bindW e)
    exact toW hp (bindW e)) fun {l b s' w'} e p => by
    cases b with
    | true => exact ⟨rfl, k e (p.nx c)⟩
    | false => exact e.elim)
theorem SSo.aug {x : Nat} {op : Op2} {op' : Operator} {e : E} {id : Str} {npos pos : Pos} {value : Expr} (hfl : FnOk own env) (ho' : op.is op' = true) (ht : isT C env.scope true (.name x) (.Name id npos) = true) (h2 : (id == ("__classdict__" : Str)) = false)
    (he : SE G C A env cx e value) : SSo G C A env cx own mu (.aug x op e) (.AugAssign (.Name id npos) op' value pos) := fun {w loc led s n₀ K Q} c ho hn e k => by
  obtain ⟨u, e1, e2⟩ := isW (bindW e)
  obtain ⟨a, rfl, e3⟩ := V.intW (bindW e2)
  obtain ⟨hx, hid, hst⟩ := isName_store rfl hfl ht
  obtain rfl : id = C.nm x := Option.some.inj hid
  obtain rfl := Op2.isW ho'
  obtain ⟨_, val, hnm, ta, rfl⟩ := c.conc.locs x _ e1
  have load : ∀ {Q : Value → Shared → Prop}, Q (.int a ta) s → wpAny (Mo G) A (loadName env (C.nm x)) Q NoE s := fun hq => by
    rcases hnm with ⟨k, m, hm, e, _⟩ | ⟨k | k, cc, l, i, _⟩
    · exact wpAny_loadName_local c.conc.frame.kind k (c.heap.1 ▸ hm) e hq
    · exact wpAny_loadName_cell c.conc.frame.kind k l (c.heap.1 ▸ i) hq
    · exact wpAny_loadName_free c.conc.frame.kind k l (c.heap.1 ▸ i) hq h2
  refine wpAny_AugAssign_Name (load (he c (bindW e3) fun {p bv s1 w1} e p1 => ?_))
  obtain ⟨b, hb, e4⟩ := V.intW (bindW e)
  have pv := p1.val
  rw [hb] at pv
  obtain ⟨tb, rfl⟩ := pv
  have fin : ∀ {z : Int} {t' : Tok} {s2 : Shared}, Sm s1 s2 → K (.nx, put loc x (.d (.int z)), p.2.take led.length) → wpAny (Mo G) A (storeName env (C.nm x) (.int z t')) (fun _ => Q .next) NoE s2 := fun {z t' s2} hs2 e =>
    let ⟨S1, c1⟩ := p1.back c
    store_conc (v := .d (.int z)) ⟨c1.conc, c1.heap.sm hs2⟩ hx ((hst ho).own rfl) ⟨t', rfl⟩ fun {w3 s3} P3 c3 => k e ⟨c3, (Stp.step c.conc S1).trans (Own.step c1.conc P3), rfl⟩
  cases op with
  | add => exact PySem.AutoIntOps.iadd_0 (fin ⟨rfl, rfl, rfl⟩ e4)
  | sub => exact PySem.AutoIntOps.isub_0 (fin ⟨rfl, rfl, rfl⟩ e4)
  | _ => exact e4.elim
theorem SSo.ite {e : E} {a b : List S} {x : Expr} {xs ys : List Stmt} {pos : Pos} (he : ST G C A env cx e x) (ha : SSs G C A env cx own mu a xs) (hb : SSs G C A env cx own mu b ys) : SSo G C A env cx own mu (.ite e a b) (.If x xs ys pos) := fun {w loc led s n₀ K Q} c ho hn e k =>
  wpAny_If (he (K := fun l t => (cond t (evSs cx mu n₀ a loc (l.take led.length)) (evSs cx mu n₀ b loc (l.take led.length))).elim False K) c (by
    obtain ⟨p, hp, e⟩ := isW (bindW e)
    exact toW hp (bindW e)) fun {l t s' w'} e p => by
    have q := p.nx (n₀ := n₀) c
    cases t with
    | true => exact ha q.st (q.step.own.trans ho) (c.len hn q.step q.st) e fun e p2 => k e (p2.after q.step)
    | false => exact hb q.st (q.step.own.trans ho) (c.len hn q.step q.st) e fun e p2 => k e (p2.after q.step))
theorem StepS.cut {n : Nat} {w' : Wd} (x : StepS n₀ w w') (h : n₀ ≤ n) : StepS n₀ w (w'.cut n) :=
  ⟨x.own, x.prot, fun b o e hs => ⟨(x.keep b o e hs).1, fun m => (x.keep b o e hs).2 (List.mem_of_mem_take m)⟩, x.prots, fun k a hk e => (List.getElem?_take_of_lt (Nat.lt_of_lt_of_le hk h)).trans (x.refs k a hk e)⟩
theorem get_take {x : Nat} {v : V} : ∀ {loc : Loc} {m : Nat}, get (loc.take m) x = some v → get loc x = some v
  | [], m, h => by rw [List.take_nil] at h; exact h
  | p :: r, 0, h => nomatch h
  | (y, u) :: r, m + 1, h => by
    have h : (if y = x then some u else get (r.take m) x) = some v := h
    show (if y = x then some u else get r x) = some v
    by_cases hy : y = x
    · rw [if_pos hy] at h ⊢; exact h
    · rw [if_neg hy] at h ⊢; exact get_take h
theorem loopOnW {m n : Nat} {next : Loc → Led → Option Res} {r : Res} {K : Res → Prop} (h : (loopOn m n next r).elim False K) :
    (r.1 = .nx → (r.2.1.take m).all (fun p => below n p.2) = true ∧ (next (r.2.1.take m) (r.2.2.take n)).elim False K) ∧ ∀ v, r.1 = .ret v → K r := by
  obtain ⟨fl, l, d⟩ := r
  cases fl with
  | nx => exact ⟨fun _ => gdW (x := some (l.take m, d.take n)) (K := fun q => (next q.1 q.2).elim False K) (bindW h), nofun⟩
  | ret v => exact ⟨nofun, fun _ _ => h⟩
theorem St.cut {m n : Nat} (c : St G C A env w loc led s) (h : (loc.take m).all (fun p => below n p.2) = true) (hn : n ≤ w.ads.length) : St G C A env (w.cut n) (loc.take m) (led.take n) s ∧ (led.take n).length = n :=
  ⟨⟨(c.conc.weaken fun x v e => get_take e).cut n fun {x v} e => List.all_eq_true.mp h (x, v) (get_mem e), c.heap⟩, List.length_take_of_le (c.conc.led.len ▸ hn)⟩
noncomputable def WhI (G : Gl) (C : Ct) (A : Around) (env : Env) (n₀ n : Nat) (w : Wd) (cd : Loc → Led → Option (Bool × Led)) (body : Loc → Led → Option Res) (K : Res → Prop) (k : Nat) (s : Shared) : Prop :=
  ∃ wc loc led, St G C A env wc loc led s ∧ StepS n₀ w wc ∧ led.length = n ∧ (whileLoop cd body k loc led).elim False K
theorem SSo.while {e : E} {b : List S} {x : Expr} {xs : List Stmt} {pos : Pos} (he : ST G C A env cx e x) (hb : SSs G C A env cx own mu b xs) : SSo G C A env cx own mu (.while e b) (.While x xs [] pos) := fun {w loc led s n₀ K Q} c ho hn e0 kk => by
  refine wpAny_While (codeAny_whileLoop (WhI G C A env n₀ led.length w (fun loc led => (evE cx e loc led).bind fun p => (tru p.2 p.1).map fun r => (r, p.2)) (fun loc led' => evSs cx mu led.length b loc led') K) (fun k s1 hI => ?_) cx.N ⟨w, loc, led, c, StepS.refl _ _, rfl, e0⟩)
  obtain ⟨wc, locc, ledc, cc, Sc, hlen, hrun⟩ := hI
  cases k with
  | zero => exact hrun.elim
  | succ k =>
    obtain ⟨p, e1, e2⟩ := isW (bindW (bindW hrun))
    refine falseE (he (K := fun l t => (bif t then (evSs cx mu led.length b locc (l.take ledc.length)).bind (loopOn locc.length ledc.length (whileLoop (fun loc led => (evE cx e loc led).bind fun p => (tru p.2 p.1).map fun r => (r, p.2)) (fun loc led' => evSs cx mu led.length b loc led') k))
      else some (.nx, locc, l.take ledc.length)).elim False K) cc (toW e1 (mapW e2)) fun {l t s2 w2} e3 p2 => ?_)
    have q := p2.nx (n₀ := n₀) cc
    have Sq := Sc.trans q.step
    cases t with
    | false => exact wpAny_execs_nil (kk e3 ⟨q.st, Sq, rfl⟩)
    | true =>
      have hl : led.length ≤ (l.take ledc.length).length := hlen ▸ (cc.len (Nat.le_refl _) (p2.nx (n₀ := ledc.length) cc).step q.st)
      refine falseE (hb q.st (Sq.own.trans ho) hl (bindW e3) fun {r f s3 w3} e4 p3 => ?_)
      obtain ⟨fl, loc3, led3⟩ := r
      cases fl with
      | nx =>
        obtain rfl := p3.fl
        obtain ⟨h1, h2⟩ := (loopOnW e4).1 rfl
        obtain ⟨c4, h3⟩ := p3.st.cut h1 (hlen ▸ p3.step.len (q.st.conc.led.len ▸ hl))
        exact ⟨k, Nat.lt_succ_self _, _, _, _, c4, (Sq.trans (p3.step.mono hn)).cut (hlen ▸ hn), h3.trans hlen, h2⟩
      | ret u =>
        obtain ⟨val, rfl, r⟩ := p3.fl
        exact kk ((loopOnW e4).2 u rfl) ⟨p3.st, Sq.trans (p3.step.mono hn), val, rfl, r⟩
end
structure InLoop (n₀ : Nat) (w : Wd) (wr : List Addr) (wc : Wd) : Prop where
  own : wc.own = w.own
  prot : wc.prot = wr ++ w.prot
  keep : ∀ b o, w.h.get? b = some o → w.st b → wc.h.get? b = some o ∧ b ∉ wc.ads
  prots : ∀ b o, b ∈ w.prot → w.h.get? b = some o → wc.h.get? b = some o
  refs : ∀ k a, k < n₀ → w.ads[k]? = some a → wc.ads[k]? = some a
section
variable {G : Gl} {C : Ct} {A : Around} {env : Env} {cx : Cx} {w wc wc' w1 : Wd} {loc : Loc} {led led' : Led} {s : Shared} {own : List Addr} {mu : List Nat} {wr : List Addr} {n₀ n : Nat}
theorem InLoop.step (x : InLoop n₀ w wr wc) (hf : ∀ b ∈ wr, w.h.get? b = none) (S : StepS n wc wc') (h : n₀ ≤ n) : InLoop n₀ w wr wc' where
  own := S.own.trans x.own
  prot := S.prot.trans x.prot
  keep := fun b o e hs => by
    obtain ⟨h1, h2⟩ := x.keep b o e hs
    refine S.keep b o h1 ⟨by rw [x.own]; exact hs.1, fun q => ?_, h2⟩
    rw [x.prot] at q
    rcases List.mem_append.mp q with q | q
    · rw [hf b q] at e; cases e
    · exact hs.2.1 q
  prots := fun b o m e => S.prots b o (by rw [x.prot]; exact List.mem_append_right _ m) (x.prots b o m e)
  refs := fun k a hk e => S.refs k a (Nat.lt_of_lt_of_le hk h) (x.refs k a hk e)
theorem InLoop.at_ (x : InLoop n₀ w wr wc) (hf : ∀ b ∈ wr, w.h.get? b = none) (P : At wr wc wc') : InLoop n₀ w wr wc' where
  own := P.own.trans x.own
  prot := P.prot.trans x.prot
  keep := fun b o e hs => by
    obtain ⟨h1, h2⟩ := x.keep b o e hs
    exact ⟨P.keep b o h1 (fun q => by rw [hf b q] at e; cases e), by rw [P.ads]; exact h2⟩
  prots := fun b o m e => P.keep b o (x.prots b o m e) fun q => by rw [hf b q] at e; cases e
  refs := fun k a hk e => by rw [P.ads]; exact x.refs k a hk e
theorem InLoop.cut (x : InLoop n₀ w wr wc) (h : n₀ ≤ n) : InLoop n₀ w wr (wc.cut n) where
  own := x.own
  prot := x.prot
  keep := fun b o e hs => ⟨(x.keep b o e hs).1, fun m => (x.keep b o e hs).2 (List.mem_of_mem_take m)⟩
  prots := x.prots
  refs := fun k a hk e => by
    show (wc.ads.take n)[k]? = some a
    rw [List.getElem?_take_of_lt (by omega)]; exact x.refs k a hk e
theorem InLoop.out (x : InLoop n₀ w wr wc) : StepS n₀ w ⟨wc.h, wc.own, w.prot, wc.ads⟩ := ⟨x.own, rfl, x.keep, x.prots, x.refs⟩
end
end UK
end
section
namespace UK
open PySem PySem.W PySem.Calls PyProof.Rows PySem.SeqAt
section
variable {G : Gl} {C : Ct} {A : Around} {env : Env} {cx : Cx} {w wc wc' w1 w2 : Wd} {loc : Loc} {led led' : Led} {s : Shared} {own : List Addr} {mu : List Nat} {wr : List Addr} {n₀ n : Nat}
theorem Held.obj {a : Addr} (h : Held env a) (c : Conc G C A w env loc led) : ∃ o, w.h.get? a = some o := by
  rcases h with rfl | ⟨z, k, l⟩
  · obtain ⟨m, o, _, _, ho, _⟩ := c.frame.ns; exact ⟨o, ho⟩
  · obtain ⟨cc, o, l', ⟨ob, i, _⟩, _⟩ := c.frame.cells z k
    obtain rfl := Option.some.inj (l.symm.trans l')
    exact ⟨ob, i⟩
theorem Conc.out {prot : List Addr} (c : Conc G C A wc env loc led) (P : At wr wc w2) (hp : wc.prot = wr ++ prot) (hce : ∀ {a}, Held env a → a ∉ wr) (hn : ∀ {a}, a ∈ prot → a ∉ wr) :
    Conc G C A ⟨w2.h, w2.own, prot, w2.ads⟩ env loc led ∧ Per wc ⟨w2.h, w2.own, prot, w2.ads⟩ := by
  obtain ⟨h2, o2, q2, a2⟩ := w2
  obtain ⟨e1, e2, e3, kp⟩ := P
  replace e1 : o2 = wc.own := e1
  replace e3 : a2 = wc.ads := e3
  subst e1 e3
  have hwp : ∀ {b}, b ∈ wr → b ∈ wc.prot := fun m => by rw [hp]; exact List.mem_append_left _ m
  have hpp : ∀ {b}, b ∈ prot → b ∈ wc.prot := fun m => by rw [hp]; exact List.mem_append_right _ m
  have PP : Per wc ⟨h2, wc.own, prot, wc.ads⟩ := { st := fun b o e h => ⟨kp b o e fun q => h.2.1 (hwp q), h.1, fun m => h.2.1 (hpp m), h.2.2⟩, ref := fun _ _ e => e }
  refine ⟨c.to PP.toPerD (fun hb e n => ⟨kp _ _ e (hce hb), n⟩) id (fun {a} ha m => m.imp id fun m => ?_) (fun _ r => r.per PP) (c.led.move PP fun a ha o e => kp a o e fun q => c.sep a (.inr (hwp q)) ha) c.nd (fun a ha => c.sep a (ha.imp id hpp)) (fun a ha => ?_) fun a ha m => c.op a ha (hpp m), PP⟩
  · rw [hp] at m
    exact (List.mem_append.mp m).resolve_left (hce ha)
  · exact (c.ownex a (ha.imp id hpp)).imp fun o e => kp a o e (ha.elim (fun m q => c.op a m (hwp q)) hn)
theorem Conc.into {h' : Heap} {l1 : Led} (c : St G C A env w loc led s) (P : Stp w w1) (g : Grow w1.h h') (hl : ORs G w1 l1 w1.ads) (hwr : ∀ b ∈ wr, w1.h.get? b = none ∧ ∃ o, h'.get? b = some o) :
    InLoop n₀ w wr ⟨h', w.own, wr ++ w.prot, w.ads⟩ ∧ Conc G C A ⟨h', w.own, wr ++ w.prot, w.ads⟩ env loc (l1.take led.length) := by
  have old : ∀ {b o}, w.h.get? b = some o → b ∉ w.ads → h'.get? b = some o ∧ b ∉ wr := fun {b o} e n =>
    have h1 := (P.keep b o e n).1
    ⟨g b o h1, fun q => nomatch (hwr b q).1.symm.trans h1⟩
  have PP : Per w ⟨h', w.own, wr ++ w.prot, w.ads⟩ := { st := fun b o e hs => ⟨(old e hs.2.2).1, hs.1, fun q => (List.mem_append.mp q).elim (old e hs.2.2).2 hs.2.1, hs.2.2⟩, ref := fun _ _ e => e }
  have hads := c.take P.pre
  have h1 := hl.take led.length
  rw [hads] at h1
  have wn : ∀ {a}, a ∈ w.own ∨ a ∈ w.prot → (∃ o, h'.get? a = some o) ∧ a ∉ wr := fun ha =>
    let ⟨o, ho⟩ := c.conc.ownex _ ha
    ⟨⟨o, (old ho (c.conc.sep _ ha)).1⟩, (old ho (c.conc.sep _ ha)).2⟩
  refine ⟨⟨rfl, rfl, fun b o e hs => ⟨(old e hs.2.2).1, hs.2.2⟩, fun b o m e => (old e (c.conc.sep b (.inr m))).1, fun _ _ _ e => e⟩,
    c.conc.to PP.toPerD (fun _ e n => ⟨(old e n).1, n⟩) id (fun _ m => m.imp id (List.mem_append_right _)) (fun _ r => r.per PP) (h1.moveD ⟨fun b o e hs => ⟨g b o e, P.own ▸ hs.1, fun q => ?_, fun q => hs.2.2 (List.mem_of_mem_take (hads.symm ▸ q))⟩⟩ fun a _ o e => g a o e) c.conc.nd
      (fun a ha m => ?_) (fun a ha => ?_) fun a ha m => (List.mem_append.mp m).elim (wn (.inl ha)).2 (c.conc.op a ha)⟩
  · exact (List.mem_append.mp q).elim (fun q => nomatch (hwr b q).1.symm.trans e) fun q => hs.2.1 (by rw [P.prot]; exact q)
  · rcases ha with ha | ha
    · exact c.conc.sep a (.inl ha) m
    · refine (List.mem_append.mp ha).elim (fun ha => ?_) fun ha => c.conc.sep a (.inr ha) m
      obtain ⟨o, ho⟩ := hl.obj a (List.mem_of_mem_take (hads.symm ▸ m))
      exact nomatch (hwr a ha).1.symm.trans ho
  · rcases ha with ha | ha
    · exact (wn (.inl ha)).1
    · exact (List.mem_append.mp ha).elim (fun ha => (hwr a ha).2) fun ha => (wn (.inr ha)).1
theorem ItAt.lt {en : Bool} {k i : Nat} {it : Value} (x : ItAt G A w wr en (.live k i) it) : k < w.ads.length := by
  cases x with
  | live ha it => exact (List.getElem?_eq_some_iff.mp ha).1
noncomputable def ForI (G : Gl) (C : Ct) (A : Around) (env : Env) (n₀ n : Nat) (w : Wd) (wr : List Addr) (en : Bool) (it : Value) (t : T) (body : Loc → Led → Option Res) (K : Res → Prop) (k : Nat) (s : Shared) : Prop :=
  ∃ wc loc led src, St G C A env wc loc led s ∧ InLoop n₀ w wr wc ∧ led.length = n ∧ ItAt G A wc wr en src it ∧ (forLoop t body k src loc led).elim False K
theorem SSo.for {t : T} {k : IK} {its : List E} {b : List S} {xt iter : Expr} {xs : List Stmt} {pos : Pos} {en : Bool} (hfl : FnOk own env) (hset : (match iter with | .Set _ _ _ => false | _ => true) = true) (ht : isT C env.scope true t xt = true)
    (hen : en = true → ∃ es k pos, xt = .Tuple es k pos) (hi : SI G C A env cx k its iter en) (hb : SSs G C A env cx own mu b xs) : SSo G C A env cx own mu (.for t k its b) (.For xt iter xs [] pos) := fun {w loc led s n₀ K Q} c ho hn e kk => by
  refine wpAny_For (hi (n := led.length) (K := fun l src => (forLoop t (fun loc led' => evSs cx mu led.length b loc led') cx.N src loc (l.take led.length)).elim False K) c (by
    obtain ⟨p, e1, e2⟩ := isW (bindW e)
    exact toW e1 (bindW e2)) fun {led1 src it s2 w1 wr} e p1 => ?_) (fun x => foldedSet_other hset x)
  obtain ⟨IL, c2⟩ := Conc.into (n₀ := n₀) c p1.stp p1.sp.g p1.led p1.sp.fr
  have hads := c.take p1.stp.pre
  have hat := p1.sp.at'
  rw [hads, p1.stp.own, p1.stp.prot] at hat
  have hfw : ∀ b ∈ wr, w.h.get? b = none := fun b hb => by
    cases q : w.h.get? b with
    | none => rfl
    | some o =>
      by_cases hm : b ∈ w.ads
      · obtain ⟨o', ho'⟩ := p1.led.obj b (List.mem_of_mem_take (hads.symm ▸ hm))
        exact nomatch (p1.sp.fr b hb).1.symm.trans ho'
      · exact nomatch (p1.sp.fr b hb).1.symm.trans (p1.stp.keep b o q hm).1
  have fw : ∀ {a}, (∃ o, w.h.get? a = some o) → a ∉ wr := fun ⟨o, h⟩ q => nomatch (hfw _ q).symm.trans h
  have hce : ∀ {a}, Held env a → a ∉ wr := fun h => fw (h.obj c.conc)
  have hnp : ∀ {a}, a ∈ w.prot → a ∉ wr := fun h => fw (c.conc.ownex _ (.inr h))
  refine codeAny_forLoop_any (ForI G C A env n₀ led.length w wr en it t (fun loc led' => evSs cx mu led.length b loc led') K) (fun k s1 hI => ?_) cx.N ⟨_, loc, _, src, ⟨c2, rfl, p1.sp.rs⟩, IL, c2.led.len.trans c.conc.led.len.symm, hat, e⟩
  obtain ⟨wc, locc, ledc, srcc, cc, Sc, hlen, hit, hrun⟩ := hI
  have hwp : ∀ b ∈ wr, b ∈ wc.prot := fun b hb => by rw [Sc.prot]; exact List.mem_append_left _ hb
  cases k with
  | zero => exact hrun.elim
  | succ k =>
    obtain ⟨r, e3, hrun⟩ := isW (bindW hrun)
    refine hit.next cc.heap cc.conc.led cc.conc.handled hwp cc.conc.ownex e3 ⟨fun hr {w2 s2} hh2 P2 => ?_, fun {y src'} hr {v s2} go => ?_⟩
    · subst hr
      exact wpAny_execs_nil (kk hrun ⟨⟨(cc.conc.out P2 Sc.prot hce hnp).1, hh2⟩, (Sc.at_ hfw P2).out, rfl⟩)
    · subst hr
      refine go xt _ _ hen fun {w3 s3} hh3 P3 dr at3 => ?_
      have c3 : Conc G C A w3 env locc ledc := cc.conc.at_ P3 hwp hce at3.ex
      have IL3 := Sc.at_ hfw P3
      refine bindD_conc rfl (fun _ => hfl) ht ⟨c3, hh3⟩ (IL3.own.trans ho) dr (bindW hrun) fun {loc4 w4 s4} e4 P4 c4 => falseE (hb c4 (P4.own.trans (IL3.own.trans ho)) (Nat.le_of_eq hlen.symm) (bindW e4) fun {r f s5 w5} e5 p5 => ?_)
      have IL4 := IL3.step hfw (Own.step (n := led.length) c3 P4) hn
      have IL5 := IL4.step hfw p5.step hn
      obtain ⟨fl, loc5, led5⟩ := r
      cases fl with
      | nx =>
        obtain rfl := p5.fl
        obtain ⟨h1, h2⟩ := (loopOnW e5).1 rfl
        have hl4 : w4.ads.length = led.length := c4.conc.led.len.symm.trans hlen
        obtain ⟨c6, h3⟩ := p5.st.cut h1 (hlen ▸ p5.step.len (Nat.le_of_eq hl4.symm))
        have at4 : ItAt G A w4 wr en src' it := at3.keep P4.per.toPerD (fun k i a _ e => by rw [P4.ads]; exact e) fun b hb o e => P4.keep b o e fun q => c3.op b q (by rw [P3.prot]; exact hwp b hb)
        have at5 : ItAt G A w5 wr en src' it := at4.keep p5.step.perD (fun k i a _ e => p5.step.refs k a (hl4 ▸ (List.getElem?_eq_some_iff.mp e).1) e) fun b hb o e => p5.step.prots b o (by rw [IL4.prot]; exact List.mem_append_left _ hb) e
        exact ⟨k, Nat.lt_succ_self _, _, _, _, src', c6, IL5.cut (hlen ▸ hn), h3.trans hlen, at5.keep (cutD w5 _) (fun k i a hs e => by
          subst hs
          exact (List.getElem?_take_of_lt (by rw [hlen, ← hl4]; exact at4.lt)).trans e) fun b _ o e => e, h2⟩
      | ret u =>
        obtain ⟨val, rfl, r⟩ := p5.fl
        obtain ⟨co, Po⟩ := p5.st.conc.out (At.refl wr w5) IL5.prot hce hnp
        exact kk ((loopOnW e5).2 u rfl) ⟨⟨co, p5.st.heap⟩, IL5.out, val, rfl, r.per Po⟩
end
end UK
end
section
namespace UK
open PySem PySem.W PySem.Calls PyProof.Rows PySem.SeqAt
section
variable {G : Gl} {C : Ct} {A : Around} {env : Env} {cx : Cx} {w wc wc' w1 : Wd} {loc : Loc} {led led' : Led} {s : Shared} {own : List Addr} {mu : List Nat} {wr : List Addr} {n₀ n : Nat}
theorem DRs.erase {w : Wd} : ∀ {xs : List D} {vs : List Value} (j : Nat), DRs w xs vs → DRs w (xs.eraseIdx j) (vs.eraseIdx j)
  | [], [], _, _ => trivial
  | [], _ :: _, _, h => h.elim
  | _ :: _, [], _, h => h.elim
  | _ :: _, _ :: _, 0, h => h.2
  | _ :: _, _ :: _, j + 1, h => ⟨h.1, h.2.erase j⟩
theorem eraseIf {vs : Array Value} {j : Nat} : (vs.eraseIdxIfInBounds j).toList = vs.toList.eraseIdx j := by
  obtain ⟨l⟩ := vs
  unfold Array.eraseIdxIfInBounds
  split
  · simp
  · rename_i h
    simp only [List.size_toArray, Nat.not_lt] at h
    simp [List.eraseIdx_of_length_le h]
theorem nameW {x : Nat} {v : V} (e : get loc x = some v) : (evE cx (.name x) loc led).elim False fun p => p = (v, led) := by
  show ((get loc x).map fun v => (v, led)).elim False _
  rw [e]; rfl
theorem refW {k : Nat} {val : Value} {K : List D → Prop} (c : St G C A env w loc led s) (r : VR G w (.ref k) val) (e : ((led[k]?).bind O.list?).elim False K) :
    ∃ a vs xs n, val = .ref a ∧ w.ads[k]? = some a ∧ IsL w.h a vs ∧ s.heap.get? a = some { cls := .type "list", data := .seq vs n } ∧ DRs w xs vs.toList ∧ K xs := by
  obtain ⟨o, h, e1⟩ := isW (bindW e)
  obtain ⟨xs, rfl, e2⟩ := O.listW e1
  obtain ⟨a, rfl, ha⟩ := r
  obtain ⟨b, hb, vs, i, d⟩ := c.conc.led.get h
  obtain rfl := Option.some.inj (ha.symm.trans hb)
  obtain ⟨n, ho⟩ := id i
  exact ⟨a, vs, xs, n, rfl, ha, i, c.heap.1 ▸ ho, d, e2⟩
theorem SSo.delx {x : Nat} {i : E} {oe ie : Expr} {p pos : Pos} (ho : SE G C A env cx (.name x) oe) (hi : SE G C A env cx i ie) : SSo G C A env cx own mu (.delx x i) (.Delete [.Subscript oe ie p] pos) := fun {w loc led s n₀ K Q} c _ hn e kk => by
  obtain ⟨u, e1, e2⟩ := isW (bindW e)
  obtain ⟨k, rfl, e3⟩ := V.refW (bindW e2)
  refine wpAny_Delete (wpAny_deleteEach_cons (wpAny_delete_Subscript (ho c (nameW e1) fun {q ov s1 w1} eq p1 => ?_)))
  subst eq
  refine hi (p1.st c) (bindW e3) fun {q iv s2 w2} e4 p2 => ?_
  have c2 := p2.st (p1.st c)
  obtain ⟨z, hz, e5⟩ := V.intW (bindW e4)
  have pv := p2.val
  rw [hz] at pv
  obtain ⟨t, rfl⟩ := pv
  obtain ⟨a, vs, xs, n, rfl, ha, il, ho', d, e6⟩ := refW c2 (p1.val.per p2.stp.per) (bindW e5)
  obtain ⟨⟨h1, h2⟩, e7⟩ := gdW (mapW e6)
  obtain ⟨j, hj, e8⟩ := isW e7
  have hfit : Builtin.List.listFitsIndex z = true := by
    rcases h1 with rfl | rfl <;> rfl
  refine PySem.P.delItem_list (n := n) ho' hfit (d.size ▸ hj) ?_ (d.size ▸ capLine h2)
  have p3 := c2.upd (s' := { s2 with heap := s2.heap.update a (Obj.mapSeq fun xs => xs.eraseIdxIfInBounds j) }) (g := fun xs => xs.eraseIdxIfInBounds j) (xs := xs.eraseIdx j) ha il ⟨rfl, rfl, rfl⟩ (by rw [eraseIf]; exact d.erase j)
  exact wpAny_deleteEach_nil (kk e8 (((p1.trans p2).trans p3).nx c))
theorem laid_map {kk : Str} {vd : D} {vv : Value} : ∀ {kvs : List (Str × D)} {kvs' : List (Str × Value)}, kvs'.map (·.1) = kvs.map (·.1) →
    kvs'.any (fun kv => kv.1 = kk) = kvs.any (fun p => p.1 = kk) ∧ (kvs'.map fun kv => if kv.1 = kk then (kv.1, vv) else kv).map (·.1) = (kvs.map fun p => if p.1 = kk then (p.1, vd) else p).map (·.1) ∧
      (DRs w (kvs.map (·.2)) (kvs'.map (·.2)) → DR w vd vv → DRs w ((kvs.map fun p => if p.1 = kk then (p.1, vd) else p).map (·.2)) ((kvs'.map fun kv => if kv.1 = kk then (kv.1, vv) else kv).map (·.2)))
  | [], [], _ => ⟨rfl, rfl, fun h _ => h⟩
  | [], _ :: _, h => nomatch h
  | _ :: _, [], h => nomatch h
  | (n, x) :: l, (n', v) :: l', h => by
    obtain ⟨h1, h2⟩ := List.cons.inj h
    obtain rfl : n' = n := h1
    obtain ⟨i1, i2, i3⟩ := laid_map (kk := kk) (vd := vd) (vv := vv) h2
    refine ⟨by rw [List.any_cons, List.any_cons, i1], ?_⟩
    rw [List.map_cons, List.map_cons, List.map_cons, List.map_cons, List.map_cons, List.map_cons, i2]
    by_cases hq : n' = kk
    · rw [if_pos hq, if_pos hq]; exact ⟨rfl, fun hd hr => ⟨hr, i3 hd.2 hr⟩⟩
    · rw [if_neg hq, if_neg hq]; exact ⟨rfl, fun hd hr => ⟨hd.1, i3 hd.2 hr⟩⟩
theorem stored_laid {kk : Str} {vd : D} {vv : Value} {kvs : List (Str × D)} {kvs' : List (Str × Value)} (h : kvs'.map (·.1) = kvs.map (·.1)) :
    (stored kvs' kk vv).map (·.1) = (laidK kvs kk vd).map (·.1) ∧ (DRs w (kvs.map (·.2)) (kvs'.map (·.2)) → DR w vd vv → DRs w ((laidK kvs kk vd).map (·.2)) ((stored kvs' kk vv).map (·.2))) := by
  obtain ⟨i1, i2, i3⟩ := laid_map (w := w) (kk := kk) (vd := vd) (vv := vv) h
  unfold stored laidK
  rw [i1]
  by_cases hq : kvs.any (fun p => p.1 = kk) = true
  · rw [if_pos hq, if_pos hq]; exact ⟨i2, i3⟩
  · rw [if_neg hq, if_neg hq, List.map_append, List.map_append, List.map_append, List.map_append, h]
    exact ⟨rfl, fun hd hr => hd.append ⟨hr, trivial⟩⟩
theorem SSo.dset {x : Nat} {k v : E} {oe ke ve : Expr} {p pos : Pos} (hs : swapsWith ve (some (.Subscript oe ke p)) pos.line env = pure false) (ho : SE G C A env cx (.name x) oe) (hk : SE G C A env cx k ke) (hv : SE G C A env cx v ve) :
    SSo G C A env cx own mu (.dset x k v) (.Assign [.Subscript oe ke p] ve pos) := fun {w loc led s n₀ K Q} c _ hn e kk => by
  refine wpAny_Assign_Subscript (hv c (bindW e) fun {q1 vv s1 w1} e1 p1 => ?_) hs
  obtain ⟨vd, hvd, e2⟩ := ofVW (bindW e1)
  obtain ⟨u, eg, e3⟩ := isW (bindW e2)
  obtain ⟨j, rfl, e4⟩ := V.refW (bindW e3)
  refine ho (p1.st c) (nameW eg) fun {q2 ov s2 w2} eq p2 => ?_
  subst eq
  have c2 := p2.st (p1.st c)
  refine hk c2 (bindW e4) fun {q3 kv s3 w3} e5 p3 => ?_
  have c3 := p3.st c2
  obtain ⟨key, hkey, e6⟩ := V.strW (bindW e5)
  obtain ⟨o, e7, e8⟩ := isW (bindW (bindW e6))
  obtain ⟨kvs, rfl, e9⟩ := O.dictW e8
  obtain ⟨hcap, e10⟩ := gdW e9
  have pv := p3.val
  rw [hkey] at pv
  obtain ⟨t, rfl⟩ := pv
  obtain ⟨a, rfl, ha⟩ := p2.val.per p3.stp.per
  obtain ⟨a', ha', kvs', hm, h2, h3⟩ := c3.conc.led.get e7
  obtain rfl := Option.some.inj (ha.symm.trans ha')
  have hlen : kvs'.length = kvs.length := by
    have := congrArg List.length h2
    rwa [List.length_map, List.length_map] at this
  have vr := p1.val
  rw [hvd] at vr
  rw [p3.heap.1] at hm
  refine wpAny_setItem_pairs (strKind_is _ _ _ _) hm (fun h' hd' hs' => ?_) (hlen ▸ capLine (Nat.le_of_lt hcap))
  have p4 := PostE.write (s' := { s3 with heap := h', toks := s3.toks + 1 }) (o := .dict (laidK kvs key vd)) (d := .none) (val := .none) c3.conc ha
    (fun b hb ob e => hs'.extBut b ob hb (p3.heap.1 ▸ e)) (fun w' P e => ⟨stored kvs' key vv, e ▸ hd', (stored_laid (w := w') h2).1, (stored_laid h2).2 (h3.per P.per) (DR.per P.per (DR.per p3.stp.per (DR.per p2.stp.per vr)))⟩) (fun _ => rfl) p3.heap.2
  exact kk e10 ((((p1.trans p2).trans p3).trans p4).nx c)
theorem own_special {N : Addr} {mN : Str → Option Value} (hC : CA G N mN) (c : St G C A env w loc led s) {a b f : Addr} {of : Obj} {name : Str} {y : Option Value} (hd : HdrOf G.cls w a b) (hf : mN name = some (.ref f)) (hfo : G.h₀.get? f = some of) (hfc : of.cls = .type "function")
    (hB : typeLookup (.type "object") name = pure y) : w.h.OwnSpecial a G.cls f "object" name := by
  obtain ⟨o, d, e1, e2, _⟩ := hd
  have X := hC.at'.keeps fun b o e => (c.conc.keep b o e).1
  obtain ⟨nm, q, bs, sn, sub, col, dd, k0, k1, k2, k3, k5, hCo⟩ := X.obj
  exact ⟨o, of, nm, q, N, bs, _, _, sn, sub, _, col, dd, k0, k1, k2, k3, k5, _, mN, y, e1, e2, hCo, X.ns, hf, (c.conc.keep _ _ hfo).1, hfc, PySem.F.mro_object, hB⟩
theorem seqKey_own {N : Addr} {mN : Str → Option Value} (hC : CA G N mN) (c : St G C A env w loc led s) {a b : Addr} {k : Value} {name : Str} (hd : HdrOf G.cls w a b) {E : Value → Shared → Prop} {Q : Value → Shared → Prop} (h : Q k s) :
    wpAny (Mo G) A (sequenceKey (.ref a) k name) Q E s := by
  obtain ⟨o, d, e1, e2, _⟩ := hd
  have X := hC.at'.keeps fun b o e => (c.conc.keep b o e).1
  obtain ⟨nm, q, bs, sn, sub, col, dd, k0, k1, k2, k3, k5, hCo⟩ := X.obj
  obtain ⟨h', g, d', t, os⟩ := s
  have hh' : w.h = h' := c.heap.1
  subst hh'
  unfold sequenceKey
  refine wpAny_bind (m := typeOf (.ref a)) ?_
  unfold typeOf
  refine wpAny_bind (wpAny_loadPart_at e1 ?_)
  rw [e2]
  refine wpAny_pure ?_
  refine wpAny_bind (m := seqItemTypes.anyM fun n => isSubtype (.ref G.cls) (.type n)) ?_
  show wpAny _ _ (List.anyM (fun n => isSubtype (.ref G.cls) (.type n)) ["collections.deque"]) _ _ _
  unfold List.anyM
  refine wpAny_bind (wpAny_isSubtype_exc hCo ?_)
  have hct : (Value.ref G.cls :: [Value.type "object"]).contains (Value.type "collections.deque") = false := by
    rw [List.contains_cons, List.contains_cons]
    have e1 : (Value.type "collections.deque" == Value.ref G.cls) = false := rfl
    have e2 : (Value.type "collections.deque" == Value.type "object") = false := by decide
    rw [e1, e2]; rfl
  rw [hct]
  exact wpAny_pure (wpAny_pure h)
theorem isHd_hdr {v : V} (h : isHd v = true) : isHdr v = true := by
  cases v <;> first | rfl | exact Bool.noConfusion h
theorem SSo.hset {N : Addr} {mN : Str → Option Value} (hC : CA G N mN) {fa : Nat → Addr} {o k v : E} {oe ke ve : Expr} {p pos : Pos} {y : Option Value} (hF : SF G C.lev cx.F fa) (hfn : FA G (fa 0)) (hf : mN ("__setitem__" : Str) = some (.ref (fa 0)))
    (hB : typeLookup (.type "object") ("__setitem__" : Str) = pure y) (hs : swapsWith ve (some (.Subscript oe ke p)) pos.line env = pure false) (ho : SE G C A env cx o oe) (hk : SE G C A env cx k ke) (hv : SE G C A env cx v ve) :
    SSo G C A env cx own mu (.hset o k v) (.Assign [.Subscript oe ke p] ve pos) := fun {w loc led s n₀ K Q} c _ hn e kk => by
  refine wpAny_Assign_Subscript (hv c (bindW e) fun {q1 vv s1 w1} e1 p1 => ho (p1.st c) (bindW e1) fun {q2 ov s2 w2} e2 p2 => hk (p2.st (p1.st c)) (bindW e2) fun {q3 kv s3 w3} e3 p3 => ?_) hs
  have c3 := p3.st (p2.st (p1.st c))
  obtain ⟨h1, e4⟩ := gdW e3
  have ro := p2.val.per p3.stp.per
  obtain ⟨a, b, rfl, hd⟩ := hdr_of ro (isHd_hdr h1)
  obtain ⟨of, fd, hfo, hfc, hdat⟩ := hfn
  unfold setItem
  refine wpAny_holding (wpAny_bind (seqKey_own hC c3 hd ?_))
  have Xs := own_special hC c3 hd hf hfo hfc hB
  obtain ⟨h', g, d', t, os⟩ := s3
  obtain rfl : w3.h = h' := p3.heap.1
  exact wpAny_bind (wpAny_callSpecial?_own Xs (hF (f := 0) (vs := [q2.1, q3.1, q1.1]) c3.conc.base c3.heap ⟨ro, p3.val, (p1.val.per p2.stp.per).per p3.stp.per, trivial⟩ (mapW e4) fun e5 p4 => wpAny_pure (kk e5 ((((p1.trans p2).trans p3).trans p4).nx c))))
theorem SSo.delh {N : Addr} {mN : Str → Option Value} (hC : CA G N mN) {fa : Nat → Addr} {o k : E} {oe ke : Expr} {p pos : Pos} {y : Option Value} (hF : SF G C.lev cx.F fa) (hfn : FA G (fa 1)) (hf : mN ("__delitem__" : Str) = some (.ref (fa 1)))
    (hB : typeLookup (.type "object") ("__delitem__" : Str) = pure y) (ho : SE G C A env cx o oe) (hk : SE G C A env cx k ke) :
    SSo G C A env cx own mu (.delh o k) (.Delete [.Subscript oe ke p] pos) := fun {w loc led s n₀ K Q} c _ hn e kk => by
  refine wpAny_Delete (wpAny_deleteEach_cons (wpAny_delete_Subscript (ho c (bindW e) fun {q2 ov s2 w2} e2 p2 => hk (p2.st c) (bindW e2) fun {q3 kv s3 w3} e3 p3 => ?_)))
  have c3 := p3.st (p2.st c)
  obtain ⟨h1, e4⟩ := gdW e3
  have ro := p2.val.per p3.stp.per
  obtain ⟨a, b, rfl, hd⟩ := hdr_of ro (isHd_hdr h1)
  obtain ⟨of, fd, hfo, hfc, hdat⟩ := hfn
  unfold delItem
  refine wpAny_holding (wpAny_bind (seqKey_own hC c3 hd ?_))
  have Xs := own_special hC c3 hd hf hfo hfc hB
  obtain ⟨h', g, d', t, os⟩ := s3
  obtain rfl : w3.h = h' := p3.heap.1
  exact wpAny_bind (wpAny_callSpecial?_own Xs (hF (f := 1) (vs := [q2.1, q3.1]) c3.conc.base c3.heap ⟨ro, p3.val, trivial⟩ (mapW e4) fun e5 p4 => wpAny_pure (wpAny_deleteEach_nil (kk e5 (((p2.trans p3).trans p4).nx c)))))
theorem setSlice_list {l b sl : Addr} {xs ys : Array Value} {n m : Nat} {Q : Unit → Shared → Prop} {E : Value → Shared → Prop} {p : Program} {W : World} (hl : s.heap.get? l = some { cls := .type "list", data := .seq xs n }) (hb : s.heap.get? b = some { cls := .type "list", data := .seq ys m })
    (hs : s.heap.IsSliceOf sl .none .none .none) (hx : xs.size ≤ 4096) (hy : ys.size ≤ 4096) (h : ∀ h', (∃ n, h'.get? l = some { cls := .type "list", data := .seq ys n }) → Heap.SameBut l s.heap h' → Q () { s with heap := h' }) :
    wpAny (model p W) A (setItem (.ref l) (.ref sl) (.ref b)) Q E s := by
  obtain ⟨os, hos, hcs, hds⟩ := id hs
  have hTl : s.TypeIs (.ref l) "list" := ⟨_, hl, rfl⟩
  have hTb : s.TypeIs (.ref b) "list" := ⟨_, hb, rfl⟩
  have hTs : s.TypeIs (.ref sl) "slice" := ⟨os, hos, hcs⟩
  have hx' : xs.size ≤ sizeLine := Nat.le_trans hx (by decide)
  unfold setItem
  try with_reducible refine wpAny_holding ?_
  first | refine wpAny_bind (wpAny_pure ?_) | skip
  refine wpAny_bind (wpAny_sequenceKey hTl (by decide) ?_)
  refine wpAny_bind (wpAny_callSpecial?_slot (name := Str.ofString "__setitem__") hTl PySem.F.slot_list_setitem (wpAny_call_entry PySem.F.slot_list_setitem hTl PySem.F.entry_list_setitem ?_ (PySem.F.args_list_setitem_3 _ _ _)))
  show wpAny _ _ (Builtin.List.listSubscript? (.ref sl) >>= _) _ _ s
  refine wpAny_bind ?_
  · unfold Builtin.List.listSubscript?
    refine wpAny_bind (wpAny_specialOf hTs slice_no_index ?_)
    simp only [Option.isNone_none, if_true]
    refine wpAny_pure ?_
    show wpAny _ _ (typeOf (.ref sl) >>= _) _ _ s
    refine wpAny_bind (wpAny_typeOf hTs ?_)
    rw [if_neg (by decide)]
    rw [listSliceParts_eq]
    refine wpAny_bind (wpAny_bind (wpAny_field hos hds (x := .none) rfl (wpAny_bind (wpAny_listPart .none ?_))))
    rw [if_neg (show ¬ ((rawPart none == rawInt 0) = true) from Bool.false_ne_true)]
    refine wpAny_bind (wpAny_field hos hds (x := .none) rfl (wpAny_bind (wpAny_listPart .none ?_)))
    refine wpAny_bind (wpAny_field hos hds (x := .none) rfl (wpAny_bind (wpAny_listPart .none (wpAny_pure ?_))))
    have items : ∀ {a : Addr} {zs : Array Value} {k : Nat} {Q' : Array Value → Shared → Prop}, s.heap.get? a = some { cls := .type "list", data := .seq zs k } → Q' zs s → wpAny (model p W) A.in1 (Builtin.List.listItems (.ref a)) Q' E s := by
      intro a zs k Q' ha hq
      unfold Builtin.List.listItems
      exact wpAny_bind (wpAny_seqItems ha rfl (wpAny_pure hq))
    have all : ∀ {Q' : Array Value → Shared → Prop}, Q' ys s → wpAny (model p W) A.in1 (Builtin.List.listAllItems (.ref b) "must assign iterable to extended slice") Q' E s := by
      intro Q' hq
      unfold Builtin.List.listAllItems
      refine wpAny_bind (wpAny_typeOf hTb ?_)
      rw [if_pos (by decide)]
      first
        | exact wpAny_bind (items hb (wpAny_pure hq))
        | exact items hb hq
    have hb' : sliceBounds none none none xs.size = (0, (xs.size : Int), 1) := rfl
    have htl : Builtin.List.listTooLong (xs.size + ys.size) = false := by
      unfold Builtin.List.listTooLong
      have e : (2 : Nat) ^ 24 = 16777216 := by decide
      simp
      first | omega | (unfold sizeLine; omega)
    have hupd : xs.extract 0 (0 : Int).toNat ++ ys ++ xs.extract (max 0 (xs.size : Int)).toNat xs.size = ys := by
      obtain ⟨l'⟩ := xs
      simp
    have g0 := get?_update_seq hl (fun zs : Array Value => zs.extract 0 (0 : Int).toNat ++ ys ++ zs.extract (max 0 (xs.size : Int)).toNat zs.size)
    rw [hupd] at g0
    split
    · refine wpAny_bind (items hb ?_)
      refine wpAny_bind (items hl ?_)
      refine wpAny_bind (wpAny_of_eq (sliceIndices_raw none none none xs.size (by simp)) ?_)
      rw [hb']
      rw [if_pos (show ((((0 : Int), (xs.size : Int), (1 : Int)).2.snd == 1) = true) from rfl)]
      refine wpAny_bind (wpAny_rule ?_)
      rw [if_neg (by rw [htl]; decide)]
      refine wpAny_bind (listUpdate_at hl rfl ?_ hx' ?_)
      · refine wpAny_bind (wpAny_letGo ?_)
        exact wpAny_pure ⟨_, rfl, wpAny_pure (h _ ⟨_, g0⟩ (Heap.SameBut.update ..))⟩
      · show (xs.extract 0 (0 : Int).toNat ++ ys ++ xs.extract (max 0 (xs.size : Int)).toNat xs.size).size ≤ sizeLine + 1
        rw [hupd]; exact Nat.le_trans hy (by decide)
    · refine wpAny_bind (all ?_)
      refine wpAny_bind (items hl ?_)
      refine wpAny_bind (wpAny_of_eq (sliceIndices_raw none none none xs.size (by simp)) ?_)
      rw [hb']
      rw [if_pos (show ((((0 : Int), (xs.size : Int), (1 : Int)).2.snd == 1) = true) from rfl)]
      refine wpAny_bind (wpAny_rule ?_)
      rw [if_neg (by rw [htl]; decide)]
      refine wpAny_bind (listUpdate_at hl rfl ?_ hx' ?_)
      · refine wpAny_bind (wpAny_letGo ?_)
        exact wpAny_pure ⟨_, rfl, wpAny_pure (h _ ⟨_, g0⟩ (Heap.SameBut.update ..))⟩
      · show (xs.extract 0 (0 : Int).toNat ++ ys ++ xs.extract (max 0 (xs.size : Int)).toNat xs.size).size ≤ sizeLine + 1
        rw [hupd]; exact Nat.le_trans hy (by decide)
theorem SSo.slset {o e : E} {oe ve : Expr} {p1 p pos : Pos} (hs : swapsWith ve (some (.Subscript oe (.Slice none none none p1) p)) pos.line env = pure false) (ho : SE G C A env cx o oe) (he : SE G C A env cx e ve) :
    SSo G C A env cx own mu (.slset o e) (.Assign [.Subscript oe (.Slice none none none p1) p] ve pos) := fun {w loc led s n₀ K Q} c _ hn e0 kk => by
  refine wpAny_Assign_Subscript (he c (bindW e0) fun {q1 vv s1 w1} e1 p1' => ho (p1'.st c) (bindW e1) fun {q2 ov s2 w2} e2 p2 => wpAny_Slice (wpAny_pure (wpAny_pure (wpAny_pure ?_)))) hs
  have c2 := p2.st (p1'.st c)
  obtain ⟨k, hk, e3⟩ := V.refW (bindW e2)
  have g : Grow w2.h (s2.heap.push { cls := .type "slice", data := .fields #[.none, .none, .none] }) := p2.heap.1 ▸ Grow.push _ _
  have c3 : St G C A env ⟨_, w2.own, w2.prot, w2.ads⟩ loc q2.2 { s2 with heap := s2.heap.push { cls := .type "slice", data := .fields #[.none, .none, .none] } } := ⟨c2.conc.grow g, rfl, p2.heap.2⟩
  have r2 := p2.val.per (Stp.grow g).per
  rw [hk] at r2
  obtain ⟨b, us, ys, rfl, i2, d2, e4⟩ := listW c3.conc.led ((p1'.val.per p2.stp.per).per (Stp.grow g).per) (bindW e3)
  obtain ⟨a, vs, xs, n1, rfl, ha, i, hl, d, e5⟩ := refW c3 r2 (bindW e4)
  obtain ⟨hcap, e6⟩ := gdW e5
  obtain ⟨n2, hb⟩ := id i2
  refine setSlice_list (s := { s2 with heap := s2.heap.push { cls := .type "slice", data := .fields #[.none, .none, .none] } }) hl hb (Heap.IsSliceOf.new _ _ _ _) (d.size ▸ hcap.2) (d2.size ▸ hcap.1) fun h' hl' hs' => ?_
  have p4 := PostE.write (s' := { s2 with heap := h' }) (o := .list ys) (d := .none) (val := .none) c3.conc ha (fun q hq ob e => hs'.extBut q ob hq e) (fun w' P e => ⟨us, by rw [e]; exact hl', d2.per P.per⟩) (fun _ => rfl) p2.heap.2
  have p3 : PostE G w2 q2.2 (.d .none) .none { s2 with heap := s2.heap.push { cls := .type "slice", data := .fields #[.none, .none, .none] } } ⟨_, w2.own, w2.prot, w2.ads⟩ := PostE.grow c2.conc g rfl p2.heap.2
  exact kk e6 ((((p1'.trans p2).trans p3).trans p4).nx c)
theorem SSo.assignComp {x : Nat} {elt : E} {t : T} {k : IK} {its conds : List E} {caps : List Nat} {xe xt iter : Expr} {ifs : List Expr} {scope : Scope} {pos pos' spos : Pos} {en : Bool} {id : Str}
    (hset : (match iter with | .Set _ _ _ => false | _ => true) = true) (hfl : FnOk own env) (hx : isT C env.scope true (.name x) (.Name id pos') = true) (hs : swapsWith (.ListComp xe [⟨xt, iter, ifs, 0⟩] scope pos) (some (.Name id pos')) spos.line env = pure true)
    (hok : compOk env.scope scope = true) (ht : isT C (relab env.scope scope) false t xt = true) (hen : en = true → ∃ es k pos, xt = .Tuple es k pos)
    (hcap : ∀ x ∈ caps, scope.names.lookup (C.nm x) = some .free) (hdis : ∀ x ∈ caps, x ∉ tNames t) (hi : SI G C A env cx k its iter en)
    (hc : ∀ cenv : Env, cenv.scope = relab env.scope scope → STs G C A cenv cx conds ifs) (he : ∀ cenv : Env, cenv.scope = relab env.scope scope → SE G C A cenv cx elt xe) :
    SSo G C A env cx own mu (.assign (.name x) (.comp elt t k its conds caps)) (.Assign [.Name id pos'] (.ListComp xe [⟨xt, iter, ifs, 0⟩] scope pos) spos) := fun {w loc led s n₀ K Q} c ho hn e kk => by
  obtain ⟨hxn, hid, hst⟩ := isName_store rfl hfl hx
  obtain rfl : id = C.nm x := Option.some.inj hid
  rw [exec_Assign_Name_used (hs := hs)]
  refine wpAny_bind (wpAny_standAt ?_)
  rw [arm_evalThenUse_ListComp]
  refine wpAny_bind (wpAny_bind (comp_eval (Q := fun _ s => wpAny (Mo G) A (pure ()) (fun _ s => wpAny (Mo G) A (pure Flow.next) Q NoE s) NoE s) (pos' := firstIterPos [⟨xt, iter, ifs, 0⟩] pos) hok hset ht hen hcap hdis hi hc he c (bindW e) fun {w1 D L ledF s'} e1 X => ?_))
  have ex1 : ∀ {b o}, w.h.get? b = some o → b ∉ w.ads → w1.h.get? b = some o ∧ b ∉ w1.ads := fun e n => X.stp.keep _ _ e n
  have kp : ∀ {b o}, w.h.get? b = some o → b ∉ w.ads → s'.heap.get? b = some o ∧ b ∉ w1.ads ++ [D] := fun e n => ⟨X.keep (ex1 e n).1 (ex1 e n).2, not_last X.fD (ex1 e n).1 (ex1 e n).2⟩
  have neL : ∀ {b o}, w.h.get? b = some o → b ∉ w.ads → b ∉ [L] := fun e n q => by
    obtain rfl := mem1 q
    exact nomatch X.fL.symm.trans (ex1 e n).1
  have exn : ∀ {b}, b ∈ w.own ∨ b ∈ w.prot → (∃ o, s'.heap.get? b = some o) ∧ b ∉ w1.ads ++ [D] ∧ b ∉ [L] := fun h =>
    let ⟨o, q⟩ := c.conc.ownex _ h
    have n := c.conc.sep _ h
    ⟨⟨o, (kp q n).1⟩, (kp q n).2, neL q n⟩
  have pre : w.ads <+: w1.ads ++ [D] := X.stp.pre.trans (List.prefix_append _ _)
  have hlu : ORs G ⟨s'.heap, w.own, [L] ++ w.prot, w1.ads ++ [D]⟩ ledF (w1.ads ++ [D]) := X.stp.own ▸ X.led (fun _ _ _ e => e) fun b m => (List.mem_append.mp m).elim (fun m => .inr (mem1 m)) fun m => .inl (X.stp.prot.symm ▸ m)
  have P : Per w ⟨s'.heap, w.own, [L] ++ w.prot, w1.ads ++ [D]⟩ := { st := fun b o e hs => ⟨(kp e hs.2.2).1, hs.1, fun m => (List.mem_append.mp m).elim (neL e hs.2.2) hs.2.1, (kp e hs.2.2).2⟩, ref := fun k a e => pre_get pre e }
  obtain ⟨mL, oL, esL, epL, hoL, rL⟩ := X.ns
  have cu : Conc G C A ⟨s'.heap, w.own, [L] ++ w.prot, w1.ads ++ [D]⟩ env loc ledF := c.conc.to P.toPerD (fun _ e n => kp e n) _root_.id (fun _ m => m.imp _root_.id (List.mem_append_right _)) (fun _ r => r.per P) hlu X.nd
    (fun a m => m.elim (fun m => (exn (.inl m)).2.1) fun m => (List.mem_append.mp m).elim (fun m => mem1 m ▸ X.nL) fun m => (exn (.inr m)).2.1)
    (fun a m => m.elim (fun m => (exn (.inl m)).1) fun m => (List.mem_append.mp m).elim (fun m => by obtain rfl := mem1 m; exact ⟨oL, hoL⟩) fun m => (exn (.inr m)).1)
    fun a ha m => (List.mem_append.mp m).elim (exn (.inl ha)).2.2 (c.conc.op a ha)
  have F : FW G ⟨s'.heap, w.own, [L] ++ w.prot, w1.ads ++ [D]⟩ ledF := ⟨hlu, X.nd, cu.sep⟩
  obtain ⟨b, bads, e2, I⟩ := bindN_sound (mu := mu) (v := .ref w1.ads.length) F (bind_start c.conc P (fun _ e n => kp e n) pre F hn) nofun hxn (val := .ref D) ⟨D, rfl, List.getElem?_concat_length⟩ (mapW e1)
  show wpAny _ _ (assign (.Name (C.nm x) pos') env (.ref D)) _ _ _
  refine wpAny_assign_Name (fin_name cu (StepS.refl n₀ _) I (Grow.refl _) X.rs (hst ho) fun {s2 w2} p2 => ?_)
  have hh2 := p2.st.heap
  have S2 := p2.step
  refine ⟨mL, ⟨oL, esL, epL, hh2.1 ▸ S2.prots L oL (.head _) hoL, rL⟩, fun h' hs' => wpAny_pure (wpAny_pure ?_)⟩
  have PA : At [L] w2 ⟨h', w2.own, w2.prot, w2.ads⟩ := ⟨rfl, rfl, rfl, fun b o e n => hs'.extBut b o (fun q => n (q ▸ .head _)) (hh2.1 ▸ e)⟩
  have IL : InLoop n₀ w [L] ⟨s'.heap, w.own, [L] ++ w.prot, w1.ads ++ [D]⟩ := ⟨rfl, rfl, fun b o e hs => kp e hs.2.2, fun b o m e => (kp e (c.conc.sep b (.inr m))).1, fun k a _ e => pre_get pre e⟩
  have hfL : ∀ b ∈ [L], w.h.get? b = none := fun b m => by
    obtain rfl := mem1 m
    cases q : w.h.get? b with
    | none => rfl
    | some o =>
      by_cases n : b ∈ w.ads
      · exact absurd (pre.subset n) X.nL
      · exact absurd m (neL q n)
  exact kk e2 ⟨⟨(p2.st.conc.out PA S2.prot (fun h q => nomatch (hfL _ q).symm.trans (h.obj c.conc).choose_spec) fun m => (exn (.inr m)).2.2).1, rfl, hh2.2⟩, ((IL.step hfL S2 (Nat.le_refl _)).at_ hfL PA).out, rfl⟩
end
end UK
end
section
namespace UK
open PySem PySem.W PySem.Calls PyProof.Rows PySem.SeqAt
noncomputable def fullVals (npos : Nat) (vals dv : List Value) : List Value := vals ++ dv.drop (vals.length + dv.length - npos)
theorem zip_lookup {ps : List Str} (hn : ps.Nodup) : ∀ {vals : List Value} {i : Nat} {n : Str}, ps[i]? = some n → (ps.zip vals).lookup n = vals[i]? := by
  induction ps with
  | nil => intro vals i n h; simp at h
  | cons p ps ih =>
    intro vals i n h
    obtain ⟨h1, h2⟩ := List.nodup_cons.mp hn
    cases vals with
    | nil => simp
    | cons v vals =>
      rw [List.zip_cons_cons, List.lookup_cons]
      cases i with
      | zero => simp at h; subst h; simp
      | succ i =>
        simp only [List.getElem?_cons_succ] at h ⊢
        have : n ≠ p := fun q => h1 (q ▸ List.mem_of_getElem? h)
        rw [show (n == p) = false by simpa using this]
        exact ih h2 h
theorem zip_lookup_none {ps : List Str} : ∀ {vals : List Value} {n : Str}, n ∉ ps → (ps.zip vals).lookup n = none := by
  induction ps with
  | nil => intro vals n _; simp
  | cons p ps ih =>
    intro vals n h
    cases vals with
    | nil => simp
    | cons v vals =>
      rw [List.zip_cons_cons, List.lookup_cons]
      rw [show (n == p) = false by simpa using fun (q : n = p) => h (by rw [q]; exact List.mem_cons_self ..)]
      exact ih fun q => h (List.mem_cons_of_mem _ q)
theorem map_lookup {kwo : List Str} {g : Str → Value} {n : Str} (h : n ∈ kwo) : (kwo.map fun n => (n, g n)).lookup n = some (g n) := by
  induction kwo with
  | nil => cases h
  | cons k kwo ih =>
    rw [List.map_cons, List.lookup_cons]
    by_cases q : n = k
    · subst q; simp
    · rw [show (n == k) = false by simpa using q]
      exact ih ((List.mem_cons.mp h).resolve_left q)
theorem map_lookup_none {kwo : List Str} {g : Str → Value} {n : Str} (h : n ∉ kwo) : (kwo.map fun n => (n, g n)).lookup n = none := by
  induction kwo with
  | nil => rfl
  | cons k kwo ih =>
    rw [List.map_cons, List.lookup_cons, show (n == k) = false by simpa using fun (q : n = k) => h (by rw [q]; exact List.mem_cons_self ..)]
    exact ih fun q => h (List.mem_cons_of_mem _ q)
theorem sub_eq3 {i v p d : Nat} (hv : v ≤ i) (h2 : p ≤ v + d) (h3 : d ≤ p) : i - (p - d) = (v + d - p) + (i - v) := by
  obtain ⟨j, rfl⟩ := Nat.exists_eq_add_of_le hv
  obtain ⟨e, rfl⟩ := Nat.exists_eq_add_of_le h3
  obtain ⟨c, hc⟩ := Nat.exists_eq_add_of_le h2
  obtain rfl : v = e + c := Nat.add_left_cancel ((Nat.add_comm d v).trans (hc.trans (Nat.add_assoc d e c)))
  rw [hc, Nat.add_sub_cancel_left, Nat.add_sub_cancel_left, Nat.add_sub_cancel_left, Nat.add_assoc, Nat.add_sub_cancel_left]
theorem slots_pos {ps kwo : List Str} {vals dv : List Value} {kwm : Str → Option Value} (hn : (ps ++ kwo).Nodup) (h2 : ps.length ≤ vals.length + dv.length) (h3 : dv.length ≤ ps.length) {i : Nat} {n : Str} (h : ps[i]? = some n) :
    (slotsOf ps kwo vals dv kwm).lookup n = (fullVals ps.length vals dv)[i]? := by
  obtain ⟨n1, n2, n3⟩ := List.nodup_append.mp hn
  unfold slotsOf fullVals
  rw [laidDs_lookup, laidDs_lookup, zip_lookup n1 h, map_lookup_none fun q => n3 n (List.mem_of_getElem? h) n q rfl, Option.or_none]
  by_cases hv : i < vals.length
  · rw [List.getElem?_append_left hv, List.getElem?_eq_getElem hv]; rfl
  · have hk : ps.length - dv.length ≤ i := Nat.le_trans (Nat.sub_le_iff_le_add.mpr h2) (Nat.not_lt.mp hv)
    rw [List.getElem?_eq_none (Nat.not_lt.mp hv), Option.none_or, List.getElem?_append_right (Nat.not_lt.mp hv), List.getElem?_drop]
    have hd : (ps.drop (ps.length - dv.length))[i - (ps.length - dv.length)]? = some n := by
      rw [List.getElem?_drop, Nat.add_sub_cancel' hk]; exact h
    rw [zip_lookup (n1.sublist (List.drop_sublist _ _)) hd]
    exact congrArg (dv[·]?) (sub_eq3 (Nat.not_lt.mp hv) h2 h3)
theorem slots_kw {ps kwo : List Str} {vals dv : List Value} {kwm : Str → Option Value} (hn : (ps ++ kwo).Nodup) {n : Str} (h : n ∈ kwo) : (slotsOf ps kwo vals dv kwm).lookup n = some ((kwm n).getD .none) := by
  obtain ⟨n1, n2, n3⟩ := List.nodup_append.mp hn
  unfold slotsOf
  have hp : n ∉ ps := fun q => n3 n q n h rfl
  rw [laidDs_lookup, laidDs_lookup, zip_lookup_none hp, zip_lookup_none fun q => hp (List.mem_of_mem_drop q), map_lookup h]
  rfl
theorem binds_mem {ps kwo : List Str} {vals dv : List Value} {kwm : Str → Option Value} {n : Str} {v : Value} (h : n ∈ ps ++ kwo) (hv : (slotsOf ps kwo vals dv kwm).lookup n = some v) : (n, v) ∈ bindsOf ps kwo vals dv kwm := by
  unfold bindsOf
  exact List.mem_filterMap.mpr ⟨n, h, by rw [hv]; rfl⟩
theorem binds_names {ps kwo : List Str} {vals dv : List Value} {kwm : Str → Option Value} {x : Str × Value} (h : x ∈ bindsOf ps kwo vals dv kwm) : x.1 ∈ ps ++ kwo := by
  unfold bindsOf at h
  obtain ⟨n, hn, e⟩ := List.mem_filterMap.mp h
  obtain ⟨v, _, rfl⟩ := Option.map_eq_some_iff.mp e
  exact hn
theorem binds_nodup {ps kwo : List Str} {vals dv : List Value} {kwm : Str → Option Value} (hn : (ps ++ kwo).Nodup) : ((bindsOf ps kwo vals dv kwm).map (·.1)).Nodup := by
  unfold bindsOf
  generalize slotsOf ps kwo vals dv kwm = sl
  generalize ps ++ kwo = l0 at *
  induction l0 with
  | nil => exact .nil
  | cons p l ih =>
    obtain ⟨h1, h2⟩ := List.nodup_cons.mp hn
    rw [List.filterMap_cons]
    cases e : sl.lookup p with
    | none => exact ih h2
    | some v =>
      simp only [Option.map_some, List.map_cons]
      refine List.nodup_cons.mpr ⟨fun q => h1 ?_, ih h2⟩
      obtain ⟨y, hy, rfl⟩ := List.mem_map.mp q
      obtain ⟨n, hn', e'⟩ := List.mem_filterMap.mp hy
      obtain ⟨v', _, e2⟩ := Option.map_eq_some_iff.mp e'
      rw [← e2]; exact hn'
theorem bindL_other {kindOf : Str → Option NameKind} : ∀ {l : List (Str × Value)} {m : Str → Option Value} {n : Str}, n ∉ l.map (·.1) → bindL kindOf l m n = m n
  | [], _, _, _ => rfl
  | (k, v) :: l, m, n, h => by
    unfold bindL
    rw [bindL_other fun q => h (List.mem_cons_of_mem _ q)]
    split
    · have : ¬ n = k := fun q => h (by rw [q]; exact List.mem_cons_self ..)
      simp only [this, if_false]
    · rfl
theorem bindC_other {kindOf : Str → Option NameKind} : ∀ {l : List (Str × Value)} {m : Str → Option Value} {n : Str}, n ∉ l.map (·.1) → bindC kindOf l m n = m n
  | [], _, _, _ => rfl
  | (k, v) :: l, m, n, h => by
    unfold bindC
    rw [bindC_other fun q => h (List.mem_cons_of_mem _ q)]
    split
    · rfl
    · have : ¬ n = k := fun q => h (by rw [q]; exact List.mem_cons_self ..)
      simp only [this, if_false]
theorem bindL_at {kindOf : Str → Option NameKind} : ∀ {l : List (Str × Value)} {m : Str → Option Value} {n : Str} {v : Value}, (l.map (·.1)).Nodup → (n, v) ∈ l → kindOf n = some .local → bindL kindOf l m n = some v
  | (k, u) :: l, m, n, v, hn, h, hk => by
    rw [List.map_cons, List.nodup_cons] at hn
    unfold bindL
    rcases List.mem_cons.mp h with h | h
    · cases h
      rw [if_pos hk, bindL_other hn.1]
      simp
    · exact bindL_at hn.2 h hk
theorem bindC_at {kindOf : Str → Option NameKind} : ∀ {l : List (Str × Value)} {m : Str → Option Value} {n : Str} {v : Value}, (l.map (·.1)).Nodup → (n, v) ∈ l → kindOf n ≠ some .local → bindC kindOf l m n = some v
  | (k, u) :: l, m, n, v, hn, h, hk => by
    rw [List.map_cons, List.nodup_cons] at hn
    unfold bindC
    rcases List.mem_cons.mp h with h | h
    · cases h
      rw [if_neg hk, bindC_other hn.1]
      simp
    · exact bindC_at hn.2 h hk
theorem cellsFrom_keep : ∀ (names : List (Str × NameKind)) (k : Nat) (acc : List (Str × Addr)) (p : Str × Addr), p ∈ acc → p ∈ cellsFrom k names acc
  | [], _, _, _, h => h
  | (n, kd) :: r, k, acc, p, h => by
    unfold cellsFrom
    split
    · exact cellsFrom_keep r _ _ p (List.mem_cons_of_mem _ h)
    · exact cellsFrom_keep r _ _ p h
theorem cellsFrom_has : ∀ (names : List (Str × NameKind)) (k : Nat) (acc : List (Str × Addr)) (x : Str), (x, NameKind.cell) ∈ names → ∃ c, (x, c) ∈ cellsFrom k names acc
  | [], _, _, _, h => by cases h
  | (n, kd) :: r, k, acc, x, h => by
    unfold cellsFrom
    rcases List.mem_cons.mp h with h | h
    · cases h
      rw [if_pos (by rfl)]
      exact ⟨k, cellsFrom_keep r _ _ _ (List.mem_cons_self ..)⟩
    · split
      · exact cellsFrom_has r _ _ x h
      · exact cellsFrom_has r _ _ x h
theorem lookup_of_mem {l : List (Str × Addr)} {x : Str} {c : Addr} (h : (x, c) ∈ l) : (l.lookup x).isSome = true := by
  induction l with
  | nil => cases h
  | cons p l ih =>
    obtain ⟨n, d⟩ := p
    rw [List.lookup_cons]
    by_cases q : x = n
    · subst q; simp
    · rw [show (x == n) = false by simpa using q]
      refine ih ((List.mem_cons.mp h).resolve_left fun e => q (by cases e; rfl))
structure FnHd (nms : List Str) (fn : Fn) (fd : FuncData) : Prop where
  glob : fd.globals = mainGlobals
  bi : fd.builtins = builtinsNs
  clo : fd.closure = []
  kind : fd.scope.kind = .function
  co : fd.scope.isCoroutine = false
  gen : fd.scope.isGenerator = false
  po : fd.params.posonlyargs = []
  va : fd.params.vararg = none
  kw : fd.params.kwarg = none
  pn : fd.params.args.map (·.arg) = fn.params.map fun x => nms.getD x Str.empty
  kn : fd.params.kwonlyargs.map (·.arg) = fn.kw.map fun p => nms.getD p.1 Str.empty
  pk : ∀ {x}, x ∈ fn.params ++ fn.kw.map (·.1) → x < nms.length ∧ (fd.scope.names.lookup (nms.getD x Str.empty) = some .local ∨ fd.scope.names.lookup (nms.getD x Str.empty) = some .cell)
  pd : (fn.params ++ fn.kw.map (·.1)).Nodup
  nf : ∀ {x}, x ∈ fd.scope.names → x.2 ≠ .free
structure FnAt (G : Gl) (nms : List Str) (fa : Nat → Addr) (cx : Cx) (fn : Fn) (a : Addr) (o : Obj) (fd : FuncData) (xs : List Stmt) (dv : List Value) (kwm : Str → Option Value) : Prop where
  at' : G.h₀.get? a = some o
  cls : o.cls = .type "function"
  dat : o.data = .func fd
  hd : FnHd nms fn fd
  bd : fd.body = .stmts xs
  cd : G.h₀.CodeRec fd.code fd.qualname
  df : (fd.defaults = .none ∧ dv = []) ∨ ∃ T, fd.defaults = .ref T ∧ G.h₀.IsTuple T dv.toArray
  dr : ∀ {w : Wd}, DRs w fn.dflt dv
  dl : dv.length ≤ fn.params.length
  kd : ∀ n, (kwm n).isSome = true → ∃ d m, fd.kwdefaults = .ref d ∧ G.h₀.Ns d m ∧ m n = kwm n
  kv : ∀ {p}, p ∈ fn.kw → ∃ v, kwm (nms.getD p.1 Str.empty) = some v ∧ ∀ {w : Wd}, DR w p.2 v
  run : ∀ {lev : Nat} {A : Around} {env : Env} {F : Nat → List V → Led → Option (V × Led)} {own : List Addr}, env.scope = fd.scope → FnOk own env → SF G lev F fa → SSs G ⟨nms, lev⟩ A env { cx with F := F } own fn.mu fn.body xs
noncomputable def FnFact (G : Gl) (nms : List Str) (fa : Nat → Addr) (cx : Cx) (fn : Fn) (a : Addr) : Prop := ∃ o fd xs dv kwm, FnAt G nms fa cx fn a o fd xs dv kwm
section
variable {G : Gl} {C : Ct} {A : Around} {env : Env} {cx : Cx} {w : Wd} {loc : Loc} {led led' : Led} {s : Shared}
theorem get_zipP {x : Nat} {v : V} : ∀ {ps : List Nat} {vs : List V}, get (zipP ps vs) x = some v → ∃ i : Nat, ps[i]? = some x ∧ vs[i]? = some v
  | [], _, h => nomatch h
  | _ :: _, [], h => nomatch h
  | p :: ps, u :: vs, h => by
    have h : (if p = x then some u else get (zipP ps vs) x) = some v := h
    by_cases hp : p = x
    · rw [if_pos hp] at h; exact ⟨0, congrArg some hp, h⟩
    · rw [if_neg hp] at h
      obtain ⟨i, h1, h2⟩ := get_zipP h
      exact ⟨i + 1, h1, h2⟩
theorem get_append {r : Loc} {x : Nat} {v : V} : ∀ {l : Loc}, get (l ++ r) x = some v → get l x = some v ∨ get r x = some v
  | [], h => .inr h
  | (y, u) :: l, h => by
    have h : (if y = x then some u else get (l ++ r) x) = some v := h
    show (if y = x then some u else get l x) = some v ∨ _
    by_cases hy : y = x
    · rw [if_pos hy] at h ⊢; exact .inl h
    · rw [if_neg hy] at h ⊢; exact get_append h
theorem VRs.get {w : Wd} : ∀ {vs : List V} {vals : List Value} {i : Nat} {v : V}, VRs G w vs vals → vs[i]? = some v → ∃ val, vals[i]? = some val ∧ VR G w v val
  | [], _, _, _, _, e => nomatch e
  | _ :: _, [], _, _, h, _ => h.elim
  | x :: l, a :: as, 0, o, h, e => ⟨a, rfl, Option.some.inj e ▸ h.1⟩
  | x :: l, a :: as, k + 1, o, h, e => h.2.get e
theorem DRs.drop {w : Wd} : ∀ {ds : List D} {vals : List Value} (n : Nat), DRs w ds vals → DRs w (ds.drop n) (vals.drop n)
  | _, _, 0, h => h
  | [], [], n + 1, _ => trivial
  | [], _ :: _, _ + 1, h => h.elim
  | _ :: _, [], _ + 1, h => h.elim
  | _ :: _, _ :: _, n + 1, h => h.2.drop n
theorem freezes_sound {wf : Wd} {full : Led} {bads : List Addr} (F : FW G wf full) (hsub : ∀ a ∈ bads, a ∈ wf.ads) {wz : Wd} (hz : ∀ {lo}, PerD (wf.wx bads lo) wz) :
    ∀ {vs : List V} {vals : List Value} {lo : Nat} {K : List V × Nat → Prop}, (bads ++ wf.ads.drop lo).Nodup → VRs G wf vs vals → (freezes lo full vs).elim False K → ∃ vs' lo', K (vs', lo') ∧ VRs G wz vs' vals
  | [], [], lo, K, hnd, r, e => ⟨_, _, e, trivial⟩
  | [], _ :: _, _, _, _, r, _ => r.elim
  | _ :: _, [], _, _, _, r, _ => r.elim
  | v :: vs, val :: vals, lo, K, hnd, r, e => by
    obtain ⟨v1, lo1, e1, h1, h2, h3⟩ := freeze_sound F hnd hsub r.1 (bindW e)
    have n := List.nodup_append.mp hnd
    obtain ⟨vs', lo', e2, h4⟩ := freezes_sound F hsub hz (List.nodup_append.mpr ⟨n.1, F.nd.sublist (List.drop_sublist _ _), fun c m d md q => n.2.2 c m d (drop_sub h1 md) q⟩) r.2 (mapW e1)
    exact ⟨_, _, e2, h2.mvB hz (h3 0) fun k a hk _ => absurd hk (Nat.not_lt_zero _), h4⟩
structure ResW (G : Gl) (w' : Wd) (n₀ : Nat) (led : Led) (v : V) (val : Value) (own prot ads : List Addr) : Prop where
  sub : ∀ {a}, a ∈ ads → a ∈ w'.ads
  nd : ads.Nodup
  pre : w'.ads.take n₀ <+: ads
  led : ORs G ⟨w'.h, own, prot, ads⟩ led ads
  val : VR G ⟨w'.h, own, prot, ads⟩ v val
theorem resV_sound {w' : Wd} {n₀ : Nat} {led1 : Led} {v : V} {val : Value} {own prot : List Addr} {K : V × Led → Prop} (F : FW G w' led1) (r : VR G w' v val) (hn : n₀ ≤ w'.ads.length) (ho : ∀ {b}, b ∈ own → b ∈ w'.own ∨ b ∈ w'.prot) (hp : ∀ {b}, b ∈ prot → b ∈ w'.own ∨ b ∈ w'.prot)
    (e : (resV n₀ led1 v).elim False K) : ∃ p ads, K p ∧ ResW G w' n₀ p.2 p.1 val own prot ads := by
  have PD : ∀ {ads}, (∀ {b}, b ∈ ads → b ∈ w'.ads) → PerD w' ⟨w'.h, own, prot, ads⟩ := fun h3 => ⟨fun b o e hs => ⟨e, fun m => (ho m).elim hs.1 hs.2.1, fun m => (hp m).elim hs.1 hs.2.1, fun m => hs.2.2 (h3 m)⟩⟩
  have tk : ∀ {b}, b ∈ w'.ads.take n₀ → b ∈ w'.ads := List.mem_of_mem_take
  have ndt : (w'.ads.take n₀).Nodup := F.nd.sublist (List.take_sublist _ _)
  have led0 : ORs G ⟨w'.h, own, prot, w'.ads.take n₀⟩ (led1.take n₀) (w'.ads.take n₀) := (F.led.take n₀).moveD (PD tk) fun a _ o e => e
  have same : ∀ {v0 : V}, VR G w' v0 val → below n₀ v0 = true → ResW G w' n₀ (led1.take n₀) v0 val own prot (w'.ads.take n₀) := fun r0 hb => ⟨tk, ndt, List.prefix_rfl, led0, r0.mvB (PD tk) hb fun k a hk e => (List.getElem?_take_of_lt hk).trans e⟩
  have gen : ∀ {k : Nat} {a : Addr} {mk : Nat → V}, w'.ads[k]? = some a → (∀ {w2 : Wd} {j}, PerD w' w2 → w2.ads[j]? = some a → VR G w2 (mk j) val) → VR G w' (mk k) val → (∀ {n}, k < n → below n (mk k) = true) → (resO n₀ led1 mk k).elim False K → ∃ p ads, K p ∧ ResW G w' n₀ p.2 p.1 val own prot ads := fun {k a mk} ha hmk rk hb e => by
    unfold resO at e
    by_cases hk : k < n₀
    · rw [if_pos hk] at e; exact ⟨_, _, e, same rk (hb hk)⟩
    · rw [if_neg hk] at e
      obtain ⟨o, h, e2⟩ := isW (mapW e)
      obtain ⟨a', ha', hor⟩ := F.led.get h
      obtain rfl := Option.some.inj (ha.symm.trans ha')
      have hm := mem_of_getElem? ha
      have hs : ∀ {b}, b ∈ w'.ads.take n₀ ++ [a] → b ∈ w'.ads := fun m => (List.mem_append.mp m).elim tk fun m => mem1 m ▸ hm
      have hl : (w'.ads.take n₀).length = n₀ := List.length_take_of_le hn
      refine ⟨_, w'.ads.take n₀ ++ [a], e2, hs, List.nodup_append.mpr ⟨ndt, List.nodup_cons.mpr ⟨nofun, .nil⟩, fun b m d md q => nodup_take F.nd ha (Nat.not_lt.mp hk) (mem1 md ▸ q ▸ m)⟩, List.prefix_append _ _, ((F.led.take n₀).moveD (PD hs) fun a _ o e => e).append ⟨hor.moveD (PD hs) fun o e => e, trivial⟩, hmk (PD hs) ?_⟩
      show (w'.ads.take n₀ ++ [a])[n₀]? = some a
      have h2 : (w'.ads.take n₀ ++ [a])[(w'.ads.take n₀).length]? = some a := List.getElem?_concat_length
      rw [hl] at h2; exact h2
  cases v with
  | d x => exact ⟨_, _, e, same r rfl⟩
  | lst xs => exact ⟨_, _, e, same r rfl⟩
  | dct xs => exact ⟨_, _, e, same r rfl⟩
  | hdr xs => exact ⟨_, _, e, same r rfl⟩
  | ref k =>
    obtain ⟨a, ev, ha⟩ := id r
    exact gen (mk := .ref) ha (fun P h => ⟨a, ev, h⟩) r (fun h => decide_eq_true h) e
  | hd k =>
    obtain ⟨a, b, ev, hh, ha⟩ := id r
    exact gen (mk := .hd) ha (fun P h => ⟨a, b, ev, hh.perD P, h⟩) r (fun h => decide_eq_true h) e
  | tup vs =>
    obtain ⟨a, us, ev, i, st, d⟩ := r
    obtain ⟨vs', lo', e2, h⟩ := freezes_sound (bads := w'.ads.take n₀) (wz := ⟨w'.h, own, prot, w'.ads.take n₀⟩) F (fun _ => tk) (fun {lo} => ⟨fun b o e hs => ⟨e, fun m => (ho m).elim hs.1 hs.2.1, fun m => (hp m).elim hs.1 hs.2.1, fun m => hs.2.2 (List.mem_append_left _ m)⟩⟩) (by rw [List.take_append_drop]; exact F.nd) d (mapW e)
    exact ⟨_, _, e2, tk, ndt, List.prefix_rfl, led0, a, us, ev, i, (let ⟨o, ho, _⟩ := i; ((PD tk).st a o ho st).2), h⟩
end
end UK
end
section
namespace UK
open PySem PySem.W PySem.Calls PyProof.Rows PySem.SeqAt
section
variable {G : Gl} {C : Ct} {A : Around} {env : Env} {cx : Cx} {w : Wd} {loc : Loc} {led led' : Led} {s : Shared}
noncomputable def ownOf (env : Env) : List Addr := env.locals :: env.cells.filterMap fun p => env.cells.lookup p.1
theorem mem_ownCells {env : Env} {b : Addr} (h : b ∈ env.cells.filterMap fun p => env.cells.lookup p.1) : ∃ y, env.cells.lookup y = some b := by
  obtain ⟨p, _, hp⟩ := List.mem_filterMap.mp h
  exact ⟨p.1, hp⟩
theorem ownCells_mem {env : Env} {y : Str} {b : Addr} (h : env.cells.lookup y = some b) : b ∈ env.cells.filterMap fun p => env.cells.lookup p.1 :=
  List.mem_filterMap.mpr ⟨(y, b), mem_of_lookup h, h⟩
structure Fresh (w : Wd) (env : Env) (sc : Scope) (m : Str → Option Value) (h' : Heap) : Prop where
  keep : ∀ {b o}, w.h.get? b = some o → h'.get? b = some o
  fresh : ∀ {b}, b ∈ ownOf env → w.h.get? b = none
  ex : ∀ {b}, b ∈ ownOf env → ∃ o, h'.get? b = some o
  cell : ∀ {y}, sc.names.lookup y = some .cell → ∃ c, env.cells.lookup y = some c ∧ h'.IsCell c (m y) ∧ c ∈ ownOf env ∧ c ≠ env.locals
  inj : ∀ {y z c}, env.cells.lookup y = some c → env.cells.lookup z = some c → y = z
theorem fresh_of {sc : Scope} {g : Addr} {q : Str} {f : Option Addr} {cd : Value} {b : Addr} {m cm : Str → Option Value} {s' : Shared} (hh : w.h = s.heap) (henv : env = newEnv sc s.heap.objs.size g (cellsFrom (s.heap.objs.size + 1) sc.names []) q f cd none b)
    (x : InCallC s env.locals m env.cells cm s') : Fresh w env sc cm s'.heap := by
  have hloc : env.locals = s.heap.objs.size := by rw [henv]; rfl
  have hcells : env.cells = cellsFrom (s.heap.objs.size + 1) sc.names [] := by rw [henv]; rfl
  refine ⟨fun e => x.toInCall.keep _ _ (hh ▸ e), fun {b} hb => ?_, fun {b} hb => ?_, fun {y} hy => ?_, fun l1 l2 => name_of_addr x.apart (mem_of_lookup l1) (mem_of_lookup l2)⟩
  · cases q : w.h.get? b with
    | none => rfl
    | some o =>
      rw [hh] at q
      have hlt := Heap.lt_size q
      rcases List.mem_cons.mp hb with hb | hb
      · exact absurd (hloc ▸ hb ▸ hlt) (Nat.lt_irrefl _)
      · obtain ⟨y, hy⟩ := mem_ownCells hb
        exact absurd hlt (Nat.not_lt.mpr (Nat.le_of_lt (hloc ▸ x.above y b (mem_of_lookup hy))))
  · rcases List.mem_cons.mp hb with hb | hb
    · obtain ⟨o, _, _, ho, _⟩ := x.toInCall.ns; exact ⟨o, hb ▸ ho⟩
    · obtain ⟨y, hy⟩ := mem_ownCells hb
      exact (x.cell y b hy).imp fun _ h => h.1
  · obtain ⟨c, hc⟩ := cellsFrom_has sc.names (s.heap.objs.size + 1) [] y (lookup_mem hy)
    obtain ⟨c', hc'⟩ := Option.isSome_iff_exists.mp (lookup_of_mem hc)
    rw [← hcells] at hc'
    exact ⟨c', hc', x.cell y c' hc', .tail _ (ownCells_mem hc'), Nat.ne_of_gt (x.above y c' (mem_of_lookup hc'))⟩
noncomputable def locOf (fn : Fn) (as : List V) : Loc := zipP fn.params (as ++ (fn.dflt.drop (as.length + fn.dflt.length - fn.params.length)).map .d) ++ fn.kw.map fun p => (p.1, .d p.2)
theorem FnHd.nodup {nms : List Str} {fn : Fn} {fd : FuncData} (H : FnHd nms fn fd) (hn : nms.Nodup) : (fd.params.args.map (·.arg) ++ fd.params.kwonlyargs.map (·.arg)).Nodup := by
  have e : fn.params.map (fun x => nms.getD x Str.empty) ++ fn.kw.map (fun p => nms.getD p.1 Str.empty) = (fn.params ++ fn.kw.map (·.1)).map fun x => nms.getD x Str.empty := by
    rw [List.map_append, List.map_map]; rfl
  rw [H.pn, H.kn, e, List.Nodup, List.pairwise_map]
  exact (List.Pairwise.and_mem.mp H.pd).imp fun {y z} h q => h.2.2 (getD_inj hn (H.pk h.1).1 (H.pk h.2.1).1 q)
theorem FnHd.mem {nms : List Str} {fn : Fn} {fd : FuncData} (H : FnHd nms fn fd) {y : Nat} (hy : y ∈ fn.params ++ fn.kw.map (·.1)) : nms.getD y Str.empty ∈ fd.params.args.map (·.arg) ++ fd.params.kwonlyargs.map (·.arg) := by
  rw [H.pn, H.kn]
  rcases List.mem_append.mp hy with hy | hy
  · exact List.mem_append_left _ (List.mem_map.mpr ⟨y, hy, rfl⟩)
  · obtain ⟨p, hp, rfl⟩ := List.mem_map.mp hy
    exact List.mem_append_right _ (List.mem_map.mpr ⟨p, hp, rfl⟩)
theorem enter {lev : Nat} {nms : List Str} {fn : Fn} {fa : Nat → Addr} {a : Addr} {o : Obj} {fd : FuncData} {xs : List Stmt} {as : List V} {vals dv : List Value} {kwm : Str → Option Value} {binds : List (Str × Value)} {s' : Shared} {q : Str} {f : Option Addr} {cd : Value} (B : Base G (lev + 1) A w led) (hh : Hp G w s) (r : VRs G w as vals)
    (hnms : nms.Nodup) (H : FnAt G nms fa cx fn a o fd xs dv kwm) (ha : fn.params.length ≤ as.length + fn.dflt.length) (hbinds : binds = bindsOf (fd.params.args.map (·.arg)) (fd.params.kwonlyargs.map (·.arg)) vals dv kwm) (env : Env)
    (henv : env = newEnv fd.scope s.heap.objs.size fd.globals (cellsFrom (s.heap.objs.size + 1) fd.scope.names []) q f cd none fd.builtins)
    (x : InCallC s env.locals (bindL env.kindOf binds fun _ => none) env.cells (bindC env.kindOf binds fun _ => none) s') :
    Conc G ⟨nms, lev⟩ (A.deeper env) ⟨s'.heap, ownOf env, w.own ++ w.prot, w.ads⟩ env (locOf fn as) led ∧ FnOk (ownOf env) env ∧ env.scope = fd.scope ∧ Fresh w env fd.scope (bindC env.kindOf binds fun _ => none) s'.heap := by
  have X := fresh_of hh.1 henv x
  have hscope : env.scope = fd.scope := by rw [henv]; rfl
  have hkind : ∀ {y k}, fd.scope.names.lookup y = some k → env.kindOf y = some k := fun h => by unfold Env.kindOf; rw [hscope]; exact h
  have hkind' : ∀ {y}, env.kindOf y = some .cell ∨ env.kindOf y = some .free → fd.scope.names.lookup y = some .cell := fun h => by
    unfold Env.kindOf at h
    rw [hscope] at h
    exact h.resolve_right fun q => H.hd.nf (lookup_mem q) rfl
  have P : Per w ⟨s'.heap, ownOf env, w.own ++ w.prot, w.ads⟩ :=
    { st := fun b o e hs => ⟨X.keep e, (fun m => nomatch (X.fresh m).symm.trans e), (fun m => (List.mem_append.mp m).elim hs.1 hs.2.1), hs.2.2⟩, ref := fun _ _ e => e }
  have sepo : ∀ {b}, b ∈ ownOf env → b ∉ w.ads := fun hb m =>
    let ⟨o, ho⟩ := B.led.obj _ m
    nomatch (X.fresh hb).symm.trans ho
  have hdd : fn.dflt.length = dv.length := (H.dr (w := w)).len
  have hps : (fd.params.args.map (·.arg)).length = fn.params.length := by rw [H.hd.pn, List.length_map]
  have hnd := H.hd.nodup hnms
  have nameAt : ∀ {y v}, y ∈ fn.params ++ fn.kw.map (·.1) → (slotsOf (fd.params.args.map (·.arg)) (fd.params.kwonlyargs.map (·.arg)) vals dv kwm).lookup (nms.getD y Str.empty) = some v →
      NameIs ⟨s'.heap, ownOf env, w.own ++ w.prot, w.ads⟩ env (nms.getD y Str.empty) v := fun {y v} hy hv => by
    have hb' : (nms.getD y Str.empty, v) ∈ binds := by rw [hbinds]; exact binds_mem (H.hd.mem hy) hv
    have hbn : (binds.map (·.1)).Nodup := by rw [hbinds]; exact binds_nodup hnd
    rcases (H.hd.pk hy).2 with hkd | hkd
    · exact .inl ⟨hkind hkd, _, x.toInCall.ns, bindL_at hbn hb' (hkind hkd), sepo (.head _)⟩
    · obtain ⟨c, l, i, m, _⟩ := X.cell hkd
      rw [bindC_at hbn hb' (by rw [hkind hkd]; exact nofun)] at i
      exact .inr ⟨.inl (hkind hkd), c, l, i, sepo m⟩
  refine ⟨{
    keep := fun b o e => P.st b o (B.keep b o e).1 (B.keep b o e).2
    glob := B.glob
    nolim := B.nolim
    handled := B.handled
    depth := by
      have := B.depth
      show A.depth + 1 + 4 * lev + 8 ≤ 900
      omega
    units := by
      have := B.units
      show A.units + 3 + 64 * lev + 64 ≤ 9000
      omega
    frame := {
      kind := by rw [hscope]; exact H.hd.kind
      globals := by rw [henv]; exact H.hd.glob
      builtins := by rw [henv]; exact H.hd.bi
      ns := ⟨_, x.toInCall.ns⟩
      lin := .head _
      cells := fun y hy => let ⟨c, l, i, m, n⟩ := X.cell (hkind' hy); ⟨c, _, l, i, .inl m, n⟩
      inj := fun y z c _ _ l1 l2 => X.inj l1 l2 }
    locs := fun y v e => by
      rcases get_append e with e | e
      · obtain ⟨i, h1, h2⟩ := get_zipP e
        have hy : y ∈ fn.params ++ fn.kw.map (·.1) := List.mem_append_left _ (List.mem_of_getElem? h1)
        have rf : VRs G w (as ++ (fn.dflt.drop (as.length + fn.dflt.length - fn.params.length)).map .d) (fullVals fn.params.length vals dv) := by
          unfold fullVals
          rw [← r.len, ← hdd]
          exact r.append ((H.dr.drop _).vrs)
        obtain ⟨val, hv1, hv2⟩ := rf.get h2
        refine ⟨(H.hd.pk hy).1, val, nameAt hy ?_, hv2.per P⟩
        have hi : (fd.params.args.map (·.arg))[i]? = some (nms.getD y Str.empty) := by rw [H.hd.pn, List.getElem?_map, h1]; rfl
        rw [slots_pos hnd (by rw [hps, ← r.len, ← hdd]; exact ha) (by rw [hps]; exact H.dl) hi, hps]
        exact hv1
      · obtain ⟨p, hp, he⟩ := List.mem_map.mp (get_mem e)
        obtain rfl : p.1 = y := congrArg Prod.fst he
        obtain rfl : V.d p.2 = v := congrArg Prod.snd he
        obtain ⟨v0, hv1, hv2⟩ := H.kv hp
        have hy : p.1 ∈ fn.params ++ fn.kw.map (·.1) := List.mem_append_right _ (List.mem_map.mpr ⟨p, hp, rfl⟩)
        refine ⟨(H.hd.pk hy).1, v0, nameAt hy ?_, hv2⟩
        rw [slots_kw hnd (by rw [H.hd.kn]; exact List.mem_map.mpr ⟨p, hp, rfl⟩), hv1]; rfl
    led := B.led.move P fun a _ o e => X.keep e
    nd := B.nd
    sep := fun b hb => hb.elim sepo fun hb => B.sep b (List.mem_append.mp hb)
    ownex := fun b hb => hb.elim X.ex fun hb => (B.ownex b (List.mem_append.mp hb)).imp fun o ho => X.keep ho
    inj := hnms
    op := fun b hb m =>
      let ⟨o, ho⟩ := B.ownex b (List.mem_append.mp m)
      nomatch (X.fresh hb).symm.trans ho }, fun y hy => ?_, hscope, X⟩
  obtain ⟨c, l, _, m, _⟩ := X.cell (hkind' (.inl hy))
  exact ⟨c, l, m⟩
theorem take_eq_of_refs {l r : List Addr} (h : ∀ k a, k < l.length → l[k]? = some a → r[k]? = some a) : r.take l.length = l := by
  apply List.ext_getElem?
  intro k
  by_cases hk : k < l.length
  · rw [List.getElem?_take_of_lt hk, List.getElem?_eq_getElem hk]
    exact h k _ hk (List.getElem?_eq_getElem hk)
  · rw [List.getElem?_eq_none (Nat.le_trans (List.length_take_le _ _) (Nat.not_lt.mp hk)), List.getElem?_eq_none (Nat.not_lt.mp hk)]
noncomputable def retOf (f : Flow) : Value := match f with
  | .ret v => v
  | _ => .none
theorem runF_step {nms : List Str} {fa : Nat → Addr} {fns : List Fn} {lev : Nat} (hn : nms.Nodup) (H : ∀ f fn, fns[f]? = some fn → FnFact G nms fa cx fn (fa f)) (ih : SF G lev (runF fns cx lev) fa) : SF G (lev + 1) (runF fns cx (lev + 1)) fa := fun {A w led f vs vals s K Q} B hh r e kk => by
  obtain ⟨fn, ef, e1⟩ := isW (bindW e)
  obtain ⟨o, fd, xs, dv, kwm, F⟩ := H f fn ef
  obtain ⟨⟨ha1, ha2⟩, e2⟩ := gdW (bindW e1)
  have keep0 : ∀ b o, G.h₀.get? b = some o → s.heap.get? b = some o := fun b o e => hh.1 ▸ (B.keep b o e).1
  have hps : fd.params.args.length = fn.params.length := by
    have := congrArg List.length F.hd.pn
    rwa [List.length_map, List.length_map] at this
  have hdd : fn.dflt.length = dv.length := (F.dr (w := w)).len
  have hpar : fd.params = ⟨[], fd.params.args, none, fd.params.kwonlyargs, fd.params.kw_defaults, none, fd.params.defaults⟩ := by
    have h1 := F.hd.po; have h2 := F.hd.va; have h3 := F.hd.kw
    generalize fd.params = p at h1 h2 h3 ⊢
    obtain ⟨a1, a2, a3, a4, a5, a6, a7⟩ := p
    obtain rfl : a1 = [] := h1
    obtain rfl : a3 = none := h2
    obtain rfl : a6 = none := h3
    rfl
  refine wpAny_call (codeAny_call_function (o := o) (fd := fd) (by have := B.depth; unfold recursionLimit; omega) (keep0 _ _ F.at') F.dat F.hd.co F.hd.gen F.bd (F.cd.keeps keep0) ?_)
  refine bindsTo_plain (s := s) (vals := vals) (kwm := kwm) (dv := dv) hpar (F.df.imp id fun ⟨T, e1, e2⟩ => ⟨T, e1, IsTuple_get e2 fun o => keep0 _ o⟩) (fun n h => let ⟨d, m, e1, e2, e3⟩ := F.kd n h; ⟨d, m, e1, Ns_get e2 fun o => keep0 _ o, e3⟩)
    (fun n h => by
      rw [F.hd.kn] at h
      obtain ⟨p, hp, rfl⟩ := List.mem_map.mp h
      obtain ⟨v, e1, _⟩ := F.kv hp
      rw [e1]; rfl)
    (by rw [hps, ← r.len]; exact ha1) (by rw [hps, ← r.len, ← hdd]; exact ha2) (by rw [hps]; exact F.dl) _ _ _ _ ?_
  rw [F.hd.clo]
  refine wpAny_newFunctionEnv_cells F.hd.kind (fun x hx => ?_) (fun env henv s' x => ?_)
  · have hm := binds_names hx
    have : ∃ y, y ∈ fn.params ++ fn.kw.map (·.1) ∧ nms.getD y Str.empty = x.1 := by
      rw [F.hd.pn, F.hd.kn] at hm
      rcases List.mem_append.mp hm with hm | hm
      · exact (List.mem_map.mp hm).imp fun y h => ⟨List.mem_append_left _ h.1, h.2⟩
      · obtain ⟨p, hp, e⟩ := List.mem_map.mp hm
        exact ⟨p.1, List.mem_append_right _ (List.mem_map.mpr ⟨p, hp, rfl⟩), e⟩
    obtain ⟨y, hy, e⟩ := this
    rw [← e]
    exact (F.hd.pk hy).2.imp id fun h => ⟨h, let ⟨c, hc⟩ := cellsFrom_has fd.scope.names (s.heap.objs.size + 1) [] _ (lookup_mem h); lookup_of_mem hc⟩
  · refine ⟨(B.nolim.keeps keep0).keeps x.toInCall.keep, codeAny_func ?_⟩
    obtain ⟨cc, hfo, hsc, X⟩ := enter B hh r hn F ha2 rfl env henv x
    have hs' : Rs G s' := by obtain ⟨h2, tk2, e2⟩ := x.toInCall.same; rw [e2]; exact hh.2
    refine wpAny_mono (F.run hsc hfo ih (K := fun r => (resV led.length r.2.2 r.1.val).elim False K) (Q := fun f s' => Q (retOf f) s') ⟨cc, rfl, hs'⟩ rfl (Nat.le_refl _) (bindW e2) fun {r f2 s2 w'} e3 p => ?_) (fun f s2 h => ?_) fun _ _ x => x.elim
    · have S := p.step
      have hlen : led.length = w.ads.length := B.led.len
      have htk : w'.ads.take led.length = w.ads := by
        rw [hlen]
        exact take_eq_of_refs fun k a hk e => S.refs k a (hlen ▸ hk) e
      have kept : ∀ {b o}, w.h.get? b = some o → b ∉ w.ads → w'.h.get? b = some o ∧ b ∉ w'.ads := fun {b o} eb hb => by
        have e1 := X.keep eb
        by_cases hm : b ∈ w.own ++ w.prot
        · exact ⟨S.prots b o hm e1, p.st.conc.sep b (.inr (by rw [S.prot]; exact hm))⟩
        · exact S.keep b o e1 ⟨fun m => (nomatch (X.fresh m).symm.trans eb), hm, hb⟩
      have hn0 : led.length ≤ w'.ads.length := by
        have := congrArg List.length htk
        rw [List.length_take, ← hlen] at this
        exact Nat.le_trans (Nat.le_of_eq this.symm) (Nat.min_le_right _ _)
      have hv : ∃ val, retOf f2 = val ∧ VR G w' r.1.val val := by
        obtain ⟨fl, l, d⟩ := r
        cases fl with
        | nx => exact ⟨_, rfl, by obtain rfl := p.fl; exact rfl⟩
        | ret v => obtain ⟨val, rfl, h⟩ := p.fl; exact ⟨val, rfl, h⟩
      obtain ⟨val, hval, rv⟩ := hv
      obtain ⟨q, ads, e4, Z⟩ := resV_sound (own := w.own) (prot := w.prot) ⟨p.st.conc.led, p.st.conc.nd, p.st.conc.sep⟩ rv hn0 (fun m => .inr (by rw [S.prot]; exact List.mem_append_left _ m)) (fun m => .inr (by rw [S.prot]; exact List.mem_append_right _ m)) e3
      rw [hval]
      exact kk (w' := ⟨w'.h, w.own, w.prot, ads⟩) e4 ⟨⟨p.st.heap.1, p.st.heap.2⟩, ⟨rfl, rfl, htk ▸ Z.pre, fun b o eb hb => ⟨(kept eb hb).1, fun m => (kept eb hb).2 (Z.sub m)⟩⟩, Z.led, Z.nd, Z.val⟩
    · exact h
theorem runF_sound {nms : List Str} {fa : Nat → Addr} {fns : List Fn} (hn : nms.Nodup) (H : ∀ f fn, fns[f]? = some fn → FnFact G nms fa cx fn (fa f)) : ∀ k, SF G k (runF fns cx k) fa
  | 0 => fun _ _ _ e _ => e.elim
  | lev + 1 => runF_step hn H (runF_sound hn H lev)
end
end UK
end
section
set_option genInjectivity false
set_option genSizeOf false
namespace UK
open PySem PySem.W PySem.Calls PyProof.Rows PySem.SeqAt
noncomputable def onBool (x : Expr) (f : BoolOp → List Expr → Pos → Bool) : Bool := dite (x.ctorIdx = 0) (fun h => Expr.BoolOp.elim (motive_1 := fun _ => Bool) x h f) fun _ => false
@[elab_as_elim] theorem onBoolK {x : Expr} {f : BoolOp → List Expr → Pos → Bool} {P : Expr → Prop} (h : onBool x f = true) (k : ∀ op xs p, f op xs p = true → P (.BoolOp op xs p)) : P x := by
  unfold onBool at h
  by_cases q : x.ctorIdx = 0
  · rw [dif_pos q] at h
    exact Expr.BoolOp.elim (motive_1 := fun x => ∀ q : x.ctorIdx = 0, Expr.BoolOp.elim (motive_1 := fun _ => Bool) x q f = true → P x) x q (fun op xs p _ => k op xs p) q h
  · rw [dif_neg q] at h
    exact Bool.noConfusion h
noncomputable def onBin (x : Expr) (f : Expr → Operator → Expr → Pos → Bool) : Bool := dite (x.ctorIdx = 2) (fun h => Expr.BinOp.elim (motive_1 := fun _ => Bool) x h f) fun _ => false
@[elab_as_elim] theorem onBinK {x : Expr} {f : Expr → Operator → Expr → Pos → Bool} {P : Expr → Prop} (h : onBin x f = true) (k : ∀ l op r p, f l op r p = true → P (.BinOp l op r p)) : P x := by
  unfold onBin at h
  by_cases q : x.ctorIdx = 2
  · rw [dif_pos q] at h
    exact Expr.BinOp.elim (motive_1 := fun x => ∀ q : x.ctorIdx = 2, Expr.BinOp.elim (motive_1 := fun _ => Bool) x q f = true → P x) x q (fun l op r p _ => k l op r p) q h
  · rw [dif_neg q] at h
    exact Bool.noConfusion h
noncomputable def onUn (x : Expr) (f : UnaryOp → Expr → Pos → Bool) : Bool := dite (x.ctorIdx = 3) (fun h => Expr.UnaryOp.elim (motive_1 := fun _ => Bool) x h f) fun _ => false
@[elab_as_elim] theorem onUnK {x : Expr} {f : UnaryOp → Expr → Pos → Bool} {P : Expr → Prop} (h : onUn x f = true) (k : ∀ op y p, f op y p = true → P (.UnaryOp op y p)) : P x := by
  unfold onUn at h
  by_cases q : x.ctorIdx = 3
  · rw [dif_pos q] at h
    exact Expr.UnaryOp.elim (motive_1 := fun x => ∀ q : x.ctorIdx = 3, Expr.UnaryOp.elim (motive_1 := fun _ => Bool) x q f = true → P x) x q (fun op y p _ => k op y p) q h
  · rw [dif_neg q] at h
    exact Bool.noConfusion h
noncomputable def onIte (x : Expr) (f : Expr → Expr → Expr → Pos → Bool) : Bool := dite (x.ctorIdx = 5) (fun h => Expr.IfExp.elim (motive_1 := fun _ => Bool) x h f) fun _ => false
@[elab_as_elim] theorem onIteK {x : Expr} {f : Expr → Expr → Expr → Pos → Bool} {P : Expr → Prop} (h : onIte x f = true) (k : ∀ c l r p, f c l r p = true → P (.IfExp c l r p)) : P x := by
  unfold onIte at h
  by_cases q : x.ctorIdx = 5
  · rw [dif_pos q] at h
    exact Expr.IfExp.elim (motive_1 := fun x => ∀ q : x.ctorIdx = 5, Expr.IfExp.elim (motive_1 := fun _ => Bool) x q f = true → P x) x q (fun c l r p _ => k c l r p) q h
  · rw [dif_neg q] at h
    exact Bool.noConfusion h
noncomputable def onDict (x : Expr) (f : List (Option Expr) → List Expr → Pos → Bool) : Bool := dite (x.ctorIdx = 6) (fun h => Expr.Dict.elim (motive_1 := fun _ => Bool) x h f) fun _ => false
@[elab_as_elim] theorem onDictK {x : Expr} {f : List (Option Expr) → List Expr → Pos → Bool} {P : Expr → Prop} (h : onDict x f = true) (k : ∀ ks vs p, f ks vs p = true → P (.Dict ks vs p)) : P x := by
  unfold onDict at h
  by_cases q : x.ctorIdx = 6
  · rw [dif_pos q] at h
    exact Expr.Dict.elim (motive_1 := fun x => ∀ q : x.ctorIdx = 6, Expr.Dict.elim (motive_1 := fun _ => Bool) x q f = true → P x) x q (fun ks vs p _ => k ks vs p) q h
  · rw [dif_neg q] at h
    exact Bool.noConfusion h
noncomputable def onLC (x : Expr) (f : Expr → List Comprehension → Scope → Pos → Bool) : Bool := dite (x.ctorIdx = 8) (fun h => Expr.ListComp.elim (motive_1 := fun _ => Bool) x h f) fun _ => false
@[elab_as_elim] theorem onLCK {x : Expr} {f : Expr → List Comprehension → Scope → Pos → Bool} {P : Expr → Prop} (h : onLC x f = true) (k : ∀ e gs sc p, f e gs sc p = true → P (.ListComp e gs sc p)) : P x := by
  unfold onLC at h
  by_cases q : x.ctorIdx = 8
  · rw [dif_pos q] at h
    exact Expr.ListComp.elim (motive_1 := fun x => ∀ q : x.ctorIdx = 8, Expr.ListComp.elim (motive_1 := fun _ => Bool) x q f = true → P x) x q (fun e gs sc p _ => k e gs sc p) q h
  · rw [dif_neg q] at h
    exact Bool.noConfusion h
noncomputable def onCmp (x : Expr) (f : Expr → List CmpOp → List Expr → Pos → Bool) : Bool := dite (x.ctorIdx = 15) (fun h => Expr.Compare.elim (motive_1 := fun _ => Bool) x h f) fun _ => false
@[elab_as_elim] theorem onCmpK {x : Expr} {f : Expr → List CmpOp → List Expr → Pos → Bool} {P : Expr → Prop} (h : onCmp x f = true) (k : ∀ l os rs p, f l os rs p = true → P (.Compare l os rs p)) : P x := by
  unfold onCmp at h
  by_cases q : x.ctorIdx = 15
  · rw [dif_pos q] at h
    exact Expr.Compare.elim (motive_1 := fun x => ∀ q : x.ctorIdx = 15, Expr.Compare.elim (motive_1 := fun _ => Bool) x q f = true → P x) x q (fun l os rs p _ => k l os rs p) q h
  · rw [dif_neg q] at h
    exact Bool.noConfusion h
noncomputable def onCall (x : Expr) (f : Expr → List Expr → List Keyword → Pos → Bool) : Bool := dite (x.ctorIdx = 16) (fun h => Expr.Call.elim (motive_1 := fun _ => Bool) x h f) fun _ => false
@[elab_as_elim] theorem onCallK {x : Expr} {f : Expr → List Expr → List Keyword → Pos → Bool} {P : Expr → Prop} (h : onCall x f = true) (k : ∀ g xs ks p, f g xs ks p = true → P (.Call g xs ks p)) : P x := by
  unfold onCall at h
  by_cases q : x.ctorIdx = 16
  · rw [dif_pos q] at h
    exact Expr.Call.elim (motive_1 := fun x => ∀ q : x.ctorIdx = 16, Expr.Call.elim (motive_1 := fun _ => Bool) x q f = true → P x) x q (fun g xs ks p _ => k g xs ks p) q h
  · rw [dif_neg q] at h
    exact Bool.noConfusion h
noncomputable def onConst (x : Expr) (f : Const → Nat → Pos → Bool) : Bool := dite (x.ctorIdx = 19) (fun h => Expr.Constant.elim (motive_1 := fun _ => Bool) x h f) fun _ => false
@[elab_as_elim] theorem onConstK {x : Expr} {f : Const → Nat → Pos → Bool} {P : Expr → Prop} (h : onConst x f = true) (k : ∀ cc i p, f cc i p = true → P (.Constant cc i p)) : P x := by
  unfold onConst at h
  by_cases q : x.ctorIdx = 19
  · rw [dif_pos q] at h
    exact Expr.Constant.elim (motive_1 := fun x => ∀ q : x.ctorIdx = 19, Expr.Constant.elim (motive_1 := fun _ => Bool) x q f = true → P x) x q (fun cc i p _ => k cc i p) q h
  · rw [dif_neg q] at h
    exact Bool.noConfusion h
noncomputable def onAttr (x : Expr) (f : Expr → Str → Pos → Bool) : Bool := dite (x.ctorIdx = 20) (fun h => Expr.Attribute.elim (motive_1 := fun _ => Bool) x h f) fun _ => false
@[elab_as_elim] theorem onAttrK {x : Expr} {f : Expr → Str → Pos → Bool} {P : Expr → Prop} (h : onAttr x f = true) (k : ∀ y n p, f y n p = true → P (.Attribute y n p)) : P x := by
  unfold onAttr at h
  by_cases q : x.ctorIdx = 20
  · rw [dif_pos q] at h
    exact Expr.Attribute.elim (motive_1 := fun x => ∀ q : x.ctorIdx = 20, Expr.Attribute.elim (motive_1 := fun _ => Bool) x q f = true → P x) x q (fun y n p _ => k y n p) q h
  · rw [dif_neg q] at h
    exact Bool.noConfusion h
noncomputable def onSub (x : Expr) (f : Expr → Expr → Pos → Bool) : Bool := dite (x.ctorIdx = 21) (fun h => Expr.Subscript.elim (motive_1 := fun _ => Bool) x h f) fun _ => false
@[elab_as_elim] theorem onSubK {x : Expr} {f : Expr → Expr → Pos → Bool} {P : Expr → Prop} (h : onSub x f = true) (k : ∀ y z p, f y z p = true → P (.Subscript y z p)) : P x := by
  unfold onSub at h
  by_cases q : x.ctorIdx = 21
  · rw [dif_pos q] at h
    exact Expr.Subscript.elim (motive_1 := fun x => ∀ q : x.ctorIdx = 21, Expr.Subscript.elim (motive_1 := fun _ => Bool) x q f = true → P x) x q (fun y z p _ => k y z p) q h
  · rw [dif_neg q] at h
    exact Bool.noConfusion h
noncomputable def onName (x : Expr) (f : Str → Pos → Bool) : Bool := dite (x.ctorIdx = 23) (fun h => Expr.Name.elim (motive_1 := fun _ => Bool) x h f) fun _ => false
@[elab_as_elim] theorem onNameK {x : Expr} {f : Str → Pos → Bool} {P : Expr → Prop} (h : onName x f = true) (k : ∀ n p, f n p = true → P (.Name n p)) : P x := by
  unfold onName at h
  by_cases q : x.ctorIdx = 23
  · rw [dif_pos q] at h
    exact Expr.Name.elim (motive_1 := fun x => ∀ q : x.ctorIdx = 23, Expr.Name.elim (motive_1 := fun _ => Bool) x q f = true → P x) x q (fun n p _ => k n p) q h
  · rw [dif_neg q] at h
    exact Bool.noConfusion h
noncomputable def onList (x : Expr) (f : List Expr → Pos → Bool) : Bool := dite (x.ctorIdx = 24) (fun h => Expr.List.elim (motive_1 := fun _ => Bool) x h f) fun _ => false
@[elab_as_elim] theorem onListK {x : Expr} {f : List Expr → Pos → Bool} {P : Expr → Prop} (h : onList x f = true) (k : ∀ xs p, f xs p = true → P (.List xs p)) : P x := by
  unfold onList at h
  by_cases q : x.ctorIdx = 24
  · rw [dif_pos q] at h
    exact Expr.List.elim (motive_1 := fun x => ∀ q : x.ctorIdx = 24, Expr.List.elim (motive_1 := fun _ => Bool) x q f = true → P x) x q (fun xs p _ => k xs p) q h
  · rw [dif_neg q] at h
    exact Bool.noConfusion h
noncomputable def onTup (x : Expr) (f : List Expr → Nat → Pos → Bool) : Bool := dite (x.ctorIdx = 25) (fun h => Expr.Tuple.elim (motive_1 := fun _ => Bool) x h f) fun _ => false
@[elab_as_elim] theorem onTupK {x : Expr} {f : List Expr → Nat → Pos → Bool} {P : Expr → Prop} (h : onTup x f = true) (k : ∀ xs kk p, f xs kk p = true → P (.Tuple xs kk p)) : P x := by
  unfold onTup at h
  by_cases q : x.ctorIdx = 25
  · rw [dif_pos q] at h
    exact Expr.Tuple.elim (motive_1 := fun x => ∀ q : x.ctorIdx = 25, Expr.Tuple.elim (motive_1 := fun _ => Bool) x q f = true → P x) x q (fun xs kk p _ => k xs kk p) q h
  · rw [dif_neg q] at h
    exact Bool.noConfusion h
noncomputable def onSlice (x : Expr) (f : Option Expr → Option Expr → Option Expr → Pos → Bool) : Bool := dite (x.ctorIdx = 26) (fun h => Expr.Slice.elim (motive_1 := fun _ => Bool) x h f) fun _ => false
@[elab_as_elim] theorem onSliceK {x : Expr} {f : Option Expr → Option Expr → Option Expr → Pos → Bool} {P : Expr → Prop} (h : onSlice x f = true) (k : ∀ l u t p, f l u t p = true → P (.Slice l u t p)) : P x := by
  unfold onSlice at h
  by_cases q : x.ctorIdx = 26
  · rw [dif_pos q] at h
    exact Expr.Slice.elim (motive_1 := fun x => ∀ q : x.ctorIdx = 26, Expr.Slice.elim (motive_1 := fun _ => Bool) x q f = true → P x) x q (fun l u t p _ => k l u t p) q h
  · rw [dif_neg q] at h
    exact Bool.noConfusion h
noncomputable def on1 {α : Type} (xs : List α) (f : α → Bool) : Bool := (one? xs).elim false f
noncomputable def on2 {α : Type} (xs : List α) (f : α → α → Bool) : Bool := (two? xs).elim false fun p => f p.1 p.2
@[elab_as_elim] theorem on1K {α : Type} {xs : List α} {f : α → Bool} {P : List α → Prop} (h : on1 xs f = true) (k : ∀ x, f x = true → P [x]) : P xs := by
  match xs, h with
  | [x], h => exact k x h
@[elab_as_elim] theorem on2K {α : Type} {xs : List α} {f : α → α → Bool} {P : List α → Prop} (h : on2 xs f = true) (k : ∀ x y, f x y = true → P [x, y]) : P xs := by
  match xs, h with
  | [x, y], h => exact k x y h
inductive GK where
  | bi (b : Bi) | range | enum | fn (f : Nat) | dots | hdrs | b3 | b1
  deriving DecidableEq
structure Tb where
  gl : List (Str × GK)
  cm : List (Str × Nat)
noncomputable def isGl (T : Tb) (sc : Scope) (id : Str) (k : GK) : Bool := sc.names.lookup id == some .globalImplicit && !(id == ("__debug__" : Str)) && decide (T.gl.lookup id = some k)
noncomputable def noSet : Expr → Bool
  | .Set _ _ _ => false
  | _ => true
noncomputable def tupX : Expr → Bool
  | .Tuple _ _ _ => true
  | _ => false
noncomputable def plainT : Expr → Bool
  | .UnaryOp .Not _ _ => false
  | .BoolOp _ _ _ => false
  | .IfExp _ _ _ _ => false
  | .Compare _ _ _ _ => false
  | _ => true
noncomputable def noBase (x : Expr) : Bool := !(onCall x fun g xs ks _ => (onName g fun _ _ => true) && (xs.isEmpty && ks.isEmpty))
noncomputable def noneE (e : E) : Bool := match e with
  | .lit d => match d with
    | .none => true
    | _ => false
  | _ => false
noncomputable def isP (o : Option Expr) (e : E) (f : Expr → Bool) : Bool := match o with
  | none => noneE e
  | some z => f z
noncomputable def isIt (T : Tb) (sc : Scope) (k : IK) (iter xt : Expr) (f : List Expr → Bool) : Bool := match k with
  | .e => f [iter]
  | .range => onCall iter fun g xs ks _ => ks.isEmpty && onName g fun id _ => isGl T sc id .range && f xs
  | .enum => onCall iter fun g xs ks _ => ks.isEmpty && onName g fun id _ => isGl T sc id .enum && (tupX xt && on1 xs fun y => f [y])
noncomputable def isLC (T : Tb) (C : Ct) (sc : Scope) (t : UK.T) (k : IK) (caps : List Nat) (its : List Expr → Bool) (rest : Scope → List Expr → Expr → Bool) (x : Expr) : Bool :=
  onLC x fun xe gs scope _ => on1 gs fun g => g.is_async == 0 && (compOk sc scope && (noSet g.iter && (isT C (relab sc scope) false t g.target && (caps.all (fun x => scope.names.lookup (C.nm x) == some .free && !(tNames t).contains x) &&
    (isIt T sc k g.iter g.target its && rest (relab sc scope) g.ifs xe)))))
mutual
noncomputable def isE (T : Tb) (C : Ct) : Bool → Scope → E → Expr → Bool
  | b, sc, .lit d, x => onConst x fun k _ _ => isC d k
  | b, sc, .name n, x => onName x fun id _ => id == C.nm n && (!(id == ("__debug__" : Str)) && !(id == ("__classdict__" : Str)))
  | b, sc, .dots, x => onName x fun id _ => isGl T sc id .dots
  | b, sc, .bin op l r, x => onBin x fun l' op' r' _ => op.is op' && (isE T C false sc l l' && isE T C false sc r r')
  | b, sc, .neg a, x => onUn x fun op y _ => decide (op = .USub) && isE T C false sc a y
  | b, sc, .not a, x => onUn x fun op y _ => decide (op = .Not) && isE T C b sc a y
  | b, sc, .and l r, x => onBool x fun op xs _ => decide (op = .And) && on2 xs fun l' r' => isE T C b sc l l' && isE T C b sc r r'
  | b, sc, .or l r, x => onBool x fun op xs _ => decide (op = .Or) && on2 xs fun l' r' => isE T C b sc l l' && isE T C b sc r r'
  | b, sc, .ite c l r, x => onIte x fun c' l' r' _ => isE T C true sc c c' && (isE T C b sc l l' && isE T C b sc r r')
  | b, sc, .cmp l op r, x => onCmp x fun l' os rs _ => on1 os fun op' => on1 rs fun r' => cmIs op op' && (!behindInMarks op' r' && (isE T C false sc l l' && isE T C false sc r r'))
  | b, sc, .cmp2 l op r op2 r2, x => onCmp x fun l' os rs _ => on2 os fun op' op2' => on2 rs fun r' r2' => cmIs op op' && (cmIs op2 op2' && (!lastMarks [op', op2'] [r', r2'] && (isE T C false sc l l' && (isE T C false sc r r' && isE T C false sc r2 r2'))))
  | b, sc, .tuple as, x => onTup x fun xs _ _ => decide (as.length ≤ 1000) && isEs T C sc as xs
  | b, sc, .list as, x => onList x fun xs _ => decide (as.length ≤ 1000) && isEs T C sc as xs
  | b, sc, .dict0, x => onDict x fun ks vs _ => ks.isEmpty && vs.isEmpty
  | b, sc, .index a i, x => onSub x fun y z _ => isE T C false sc a y && isE T C false sc i z
  | b, sc, .slice a lo hi st, x => onSub x fun y z _ => onSlice z fun xl xh xs _ => isE T C false sc a y && (isP xl lo (isE T C false sc lo) && (isP xh hi (isE T C false sc hi) && isP xs st (isE T C false sc st)))
  | b, sc, .comp elt t k its conds caps, x => isLC T C sc t k caps (isEs T C sc its) (fun sc ifs xe => isConds T C sc conds ifs && isE T C false sc elt xe) x
  | b, sc, .call f as, x => onCall x fun g xs ks _ => ks.isEmpty && onName g fun id _ => isGl T sc id (.fn f) && isEs T C sc as xs
  | b, sc, .bi g as, x => onCall x fun y xs ks _ => ks.isEmpty && onName y fun id _ => isGl T sc id (.bi g) && isEs T C sc as xs
  | b, sc, .meth m o as, x => onCall x fun g xs ks p => ks.isEmpty && onAttr g fun y name ap => name == mname m && (noBase y && ((ap.endLine == p.line) && (decide (xs.length < 30) && (isE T C false sc o y && isEs T C sc as xs))))
  | b, sc, .hm f o as, x => onCall x fun g xs ks p => ks.isEmpty && onAttr g fun y name ap => decide (T.cm.lookup name = some f) && (!(name == ("_headers" : Str)) && (noBase y && ((ap.endLine == p.line) && (decide (xs.length < 30) && (isE T C false sc o y && isEs T C sc as xs)))))
  | b, sc, .newH, x => onCall x fun g xs ks _ => xs.isEmpty && (ks.isEmpty && onName g fun id _ => isGl T sc id .hdrs)
  | b, sc, .attrH o, x => onAttr x fun y name _ => name == ("_headers" : Str) && (noBase y && isE T C false sc o y)
  | b, sc, .conv nm o e, x => onCall x fun g xs ks p => on1 xs fun z => on1 ks fun kw => onAttr g fun y name ap => onConst kw.value fun v _ _ => isC (.bool nm) v && (kw.arg == some ("name" : Str) && (name == ("_convert_string_type" : Str) && (noStar z && (noBase y && ((ap.endLine == p.line) && (isE T C false sc o y && isE T C false sc e z))))))
  | b, sc, .b3get e, x => onCall x fun g xs ks p => ks.isEmpty && on1 xs fun z => onAttr g fun y name ap => onName y fun id _ => name == ("get" : Str) && (isGl T sc id .b3 && ((ap.endLine == p.line) && (noStar z && isE T C false sc e z)))
  | b, sc, .inB1 e, x => onCmp x fun z os rs _ => on1 os fun op => on1 rs fun r => onName r fun id _ => decide (op = .In) && (!b && (isGl T sc id .b1 && isE T C false sc e z))
noncomputable def isEs (T : Tb) (C : Ct) : Scope → List E → List Expr → Bool
  | sc, [], xs => xs.isEmpty
  | sc, e :: es, xs => match xs with
    | x :: xs => noStar x && (isE T C false sc e x && isEs T C sc es xs)
    | [] => false
noncomputable def isConds (T : Tb) (C : Ct) : Scope → List E → List Expr → Bool
  | sc, [], xs => xs.isEmpty
  | sc, e :: es, xs => match xs with
    | x :: xs => isE T C true sc e x && isConds T C sc es xs
    | [] => false
end
end UK
end
section
namespace UK
open PySem PySem.W PySem.Calls PyProof.Rows PySem.SeqAt
noncomputable def GIs (G : Gl) (fa : Nat → Addr) (b3a b1a : Addr) : Str → GK → Prop
  | x, .bi b => G.look x = some (biVal b)
  | x, .range => G.look x = some (.type "range")
  | x, .enum => G.look x = some (.type "enumerate")
  | x, .fn f => G.look x = some (.ref (fa f)) ∧ FA G (fa f)
  | x, .dots => ∃ t, G.look x = some (.str ⟨#[46, 46, 46]⟩ t)
  | x, .hdrs => G.look x = some (.ref G.cls)
  | x, .b3 => G.look x = some (.ref b3a)
  | x, .b1 => G.look x = some (.ref b1a)
structure Facts (T : Tb) (G : Gl) (fa : Nat → Addr) (b3a b1a : Addr) (N : Addr) (mN : Str → Option Value) (cx : Cx) : Prop where
  gl : ∀ p ∈ T.gl, GIs G fa b3a b1a p.1 p.2
  cA : CA G N mN
  cm : ∀ p ∈ T.cm, mN p.1 = some (.ref (fa p.2)) ∧ FA G (fa p.2) ∧ ∃ y, typeLookup (.type "object") p.1 = pure y
  newH : ∀ {C : Ct} {A : Around} {env : Env} {F : Nat → List V → Led → Option (V × Led)} {id : Str} {p pos : Pos}, env.kindOf id = some .globalImplicit → G.look id = some (.ref G.cls) → (id == ("__debug__" : Str)) = false → SE G C A env { cx with F := F } .newH (.Call (.Name id p) [] [] pos)
  conv : ∀ {C : Ct} {A : Around} {env : Env} {F : Nat → List V → Led → Option (V × Led)} {nm : Bool} {o e : E} {y z : Expr} {ap p p1 p2 : Pos} {i : Nat}, attributeBase y ("_convert_string_type" : Str) env (eval y env) = eval y env → (ap.endLine == p.line) = true → noStar z = true →
    SE G C A env { cx with F := F } o y → SE G C A env { cx with F := F } e z → SE G C A env { cx with F := F } (.conv nm o e) (.Call (.Attribute y ("_convert_string_type" : Str) ap) [z] [⟨some ("name" : Str), .Constant (.bool nm) i p1, p2⟩] p)
  b3get : ∀ {C : Ct} {A : Around} {env : Env} {F : Nat → List V → Led → Option (V × Led)} {e : E} {z : Expr} {id : Str} {q ap p : Pos}, env.kindOf id = some .globalImplicit → G.look id = some (.ref b3a) → (id == ("__debug__" : Str)) = false → (ap.endLine == p.line) = true → noStar z = true →
    SE G C A env { cx with F := F } e z → SE G C A env { cx with F := F } (.b3get e) (.Call (.Attribute (.Name id q) ("get" : Str) ap) [z] [] p)
  inB1 : ∀ {C : Ct} {A : Around} {env : Env} {F : Nat → List V → Led → Option (V × Led)} {e : E} {z : Expr} {id : Str} {q p : Pos}, env.kindOf id = some .globalImplicit → G.look id = some (.ref b1a) → (id == ("__debug__" : Str)) = false →
    SE G C A env { cx with F := F } e z → SE G C A env { cx with F := F } (.inB1 e) (.Compare z [.In] [.Name id q] p)
noncomputable def SX (G : Gl) (C : Ct) (A : Around) (env : Env) (cx : Cx) (b : Bool) (e : E) (x : Expr) : Prop := match b with
  | true => ST G C A env cx e x
  | false => SE G C A env cx e x
noncomputable def SEL (G : Gl) (C : Ct) (A : Around) (env : Env) (cx : Cx) : List E → List Expr → Prop
  | [], xs => xs = []
  | e :: es, xs => ∃ x ys, xs = x :: ys ∧ noStar x = true ∧ SE G C A env cx e x ∧ SEL G C A env cx es ys
section
variable {G : Gl} {C : Ct} {A : Around} {env : Env} {cx : Cx} {T : Tb} {sc : Scope} {fa : Nat → Addr} {b3a b1a N : Addr} {mN : Str → Option Value} {F : Nat → List V → Led → Option (V × Led)}
theorem SEL.es : ∀ {es : List E} {xs : List Expr}, SEL G C A env cx es xs → SEs G C A env cx es xs ∧ noStars xs = true
  | [], xs, h => by obtain rfl : xs = [] := h; exact ⟨SEs.nil, rfl⟩
  | e :: es, xs, ⟨x, ys, h0, h1, h2, h3⟩ => by
    subst h0
    obtain ⟨i1, i2⟩ := SEL.es h3
    exact ⟨SEs.cons h1 h2 i1, Bool.and_eq_true_iff.mpr ⟨h1, i2⟩⟩
theorem SEL.one {its : List E} {y : Expr} (h : SEL G C A env cx its [y]) : ∃ e, its = [e] ∧ SE G C A env cx e y ∧ noStar y = true := by
  match its, h with
  | [], h => exact nomatch h
  | [e], ⟨x, ys, h0, h1, h2, h3⟩ =>
    obtain ⟨rfl, rfl⟩ := List.cons.inj h0
    exact ⟨e, rfl, h2, h1⟩
  | e :: e2 :: es, ⟨x, ys, h0, _, _, ⟨x2, ys2, h4, _⟩⟩ =>
    obtain ⟨rfl, rfl⟩ := List.cons.inj h0
    exact nomatch h4
theorem plainT_is {x : Expr} (h : plainT x = true) : isTrue x env (eval x env) = (do let v ← eval x env; standAt x.pos; holding [v] (PySem.truthy v)) := by
  cases x with
  | UnaryOp op y p => cases op <;> first | rfl | exact Bool.noConfusion h
  | BoolOp _ _ _ => exact Bool.noConfusion h
  | IfExp _ _ _ _ => exact Bool.noConfusion h
  | Compare _ _ _ _ => exact Bool.noConfusion h
  | _ => rfl
theorem SX.plain {b : Bool} {e : E} {x : Expr} (h : SE G C A env cx e x) (hp : plainT x = true) : SX G C A env cx b e x := by
  cases b with
  | false => exact h
  | true => exact ST.plain h (plainT_is hp)
theorem SX.mk {b : Bool} {e : E} {x : Expr} (h0 : b = false → SE G C A env cx e x) (h1 : b = true → ST G C A env cx e x) : SX G C A env cx b e x := by
  cases b with
  | false => exact h0 rfl
  | true => exact h1 rfl
theorem SX.e {b : Bool} {e : E} {x : Expr} (h : SX G C A env cx b e x) (q : b = false) : SE G C A env cx e x := by subst q; exact h
theorem SX.t {b : Bool} {e : E} {x : Expr} (h : SX G C A env cx b e x) (q : b = true) : ST G C A env cx e x := by subst q; exact h
theorem notB {b : Bool} (h : (!b) = true) : b = false := by
  cases b
  · rfl
  · exact Bool.noConfusion h
theorem noBase_is {x : Expr} {name : Str} {t : Sem Value} (h : noBase x = true) : attributeBase x name env t = t := by
  unfold attributeBase
  split
  · exact Bool.noConfusion (notB h)
  · rfl
theorem lookup_mem' {κ α : Type} [BEq κ] [LawfulBEq κ] {x : κ} {v : α} : ∀ {l : List (κ × α)}, l.lookup x = some v → (x, v) ∈ l
  | [], h => nomatch h
  | (y, u) :: l, h => by
    rw [List.lookup_cons] at h
    cases he : x == y with
    | true =>
      rw [he] at h
      obtain rfl := eq_of_beq he
      obtain rfl := Option.some.inj h
      exact .head _
    | false => rw [he] at h; exact .tail _ (lookup_mem' h)
theorem isGl_is {id : Str} {k : GK} (hsc : env.scope = sc) (H : Facts T G fa b3a b1a N mN cx) (h : isGl T sc id k = true) : env.kindOf id = some .globalImplicit ∧ (id == ("__debug__" : Str)) = false ∧ GIs G fa b3a b1a id k := by
  obtain ⟨h1, h3⟩ := andB h
  obtain ⟨h1, h2⟩ := andB h1
  exact ⟨kind_of' hsc h1, notB h2, H.gl _ (lookup_mem' (of_decide_eq_true h3))⟩
theorem emptyB {α : Type} {l : List α} (h : l.isEmpty = true) : l = [] := List.isEmpty_iff.mp h
theorem noneE_is {e : E} (h : noneE e = true) : e = .lit .none := by
  unfold noneE at h
  split at h
  · split at h
    · rfl
    · exact Bool.noConfusion h
  · exact Bool.noConfusion h
theorem isP_is {o : Option Expr} {e : E} {f : Expr → Bool} (h : isP o e f = true) (k : ∀ z, f z = true → SE G C A env cx e z) : SP G C A env cx e o := by
  cases o with
  | none => rw [noneE_is h]; exact SP.none
  | some z => exact SP.some (k z h)
theorem it_sound {k : IK} {its : List E} {iter xt : Expr} {f : List Expr → Bool} (H : Facts T G fa b3a b1a N mN cx) (hsc : env.scope = sc) (hE : ∀ xs, f xs = true → SEL G C A env { cx with F := F } its xs)
    (h : isIt T sc k iter xt f = true) : ∃ en, (en = true → ∃ es k pos, xt = .Tuple es k pos) ∧ SI G C A env { cx with F := F } k its iter en := by
  cases k with
  | e =>
    obtain ⟨e0, rfl, h1, _⟩ := (hE _ h).one
    exact ⟨false, nofun, SI.e h1⟩
  | range =>
    refine onCallK h fun g xs ks p h => ?_
    obtain ⟨h1, h⟩ := andB h
    obtain rfl := emptyB h1
    refine onNameK h fun id p2 h => ?_
    obtain ⟨hg, h⟩ := andB h
    obtain ⟨q1, q2, q3⟩ := isGl_is hsc H hg
    obtain ⟨s1, s2⟩ := (hE _ h).es
    exact ⟨false, nofun, SI.range q1 q3 q2 s2 s1⟩
  | enum =>
    refine onCallK h fun g xs ks p h => ?_
    obtain ⟨h1, h⟩ := andB h
    obtain rfl := emptyB h1
    refine onNameK h fun id p2 h => ?_
    obtain ⟨hg, h⟩ := andB h
    obtain ⟨ht, h⟩ := andB h
    refine on1K h fun y h => ?_
    obtain ⟨q1, q2, q3⟩ := isGl_is hsc H hg
    obtain ⟨e0, rfl, h1, h2⟩ := (hE _ h).one
    refine ⟨true, fun _ => ?_, SI.enum q1 q3 q2 h2 h1⟩
    unfold tupX at ht
    split at ht
    · exact ⟨_, _, _, rfl⟩
    · exact Bool.noConfusion ht
structure LCis (G : Gl) (C : Ct) (A : Around) (env : Env) (cx : Cx) (t : UK.T) (k : IK) (caps : List Nat) (its : List E) (rest : Scope → List Expr → Expr → Bool) (xe xt iter : Expr) (ifs : List Expr) (scope : Scope) (en : Bool) : Prop where
  ok : compOk env.scope scope = true
  set : noSet iter = true
  tgt : isT C (relab env.scope scope) false t xt = true
  enum : en = true → ∃ es k pos, xt = .Tuple es k pos
  cap : ∀ x ∈ caps, scope.names.lookup (C.nm x) = some .free
  dis : ∀ x ∈ caps, x ∉ tNames t
  it : SI G C A env cx k its iter en
  rest : rest (relab env.scope scope) ifs xe = true
theorem isLC_is {t : UK.T} {k : IK} {caps : List Nat} {its : List E} {f : List Expr → Bool} {rest : Scope → List Expr → Expr → Bool} {x : Expr} (H : Facts T G fa b3a b1a N mN cx) (hE : ∀ xs, f xs = true → SEL G C A env { cx with F := F } its xs) (h : isLC T C env.scope t k caps f rest x = true) :
    ∃ xe xt iter ifs scope p en, x = .ListComp xe [⟨xt, iter, ifs, 0⟩] scope p ∧ LCis G C A env { cx with F := F } t k caps its rest xe xt iter ifs scope en := by
  refine onLCK h fun xe gs scope p h => ?_
  refine on1K h fun g h => ?_
  obtain ⟨h0, h⟩ := andB h
  obtain ⟨h1, h⟩ := andB h
  obtain ⟨h2, h⟩ := andB h
  obtain ⟨h3, h⟩ := andB h
  obtain ⟨h4, h⟩ := andB h
  obtain ⟨h5, h⟩ := andB h
  obtain ⟨xt, iter, ifs, as⟩ := g
  obtain rfl : as = 0 := eq_of_beq h0
  obtain ⟨en, hen, hi⟩ := it_sound (A := A) (F := F) H rfl hE h5
  have h4 := List.all_eq_true.mp h4
  refine ⟨xe, xt, iter, ifs, scope, p, en, rfl, h1, h2, h3, hen, fun x hx => eq_of_beq (andB (h4 x hx)).1, fun x hx m => ?_, hi, h⟩
  exact Bool.noConfusion ((notB (andB (h4 x hx)).2).symm.trans (List.contains_iff_mem.mpr m))
end
end UK
end
section
namespace UK
open PySem PySem.W PySem.Calls PyProof.Rows PySem.SeqAt
section
variable {G : Gl} {C : Ct} {A : Around} {cx : Cx} {T : Tb} {fa : Nat → Addr} {b3a b1a N : Addr} {mN : Str → Option Value} {F : Nat → List V → Led → Option (V × Led)}
mutual
theorem isE_sound (H : Facts T G fa b3a b1a N mN cx) (hF : SF G C.lev F fa) : ∀ (e : E) {b : Bool} {sc : Scope} {env : Env} {x : Expr}, env.scope = sc → isE T C b sc e x = true → SX G C A env { cx with F := F } b e x
  | .lit d, b, sc, env, x, hsc, h => by
    refine onConstK h fun k i p g1 => ?_
    exact SX.plain (SE.lit g1) rfl
  | .name n, b, sc, env, x, hsc, h => by
    refine onNameK h fun id p g1 => ?_
    obtain ⟨h1, g2⟩ := andB g1
    exact SX.plain (SE.name (eq_of_beq h1) (notB (andB g2).1) (notB (andB g2).2)) rfl
  | .dots, b, sc, env, x, hsc, h => by
    refine onNameK h fun id p g1 => ?_
    obtain ⟨q1, q2, t, q3⟩ := isGl_is hsc H g1
    exact SX.plain (SE.dots q1 q3 q2) rfl
  | .bin op l r, b, sc, env, x, hsc, h => by
    refine onBinK h fun l' op' r' p g1 => ?_
    obtain ⟨h1, g2⟩ := andB g1
    exact SX.plain (SE.bin h1 (isE_sound H hF l (b := false) hsc (andB g2).1) (isE_sound H hF r (b := false) hsc (andB g2).2)) rfl
  | .neg a, b, sc, env, x, hsc, h => by
    refine onUnK h fun op y p g1 => ?_
    obtain ⟨h1, g2⟩ := andB g1
    obtain rfl := of_decide_eq_true h1
    exact SX.plain (SE.neg (isE_sound H hF a (b := false) hsc g2)) rfl
  | .not a, b, sc, env, x, hsc, h => by
    refine onUnK h fun op y p g1 => ?_
    obtain ⟨h1, g2⟩ := andB g1
    obtain rfl := of_decide_eq_true h1
    have r := isE_sound H hF a hsc g2
    exact SX.mk (fun q => SE.not (r.e q)) fun q => ST.not (r.t q)
  | .and l r, b, sc, env, x, hsc, h => by
    refine onBoolK h fun op xs p g1 => ?_
    obtain ⟨h1, g2⟩ := andB g1
    obtain rfl := of_decide_eq_true h1
    refine on2K g2 fun l' r' g3 => ?_
    have r1 := isE_sound H hF l hsc (andB g3).1
    have r2 := isE_sound H hF r hsc (andB g3).2
    exact SX.mk (fun q => SE.and (r1.e q) (r2.e q)) fun q => ST.and (r1.t q) (r2.t q)
  | .or l r, b, sc, env, x, hsc, h => by
    refine onBoolK h fun op xs p g1 => ?_
    obtain ⟨h1, g2⟩ := andB g1
    obtain rfl := of_decide_eq_true h1
    refine on2K g2 fun l' r' g3 => ?_
    have r1 := isE_sound H hF l hsc (andB g3).1
    have r2 := isE_sound H hF r hsc (andB g3).2
    exact SX.mk (fun q => SE.or (r1.e q) (r2.e q)) fun q => ST.or (r1.t q) (r2.t q)
  | .ite c l r, b, sc, env, x, hsc, h => by
    refine onIteK h fun c' l' r' p g1 => ?_
    obtain ⟨h1, g2⟩ := andB g1
    have r0 : ST G C A env { cx with F := F } c c' := isE_sound H hF c (b := true) hsc h1
    have r1 := isE_sound H hF l hsc (andB g2).1
    have r2 := isE_sound H hF r hsc (andB g2).2
    exact SX.mk (fun q => SE.ite r0 (r1.e q) (r2.e q)) fun q => ST.ite r0 (r1.t q) (r2.t q)
  | .cmp l op r, b, sc, env, x, hsc, h => by
    refine onCmpK h fun l' os rs p g1 => ?_
    refine on1K g1 fun op' g2 => ?_
    refine on1K g2 fun r' g3 => ?_
    obtain ⟨h1, g4⟩ := andB g3
    obtain ⟨h2, g5⟩ := andB g4
    have s1 : SE G C A env { cx with F := F } l l' := isE_sound H hF l (b := false) hsc (andB g5).1
    have s2 : SE G C A env { cx with F := F } r r' := isE_sound H hF r (b := false) hsc (andB g5).2
    exact SX.mk (fun q => SE.cmp h1 (notB h2) s1 s2) fun q => ST.cmp h1 (notB h2) s1 s2
  | .cmp2 l op r op2 r2, b, sc, env, x, hsc, h => by
    refine onCmpK h fun l' os rs p g1 => ?_
    refine on2K g1 fun op' op2' g2 => ?_
    refine on2K g2 fun r' r2' g3 => ?_
    obtain ⟨h1, g4⟩ := andB g3
    obtain ⟨h2, g5⟩ := andB g4
    obtain ⟨h3, g6⟩ := andB g5
    obtain ⟨h4, g7⟩ := andB g6
    have s1 : SE G C A env { cx with F := F } l l' := isE_sound H hF l (b := false) hsc h4
    have s2 : SE G C A env { cx with F := F } r r' := isE_sound H hF r (b := false) hsc (andB g7).1
    have s3 : SE G C A env { cx with F := F } r2 r2' := isE_sound H hF r2 (b := false) hsc (andB g7).2
    exact SX.mk (fun q => SE.cmp2 h1 h2 (notB h3) s1 s2 s3) fun q => ST.cmp2 h1 h2 (notB h3) s1 s2 s3
  | .tuple as, b, sc, env, x, hsc, h => by
    refine onTupK h fun xs k p g1 => ?_
    exact SX.plain (SE.tuple (of_decide_eq_true (andB g1).1) (isEs_sound H hF as hsc (andB g1).2).es.1) rfl
  | .list as, b, sc, env, x, hsc, h => by
    refine onListK h fun xs p g1 => ?_
    exact SX.plain (SE.list (of_decide_eq_true (andB g1).1) (isEs_sound H hF as hsc (andB g1).2).es.1) rfl
  | .dict0, b, sc, env, x, hsc, h => by
    refine onDictK h fun ks vs p g1 => ?_
    obtain rfl := emptyB (andB g1).1
    obtain rfl := emptyB (andB g1).2
    exact SX.plain SE.dict0 rfl
  | .index a i, b, sc, env, x, hsc, h => by
    refine onSubK h fun y z p g1 => ?_
    exact SX.plain (SE.index (isE_sound H hF a (b := false) hsc (andB g1).1) (isE_sound H hF i (b := false) hsc (andB g1).2)) rfl
  | .slice a lo hi st, b, sc, env, x, hsc, h => by
    refine onSubK h fun y z p g1 => ?_
    refine onSliceK g1 fun xl xh xs p2 g2 => ?_
    obtain ⟨h1, g3⟩ := andB g2
    obtain ⟨h2, g4⟩ := andB g3
    exact SX.plain (SE.slice (isE_sound H hF a (b := false) hsc h1) (isP_is h2 fun z h => isE_sound H hF lo (b := false) hsc h) (isP_is (andB g4).1 fun z h => isE_sound H hF hi (b := false) hsc h) (isP_is (andB g4).2 fun z h => isE_sound H hF st (b := false) hsc h)) rfl
  | .comp elt t k its conds caps, b, sc, env, x, hsc, h => by
    subst hsc
    obtain ⟨xe, xt, iter, ifs, scope, p, en, rfl, L⟩ := isLC_is (A := A) (F := F) (its := its) H (fun xs => isEs_sound H hF its rfl) h
    obtain ⟨h6, h7⟩ := andB L.rest
    exact SX.plain (SE.comp L.ok L.set L.tgt L.enum L.cap L.dis L.it (fun cenv hc => isConds_sound H hF conds hc h6) (fun cenv hc => isE_sound H hF elt (b := false) hc h7)) rfl
  | .call f as, b, sc, env, x, hsc, h => by
    refine onCallK h fun g xs ks p g1 => ?_
    obtain ⟨h1, g2⟩ := andB g1
    obtain rfl := emptyB h1
    refine onNameK g2 fun id p2 g3 => ?_
    obtain ⟨q1, q2, q3, q4⟩ := isGl_is hsc H (andB g3).1
    obtain ⟨s1, s2⟩ := (isEs_sound H hF as hsc (andB g3).2).es
    exact SX.plain (SE.call hF q4 q1 q3 q2 s2 s1) rfl
  | .bi g as, b, sc, env, x, hsc, h => by
    refine onCallK h fun y xs ks p g1 => ?_
    obtain ⟨h1, g2⟩ := andB g1
    obtain rfl := emptyB h1
    refine onNameK g2 fun id p2 g3 => ?_
    obtain ⟨q1, q2, q3⟩ := isGl_is hsc H (andB g3).1
    obtain ⟨s1, s2⟩ := (isEs_sound H hF as hsc (andB g3).2).es
    exact SX.plain (SE.bi q1 q3 q2 s2 s1) rfl
  | .meth m o as, b, sc, env, x, hsc, h => by
    refine onCallK h fun g xs ks p g1 => ?_
    obtain ⟨h1, g2⟩ := andB g1
    obtain rfl := emptyB h1
    refine onAttrK g2 fun y name ap g3 => ?_
    obtain ⟨h1, g4⟩ := andB g3
    obtain ⟨h2, g5⟩ := andB g4
    obtain ⟨h3, g6⟩ := andB g5
    obtain ⟨h4, g7⟩ := andB g6
    obtain ⟨s1, s2⟩ := (isEs_sound H hF as hsc (andB g7).2).es
    exact SX.plain (SE.meth (eq_of_beq h1) (noBase_is h2) h3 s2 (of_decide_eq_true h4) (isE_sound H hF o (b := false) hsc (andB g7).1) s1) rfl
  | .hm f o as, b, sc, env, x, hsc, h => by
    refine onCallK h fun g xs ks p g1 => ?_
    obtain ⟨h1, g2⟩ := andB g1
    obtain rfl := emptyB h1
    refine onAttrK g2 fun y name ap g3 => ?_
    obtain ⟨h0, g4⟩ := andB g3
    obtain ⟨h1, g5⟩ := andB g4
    obtain ⟨h2, g6⟩ := andB g5
    obtain ⟨h3, g7⟩ := andB g6
    obtain ⟨h4, g8⟩ := andB g7
    obtain ⟨s1, s2⟩ := (isEs_sound H hF as hsc (andB g8).2).es
    obtain ⟨c1, c2, y, c3⟩ := H.cm _ (lookup_mem' (of_decide_eq_true h0))
    exact SX.plain (SE.hm H.cA hF c2 (noBase_is h2) h3 s2 (of_decide_eq_true h4) c1 (ne_of_beq_false (notB h1)) c3 (isE_sound H hF o (b := false) hsc (andB g8).1) s1) rfl
  | .newH, b, sc, env, x, hsc, h => by
    refine onCallK h fun g xs ks p g1 => ?_
    obtain ⟨h1, g2⟩ := andB g1
    obtain ⟨h2, g3⟩ := andB g2
    obtain rfl := emptyB h1
    obtain rfl := emptyB h2
    refine onNameK g3 fun id p2 g4 => ?_
    obtain ⟨q1, q2, q3⟩ := isGl_is hsc H g4
    exact SX.plain (H.newH q1 q3 q2) rfl
  | .attrH o, b, sc, env, x, hsc, h => by
    refine onAttrK h fun y name ap g1 => ?_
    obtain ⟨h1, g2⟩ := andB g1
    obtain rfl := eq_of_beq h1
    exact SX.plain (SE.attrH H.cA (noBase_is (andB g2).1) (isE_sound H hF o (b := false) hsc (andB g2).2)) rfl
  | .conv nm o e, b, sc, env, x, hsc, h => by
    refine onCallK h fun g xs ks p g1 => ?_
    refine on1K g1 fun z g2 => ?_
    refine on1K g2 fun kw g3 => ?_
    refine onAttrK g3 fun y name ap g4 => ?_
    obtain ⟨ka, kv, kp⟩ := kw
    refine onConstK (x := kv) g4 fun v i p1 g5 => ?_
    obtain ⟨h0, g6⟩ := andB g5
    obtain ⟨h1, g7⟩ := andB g6
    obtain ⟨h2, g8⟩ := andB g7
    obtain ⟨h3, g9⟩ := andB g8
    obtain ⟨h4, g10⟩ := andB g9
    obtain ⟨h5, g11⟩ := andB g10
    obtain rfl := eq_of_beq h1
    obtain rfl := eq_of_beq h2
    have hv : v = .bool nm := by
      cases v with
      | bool w => exact congrArg Const.bool (eq_of_beq h0).symm
      | _ => exact Bool.noConfusion h0
    subst hv
    exact SX.plain (H.conv (noBase_is h4) h5 h3 (isE_sound H hF o (b := false) hsc (andB g11).1) (isE_sound H hF e (b := false) hsc (andB g11).2)) rfl
  | .b3get e, b, sc, env, x, hsc, h => by
    refine onCallK h fun g xs ks p g1 => ?_
    obtain ⟨h1, g2⟩ := andB g1
    obtain rfl := emptyB h1
    refine on1K g2 fun z g3 => ?_
    refine onAttrK g3 fun y name ap g4 => ?_
    refine onNameK g4 fun id p2 g5 => ?_
    obtain ⟨h1, g6⟩ := andB g5
    obtain ⟨h2, g7⟩ := andB g6
    obtain ⟨h3, g8⟩ := andB g7
    obtain ⟨q1, q2, q3⟩ := isGl_is hsc H h2
    obtain rfl := eq_of_beq h1
    exact SX.plain (H.b3get q1 q3 q2 h3 (andB g8).1 (isE_sound H hF e (b := false) hsc (andB g8).2)) rfl
  | .inB1 e, b, sc, env, x, hsc, h => by
    refine onCmpK h fun l' os rs p g1 => ?_
    refine on1K g1 fun op' g2 => ?_
    refine on1K g2 fun r' g3 => ?_
    refine onNameK g3 fun id p2 g4 => ?_
    obtain ⟨h1, g5⟩ := andB g4
    obtain ⟨h2, g6⟩ := andB g5
    obtain rfl := of_decide_eq_true h1
    obtain rfl := notB h2
    obtain ⟨q1, q2, q3⟩ := isGl_is hsc H (andB g6).1
    exact H.inB1 q1 q3 q2 (isE_sound H hF e (b := false) hsc (andB g6).2)
theorem isEs_sound (H : Facts T G fa b3a b1a N mN cx) (hF : SF G C.lev F fa) : ∀ (es : List E) {sc : Scope} {env : Env} {xs : List Expr}, env.scope = sc → isEs T C sc es xs = true → SEL G C A env { cx with F := F } es xs
  | [], sc, env, xs, hsc, h => emptyB h
  | e :: es, sc, env, x :: xs, hsc, h => ⟨x, xs, rfl, (andB h).1, isE_sound H hF e (b := false) hsc (andB (andB h).2).1, isEs_sound H hF es hsc (andB (andB h).2).2⟩
  | e :: es, sc, env, [], hsc, h => Bool.noConfusion h
theorem isConds_sound (H : Facts T G fa b3a b1a N mN cx) (hF : SF G C.lev F fa) : ∀ (es : List E) {sc : Scope} {env : Env} {xs : List Expr}, env.scope = sc → isConds T C sc es xs = true → STs G C A env { cx with F := F } es xs
  | [], sc, env, xs, hsc, h => by obtain rfl := emptyB h; exact STs.nil
  | e :: es, sc, env, x :: xs, hsc, h => STs.cons (isE_sound H hF e (b := true) hsc (andB h).1) (isConds_sound H hF es hsc (andB h).2)
  | e :: es, sc, env, [], hsc, h => Bool.noConfusion h
end
end
end UK
end
section
namespace UK
open PySem PySem.W PySem.Calls PyProof.Rows PySem.SeqAt
noncomputable def onRet (x : Stmt) (f : Option Expr → Pos → Bool) : Bool := dite (x.ctorIdx = 3) (fun h => Stmt.Return.elim (motive_2 := fun _ => Bool) x h f) fun _ => false
@[elab_as_elim] theorem onRetK {x : Stmt} {f : Option Expr → Pos → Bool} {P : Stmt → Prop} (h : onRet x f = true) (k : ∀ v p, f v p = true → P (.Return v p)) : P x := by
  unfold onRet at h
  by_cases q : x.ctorIdx = 3
  · rw [dif_pos q] at h
    exact Stmt.Return.elim (motive_2 := fun x => ∀ q : x.ctorIdx = 3, Stmt.Return.elim (motive_2 := fun _ => Bool) x q f = true → P x) x q (fun v p _ => k v p) q h
  · rw [dif_neg q] at h
    exact Bool.noConfusion h
noncomputable def onDel (x : Stmt) (f : List Expr → Pos → Bool) : Bool := dite (x.ctorIdx = 4) (fun h => Stmt.Delete.elim (motive_2 := fun _ => Bool) x h f) fun _ => false
@[elab_as_elim] theorem onDelK {x : Stmt} {f : List Expr → Pos → Bool} {P : Stmt → Prop} (h : onDel x f = true) (k : ∀ ts p, f ts p = true → P (.Delete ts p)) : P x := by
  unfold onDel at h
  by_cases q : x.ctorIdx = 4
  · rw [dif_pos q] at h
    exact Stmt.Delete.elim (motive_2 := fun x => ∀ q : x.ctorIdx = 4, Stmt.Delete.elim (motive_2 := fun _ => Bool) x q f = true → P x) x q (fun ts p _ => k ts p) q h
  · rw [dif_neg q] at h
    exact Bool.noConfusion h
noncomputable def onAsg (x : Stmt) (f : List Expr → Expr → Pos → Bool) : Bool := dite (x.ctorIdx = 5) (fun h => Stmt.Assign.elim (motive_2 := fun _ => Bool) x h f) fun _ => false
@[elab_as_elim] theorem onAsgK {x : Stmt} {f : List Expr → Expr → Pos → Bool} {P : Stmt → Prop} (h : onAsg x f = true) (k : ∀ ts v p, f ts v p = true → P (.Assign ts v p)) : P x := by
  unfold onAsg at h
  by_cases q : x.ctorIdx = 5
  · rw [dif_pos q] at h
    exact Stmt.Assign.elim (motive_2 := fun x => ∀ q : x.ctorIdx = 5, Stmt.Assign.elim (motive_2 := fun _ => Bool) x q f = true → P x) x q (fun ts v p _ => k ts v p) q h
  · rw [dif_neg q] at h
    exact Bool.noConfusion h
noncomputable def onAug (x : Stmt) (f : Expr → Operator → Expr → Pos → Bool) : Bool := dite (x.ctorIdx = 7) (fun h => Stmt.AugAssign.elim (motive_2 := fun _ => Bool) x h f) fun _ => false
@[elab_as_elim] theorem onAugK {x : Stmt} {f : Expr → Operator → Expr → Pos → Bool} {P : Stmt → Prop} (h : onAug x f = true) (k : ∀ t op v p, f t op v p = true → P (.AugAssign t op v p)) : P x := by
  unfold onAug at h
  by_cases q : x.ctorIdx = 7
  · rw [dif_pos q] at h
    exact Stmt.AugAssign.elim (motive_2 := fun x => ∀ q : x.ctorIdx = 7, Stmt.AugAssign.elim (motive_2 := fun _ => Bool) x q f = true → P x) x q (fun t op v p _ => k t op v p) q h
  · rw [dif_neg q] at h
    exact Bool.noConfusion h
noncomputable def onFor (x : Stmt) (f : Expr → Expr → List Stmt → List Stmt → Pos → Bool) : Bool := dite (x.ctorIdx = 9) (fun h => Stmt.For.elim (motive_2 := fun _ => Bool) x h f) fun _ => false
@[elab_as_elim] theorem onForK {x : Stmt} {f : Expr → Expr → List Stmt → List Stmt → Pos → Bool} {P : Stmt → Prop} (h : onFor x f = true) (k : ∀ t i b o p, f t i b o p = true → P (.For t i b o p)) : P x := by
  unfold onFor at h
  by_cases q : x.ctorIdx = 9
  · rw [dif_pos q] at h
    exact Stmt.For.elim (motive_2 := fun x => ∀ q : x.ctorIdx = 9, Stmt.For.elim (motive_2 := fun _ => Bool) x q f = true → P x) x q (fun t i b o p _ => k t i b o p) q h
  · rw [dif_neg q] at h
    exact Bool.noConfusion h
noncomputable def onWhile (x : Stmt) (f : Expr → List Stmt → List Stmt → Pos → Bool) : Bool := dite (x.ctorIdx = 11) (fun h => Stmt.While.elim (motive_2 := fun _ => Bool) x h f) fun _ => false
@[elab_as_elim] theorem onWhileK {x : Stmt} {f : Expr → List Stmt → List Stmt → Pos → Bool} {P : Stmt → Prop} (h : onWhile x f = true) (k : ∀ t b o p, f t b o p = true → P (.While t b o p)) : P x := by
  unfold onWhile at h
  by_cases q : x.ctorIdx = 11
  · rw [dif_pos q] at h
    exact Stmt.While.elim (motive_2 := fun x => ∀ q : x.ctorIdx = 11, Stmt.While.elim (motive_2 := fun _ => Bool) x q f = true → P x) x q (fun t b o p _ => k t b o p) q h
  · rw [dif_neg q] at h
    exact Bool.noConfusion h
noncomputable def onIf (x : Stmt) (f : Expr → List Stmt → List Stmt → Pos → Bool) : Bool := dite (x.ctorIdx = 12) (fun h => Stmt.If.elim (motive_2 := fun _ => Bool) x h f) fun _ => false
@[elab_as_elim] theorem onIfK {x : Stmt} {f : Expr → List Stmt → List Stmt → Pos → Bool} {P : Stmt → Prop} (h : onIf x f = true) (k : ∀ t b o p, f t b o p = true → P (.If t b o p)) : P x := by
  unfold onIf at h
  by_cases q : x.ctorIdx = 12
  · rw [dif_pos q] at h
    exact Stmt.If.elim (motive_2 := fun x => ∀ q : x.ctorIdx = 12, Stmt.If.elim (motive_2 := fun _ => Bool) x q f = true → P x) x q (fun t b o p _ => k t b o p) q h
  · rw [dif_neg q] at h
    exact Bool.noConfusion h
noncomputable def onAss (x : Stmt) (f : Expr → Option Expr → Pos → Bool) : Bool := dite (x.ctorIdx = 19) (fun h => Stmt.Assert.elim (motive_2 := fun _ => Bool) x h f) fun _ => false
@[elab_as_elim] theorem onAssK {x : Stmt} {f : Expr → Option Expr → Pos → Bool} {P : Stmt → Prop} (h : onAss x f = true) (k : ∀ t m p, f t m p = true → P (.Assert t m p)) : P x := by
  unfold onAss at h
  by_cases q : x.ctorIdx = 19
  · rw [dif_pos q] at h
    exact Stmt.Assert.elim (motive_2 := fun x => ∀ q : x.ctorIdx = 19, Stmt.Assert.elim (motive_2 := fun _ => Bool) x q f = true → P x) x q (fun t m p _ => k t m p) q h
  · rw [dif_neg q] at h
    exact Bool.noConfusion h
noncomputable def onExp (x : Stmt) (f : Expr → Pos → Bool) : Bool := dite (x.ctorIdx = 24) (fun h => Stmt.Expr.elim (motive_2 := fun _ => Bool) x h f) fun _ => false
@[elab_as_elim] theorem onExpK {x : Stmt} {f : Expr → Pos → Bool} {P : Stmt → Prop} (h : onExp x f = true) (k : ∀ v p, f v p = true → P (.Expr v p)) : P x := by
  unfold onExp at h
  by_cases q : x.ctorIdx = 24
  · rw [dif_pos q] at h
    exact Stmt.Expr.elim (motive_2 := fun x => ∀ q : x.ctorIdx = 24, Stmt.Expr.elim (motive_2 := fun _ => Bool) x q f = true → P x) x q (fun v p _ => k v p) q h
  · rw [dif_neg q] at h
    exact Bool.noConfusion h
noncomputable def noComp (x : Expr) : Bool := match x with
  | .ListComp _ _ _ _ => false
  | .SetComp _ _ _ _ => false
  | .DictComp _ _ _ _ _ => false
  | _ => true
theorem swaps_no {value : Expr} {t : Option Expr} {line : Nat} {env : Env} (h : noComp value = true) : swapsWith value t line env = pure false := by
  cases value <;> first | rfl | exact Bool.noConfusion h
theorem swaps_sub {value a b : Expr} {p : Pos} {line : Nat} {env : Env} : swapsWith value (some (.Subscript a b p)) line env = pure false := by
  cases value <;> rfl
theorem block_of {env : Env} (hk : env.scope.kind = .function) : env.blockKind = .function := by
  unfold Env.blockKind
  rw [hk]; rfl
noncomputable def lcB (sc scope : Scope) (t : Str) (pos p : Pos) : Bool := sc.names.lookup t == some .local && pos.line == p.line && !(scope.names.any fun (n, k) => n == t && (k == .local || k == .cell))
theorem swaps_lc {env : Env} (hk : env.scope.kind = .function) {e : Expr} {g : List Comprehension} {scope : Scope} {p pos : Pos} {t : Str} {line : Nat} : swapsWith (.ListComp e g scope p) (some (.Name t pos)) line env = pure (lcB env.scope scope t pos p) := by
  show pure (env.blockKind == .function && env.kindOf t == some .local && pos.line == p.line && !(scope.names.any fun (n, k) => n == t && (k == .local || k == .cell))) = _
  rw [block_of hk]; rfl
noncomputable def starX (x : Expr) : Bool := match x with
  | .Starred .. => true
  | _ => false
noncomputable def swN (sc : Scope) (ts : List Expr) : List Str := ts.filterMap fun x => match x with
  | .Name id pos => if sc.names.lookup id == some .local && pos.line == (ts.head?.map (·.pos.line)).getD 0 then some id else none
  | _ => none
noncomputable def swG {α : Type} (ts vs : List Expr) (names : List Str) (nf : Bool) (no bad yes : α) : α :=
  if (!(ts.length == 2 || ts.length == 3) || vs.length != ts.length || nf) = true then no
  else if vs.any starX = true then no
  else if (names.length != ts.length || names.eraseDups.length != names.length) = true then no
  else if vs.all (foldedForSure 8) = true then no
  else if vs.all (constantsAlone 8) = true then bad else yes
theorem swG_is {env : Env} {ts vs : List Expr} {k k2 : Nat} {p p2 : Pos} : ∃ bad, swappedStores [.Tuple ts k p] (.Tuple vs k2 p2) env = swG ts vs (swN env.scope ts) (env.blockKind != .function) (pure none) bad (pure (some (swN env.scope ts))) := ⟨_, rfl⟩
theorem swG_to {α β : Type} {ts vs : List Expr} {names : List Str} {no bad yes : α} {r : β} {no' yes' : β} {f : β → α} (h : swG ts vs names false (some no') none (some yes') = some r) (h1 : no = f no') (h2 : yes = f yes') : swG ts vs names false no bad yes = f r := by
  have fin : ∀ {c : Bool} {a b : Option β} {x y : α}, (if c = true then a else b) = some r → (a = some r → x = f r) → (b = some r → y = f r) → (if c = true then x else y) = f r := fun {c a b x y} h i1 i2 => by
    cases c
    · exact i2 h
    · exact i1 h
  have n : some no' = some r → no = f r := fun q => by rw [h1, Option.some.inj q]
  exact fin h n fun h => fin h n fun h => fin h n fun h => fin h n fun h => fin h nofun fun q => by rw [h2, Option.some.inj q]
noncomputable def swS (sc : Scope) (ts : List Expr) (value : Expr) : Option (Option (List Str)) := match value with
  | .Tuple vs _ _ => swG ts vs (swN sc ts) false (some none) none (some (some (swN sc ts)))
  | _ => some none
theorem swS_is {env : Env} (hk : env.scope.kind = .function) {ts : List Expr} {k : Nat} {p : Pos} {value : Expr} {r : Option (List Str)} (h : swS env.scope ts value = some r) : swappedStores [.Tuple ts k p] value env = pure r := by
  cases value with
  | Tuple vs k2 p2 =>
    obtain ⟨bad, e⟩ := swG_is (env := env) (ts := ts) (vs := vs) (k := k) (k2 := k2) (p := p) (p2 := p2)
    rw [e, block_of hk]
    exact swG_to (f := pure) h rfl rfl
  | _ =>
    obtain rfl := Option.some.inj h
    rfl
noncomputable def isCompE (e : E) : Bool := match e with
  | .comp _ _ _ _ _ _ => true
  | _ => false
noncomputable def onSubT (ts : List Expr) (f : Expr → Expr → Bool) : Bool := on1 ts fun t => onSub t fun y z _ => f y z
mutual
noncomputable def isS (T : Tb) (C : Ct) (sc : Scope) : S → Stmt → Bool
  | .assign t e, x => onAsg x fun ts value p => on1 ts fun tx => match t with
    | .name n => onName tx fun id p' => isT C sc true (.name n) (.Name id p') && (isE T C false sc e value && (noComp value || (isCompE e && onLC value fun _ _ scope p2 => lcB sc scope id p' p2)))
    | .tup us => onTup tx fun es _ _ => noComp value && (isTs C sc true us es && (isE T C false sc e value && (swS sc es value).elim false fun r => r.elim true fun names => decide ((namesOfT us).map (fun xs => xs.map C.nm) = some names)))
  | .dset n k v, x => onAsg x fun ts ve _ => onSubT ts fun oe ke => isE T C false sc (.name n) oe && (isE T C false sc k ke && isE T C false sc v ve)
  | .hset o k v, x => onAsg x fun ts ve _ => onSubT ts fun oe ke => decide (T.cm.lookup ("__setitem__" : Str) = some 0) && (isE T C false sc o oe && (isE T C false sc k ke && isE T C false sc v ve))
  | .aug n op e, x => onAug x fun t op' value _ => onName t fun id p => op.is op' && (isT C sc true (.name n) (.Name id p) && (!(id == ("__classdict__" : Str)) && isE T C false sc e value))
  | .expr e, x => onExp x fun y _ => noComp y && isE T C false sc e y
  | .ret e, x => onRet x fun y _ => y.elim false fun y => isE T C false sc e y
  | .ite c a b, x => onIf x fun y xs ys _ => isE T C true sc c y && (isSs T C sc a xs && isSs T C sc b ys)
  | .while c b, x => onWhile x fun y xs o _ => o.isEmpty && (isE T C true sc c y && isSs T C sc b xs)
  | .for t k its b, x => onFor x fun xt iter xs o _ => o.isEmpty && (noSet iter && (isT C sc true t xt && (isIt T sc k iter xt (isEs T C sc its) && isSs T C sc b xs)))
  | .assert c, x => onAss x fun y _ _ => isE T C true sc c y
  | .delx n i, x => onDel x fun ts _ => onSubT ts fun oe ie => isE T C false sc (.name n) oe && isE T C false sc i ie
  | .delh o k, x => onDel x fun ts _ => onSubT ts fun oe ke => decide (T.cm.lookup ("__delitem__" : Str) = some 1) && (isE T C false sc o oe && isE T C false sc k ke)
  | .slset o e, x => onAsg x fun ts ve _ => onSubT ts fun oe sl => onSlice sl fun l u t _ => l.isNone && (u.isNone && (t.isNone && (isE T C false sc o oe && isE T C false sc e ve)))
  | .stuck, _ => true
noncomputable def isSs (T : Tb) (C : Ct) (sc : Scope) : List S → List Stmt → Bool
  | [], xs => xs.isEmpty
  | s :: ss, xs => match xs with
    | x :: xs => isS T C sc s x && isSs T C sc ss xs
    | [] => false
end
end UK
end
section
namespace UK
open PySem PySem.W PySem.Calls PyProof.Rows PySem.SeqAt
section
variable {G : Gl} {C : Ct} {A : Around} {cx : Cx} {T : Tb} {fa : Nat → Addr} {b3a b1a N : Addr} {mN : Str → Option Value} {F : Nat → List V → Led → Option (V × Led)} {env : Env} {own : List Addr} {mu : List Nat}
@[elab_as_elim] theorem onSubTK {ts : List Expr} {f : Expr → Expr → Bool} {P : List Expr → Prop} (h : onSubT ts f = true) (k : ∀ y z p, f y z = true → P [.Subscript y z p]) : P ts := by
  refine on1K h fun t h => ?_
  refine onSubK h fun y z p h => ?_
  exact k y z p h
theorem orB {a b : Bool} (h : (a || b) = true) : a = true ∨ b = true := by rwa [Bool.or_eq_true] at h
theorem swSole {value : Expr} {es : List Expr} {k : Nat} {p : Pos} {line : Nat} (h : noComp value = true) : swapsWithSole [.Tuple es k p] value line env = pure false := by
  show swapsWith value (some (.Tuple es k p)) line env = pure false
  exact swaps_no h
theorem isComp_is {e : E} (h : isCompE e = true) : ∃ elt t k its conds caps, e = .comp elt t k its conds caps := by
  cases e <;> first | exact ⟨_, _, _, _, _, _, rfl⟩ | exact Bool.noConfusion h
theorem swR_sound {ts : List UK.T} {e : E} {es : List Expr} {k : Nat} {tpos pos : Pos} {value : Expr} {o : Option (Option (List Str))} (hk : env.scope.kind = .function) (ho : swS env.scope es value = o) (hn : noComp value = true) (hfl : FnOk own env) (ht : isTs C env.scope true ts es = true) (he : SE G C A env cx e value)
    (h : (o.elim false fun r => r.elim true fun names => decide ((namesOfT ts).map (fun xs => xs.map C.nm) = some names)) = true) : SSo G C A env cx own mu (.assign (.tup ts) e) (.Assign [.Tuple es k tpos] value pos) := by
  cases o with
  | none => exact Bool.noConfusion h
  | some r =>
    cases r with
    | none => exact SSo.assignTup hfl ht (swSole hn) (swS_is hk ho) he
    | some names =>
      obtain ⟨xs, hx, rfl⟩ := Option.map_eq_some_iff.mp (of_decide_eq_true h)
      exact SSo.assignSwap hfl ht hx (swSole hn) (swS_is hk ho) he
mutual
theorem isS_sound (H : Facts T G fa b3a b1a N mN cx) (hF : SF G C.lev F fa) (hfl : FnOk own env) (hk : env.scope.kind = .function) : ∀ (s : S) {x : Stmt}, isS T C env.scope s x = true → SSo G C A env { cx with F := F } own mu s x
  | .assign (.name n) e, x, h => by
    refine onAsgK h fun ts value p g1 => ?_
    refine on1K g1 fun tx g2 => ?_
    refine onNameK g2 fun id p' g3 => ?_
    obtain ⟨h1, g4⟩ := andB g3
    obtain ⟨h2, g5⟩ := andB g4
    rcases orB g5 with g5 | g5
    · exact SSo.assignName hfl h1 (swaps_no g5) (isE_sound H hF e (b := false) rfl h2)
    · obtain ⟨h3, g6⟩ := andB g5
      obtain ⟨elt, t, k, its, conds, caps, rfl⟩ := isComp_is h3
      obtain ⟨xe, xt, iter, ifs, scope, pp, en, rfl, L⟩ := isLC_is (A := A) (F := F) (its := its) H (fun xs => isEs_sound H hF its rfl) h2
      obtain ⟨h6, h7⟩ := andB L.rest
      cases hq : lcB env.scope scope id p' pp with
      | true => exact SSo.assignComp L.set hfl h1 ((swaps_lc hk).trans (congrArg pure hq)) L.ok L.tgt L.enum L.cap L.dis L.it (fun cenv hc => isConds_sound H hF conds hc h6) (fun cenv hc => isE_sound H hF elt (b := false) hc h7)
      | false => exact SSo.assignName hfl h1 ((swaps_lc hk).trans (congrArg pure hq)) (isE_sound H hF (.comp elt t k its conds caps) (b := false) rfl h2)
  | .assign (.tup us) e, x, h => by
    refine onAsgK h fun ts value p g1 => ?_
    refine on1K g1 fun tx g2 => ?_
    refine onTupK g2 fun es k p' g3 => ?_
    obtain ⟨h1, g4⟩ := andB g3
    obtain ⟨h2, g5⟩ := andB g4
    obtain ⟨h3, g6⟩ := andB g5
    exact swR_sound hk rfl h1 hfl h2 (isE_sound H hF e (b := false) rfl h3) g6
  | .dset n k v, x, h => by
    refine onAsgK h fun ts value p g1 => ?_
    refine onSubTK g1 fun oe ke p2 g3 => ?_
    obtain ⟨h2, g4⟩ := andB g3
    exact SSo.dset (swaps_sub) (isE_sound H hF (.name n) (b := false) rfl h2) (isE_sound H hF k (b := false) rfl (andB g4).1) (isE_sound H hF v (b := false) rfl (andB g4).2)
  | .hset o k v, x, h => by
    refine onAsgK h fun ts value p g1 => ?_
    refine onSubTK g1 fun oe ke p2 g3 => ?_
    obtain ⟨h2, g4⟩ := andB g3
    obtain ⟨h3, g5⟩ := andB g4
    obtain ⟨c1, c2, y, c3⟩ := H.cm _ (lookup_mem' (of_decide_eq_true h2))
    exact SSo.hset H.cA hF c2 c1 c3 (swaps_sub) (isE_sound H hF o (b := false) rfl h3) (isE_sound H hF k (b := false) rfl (andB g5).1) (isE_sound H hF v (b := false) rfl (andB g5).2)
  | .aug n op e, x, h => by
    refine onAugK h fun t op' value p g1 => ?_
    refine onNameK g1 fun id p2 g2 => ?_
    obtain ⟨h1, g3⟩ := andB g2
    obtain ⟨h2, g4⟩ := andB g3
    exact SSo.aug hfl h1 h2 (notB (andB g4).1) (isE_sound H hF e (b := false) rfl (andB g4).2)
  | .expr e, x, h => by
    refine onExpK h fun y p g1 => ?_
    exact SSo.expr (by unfold interactive; rw [hk]; rfl) (swaps_no (andB g1).1) (isE_sound H hF e (b := false) rfl (andB g1).2)
  | .ret e, x, h => by
    refine onRetK h fun v p g1 => ?_
    cases v with
    | none => exact Bool.noConfusion g1
    | some y => exact SSo.ret (isE_sound H hF e (b := false) rfl g1)
  | .ite c a b, x, h => by
    refine onIfK h fun y xs ys p g1 => ?_
    obtain ⟨h1, g2⟩ := andB g1
    exact SSo.ite (isE_sound H hF c (b := true) rfl h1) (isSs_sound H hF hfl hk a (andB g2).1) (isSs_sound H hF hfl hk b (andB g2).2)
  | .while c b, x, h => by
    refine onWhileK h fun y xs o p g1 => ?_
    obtain ⟨h1, g2⟩ := andB g1
    obtain rfl := emptyB h1
    exact SSo.while (isE_sound H hF c (b := true) rfl (andB g2).1) (isSs_sound H hF hfl hk b (andB g2).2)
  | .for t k its b, x, h => by
    refine onForK h fun xt iter xs o p g1 => ?_
    obtain ⟨h1, g2⟩ := andB g1
    obtain rfl := emptyB h1
    obtain ⟨h2, g3⟩ := andB g2
    obtain ⟨h3, g4⟩ := andB g3
    obtain ⟨en, hen, hi⟩ := it_sound (A := A) (F := F) H rfl (fun xs => isEs_sound H hF its rfl) (andB g4).1
    exact SSo.for hfl h2 h3 hen hi (isSs_sound H hF hfl hk b (andB g4).2)
  | .assert c, x, h => by
    refine onAssK h fun y m p g1 => ?_
    exact SSo.assert (isE_sound H hF c (b := true) rfl g1)
  | .delx n i, x, h => by
    refine onDelK h fun ts p g1 => ?_
    refine onSubTK g1 fun oe ie p2 g2 => ?_
    exact SSo.delx (isE_sound H hF (.name n) (b := false) rfl (andB g2).1) (isE_sound H hF i (b := false) rfl (andB g2).2)
  | .delh o k, x, h => by
    refine onDelK h fun ts p g1 => ?_
    refine onSubTK g1 fun oe ke p2 g2 => ?_
    obtain ⟨h2, g3⟩ := andB g2
    obtain ⟨c1, c2, y, c3⟩ := H.cm _ (lookup_mem' (of_decide_eq_true h2))
    exact SSo.delh H.cA hF c2 c1 c3 (isE_sound H hF o (b := false) rfl (andB g3).1) (isE_sound H hF k (b := false) rfl (andB g3).2)
  | .slset o e, x, h => by
    refine onAsgK h fun ts value p g1 => ?_
    refine onSubTK g1 fun oe sl p2 g3 => ?_
    refine onSliceK g3 fun l u t p3 g4 => ?_
    obtain ⟨h2, g5⟩ := andB g4
    obtain ⟨h3, g6⟩ := andB g5
    obtain ⟨h4, g7⟩ := andB g6
    obtain rfl := Option.isNone_iff_eq_none.mp h2
    obtain rfl := Option.isNone_iff_eq_none.mp h3
    obtain rfl := Option.isNone_iff_eq_none.mp h4
    exact SSo.slset (swaps_sub) (isE_sound H hF o (b := false) rfl (andB g7).1) (isE_sound H hF e (b := false) rfl (andB g7).2)
  | .stuck, x, h => fun _ _ _ e _ => e.elim
theorem isSs_sound (H : Facts T G fa b3a b1a N mN cx) (hF : SF G C.lev F fa) (hfl : FnOk own env) (hk : env.scope.kind = .function) : ∀ (ss : List S) {xs : List Stmt}, isSs T C env.scope ss xs = true → SSs G C A env { cx with F := F } own mu ss xs
  | [], xs, h => by obtain rfl := emptyB h; exact SSs.nil
  | s :: ss, x :: xs, h => SSs.cons (isS_sound H hF hfl hk s (andB h).1) (isSs_sound H hF hfl hk ss (andB h).2)
  | s :: ss, [], h => Bool.noConfusion h
end
end
end UK
end
section
namespace UK
open PySem PySem.W PySem.Calls PyProof.Rows PySem.SeqAt
section
variable {G : Gl} {C : Ct} {A : Around} {env : Env} {cx : Cx} {w : Wd} {loc : Loc} {led led' : Led} {s : Shared}
theorem SetOf_get {K : Type} [DecidableEq K] {p : Program} {W : World} {knd : KeyKind p W K} {h h' : Heap} {a : Addr} {S : K → Bool} {n : Nat} (x : h.SetOf knd a S n) (k : ∀ o, h.get? a = some o → h'.get? a = some o) : h'.SetOf knd a S n :=
  let ⟨o, es, ep, t, ho, r⟩ := x; ⟨o, es, ep, t, k o ho, r⟩
theorem MapOf_get {K : Type} [DecidableEq K] {p : Program} {W : World} {knd : KeyKind p W K} {h h' : Heap} {a : Addr} {f : K → Option Value} (x : h.MapOf knd a f) (k : ∀ o, h.get? a = some o → h'.get? a = some o) : h'.MapOf knd a f :=
  let ⟨o, es, ep, ho, r⟩ := x; ⟨o, es, ep, k o ho, r⟩
theorem VR.intV {i : Int} {v : V} {val : Value} (r : VR G w v val) (h : v = .d (.int i)) : ∃ t, val = .int i t := by subst h; exact r
theorem VR.strV {i : Str} {v : V} {val : Value} (r : VR G w v val) (h : v = .d (.str i)) : ∃ t, val = .str i t := by subst h; exact r
theorem St.kept (c : St G C A env w loc led s) (b : Addr) (o : Obj) (e : G.h₀.get? b = some o) : s.heap.get? b = some o := c.heap.1 ▸ (c.conc.keep b o e).1
theorem SE.inB1 {b1a : Addr} {n : Nat} {e : E} {z : Expr} {id : Str} {q p : Pos} (hB : G.h₀.SetOf (intKind G.p G.w) b1a cx.b1 n) (hk : env.kindOf id = some .globalImplicit) (hv : G.look id = some (.ref b1a)) (hd : (id == ("__debug__" : Str)) = false)
    (h : SE G C A env cx e z) : SE G C A env cx (.inB1 e) (.Compare z [.In] [.Name id q] p) := fun {w loc led s K Q} c ev k =>
  wpAny_Compare1 (h c (bindW ev) fun {r xv s1 w1} e1 p1 => by
    obtain ⟨i, hi, e2⟩ := V.intW (mapW e1)
    obtain ⟨t, rfl⟩ := p1.val.intV hi
    have c1 := p1.st c
    exact global_name c1 hk hv hd (wpAny_inSet_of (knd := intKind G.p G.w) (k := i) (n := n) (intKind_is G.p G.w i t) rfl (SetOf_get hB fun o => c1.kept _ o) (k e2 ⟨p1.heap, p1.stp, p1.led, p1.nd, rfl⟩))) rfl
theorem SE.b3get {b3a : Addr} {f : Int → Option Value} {e : E} {z : Expr} {id : Str} {q ap p : Pos} (hB : G.h₀.MapOf (intKind G.p G.w) b3a f) (hf : ∀ c, (∃ x, cx.b3 c = some x ∧ ∃ t, f c = some (.str x t)) ∨ (cx.b3 c = none ∧ f c = none)) (hne : (b3a == sysModules) = false)
    (hk : env.kindOf id = some .globalImplicit) (hv : G.look id = some (.ref b3a)) (hd : (id == ("__debug__" : Str)) = false) (hline : (ap.endLine == p.line) = true) (hn : noStar z = true)
    (h : SE G C A env cx e z) : SE G C A env cx (.b3get e) (.Call (.Attribute (.Name id q) ("get" : Str) ap) [z] [] p) := fun {w loc led s K Q} c ev k => by
  have hns : noStars [z] = true := by unfold noStars; rw [List.all_cons, hn]; rfl
  have hfew : ((backTo p (starEach [z] env)).all (fun x => !x.1) && (backToKw p (keywordEach [] env)).all (fun x => x.1.isSome)
      && decide ([z].length + ([] : List Keyword).length + (if ([] : List Keyword).isEmpty then 0 else 1) < 30)) = true := by
    rw [all_plain hns]; rfl
  have hm := MapOf_get hB fun o => c.kept _ o
  refine wpAny_Call_method_lateS (noBase_is rfl) hfew hline (global_name c hk hv hd ?_)
  refine ⟨"dict", "dict.get", PySem.F.plainAttrs_dict, PySem.F.slot_dict_get, PySem.F.type_dict_get, hm.typeIs, hm.noDict, ?_⟩
  refine Calls.callWith_builtin (noStars_plain hns) ?_
  rw [starEach_cons hn]
  refine (Calls.evalArgs_plain (Calls.spliced_cons (h c (bindW ev) fun {r kv s2 w2} e1 p2 => Calls.spliced_nil ?_)))
  obtain ⟨i, hi, e2⟩ := V.intW (mapW e1)
  obtain ⟨t, rfl⟩ := p2.val.intV hi
  have hm2 := MapOf_get hB fun o => (p2.st c).kept _ o
  refine call_meetsIn PySem.F.slot_dict_get hm2.typeIs PySem.F.entry_dict_get (PySem.F.args_dict_get_2 _ _) (meets_dict_get (prog := G.p) (w := G.w) (key := .int i t) (intKind G.p G.w) b3a (k := i) (intKind_is G.p G.w i t) hne) ⟨f, hm2, ?_⟩
  rcases hf i with ⟨x, h1, t', h2⟩ | ⟨h1, h2⟩ <;> rw [h1] at e2 <;> rw [h2]
  · exact k e2 ⟨p2.heap, p2.stp, p2.led, p2.nd, t', rfl⟩
  · exact k e2 ⟨p2.heap, p2.stp, p2.led, p2.nd, rfl⟩
end
end UK
end
section
namespace UK
open PySem PySem.W PySem.Calls PyProof.Rows PySem.SeqAt PySem.Builtin PySem.Builtin.Re
theorem pat_plain : PlainAttrs "re.Pattern" :=
  ⟨⟨"object.__getattribute__", by rw [typeLookup_type, builtinLookup_eq_fast]; kernel_rfl, by decide +kernel⟩, by rw [typeLookup_type, builtinLookup_eq_fast]; kernel_rfl⟩
theorem pat_owner : Manifest.owners.lookup (String.ofList ['n', 'r', 'e', 't', 't', 'a', 'P', '.', 'e', 'r'].reverse) = some Manifest.sig_re_Pattern := by kernel_rfl
theorem pat_slot : Slot "re.Pattern" "search" "re.Pattern.search" :=
  .of (owner := "re.Pattern") (n := "search") (by rw [typeLookup_type, builtinLookup_eq_fast]; kernel_rfl) (by decide +kernel) (by decide +kernel) (by decide +kernel)
    (by first | exact .inl (by decide +kernel) | exact .inr (by decide +kernel)) (by rw [isSubtype_type]; kernel_rfl)
theorem pat_type : typeOf (.builtin "re.Pattern.search") = pure (.type "method_descriptor") := by show builtinType _ = _; rw [builtinType_eq_fast]; kernel_rfl
theorem pat_entry : entryFor table "re.Pattern.search" = some Builtin.«re.Pattern.search» := entryFor_of_tree (by kernel_rfl)
theorem pat_args (a b : Value) : argsOk "re.Pattern.search" ⟨[a, b], []⟩ := by
  unfold argsOk; rw [signature?_of (id := "re.Pattern.search") (n := ['h', 'c', 'r', 'a', 'e', 's']) (o := ['n', 'r', 'e', 't', 't', 'a', 'P', '.', 'e', 'r']) (by kernel_rfl) pat_owner]; kernel_rfl
noncomputable def drive : Nat → Sre.M → Option Sre.M
  | 0, _ => none
  | n + 1, m => if (m.runFor reTurnSteps).outcome.isSome then some (m.runFor reTurnSteps) else drive n (m.runFor reTurnSteps)
noncomputable def failed (m : Sre.M) : Bool := match m.outcome with
  | some .failed => true
  | _ => false
noncomputable def searchNo (code cps : Array Nat) : Bool := match drive 400 (Sre.forSearch code cps 0 0 (min 9223372036854775807 cps.size) false) with
  | some m => failed m
  | none => false
section
variable {M : Model} {A : Around} {E : Value → Shared → Prop} {s : Shared}
theorem drive_sound : ∀ {n T : Nat} {m m' : Sre.M} {Q : Sre.M → Shared → Prop}, n ≤ T → drive n m = some m' → Q m' s → wpAny M A (reDrive T m) Q E s
  | 0, _, _, _, _, _, e, _ => by cases e
  | n + 1, 0, _, _, _, h, _, _ => absurd h (Nat.not_succ_le_zero n)
  | n + 1, T + 1, m, m', Q, h, e, q => by
    unfold drive at e
    unfold reDrive
    dsimp only
    split at e
    · rename_i hs
      rw [if_pos hs]; cases e
      exact wpAny_pure q
    · rename_i hs
      rw [if_neg hs]
      exact wpAny_bind (wpAny_rule (drive_sound (Nat.le_of_succ_le_succ h) e q))
theorem rules_loop {f : Nat → PUnit → Sem (ForInStep PUnit)} (hf : ∀ i u, (∃ t, f i u = (do rule t; pure (.yield ⟨⟩))) ∨ f i u = pure (.yield ⟨⟩)) : ∀ (l : List Nat) {Q : PUnit → Shared → Prop}, Q ⟨⟩ s → wpAny M A (forIn l ⟨⟩ f) Q E s
  | [], Q, h => by rw [List.forIn_nil]; exact wpAny_pure h
  | i :: l, Q, h => by
    rw [List.forIn_cons]
    rcases hf i ⟨⟩ with ⟨t, e⟩ | e
    · rw [e]
      exact wpAny_bind (wpAny_bind (wpAny_rule (wpAny_pure (rules_loop hf l h))))
    · rw [e]
      exact wpAny_bind (wpAny_pure (rules_loop hf l h))
theorem runToEnd_failed {n : Nat} {m m' : Sre.M} {Q : Option Sre.M → Shared → Prop} (hn : n ≤ 2 ^ 64) (e : drive n m = some m') (hf : failed m' = true) (h : Q none s) : wpAny M A (reRunToEnd m) Q E s := by
  unfold reRunToEnd
  refine wpAny_bind (drive_sound hn e ?_)
  skip
  refine wpAny_bind (rules_loop (fun i u => ?_) _ ?_)
  · split
    · exact .inl ⟨_, rfl⟩
    · exact .inr rfl
  · unfold failed at hf
    split at hf
    · rename_i h0
      rw [h0]
      exact wpAny_pure h
    · cases hf
theorem reNamed_one (v : Value) : reNamed "re.Pattern.search" "search" ["string", "pos", "endpos"] 1 [v] [] = pure [some v, none, none] := by
  rfl
theorem search_no {pa ca : Addr} {o oc : Obj} {fs : Array Value} {cs : Array Value} {n : Nat} {x : Str} {t : Tok} {Q : Fin → Shared → Prop} (ho : s.heap.get? pa = some o) (hd : o.data = .fields fs) (h5 : fs.getD 5 .none = .ref ca)
    (h6 : reRawNat (fs.getD 6 .none) = 0) (h2 : reRawNat (fs.getD 2 .none) = 0) (hoc : s.heap.get? ca = some oc) (hdc : oc.data = .seq cs n) (hs : searchNo ((cs.map reRawOf).map (·.toNat)) x.cps = true) (h : Q (.done (.ret .none)) s) :
    wpAny M A (Builtin.«re.Pattern.search» ⟨[.ref pa, .str x t], []⟩) Q E s := by
  unfold Builtin.«re.Pattern.search» reTarget
  dsimp only
  rw [reNamed_one]
  simp only [pure_bind, bind_assoc]
  refine wpAny_bind (wpAny_fieldsOf ho hd ?_)
  unfold reTextOf asStr?
  simp only [pure_bind]
  rw [h6, h2, h5]
  skip
  simp only [Nat.reduceBEq, Bool.false_and, Bool.and_false, Bool.false_eq_true, if_false, pure_bind]
  unfold reNoCollectionInside
  simp only [Nat.reduceBEq, Bool.false_eq_true, if_false, pure_bind]
  unfold reRawItems
  simp only [bind_assoc]
  refine wpAny_bind (wpAny_seqItems hoc hdc ?_)
  simp only [pure_bind, Option.getD_some]
  unfold reAnswer
  dsimp only
  unfold searchNo at hs
  split at hs
  · rename_i m' e
    refine wpAny_bind (runToEnd_failed (n := 400) (by decide) (m' := m') ?_ hs ?_)
    · rw [← e]; rfl
    · exact wpAny_pure h
  · cases hs
end
end UK
end
section
namespace UK
open PySem PySem.W PySem.Calls PyProof.Rows PySem.SeqAt
noncomputable def rxName (nm : Bool) : Str := if nm then "_name_disallowed_re" else "_value_disallowed_re"
inductive ConvBody : List Stmt → Prop
  | mk (p1 p2 p3 p4 p5 p6 p7 p8 p9 p10 p11 p12 p13 p14 p15 p16 p17 p18 p19 : Pos) (B rest : List Stmt) (hl : (p13.endLine == p15.line) = true) : ConvBody (
    .If (.Compare (.Call (.Name ("type" : Str) p1) [.Name ("value" : Str) p2] [] p3) [.Is] [.Name ("str" : Str) p4] p5)
      [.Assign [.Name ("regex" : Str) p6] (.IfExp (.Name ("name" : Str) p7) (.Name ("_name_disallowed_re" : Str) p8) (.Name ("_value_disallowed_re" : Str) p9) p10) p11,
       .If (.Call (.Attribute (.Name ("regex" : Str) p12) ("search" : Str) p13) [.Name ("value" : Str) p14] [] p15) B [] p16,
       .Return (some (.Name ("value" : Str) p17)) p18] [] p19 :: rest)
noncomputable def PatFact (G : Gl) (nm : Bool) (code : Array Nat) : Prop :=
  ∃ pa ca o oc fs cs n, G.look (rxName nm) = some (.ref pa) ∧ G.h₀.get? pa = some o ∧ o.cls = .type "re.Pattern" ∧ o.dict = none ∧ o.data = .fields fs ∧ fs.getD 5 .none = .ref ca ∧
    Builtin.Re.reRawNat (fs.getD 6 .none) = 0 ∧ Builtin.Re.reRawNat (fs.getD 2 .none) = 0 ∧ G.h₀.get? ca = some oc ∧ oc.data = .seq cs n ∧ (cs.map Builtin.Re.reRawOf).map (·.toNat) = code
structure FunAt (G : Gl) (fc : Addr) (o : Obj) (fd : FuncData) (xs : List Stmt) (as : List Arg) (ks : List Arg) (kd : List (Option Expr)) (dd : List Expr) : Prop where
  at' : G.h₀.get? fc = some o
  cls : o.cls = .type "function"
  dat : o.data = .func fd
  gl : fd.globals = mainGlobals
  bi : fd.builtins = builtinsNs
  clo : fd.closure = []
  bd : fd.body = .stmts xs
  cd : G.h₀.CodeRec fd.code fd.qualname
  kind : fd.scope.kind = .function
  co : fd.scope.isCoroutine = false
  gen : fd.scope.isGenerator = false
  par : fd.params = ⟨[], as, none, ks, kd, none, dd⟩
noncomputable def locN (fd : FuncData) (xs : List Str) : Prop := ∀ x, x ∈ xs → fd.scope.names.lookup x = some .local
noncomputable def gloN (fd : FuncData) (xs : List Str) : Prop := ∀ x, x ∈ xs → fd.scope.names.lookup x = some .globalImplicit
structure ConvAt (G : Gl) (fc : Addr) (o : Obj) (fd : FuncData) (xs : List Stmt) (a1 a2 a3 : Arg) (kd : List (Option Expr)) : Prop where
  fn : FunAt G fc o fd xs [a1, a2] [a3] kd []
  n1 : a1.arg = ("self" : Str)
  n2 : a2.arg = ("value" : Str)
  n3 : a3.arg = ("name" : Str)
  df : fd.defaults = .none
  kw : fd.kwdefaults = .none
  body : ConvBody xs
  lo : locN fd [("self" : Str), ("value" : Str), ("name" : Str), ("regex" : Str)]
  gn : gloN fd [("type" : Str), ("str" : Str), ("_name_disallowed_re" : Str), ("_value_disallowed_re" : Str)]
structure ConvFact (G : Gl) (code : Bool → Array Nat) (fc : Addr) : Prop where
  ex : ∃ o fd xs a1 a2 a3 kd, ConvAt G fc o fd xs a1 a2 a3 kd
  ty : G.look ("type" : Str) = some (.type "type")
  st : G.look ("str" : Str) = some (.type "str")
  pat : ∀ nm, PatFact G nm (code nm)
section
variable {G : Gl} {C : Ct} {A : Around} {env : Env} {cx : Cx} {w : Wd} {loc : Loc} {led led' : Led} {s : Shared}
theorem conv_bind {fd : FuncData} {a1 a2 a3 : Arg} {kd : List (Option Expr)} {sv xv nv : Value} (hp : fd.params = ⟨[], [a1, a2], none, [a3], kd, none, []⟩) (h1 : a1.arg = ("self" : Str)) (h2 : a2.arg = ("value" : Str)) (h3 : a3.arg = ("name" : Str))
    (hd : fd.defaults = .none) (hk : fd.kwdefaults = .none) : bindArgs fd ⟨[sv, xv], [(("name" : Str), nv)]⟩ = pure [(("self" : Str), sv), (("value" : Str), xv), (("name" : Str), nv)] := by
  obtain ⟨n1, an1, ps1⟩ := a1
  obtain ⟨n2, an2, ps2⟩ := a2
  obtain ⟨n3, an3, ps3⟩ := a3
  dsimp only at h1 h2 h3
  subst h1; subst h2; subst h3
  unfold bindArgs
  rw [hp, hd]
  kernel_rfl
structure Fm (G : Gl) (fd : FuncData) (env : Env) (s₀ : Shared) : Prop where
  sc : env.scope = fd.scope
  kind : fd.scope.kind = .function
  gl : env.globals = mainGlobals
  bi : env.builtins = builtinsNs
  ns : G.h₀.Ns mainGlobals G.mg ∧ G.h₀.Ns builtinsNs G.mb
  keep : ∀ b o, G.h₀.get? b = some o → s₀.heap.get? b = some o
section
variable {fd : FuncData} {s₀ : Shared} {m cm : Str → Option Value}
theorem Fm.fn (f : Fm G fd env s₀) : env.scope.kind = .function := by rw [f.sc]; exact f.kind
theorem Fm.k (f : Fm G fd env s₀) {x : Str} {k : NameKind} (h : fd.scope.names.lookup x = some k) : env.kindOf x = some k := by unfold Env.kindOf; rw [f.sc]; exact h
theorem Fm.look (f : Fm G fd env s₀) (x : InCallC s₀ env.locals m env.cells cm s) {xs : List Str} (hx : gloN fd xs) {id : Str} {v : Value} {pos : Pos} {E : Value → Shared → Prop} {Q : Value → Shared → Prop} (hl : id ∈ xs) (hv : G.look id = some v) (hd : (id == ("__debug__" : Str)) = false) (h : Q v s) :
    wpAny (Mo G) A (eval (.Name id pos) env) Q E s := by
  have h1 : s.heap.Ns env.globals G.mg := by rw [f.gl]; exact Ns_get f.ns.1 fun o e => x.toInCall.keep _ o (f.keep _ o e)
  have h2 : s.heap.Ns env.builtins G.mb := by rw [f.bi]; exact Ns_get f.ns.2 fun o e => x.toInCall.keep _ o (f.keep _ o e)
  refine Name_function_global f.fn (f.k (hx _ hl)) ?_ hd
  unfold Gl.look at hv
  cases e : G.mg id with
  | some u => rw [e] at hv; obtain rfl := Option.some.inj hv; exact loadGlobal_global h1 e h
  | none => rw [e] at hv; exact loadGlobal_builtin h1 e h2 hv h
theorem Fm.ld (f : Fm G fd env s₀) (x : InCallC s₀ env.locals m env.cells cm s) {xs : List Str} (hx : locN fd xs) {id : Str} {v : Value} {pos : Pos} {E : Value → Shared → Prop} {Q : Value → Shared → Prop} (hl : id ∈ xs) (hv : m id = some v) (hd : (id == ("__debug__" : Str)) = false) (h : Q v s) :
    wpAny (Mo G) A (eval (.Name id pos) env) Q E s := wpAny_Name (ldLC x f.fn (f.k (hx _ hl)) hv h) hd
end
noncomputable def Kp (s s' : Shared) : Prop := (∀ b o, s.heap.get? b = some o → s'.heap.get? b = some o) ∧ s'.os = s.os ∧ s'.gens = s.gens
theorem kp_of {s₀ s : Shared} {m cm : Str → Option Value} {cs : List (Str × Addr)} {L : Addr} (x : InCallC s₀ L m cs cm s) : Kp s₀ s :=
  ⟨x.toInCall.keep, (by obtain ⟨h, tk, e⟩ := x.toInCall.same; rw [e]; exact ⟨rfl, rfl⟩)⟩
theorem conv_body {code : Bool → Array Nat} {fc : Addr} {x : Str} {t : Tok} {nm : Bool} {o : Obj} {fd : FuncData} {xs : List Stmt} {a1 a2 a3 : Arg} {kd : List (Option Expr)} {s₀ : Shared} {m cm : Str → Option Value} {Q : Flow → Shared → Prop} (H : ConvFact G code fc) (F : ConvAt G fc o fd xs a1 a2 a3 kd) (hs : searchNo (code nm) x.cps = true)
    (f : Fm G fd env s₀) (x1 : InCallC s₀ env.locals m env.cells cm s) (mv : m ("value" : Str) = some (.str x t)) (mn : m ("name" : Str) = some (.bool nm)) (k : ∀ {s3}, Kp s₀ s3 → Q (.ret (.str x t)) s3) :
    wpAny (Mo G) A (execs xs env) Q NoE s := by
  have lo := F.lo
  have gn := F.gn
  obtain ⟨p1, p2, p3, p4, p5, p6, p7, p8, p9, p10, p11, p12, p13, p14, p15, p16, p17, p18, p19, BB, rest, hl⟩ := F.body
  refine wpAny_execs_cons (wpAny_If (wpAny_isTrue_Compare1 (Call_ (f.look x1 gn (.head _) H.ty (by decide +kernel) ?_)) rfl))
  refine PySem.callWith_type rfl (Calls.evalArgs_plain (Calls.spliced_cons (f.ld x1 lo (.tail _ (.head _)) mv (by decide +kernel) (Calls.spliced_nil (call_type_of (typeIs_str _ _ _) (by decide +kernel) ?_)))))
  refine f.look x1 gn (.tail _ (.head _)) H.st (by decide +kernel) (wpAny_is_self (by rfl) (wpAny_truthy_bool ?_))
  rw [if_pos rfl]
  obtain ⟨pa, ca, op, oc, fs, cs, n, g1, g2, g3, g4, g5, g6, g7, g8, g9, g10, g11⟩ := H.pat nm
  refine wpAny_execs_cons (wpAny_Assign_Name (wpAny_IfExp (wpAny_isTrue_value (f.ld x1 lo (.tail _ (.tail _ (.head _))) mn (by decide +kernel) (wpAny_truthy_bool ?_)))) rfl)
  have look : ∀ {Q : Value → Shared → Prop}, Q (.ref pa) s → if nm = true then wpAny (Mo G) A (eval (.Name ("_name_disallowed_re" : Str) p8) env) Q NoE s else wpAny (Mo G) A (eval (.Name ("_value_disallowed_re" : Str) p9) env) Q NoE s := fun h => by
    cases nm with
    | true => exact f.look x1 gn (.tail _ (.tail _ (.head _))) g1 (by decide +kernel) h
    | false => exact f.look x1 gn (.tail _ (.tail _ (.tail _ (.head _)))) g1 (by decide +kernel) h
  refine look ?_
  refine stLC x1 f.fn (f.k (lo _ (.tail _ (.tail _ (.tail _ (.head _)))))) fun s2 x2 => ?_
  have mv2 : (fun y => if y = ("regex" : Str) then some (Value.ref pa) else m y) ("value" : Str) = some (.str x t) := (if_neg (by decide +kernel)).trans mv
  have mr2 : (fun y => if y = ("regex" : Str) then some (Value.ref pa) else m y) ("regex" : Str) = some (.ref pa) := if_pos rfl
  generalize (fun y => if y = ("regex" : Str) then some (Value.ref pa) else m y) = m2 at x2 mv2 mr2
  have hop := x2.toInCall.keep _ _ (f.keep _ _ g2)
  refine wpAny_execs_cons (wpAny_If (wpAny_isTrue_value (wpAny_Call_method_lateS rfl rfl hl (f.ld x2 lo (.tail _ (.tail _ (.tail _ (.head _)))) mr2 (by decide +kernel) ?_))))
  refine ⟨"re.Pattern", "re.Pattern.search", pat_plain, pat_slot, pat_type, ⟨_, hop, g3⟩, fun b e => by cases e; exact ⟨_, hop, g4⟩, ?_⟩
  refine Calls.callWith_builtin rfl (Calls.evalArgs_plain (Calls.spliced_cons (f.ld x2 lo (.tail _ (.head _)) mv2 (by decide +kernel) (Calls.spliced_nil ?_))))
  refine wpAny_call (codeAny_call_builtin pat_slot.plain pat_entry (pat_slot.check _ _ _ _ _ _ _ _ ⟨_, hop, g3⟩ (pat_args _ _) ?_))
  refine search_no hop g5 g6 g7 g8 (x2.toInCall.keep _ _ (f.keep _ _ g9)) g10 (by rw [g11]; exact hs) (truthy_none (wpAny_execs_nil ?_))
  exact wpAny_execs_cons (wpAny_Return_some (f.ld x2 lo (.tail _ (.head _)) mv2 (by decide +kernel) (k (kp_of x2))))
theorem FunAt.fm {fc : Addr} {o : Obj} {fd : FuncData} {xs : List Stmt} {as ks : List Arg} {kd : List (Option Expr)} {dd : List Expr} (H : FunAt G fc o fd xs as ks kd dd) {s₀ : Shared} (gl : G.h₀.Ns mainGlobals G.mg ∧ G.h₀.Ns builtinsNs G.mb) (keep : ∀ b o, G.h₀.get? b = some o → s₀.heap.get? b = some o)
    {L : Addr} {cs : List (Str × Addr)} {q : Str} {f : Option Addr} {cd : Value} (henv : env = newEnv fd.scope L fd.globals cs q f cd none fd.builtins) : Fm G fd env s₀ :=
  ⟨by rw [henv]; rfl, H.kind, by rw [henv]; exact H.gl, by rw [henv]; exact H.bi, gl, keep⟩
theorem conv_call {lev : Nat} {code : Bool → Array Nat} {fc : Addr} {sv : Value} {x : Str} {t : Tok} {nm : Bool} {Q : Value → Shared → Prop} (H : ConvFact G code fc) (B : Base G lev A w led) (hh : Hp G w s) (hs : searchNo (code nm) x.cps = true) (k : ∀ {s3}, Kp s s3 → Q (.str x t) s3) :
    wpAny (Mo G) A (call (.ref fc) [sv, .str x t] [(("name" : Str), .bool nm)]) Q NoE s := by
  obtain ⟨o, fd, xs, a1, a2, a3, kd, F⟩ := H.ex
  have keep0 : ∀ b o, G.h₀.get? b = some o → s.heap.get? b = some o := fun b o e => hh.1 ▸ (B.keep b o e).1
  refine wpAny_call (codeAny_call_function (o := o) (fd := fd) (by have := B.depth; unfold recursionLimit; omega) (keep0 _ _ F.fn.at') F.fn.dat F.fn.co F.fn.gen F.fn.bd (F.fn.cd.keeps keep0) ?_)
  rw [conv_bind F.fn.par F.n1 F.n2 F.n3 F.df F.kw, F.fn.clo]
  refine wpAny_pure (wpAny_newFunctionEnv_cells F.fn.kind (fun y hy => .inl (F.lo _ ?_)) (fun env henv s1 x1 => ?_))
  · simp only [List.mem_cons, List.not_mem_nil, or_false] at hy
    rcases hy with rfl | rfl | rfl
    · exact .head _
    · exact .tail _ (.head _)
    · exact .tail _ (.tail _ (.head _))
  · have f := F.fn.fm B.glob keep0 henv
    have nd : ([(("self" : Str), sv), (("value" : Str), Value.str x t), (("name" : Str), Value.bool nm)].map (·.1)).Nodup := by
      show [("self" : Str), ("value" : Str), ("name" : Str)].Nodup
      decide +kernel
    exact ⟨(B.nolim.keeps keep0).keeps x1.toInCall.keep, codeAny_func (wpAny_mono (conv_body H F hs f x1 (Q := fun f s3 => f = .ret (.str x t) ∧ Kp s s3)
      (bindL_at (kindOf := env.kindOf) (m := fun _ => none) nd (.tail _ (.head _)) (f.k (F.lo _ (.tail _ (.head _))))) (bindL_at (kindOf := env.kindOf) (m := fun _ => none) nd (.tail _ (.tail _ (.head _))) (f.k (F.lo _ (.tail _ (.tail _ (.head _)))))) fun h => ⟨rfl, h⟩)
      (fun f s3 hf => by obtain ⟨rfl, hf⟩ := hf; exact k hf) fun _ _ h => h.elim)⟩
theorem SE.conv {N : Addr} {mN : Str → Option Value} {code : Bool → Array Nat} {fc : Addr} {yb : Option Value} (hC : CA G N mN) (H : ConvFact G code fc) (hf : mN ("_convert_string_type" : Str) = some (.ref fc)) (hB : typeLookup (.type "object") ("_convert_string_type" : Str) = pure yb)
    (hcx : ∀ nm x, cx.conv nm x = true → searchNo (code nm) x.cps = true) {nm : Bool} {o e : E} {y z : Expr} {ap p p1 p2 : Pos} {i : Nat} (hbase : attributeBase y ("_convert_string_type" : Str) env (eval y env) = eval y env) (hline : (ap.endLine == p.line) = true) (hn : noStar z = true)
    (ho : SE G C A env cx o y) (h : SE G C A env cx e z) : SE G C A env cx (.conv nm o e) (.Call (.Attribute y ("_convert_string_type" : Str) ap) [z] [⟨some ("name" : Str), .Constant (.bool nm) i p1, p2⟩] p) := fun {w loc led s K Q} c ev k => by
  obtain ⟨of, fd, xs, a1, a2, a3, kd, F⟩ := H.ex
  have hns : noStars [z] = true := by unfold noStars; rw [List.all_cons, hn]; rfl
  have hform : methodCallForm ([z].length + [(⟨some ("name" : Str), .Constant (.bool nm) i p1, p2⟩ : Keyword)].length) (backTo p (starEach [z] env)) (backToKw p (keywordEach [⟨some ("name" : Str), .Constant (.bool nm) i p1, p2⟩] env)) = true := by
    unfold methodCallForm
    rw [all_plain hns]; rfl
  refine Call_own hC c hbase hform hline hf F.fn.at' F.fn.cls (by decide +kernel) hB ho (bindW ev) (fun e => let ⟨_, _, e⟩ := isW (bindW e); let ⟨_, _, e⟩ := V.strW (bindW e); (gdW e).1.1) fun {r a s1 w1} e1 q1 => ?_
  have c1 := q1.st c
  refine callWith_function_kw (o := of) (fd := fd) ?_
  rw [starEach_cons hn]
  refine evalArgs_kw rfl (Calls.spliced_cons (h c1 (bindW e1) fun {r2 xval s2 w2} e2 q2 => Calls.spliced_nil ?_))
  obtain ⟨x, hx, e3⟩ := V.strW (bindW e2)
  obtain ⟨⟨_, hcv⟩, e4⟩ := gdW e3
  obtain ⟨t, rfl⟩ := q2.val.strV hx
  have c2 := q2.st c1
  refine wpAny_evalAll_cons (wpAny_bind (wpAny_pure (wpAny_bind (wpAny_standAt (wpAny_pure (wpAny_evalAll_nil ⟨⟨c2.kept _ _ F.fn.at', F.fn.dat⟩, ?_⟩))))))
  exact conv_call H c2.conc.base q2.heap (hcx _ _ hcv) fun {s3} kp => k e4 (q1.trans (q2.trans (c2.grown (fun b o e => kp.1 b o (q2.heap.1 ▸ e)) ⟨t, rfl⟩ ⟨kp.2.1.trans q2.heap.2.1, kp.2.2.trans q2.heap.2.2⟩)))
end
end UK
end
section
namespace UK
open PySem PySem.W PySem.Calls PyProof.Rows PySem.SeqAt
inductive InitBody : List Stmt → Prop
  | mk (p1 p2 p3 p4 p5 p6 p7 p8 p9 p10 p11 p12 p13 p14 p15 p16 p17 p18 p19 p20 p21 p22 : Pos) (i j : Nat) (tgt : Expr) (R FB : List Stmt) : InitBody [
    .Assign [.Name ("headers" : Str) p1] (.IfExp (.Compare (.Name ("headers" : Str) p2) [.IsNot] [.Constant .none i p3] p4) (.Name ("headers" : Str) p5) (.List [] p6) p7) p8,
    .If (.Compare (.Call (.Name ("type" : Str) p9) [.Name ("headers" : Str) p10] [] p11) [.IsNot] [.Name ("list" : Str) p12] p13) R [] p14,
    .Assign [.Attribute (.Name ("self" : Str) p15) ("_headers" : Str) p16] (.Name ("headers" : Str) p17) p18,
    .If (.Constant (.bool true) j p19) [.For tgt (.Name ("headers" : Str) p20) FB [] p21] [] p22]
structure InitAt (G : Gl) (fc : Addr) (o : Obj) (fd : FuncData) (xs : List Stmt) (a1 a2 : Arg) (kd : List (Option Expr)) (dd : List Expr) (T : Addr) : Prop where
  fn : FunAt G fc o fd xs [a1, a2] [] kd dd
  n1 : a1.arg = ("self" : Str)
  n2 : a2.arg = ("headers" : Str)
  df : fd.defaults = .ref T
  tp : G.h₀.IsTuple T #[.none]
  body : InitBody xs
  lo : locN fd [("self" : Str), ("headers" : Str)]
  gn : gloN fd [("type" : Str), ("list" : Str)]
structure InitFact (G : Gl) (fi : Addr) : Prop where
  ex : ∃ o fd xs a1 a2 kd dd T, InitAt G fi o fd xs a1 a2 kd dd T
  ty : G.look ("type" : Str) = some (.type "type")
  li : G.look ("list" : Str) = some (.type "list")
structure NewHdr (h h' : Heap) (cls x dx b : Addr) : Prop where
  keep : ∀ a o, h.get? a = some o → h'.get? a = some o
  nb : h.get? b = none
  nx : h.get? x = none
  nd : h.get? dx = none
  lst : IsL h' b #[]
  obj : ∃ o, h'.get? x = some o ∧ o.cls = .ref cls ∧ o.dict = some dx ∧ (∀ c, o.data ≠ .cls c)
  ns : h'.Ns1 dx (hdrM b)
  ne : dx ≠ x ∧ b ≠ x ∧ b ≠ dx
section
variable {G : Gl} {C : Ct} {A : Around} {env : Env} {cx : Cx} {w : Wd} {loc : Loc} {led led' : Led} {s : Shared}
theorem InCallC.grow {s₀ : Shared} {L : Addr} {m cm : Str → Option Value} {cs : List (Str × Addr)} {h h' : Heap} {t t' : Nat} (x : InCallC s₀ L m cs cm { s₀ with heap := h, toks := t }) (k : ∀ b o, h.get? b = some o → h'.get? b = some o) : InCallC s₀ L m cs cm { s₀ with heap := h', toks := t' } :=
  ⟨⟨⟨_, _, rfl⟩, Ns_get x.toInCall.ns (k L), fun b o e => k b o (x.toInCall.keep b o e), x.toInCall.fresh⟩, fun n c hc => let ⟨o, ho, hd⟩ := x.cell n c hc; ⟨o, k c o ho, hd⟩, x.apart, x.above⟩
theorem init_body {fi N : Addr} {mN : Str → Option Value} {o : Obj} {fd : FuncData} {xs : List Stmt} {a1 a2 : Arg} {kd : List (Option Expr)} {dd : List Expr} {T : Addr} {s₀ : Shared} {m cm : Str → Option Value} {x dx : Addr} {Q : Flow → Shared → Prop} (H : InitFact G fi) (F : InitAt G fi o fd xs a1 a2 kd dd T) (hC : CA G N mN)
    (f : Fm G fd env s₀) (nx : s₀.heap.get? x = none) (nd : s₀.heap.get? dx = none) (ne : dx ≠ x) (lx : x < env.locals) (ldx : dx < env.locals) (hhd : A.handled = none)
    (hx : ∃ o, s.heap.get? x = some o ∧ o.cls = .ref G.cls ∧ o.dict = some dx ∧ (∀ c, o.data ≠ .cls c)) (hd : s.heap.Ns1 dx fun _ => none)
    (x1 : InCallC s₀ env.locals m env.cells cm s) (mv : m ("headers" : Str) = some .none) (mn : m ("self" : Str) = some (.ref x)) (kk : ∀ {b s3}, NewHdr s₀.heap s3.heap G.cls x dx b → s3.os = s₀.os → s3.gens = s₀.gens → Q .next s3) :
    wpAny (Mo G) A (execs xs env) Q NoE s := by
  have lo := F.lo
  have gn := F.gn
  obtain ⟨p1, p2, p3, p4, p5, p6, p7, p8, p9, p10, p11, p12, p13, p14, p15, p16, p17, p18, p19, p20, p21, p22, i, j, tgt, R, FB⟩ := F.body
  refine wpAny_execs_cons (wpAny_Assign_Name (wpAny_IfExp (wpAny_isTrue_Compare1 (f.ld x1 lo (.tail _ (.head _)) mv (by decide +kernel) ?_) rfl)) rfl)
  refine wpAny_pure (wpAny_isNot_self (by rfl) (wpAny_truthy_bool ?_))
  rw [if_neg (by decide)]
  rw [arm_eval_List]
  refine wpAny_bind (wpAny_standAt (wpAny_bind (Calls.spliced_nil (wpAny_newList ?_ (by decide)))))
  obtain ⟨h1, tk1, rfl⟩ := x1.toInCall.same
  have xL := InCallC.grow (t' := tk1) x1 fun b o e => Heap.get?_push_of_some { cls := .type "list", data := .seq [].toArray } e
  have hLlt : env.locals < h1.objs.size := x1.toInCall.ns.lt
  generalize hb : h1.objs.size = b at hLlt
  have hbL : IsL (h1.push { cls := .type "list", data := .seq [].toArray }) b #[] := ⟨0, by rw [← hb]; exact Heap.get?_push_size _ rfl⟩
  have nb : s₀.heap.get? b = none := by
    cases q : s₀.heap.get? b with
    | none => rfl
    | some o => exact absurd (Heap.lt_size q) (Nat.not_lt.mpr (Nat.le_trans x1.toInCall.fresh (Nat.le_of_lt hLlt)))
  obtain ⟨ox, hox, hoc, hod, hon⟩ := hx
  have hox1 := Heap.get?_push_of_some { cls := .type "list", data := .seq [].toArray } hox
  have hd1 : (h1.push { cls := .type "list", data := .seq [].toArray }).Ns1 dx fun _ => none := hd.at fun o e => Heap.get?_push_of_some _ e
  generalize h1.push { cls := .type "list", data := .seq [].toArray } = h2 at xL hbL hox1 hd1
  refine wpAny_storeName_local (f.k (lo _ (.tail _ (.head _)))) xL.toInCall.ns (fun h3 hn3 hs3 => ?_) (by rw [f.fn]; rfl)
  have x3 : InCallC s₀ env.locals (fun y => if y = ("headers" : Str) then some (.ref b) else m y) env.cells cm { s₀ with heap := h3, toks := tk1 + 1 } :=
    ⟨⟨⟨_, _, rfl⟩, hn3, fun c o e => hs3.extBut c o (Nat.ne_of_lt (Nat.lt_of_lt_of_le (Heap.lt_size e) xL.toInCall.fresh)) (xL.toInCall.keep c o e), xL.toInCall.fresh⟩,
      fun n c hc => (xL.cell n c hc).sameBut hs3 (Nat.ne_of_gt (xL.above n c (mem_of_lookup hc))), xL.apart, xL.above⟩
  have mv3 : (fun y => if y = ("headers" : Str) then some (Value.ref b) else m y) ("headers" : Str) = some (.ref b) := if_pos rfl
  have mn3 : (fun y => if y = ("headers" : Str) then some (Value.ref b) else m y) ("self" : Str) = some (.ref x) := (if_neg (by decide +kernel)).trans mn
  generalize (fun y => if y = ("headers" : Str) then some (Value.ref b) else m y) = m3 at x3 mv3 mn3
  have hbL3 : IsL h3 b #[] := IsL_get hbL fun o e => hs3.extBut b o (Nat.ne_of_gt hLlt) e
  have hox3 : h3.get? x = some ox := hs3.extBut x _ (Nat.ne_of_lt lx) hox1
  have hd3 : h3.Ns1 dx fun _ => none := hd1.at fun o e => hs3.extBut dx o (Nat.ne_of_lt ldx) e
  have hbx : b ≠ x := fun e => absurd (e ▸ hLlt) (Nat.lt_asymm lx)
  have hbd : b ≠ dx := fun e => absurd (e ▸ hLlt) (Nat.lt_asymm ldx)
  clear hbL hox1 hd1 hox hd hn3 hs3 xL x1 mv mn
  obtain ⟨nn, hbo⟩ := id hbL3
  refine wpAny_execs_cons (wpAny_If (wpAny_isTrue_Compare1 (Call_ (f.look x3 gn (.head _) H.ty (by decide +kernel) ?_)) rfl))
  refine PySem.callWith_type rfl (Calls.evalArgs_plain (Calls.spliced_cons (f.ld x3 lo (.tail _ (.head _)) mv3 (by decide +kernel) (Calls.spliced_nil (call_type_of ⟨_, hbo, rfl⟩ (by decide +kernel) ?_)))))
  refine f.look x3 gn (.tail _ (.head _)) H.li (by decide +kernel) (wpAny_isNot_self (by rfl) (wpAny_truthy_bool ?_))
  rw [if_neg (by decide)]
  refine wpAny_execs_nil ?_
  refine wpAny_execs_cons (plainObj_wpAny_Assign_Attribute (f.ld x3 lo (.tail _ (.head _)) mv3 (by decide +kernel) ?_) rfl)
  refine f.ld x3 lo (.head _) mn3 (by decide +kernel) ?_
  obtain ⟨nm, q, bs, sn, sub, col, dd, k0, k1, k2, k3, k5', hCo⟩ := hC.at'.obj
  have hCo3 := x3.toInCall.keep _ _ (f.keep _ _ hCo)
  have hN3 : h3.Ns N mN := Ns_get hC.at'.ns fun o e => x3.toInCall.keep _ o (f.keep _ o e)
  have hxC : x ≠ G.cls := fun e => by rw [e, f.keep _ _ hCo] at nx; exact nomatch nx
  refine store_attr (mA := fun _ => none) (ns := []) PySem.F.store_object hCo3 hN3 hC.sa hC.hd obj_headers hxC ⟨ox, hox3, hoc, hon, .inr ⟨dx, hod, ne, hd3⟩⟩ (fun h4 tk4 I4 hk4 hsame4 => ?_) Within.nil (by decide)
  have kp : ∀ {c o}, c ≠ x → c ≠ dx → h3.get? c = some o → h4.get? c = some o := fun {c o} e1 e2 e => hk4 c o e1 (fun o₀ d' e₀ ed => by
    obtain rfl := Option.some.inj (hox3.symm.trans e₀)
    obtain rfl := Option.some.inj (hod.symm.trans ed)
    exact e2) e
  have x4 : InCallC s₀ env.locals m3 env.cells cm { s₀ with heap := h4, toks := tk4 } :=
    ⟨⟨⟨_, _, rfl⟩, Ns_get x3.toInCall.ns fun o e => kp (Nat.ne_of_gt lx) (Nat.ne_of_gt ldx) e, fun c o e => kp (fun q => nomatch (q ▸ nx).symm.trans e) (fun q => nomatch (q ▸ nd).symm.trans e) (x3.toInCall.keep c o e), x3.toInCall.fresh⟩,
      fun n c hc => (let ⟨o, ho, hd⟩ := x3.cell n c hc; have lc := x3.above n c (mem_of_lookup hc); ⟨o, kp (fun q => absurd (q ▸ lc) (Nat.lt_asymm lx)) (fun q => absurd (q ▸ lc) (Nat.lt_asymm ldx)) ho, hd⟩), x3.apart, x3.above⟩
  have hbL4 : IsL h4 b #[] := IsL_get hbL3 fun o e => kp hbx hbd e
  obtain ⟨o4, ho4, hc4, hn4, hdict4⟩ := I4
  obtain ⟨o1, ho1, _, _, _, hdd⟩ := hsame4 ox hox3
  obtain rfl := Option.some.inj (ho4.symm.trans ho1)
  have hd4 := hdd dx hod
  have ns4 : h4.Ns1 dx (hdrM b) := by
    rcases hdict4 with ⟨e, _⟩ | ⟨d', e, _, hns⟩
    · exact nomatch hd4.symm.trans e
    · obtain rfl := Option.some.inj (hd4.symm.trans e); exact hns
  clear hk4 hsame4 hdict4 hbo hbL3 hox3 hd3 hCo3 hN3 x3 ho1 hdd
  refine wpAny_execs_cons (wpAny_If (wpAny_isTrue_value ?_))
  refine wpAny_pure (wpAny_truthy_bool ?_)
  rw [if_pos rfl]
  refine wpAny_execs_cons (wpAny_For (f.ld x4 lo (.tail _ (.head _)) mv3 (by decide +kernel) ?_))
  refine wpAny_pyIter_list hbL4.list ?_
  refine codeAny_forLoop_any (fun _ s' => s' = { s₀ with heap := h4.push { cls := .type "list_iterator", data := .fields #[.ref b, .int 0 0] }, toks := tk4 }) (fun _ s' hs' => ?_) 0 rfl
  subst hs'
  have hit : (h4.push { cls := .type "list_iterator", data := .fields #[.ref b, .int 0 0] }).IsListIter h4.objs.size b 0 := ⟨_, Heap.get?_push_size _ rfl, rfl, rfl⟩
  have hbL5 : IsL (h4.push { cls := .type "list_iterator", data := .fields #[.ref b, .int 0 0] }) b #[] := IsL_get hbL4 fun o e => Heap.get?_push_of_some _ e
  refine wpAny_pyNext_list_end hhd hit hbL5.list rfl fun h6 hs6 => ?_
  have fin : ∀ {a o}, h4.get? a = some o → h6.get? a = some o := fun {a o} e => hs6 a o (Nat.ne_of_lt (Heap.lt_size e)) (Heap.get?_push_of_some _ e)
  exact wpAny_execs_nil (wpAny_execs_nil (wpAny_execs_nil (kk (b := b) ⟨fun a o e => fin (x4.toInCall.keep a o e), nb, nx, nd, IsL_get hbL4 fun o e => fin e, ⟨o4, fin ho4, hc4, hd4, hn4⟩, ns4.at fun o e => fin e, ne, hbx, hbd⟩ rfl rfl)))
theorem callWith_cls0 {p : Program} {W : World} {E : Value → Shared → Prop} {h₀ : Heap} {cls N : Addr} {mN : Str → Option Value} {pos : Pos} {Q : Value → Shared → Prop} (X : ClsAt h₀ cls N mN) (keep : ∀ b o, h₀.get? b = some o → s.heap.get? b = some o)
    (h : wpAny (model p W) A (call (.ref cls) []) Q E s) : wpAny (model p W) A (callWith pos (.ref cls) [] [] []) Q E s := by
  unfold callWith
  refine wpAny_bind (wpAny_holding (evalArgs_kw_nil rfl (wpAny_evalAll_nil ?_)))
  obtain ⟨hh, g, d, t, os⟩ := s
  obtain ⟨nm, q, bs, sn, sub, col, dd, k0, k1, k2, k3, k5, hC⟩ := (X.keeps keep).obj
  have f1 := tc_lookup
  have hT : (⟨hh, g, d, t, os⟩ : Shared).TypeIs (.ref cls) "type" := ⟨_, hC, rfl⟩
  refine wpAny_bind (wpAny_standAt ?_)
  have K : wpAny (model p W) A (keeperOf (.ref cls)) (fun k s' => k = .machine ∧ s' = ⟨hh, g, d, t, os⟩) E ⟨hh, g, d, t, os⟩ := by
    unfold keeperOf specialOf
    repeat (any_goals (first | assumption | with_reducible refine wpAny_loadPart_at hC ?_ | with_reducible refine wpAny_load' hC ?_ | wp_step))
    rw [if_pos (by rfl)]
    first
      | exact wpAny_pure ⟨rfl, rfl⟩
      | exact ⟨rfl, rfl⟩
  show wpAny _ _ (keeperOf (.ref cls) >>= _) _ _ _
  refine wpAny_bind (wpAny_mono K (fun k s' hk => ?_) fun _ _ x => x)
  obtain ⟨rfl, rfl⟩ := hk
  show wpAny _ _ (call (.ref cls) [] [] >>= fun r => do holding [r] point; pure r) _ _ _
  exact wpAny_bind (wpAny_mono h (fun r s' hr => wpAny_bind (wpAny_holding (wpAny_point (wpAny_pure hr)))) fun _ _ x => x)
theorem init_call {fi N : Addr} {mN : Str → Option Value} {x dx : Addr} {h' : Heap} {g : Array GenState} {d : Drawn} {t : Nat} {os : OsState} {Q : Value → Shared → Prop} (H : InitFact G fi) (hC : CA G N mN) (hdep : A.depth < recursionLimit) (hhd : A.handled = none)
    (keep0 : ∀ b o, G.h₀.get? b = some o → s.heap.get? b = some o) (gl : G.h₀.Ns mainGlobals G.mg ∧ G.h₀.Ns builtinsNs G.mb) (hnl : G.h₀.NoLimit) (Mk : Heap.MadeObj s.heap h' x dx G.cls) (hs : ∃ tk, s = ⟨s.heap, g, d, tk, os⟩)
    (kk : ∀ {b s3}, NewHdr s.heap s3.heap G.cls x dx b → s3.os = s.os → s3.gens = s.gens → Q .none s3) :
    wpAny (Mo G) A (call (.ref fi) [.ref x]) Q NoE ⟨h', g, d, t, os⟩ := by
  obtain ⟨o, fd, xs, a1, a2, kd, dd, T, F⟩ := H.ex
  have keep1 : ∀ b o, G.h₀.get? b = some o → h'.get? b = some o := fun b o e => Mk.keeps b o (keep0 b o e)
  have par := F.fn.par
  refine wpAny_call (codeAny_call_function (o := o) (fd := fd) hdep (keep1 _ _ F.fn.at') F.fn.dat F.fn.co F.fn.gen F.fn.bd (F.fn.cd.keeps keep1) ?_)
  refine bindsTo_plain (s := ⟨h', g, d, t, os⟩) (fd := fd) (vals := [.ref x]) (kwm := fun _ => none) (dv := [.none]) par (.inr ⟨T, F.df, IsTuple_get F.tp fun o => keep1 _ o⟩) (fun n h => Bool.noConfusion h)
    (fun n h => nomatch h) (Nat.le_succ 1) (Nat.le_refl 2) (Nat.le_succ 1) _ _ _ _ ?_
  have hb : bindsOf ([a1, a2].map (·.arg)) (([] : List Arg).map (·.arg)) [Value.ref x] [Value.none] (fun _ => none) = [(("self" : Str), Value.ref x), (("headers" : Str), Value.none)] := by
    show bindsOf [a1.arg, a2.arg] [] _ _ _ = _
    rw [F.n1, F.n2]
    kernel_rfl
  rw [hb, F.fn.clo]
  refine wpAny_newFunctionEnv_cells F.fn.kind (fun y hy => .inl (F.lo _ ?_)) (fun env henv s1 x1 => ?_)
  · simp only [List.mem_cons, List.not_mem_nil, or_false] at hy
    rcases hy with rfl | rfl
    · exact .head _
    · exact .tail _ (.head _)
  · have f := F.fn.fm gl keep0 henv
    have hloc : env.locals = h'.objs.size := by rw [henv]; rfl
    have nd : ([(("self" : Str), Value.ref x), (("headers" : Str), Value.none)].map (·.1)).Nodup := by
      show [("self" : Str), ("headers" : Str)].Nodup
      decide +kernel
    refine ⟨(hnl.keeps keep1).keeps x1.toInCall.keep, codeAny_func ?_⟩
    obtain ⟨ox, hox, hoc, hon, hdict⟩ := Mk.inst
    have hod := Mk.dict ox hox
    have hnd : dx ≠ x ∧ h'.Ns1 dx fun _ => none := by
      rcases hdict with ⟨e, _⟩ | ⟨d', e, e1, e2⟩
      · exact nomatch hod.symm.trans e
      · obtain rfl := Option.some.inj (hod.symm.trans e); exact ⟨e1, e2⟩
    have x2 : InCallC s env.locals (bindL env.kindOf [(("self" : Str), Value.ref x), (("headers" : Str), Value.none)] fun _ => none) env.cells (bindC env.kindOf [(("self" : Str), Value.ref x), (("headers" : Str), Value.none)] fun _ => none) s1 :=
      ⟨⟨(let ⟨h2, tk2, e⟩ := x1.toInCall.same; let ⟨tk, e2⟩ := hs; ⟨h2, tk2, by rw [e, e2]⟩), x1.toInCall.ns, fun b o e => x1.toInCall.keep b o (Mk.keeps b o e), Nat.le_trans Mk.grows (by rw [hloc]; exact Nat.le_refl _)⟩, x1.cell, x1.apart, x1.above⟩
    exact wpAny_mono (init_body (Q := fun f s' => f = .next ∧ Q .none s') H F hC f Mk.newX Mk.newD hnd.1 (by rw [hloc]; exact Heap.lt_size hox) (by rw [hloc]; exact hnd.2.lt) hhd
      ⟨ox, x1.toInCall.keep _ _ hox, hoc, hod, hon⟩ (hnd.2.at fun o e => x1.toInCall.keep _ o e) x2
      (bindL_at (kindOf := env.kindOf) (m := fun _ => none) nd (.tail _ (.head _)) (f.k (F.lo _ (.tail _ (.head _))))) (bindL_at (kindOf := env.kindOf) (m := fun _ => none) nd (.head _) (f.k (F.lo _ (.head _)))) fun h1 h2 h3 => ⟨rfl, kk h1 h2 h3⟩)
      (fun f s3 hf => by obtain ⟨rfl, hf⟩ := hf; exact hf) fun _ _ h => h.elim
theorem SE.newH {fi N : Addr} {mN : Str → Option Value} {id : Str} {p pos : Pos} (hC : CA G N mN) (H : InitFact G fi) (hi : mN ("__init__" : Str) = some (.ref fi)) (hk : env.kindOf id = some .globalImplicit) (hv : G.look id = some (.ref G.cls)) (hd : (id == ("__debug__" : Str)) = false) :
    SE G C A env cx .newH (.Call (.Name id p) [] [] pos) := fun {w loc led s K Q} c e k => by
  refine Call_ (global_name c hk hv hd (callWith_cls0 hC.at' c.kept ?_))
  have keep0 := c.kept
  have hh := c.heap
  have cc := c.conc
  obtain ⟨h, g, d, t, os⟩ := s
  obtain rfl : w.h = h := hh.1
  obtain ⟨nm, q, bs, sn, sub, col, dd, k0, k1, k2, k3, k5, hCo⟩ := (hC.at'.keeps keep0).obj
  obtain ⟨of, _, _, _, _, _, _, _, F⟩ := H.ex
  refine wpAny_call_obj_init PySem.F.objNew hCo (hC.at'.keeps keep0).ns hi (keep0 _ _ F.fn.at') F.fn.cls fun h' x dx Mk => ?_
  refine init_call (s := ⟨w.h, g, d, t, os⟩) H hC (by
      have := cc.depth
      show A.depth + 1 < recursionLimit
      unfold recursionLimit; omega) cc.handled keep0 cc.glob cc.nolim Mk ⟨t, rfl⟩ fun {b s'} X rs1 rs2 => ?_
  have S : Stp w ⟨s'.heap, w.own, w.prot, w.ads ++ [b]⟩ := Stp.new X.keep X.nb
  have stn : ∀ {a}, w.h.get? a = none → a ≠ b → Wd.st ⟨s'.heap, w.own, w.prot, w.ads ++ [b]⟩ a := fun ha hab =>
    have f := fresh_st cc ha
    ⟨f.1, f.2.1, fun m => (List.mem_append.mp m).elim f.2.2 fun m => hab (mem1 m)⟩
  obtain ⟨o, e1, e2, e3, e4⟩ := X.obj
  have p0 := PostE.new (s' := s') (o := .list []) cc X.keep X.nb ⟨#[], X.lst, trivial⟩ ⟨rs1.trans hh.2.1, rs2.trans hh.2.2⟩
  obtain ⟨a0, ha0, h0⟩ := p0.val
  obtain rfl : b = a0 := Value.ref.inj ha0
  exact ⟨rfl, k e ⟨p0.heap, p0.stp, p0.led, p0.nd, x, b, rfl, ⟨o, dx, e1, e2, e3, e4, stn X.nx (Ne.symm X.ne.2.1), X.ne.1, X.ns, stn X.nd (Ne.symm X.ne.2.2)⟩, h0⟩⟩
end
end UK
end
section
namespace UK
open PySem PySem.W PySem.Calls PyProof.Rows PySem.SeqAt
noncomputable abbrev Fr0 := List (Addr × Obj)
noncomputable def at? (K : Fr0) (a : Addr) : Option Obj := K.lookup a
theorem at_in {K : Fr0} {h : Heap} (hin : ∀ p ∈ K, h.get? p.1 = some p.2) {a : Addr} {o : Obj} (e : at? K a = some o) : h.get? a = some o := hin (a, o) (lookup_mem' (l := K) e)
noncomputable def fnChk (T : Tb) (nms : List Str) (lev : Nat) (fn : Fn) (fd : FuncData) (xs : List Stmt) : Bool :=
  decide (fd.globals = mainGlobals) && (decide (fd.builtins = builtinsNs) && (fd.closure.isEmpty && (decide (fd.scope.kind = .function) && (!fd.scope.isCoroutine && (!fd.scope.isGenerator &&
  (fd.params.posonlyargs.isEmpty && (fd.params.vararg.isNone && (fd.params.kwarg.isNone &&
  ((fd.params.args.map (·.arg) == fn.params.map fun x => nms.getD x Str.empty) && ((fd.params.kwonlyargs.map (·.arg) == fn.kw.map fun p => nms.getD p.1 Str.empty) &&
  (((fn.params ++ fn.kw.map (·.1)).all fun x => decide (x < nms.length) && (fd.scope.names.lookup (nms.getD x Str.empty) == some .local || fd.scope.names.lookup (nms.getD x Str.empty) == some .cell)) &&
  (decide ((fn.params ++ fn.kw.map (·.1)).Nodup) && ((fd.scope.names.all fun p => p.2 != .free) && isSs T ⟨nms, lev⟩ fd.scope fn.body xs)))))))))))))
section
variable {G : Gl} {C : Ct} {A : Around} {cx : Cx} {T : Tb} {fa : Nat → Addr} {b3a b1a N : Addr} {mN : Str → Option Value}
theorem fnChk_hd {nms : List Str} {lev : Nat} {fn : Fn} {fd : FuncData} {xs : List Stmt} (h : fnChk T nms lev fn fd xs = true) : FnHd nms fn fd ∧ isSs T ⟨nms, lev⟩ fd.scope fn.body xs = true := by
  obtain ⟨c1, h⟩ := andB h
  obtain ⟨c2, h⟩ := andB h
  obtain ⟨c3, h⟩ := andB h
  obtain ⟨c4, h⟩ := andB h
  obtain ⟨c5, h⟩ := andB h
  obtain ⟨c6, h⟩ := andB h
  obtain ⟨c7, h⟩ := andB h
  obtain ⟨c8, h⟩ := andB h
  obtain ⟨c9, h⟩ := andB h
  obtain ⟨c10, h⟩ := andB h
  obtain ⟨c11, h⟩ := andB h
  obtain ⟨c12, h⟩ := andB h
  obtain ⟨c13, h⟩ := andB h
  obtain ⟨c14, h⟩ := andB h
  exact ⟨⟨of_decide_eq_true c1, of_decide_eq_true c2, emptyB c3, of_decide_eq_true c4, notB c5, notB c6, emptyB c7, Option.isNone_iff_eq_none.mp c8, Option.isNone_iff_eq_none.mp c9, eq_of_beq c10, eq_of_beq c11,
    fun hx => have r := andB (List.all_eq_true.mp c12 _ hx); ⟨of_decide_eq_true r.1, (orB r.2).imp eq_of_beq eq_of_beq⟩, of_decide_eq_true c13, fun hx => bne_iff_ne.mp (List.all_eq_true.mp c14 _ hx)⟩, h⟩
theorem FnFact.of {K : Fr0} {nms : List Str} {fn : Fn} {a c : Addr} {o oc : Obj} {fd : FuncData} {xs : List Stmt} {vs : Array Value} {dv : List Value} {kwm : Str → Option Value} {t : Tok} (H : Facts T G fa b3a b1a N mN cx) (hin : ∀ p ∈ K, G.h₀.get? p.1 = some p.2)
    (ho : at? K a = some o) (hcls : o.cls = .type "function") (hd : o.data = .func fd) (hb : fd.body = .stmts xs) (hc : fd.code = .ref c) (hoc : at? K c = some oc) (hdc : oc.data = .fields vs) (hq : vs[1]? = some (.str fd.qualname t))
    (hchk : ∀ lev, fnChk T nms lev fn fd xs = true)
    (hdef : (fd.defaults = .none ∧ dv = []) ∨ ∃ T, fd.defaults = .ref T ∧ G.h₀.IsTuple T dv.toArray) (hdv : ∀ {w : Wd}, DRs w fn.dflt dv) (hdl : dv.length ≤ fn.params.length)
    (hkd : ∀ n, (kwm n).isSome = true → ∃ d m, fd.kwdefaults = .ref d ∧ G.h₀.Ns d m ∧ m n = kwm n) (hkv : ∀ {p}, p ∈ fn.kw → ∃ v, kwm (nms.getD p.1 Str.empty) = some v ∧ ∀ {w : Wd}, DR w p.2 v) : FnFact G nms fa cx fn a :=
  have hd0 := (fnChk_hd (hchk 0)).1
  ⟨o, fd, xs, dv, kwm, {
    at' := at_in hin ho
    cls := hcls
    dat := hd
    hd := hd0
    bd := hb
    cd := ⟨c, oc, vs, t, hc, at_in hin hoc, hdc, hq⟩
    df := hdef
    dr := hdv
    dl := hdl
    kd := hkd
    kv := hkv
    run := fun {lev A env F own} hsc hfl hF => isSs_sound (A := A) (mu := fn.mu) (C := ⟨nms, lev⟩) H hF hfl (by rw [hsc]; exact hd0.kind) fn.body (by rw [hsc]; exact (fnChk_hd (hchk lev)).2) }⟩
end
end UK
end
section
namespace uk0030_01
open PySem PySem.W UK
noncomputable def m1f0 : Fn := ⟨[0, 1, 2], [], [], [], [
    .delh (.name 0) (.name 1),
    .expr (.meth .append (.attrH (.name 0)) [(.tuple [(.conv true (.name 0) (.name 1)), (.conv false (.name 0) (.name 2))])])]⟩
noncomputable def m1f1 : Fn := ⟨[0, 1], [], [], [], [
    .assign (.name 1) (.conv true (.name 0) (.meth .lower (.name 1) [])),
    .slset (.attrH (.name 0)) (.comp (.name 3) (.name 3) .e [(.attrH (.name 0))] [(.cmp (.meth .lower (.index (.name 3) (.lit (.int 0))) []) .ne (.name 1))] [1])]⟩
noncomputable def m1f2 : Fn := ⟨[0, 1, 6], [.none], [], [], [
    .assign (.name 1) (.conv true (.name 0) (.meth .lower (.name 1) [])),
    .for (.tup [(.name 4), (.name 5)]) .e [(.attrH (.name 0))] [.ite (.cmp (.meth .lower (.name 4) []) .eq (.name 1)) [.ret (.name 5)] []],
    .ret (.name 6)]⟩
noncomputable def m1f3 : Fn := ⟨[0], [], [], [], [
    .ret (.slice (.attrH (.name 0)) (.lit .none) (.lit .none) (.lit .none))]⟩
noncomputable def m1f4 : Fn := ⟨[0, 1, 7], [], [], [], [.stuck]⟩
noncomputable def m1f5 : Fn := ⟨[0, 1], [], [], [], [.stuck]⟩
noncomputable def m1f6 : Fn := ⟨[0], [], [], [], [
    .ret (.comp (.name 5) (.tup [(.name 4), (.name 5)]) .e [(.attrH (.name 0))] [] [])]⟩
noncomputable def m1f7 : Fn := ⟨[8, 9], [], [], [10], [
    .ite (.cmp .dots .notin (.name 8)) [.ret (.cmp (.name 8) .eq (.name 9))] [],
    .assign (.name 10) (.meth .split (.name 8) [.dots]),
    .assert (.cmp (.bi .len [(.name 10)]) .ge (.lit (.int 2))),
    .assign (.tup [(.name 11), (.name 12)]) (.tuple [(.lit (.int 0)), (.bi .len [(.name 9)])]),
    .assign (.name 13) (.index (.name 10) (.lit (.int 0))),
    .ite (.name 13) [.ite (.meth .startswith (.name 9) [(.name 13)]) [.assign (.name 11) (.bi .len [(.name 13)]), .delx 10 (.lit (.int 0))] [.ret (.lit (.bool false))]] [],
    .assign (.name 13) (.index (.name 10) (.neg (.lit (.int 1)))),
    .ite (.name 13) [.ite (.meth .endswith (.name 9) [(.name 13)]) [.aug 12 .sub (.bi .len [(.name 13)]), .delx 10 (.neg (.lit (.int 1)))] [.ret (.lit (.bool false))]] [],
    .ite (.cmp (.name 11) .gt (.name 12)) [.ret (.lit (.bool false))] [],
    .for (.name 13) .e [(.name 10)] [.assign (.name 11) (.meth .find (.name 9) [(.name 13), (.name 11), (.name 12)]), .ite (.cmp (.name 11) .lt (.lit (.int 0))) [.ret (.lit (.bool false))] [], .aug 11 .add (.bi .len [(.name 13)])],
    .ret (.lit (.bool true))]⟩
noncomputable def m1f8 : Fn := ⟨[16, 17, 15, 18], [(.int 0), .none], [(14, .none)], [], [
    .ite (.cmp (.name 14) .is (.lit .none)) [.assign (.name 15) (.call 9 [(.name 16), (.name 17), (.name 15), (.name 18)])] [.stuck],
    .expr (.meth .insert (.name 16) [(.name 15), (.name 17)])]⟩
noncomputable def m1f9 : Fn := ⟨[16, 17, 15, 18], [(.int 0), .none], [(14, .none)], [], [
    .ite (.cmp (.name 15) .lt (.lit (.int 0))) [.stuck] [],
    .ite (.cmp (.name 18) .is (.lit .none)) [.assign (.name 18) (.bi .len [(.name 16)])] [],
    .ite (.cmp (.name 14) .is (.lit .none)) [.while (.cmp (.name 15) .lt (.name 18)) [.assign (.name 19) (.bin .fdiv (.bin .add (.name 15) (.name 18)) (.lit (.int 2))), .ite (.cmp (.name 17) .lt (.index (.name 16) (.name 19))) [.assign (.name 18) (.name 19)] [.assign (.name 15) (.bin .add (.name 19) (.lit (.int 1)))]]] [.while (.cmp (.name 15) .lt (.name 18)) [.assign (.name 19) (.bin .fdiv (.bin .add (.name 15) (.name 18)) (.lit (.int 2))), .stuck]],
    .ret (.name 15)]⟩
noncomputable def m1f10 : Fn := ⟨[16, 17, 15, 18], [(.int 0), .none], [(14, .none)], [], [
    .ite (.cmp (.name 15) .lt (.lit (.int 0))) [.stuck] [],
    .ite (.cmp (.name 18) .is (.lit .none)) [.assign (.name 18) (.bi .len [(.name 16)])] [],
    .ite (.cmp (.name 14) .is (.lit .none)) [.while (.cmp (.name 15) .lt (.name 18)) [.assign (.name 19) (.bin .fdiv (.bin .add (.name 15) (.name 18)) (.lit (.int 2))), .ite (.cmp (.index (.name 16) (.name 19)) .lt (.name 17)) [.assign (.name 15) (.bin .add (.name 19) (.lit (.int 1)))] [.assign (.name 18) (.name 19)]]] [.while (.cmp (.name 15) .lt (.name 18)) [.assign (.name 19) (.bin .fdiv (.bin .add (.name 15) (.name 18)) (.lit (.int 2))), .stuck]],
    .ret (.name 15)]⟩
noncomputable def m1f11 : Fn := ⟨[20], [], [], [], [
    .ret (.inB1 (.bi .ord [(.name 20)]))]⟩
noncomputable def m1f12 : Fn := ⟨[20], [], [], [], [
    .assign (.name 21) (.b3get (.bi .ord [(.name 20)])),
    .ite (.cmp (.name 21) .isnot (.lit .none)) [.ret (.name 21)] [],
    .ret (.meth .lower (.name 20) [])]⟩
noncomputable def m1f13 : Fn := ⟨[], [], [], [], [
    .ret (.list [(.lit (.str ⟨#[102, 102, 102]⟩)), (.lit (.str ⟨#[102, 102, 105]⟩)), (.lit (.str ⟨#[102, 102, 108]⟩)), (.lit (.str ⟨#[102, 105, 105]⟩)), (.lit (.str ⟨#[102, 105, 108]⟩)), (.lit (.str ⟨#[102, 108, 108]⟩)), (.lit (.str ⟨#[105, 105, 105]⟩)), (.lit (.str ⟨#[105, 105, 108]⟩)), (.lit (.str ⟨#[105, 108, 108]⟩)), (.lit (.str ⟨#[108, 108, 108]⟩))])]⟩
noncomputable def m1f14 : Fn := ⟨[4], [], [], [], [
    .ite (.cmp (.name 4) .lt (.lit (.int 11))) [.ret (.bi .chr [(.index (.list [(.lit (.int 173)), (.lit (.int 847)), (.lit (.int 6150)), (.lit (.int 6155)), (.lit (.int 6156)), (.lit (.int 6157)), (.lit (.int 8203)), (.lit (.int 8204)), (.lit (.int 8205)), (.lit (.int 8288)), (.lit (.int 65279))]) (.name 4))])] [],
    .ret (.bi .chr [(.bin .add (.lit (.int 65013)) (.name 4))])]⟩
noncomputable def m1f15 : Fn := ⟨[4], [], [], [], [
    .ret (.bi .chr [(.index (.list [(.lit (.int 172)), (.lit (.int 174)), (.lit (.int 846)), (.lit (.int 848)), (.lit (.int 6149)), (.lit (.int 6151)), (.lit (.int 6154)), (.lit (.int 6158)), (.lit (.int 8202)), (.lit (.int 8206)), (.lit (.int 8287)), (.lit (.int 8289)), (.lit (.int 65278)), (.lit (.int 65280)), (.lit (.int 65023)), (.lit (.int 65040))]) (.name 4))])]⟩
noncomputable def m1f16 : Fn := ⟨[22, 4], [], [], [], [
    .ite (.cmp (.name 4) .eq (.lit (.int 0))) [.ret (.name 22)] [],
    .ite (.cmp (.name 4) .eq (.lit (.int 1))) [.ret (.bi .chr [(.bin .sub (.bi .ord [(.name 22)]) (.lit (.int 32)))])] [],
    .ret (.bi .chr [(.bin .add (.bin .add (.lit (.int 119711)) (.bin .mul (.lit (.int 52)) (.index (.list [(.lit (.int 0)), (.lit (.int 1)), (.lit (.int 2)), (.lit (.int 4)), (.lit (.int 7)), (.lit (.int 8)), (.lit (.int 9)), (.lit (.int 10)), (.lit (.int 11)), (.lit (.int 12))]) (.bin .sub (.name 4) (.lit (.int 2)))))) (.bi .ord [(.name 22)]))])]⟩
noncomputable def m1f17 : Fn := ⟨[26, 25], [], [], [], [
    .assign (.name 23) (.list [(.tuple [(.lit (.str ⟨#[102, 102, 105]⟩)), (.lit (.int 64259))]), (.tuple [(.lit (.str ⟨#[102, 102, 108]⟩)), (.lit (.int 64260))]), (.tuple [(.lit (.str ⟨#[102, 102]⟩)), (.lit (.int 64256))]), (.tuple [(.lit (.str ⟨#[102, 105]⟩)), (.lit (.int 64257))]), (.tuple [(.lit (.str ⟨#[102, 108]⟩)), (.lit (.int 64258))])]),
    .assign (.tup [(.name 24), (.name 25)]) (.tuple [(.call 14 [(.bin .mod (.name 25) (.lit (.int 27)))]), (.bin .fdiv (.name 25) (.lit (.int 27)))]),
    .while (.cmp (.name 26) .ne (.lit (.str ⟨#[]⟩))) [.assign (.name 27) (.comp (.name 28) (.name 28) .e [(.name 23)] [(.cmp (.slice (.name 26) (.lit .none) (.bi .len [(.index (.name 28) (.lit (.int 0)))]) (.lit .none)) .eq (.index (.name 28) (.lit (.int 0))))] [26]), .ite (.and (.cmp (.name 27) .ne (.list [])) (.cmp (.bin .mod (.name 25) (.lit (.int 2))) .eq (.lit (.int 0)))) [.assign (.tup [(.name 24), (.name 26)]) (.tuple [(.bin .add (.name 24) (.bi .chr [(.index (.index (.name 27) (.lit (.int 0))) (.lit (.int 1)))])), (.slice (.name 26) (.bi .len [(.index (.index (.name 27) (.lit (.int 0))) (.lit (.int 0)))]) (.lit .none) (.lit .none))])] [.assign (.tup [(.name 24), (.name 26)]) (.tuple [(.bin .add (.name 24) (.call 16 [(.index (.name 26) (.lit (.int 0))), (.bin .mod (.bin .fdiv (.name 25) (.lit (.int 2))) (.lit (.int 12)))])), (.slice (.name 26) (.lit (.int 1)) (.lit .none) (.lit .none))])], .assign (.name 25) (.bin .fdiv (.name 25) (.lit (.int 24)))],
    .ret (.name 24)]⟩
noncomputable def m1f18 : Fn := ⟨[24], [], [], [], [
    .ret (.meth .join (.lit (.str ⟨#[]⟩)) [(.comp (.call 12 [(.name 29)]) (.name 29) .e [(.name 24)] [(.cmp (.call 11 [(.name 29)]) .is (.lit (.bool false)))] [])])]⟩
noncomputable def m1f19 : Fn := ⟨[31], [], [], [34], [
    .assign (.name 30) (.bin .add (.bi .sum [(.name 31)]) (.lit (.int 48))),
    .assign (.name 32) (.meth .join (.lit (.str ⟨#[]⟩)) [(.comp (.index (.lit (.str ⟨#[102, 105, 108]⟩)) (.bin .mod (.bin .fdiv (.name 30) (.bin .pow (.lit (.int 3)) (.name 4))) (.lit (.int 3)))) (.name 4) .range [(.lit (.int 4))] [] [30])]),
    .assign (.name 33) (.comp (.tuple [(.name 1), (.index (.bi .sorted [(.bin .add (.name 1) (.name 32))]) (.lit (.int 3)))]) (.name 1) .e [(.call 13 [])] [] [32]),
    .assign (.name 34) .newH,
    .for (.tup [(.name 35), (.tup [(.name 1), (.name 36)])]) .enum [(.name 33)] [.hset (.name 34) (.call 18 [(.call 17 [(.name 1), (.bin .add (.bin .mul (.bi .abs [(.name 30)]) (.lit (.int 5))) (.name 35))])]) (.name 36)],
    .for (.name 17) .e [(.slice (.name 31) (.lit .none) (.lit (.int 10)) (.lit .none))] [.assign (.name 1) (.index (.call 13 []) (.bin .mod (.name 17) (.lit (.int 10)))), .assign (.name 36) (.index (.comp (.index (.name 37) (.lit (.int 1))) (.name 37) .e [(.name 33)] [(.cmp (.meth .lower (.index (.name 37) (.lit (.int 0))) []) .eq (.name 1))] [1]) (.lit (.int 0))), .ite (.cmp (.bin .mod (.bin .fdiv (.name 17) (.lit (.int 10))) (.lit (.int 2))) .eq (.lit (.int 0))) [.assign (.name 36) (.index (.lit (.str ⟨#[102, 105, 108]⟩)) (.bin .mod (.bin .fdiv (.name 17) (.lit (.int 20))) (.lit (.int 3))))] [], .assign (.name 33) (.bin .add (.comp (.name 37) (.name 37) .e [(.name 33)] [(.cmp (.meth .lower (.index (.name 37) (.lit (.int 0))) []) .ne (.name 1))] [1]) (.list [(.tuple [(.meth .upper (.name 1) []), (.name 36)])])), .hset (.name 34) (.meth .upper (.call 18 [(.call 17 [(.name 1), (.bi .abs [(.name 17)])])]) []) (.name 36)],
    .ret (.tuple [(.name 34), (.name 33)])]⟩
noncomputable def m1f20 : Fn := ⟨[34, 33], [], [], [40, 42, 38], [
    .assign (.tup [(.name 38), (.name 39)]) (.tuple [.dict0, (.comp (.tuple [(.meth .lower (.name 1) []), (.name 36)]) (.tup [(.name 1), (.name 36)]) .e [(.name 33)] [] [])]),
    .assign (.name 40) (.hm 3 (.name 34) []),
    .expr (.meth .insert (.name 40) [(.lit (.int 0)), (.tuple [(.lit (.str ⟨#[102, 102, 102]⟩)), (.lit (.str ⟨#[]⟩))])]),
    .for (.name 37) .e [(.list [(.lit (.str ⟨#[102, 102]⟩)), (.lit (.str ⟨#[102, 105]⟩)), (.lit (.str ⟨#[102, 108]⟩)), (.lit (.str ⟨#[105, 105]⟩)), (.lit (.str ⟨#[105, 108]⟩)), (.lit (.str ⟨#[108, 108]⟩))])] [.for (.name 41) .e [(.lit (.str ⟨#[108, 105, 102]⟩))] [.assign (.name 42) (.list []), .for (.name 36) .e [(.bin .add (.name 41) (.name 37))] [.ite (.cmp (.call 8 [(.name 42), (.name 36)]) .isnot (.lit .none)) [.ret (.lit .none)] []], .dset 38 (.bin .add (.name 41) (.name 37)) (.hm 2 (.name 34) [(.meth .upper (.meth .join (.lit (.str ⟨#[]⟩)) [(.name 42)]) [])]), .ite (.cmp (.tuple [(.meth .join (.lit (.str ⟨#[]⟩)) [(.name 42)]), (.index (.name 38) (.bin .add (.name 41) (.name 37)))]) .notin (.name 39)) [.ret (.lit .none)] []]],
    .ret (.ite (.and (.cmp (.hm 2 (.name 34) [(.lit (.str ⟨#[108, 105, 102]⟩))]) .is (.lit .none)) (.cmp (.hm 2 (.name 34) [(.lit (.str ⟨#[76, 73, 70]⟩)), (.lit (.str ⟨#[105]⟩))]) .eq (.lit (.str ⟨#[105]⟩)))) (.name 38) (.lit .none))]⟩
noncomputable def m1f21 : Fn := ⟨[38, 45], [], [], [], [
    .assign (.name 43) (.lit (.int 0)),
    .for (.name 37) .e [(.list [(.lit (.str ⟨#[102, 102]⟩)), (.lit (.str ⟨#[102, 105]⟩)), (.lit (.str ⟨#[102, 108]⟩)), (.lit (.str ⟨#[105, 105]⟩)), (.lit (.str ⟨#[105, 108]⟩)), (.lit (.str ⟨#[108, 108]⟩))])] [.for (.name 44) .e [(.name 45)] [.assign (.tup [(.name 46), (.name 47)]) (.tuple [(.comp (.meth .index (.name 44) [(.index (.name 38) (.bin .add (.name 41) (.name 37)))]) (.name 41) .e [(.name 44)] [] [44, 38, 37]), (.lit (.int 0))]), .for (.name 48) .e [(.slice (.name 44) (.lit (.int 1)) (.lit .none) (.lit .none))] [.assign (.name 49) (.bin .add (.bin .add (.index (.name 38) (.bin .add (.name 48) (.name 37))) (.lit (.str ⟨#[46, 46, 46]⟩))) (.index (.name 38) (.bin .add (.index (.name 44) (.lit (.int 0))) (.name 37)))), .assign (.name 50) (.call 7 [(.bin .add (.bin .add (.lit (.str ⟨#[46, 46, 46]⟩)) (.name 49)) (.lit (.str ⟨#[46, 46, 46]⟩))), (.name 44)]), .ite (.cmp (.name 50) .is (.lit (.bool true))) [.aug 47 .add (.lit (.int 1)), .ite (.cmp (.call 7 [(.name 49), (.name 44)]) .isnot (.cmp (.name 49) .eq (.bin .add (.bin .add (.index (.name 44) (.lit (.int 0))) (.lit (.str ⟨#[46, 46, 46]⟩))) (.index (.name 44) (.lit (.int 2)))))) [.ret (.lit .none)] []] [.ite (.cmp (.name 50) .isnot (.lit (.bool false))) [.ret (.lit .none)] []]], .ite (.cmp (.name 47) .ne (.call 10 [(.bi .sorted [(.name 46)]), (.index (.name 46) (.lit (.int 0)))])) [.ret (.lit .none)] [], .aug 43 .add (.name 47)]],
    .ret (.name 43)]⟩
noncomputable def m1f22 : Fn := ⟨[38], [], [], [51, 42], [
    .assign (.name 51) (.list []),
    .for (.name 52) .e [(.list [(.lit (.str ⟨#[108, 108, 108]⟩)), (.lit (.str ⟨#[102, 102, 108]⟩)), (.lit (.str ⟨#[102, 102, 102]⟩)), (.lit (.str ⟨#[102, 108, 108]⟩))])] [.expr (.call 8 [(.name 51), (.index (.name 38) (.name 52))])],
    .for (.name 52) .e [(.call 13 [])] [.assign (.name 42) (.bi .list [(.name 51)]), .for (.name 36) .e [(.name 52)] [.expr (.call 8 [(.name 42), (.name 36)])], .ite (.not (.cmp2 (.call 10 [(.name 42), (.index (.name 38) (.name 52))]) .le (.lit (.int 3)) .lt (.call 9 [(.name 42), (.index (.name 38) (.name 52))]))) [.ret (.lit (.bool false))] []],
    .ret (.lit (.bool true))]⟩
noncomputable def m1f23 : Fn := ⟨[31], [], [], [45], [
    .assign (.tup [(.name 34), (.name 33)]) (.call 19 [(.name 31)]),
    .ite (.cmp (.hm 3 (.name 34) []) .ne (.name 33)) [.ret (.lit (.bool false))] [],
    .assign (.name 45) (.list []),
    .for (.tup [(.name 35), (.name 53)]) .enum [(.list [(.lit (.str ⟨#[102, 105, 108]⟩)), (.lit (.str ⟨#[105, 102, 108]⟩)), (.lit (.str ⟨#[105, 108, 102]⟩)), (.lit (.str ⟨#[108, 105, 102]⟩))])] [.assign (.name 54) (.call 15 [(.bin .mod (.bin .add (.bi .sum [(.name 31)]) (.name 35)) (.lit (.int 16)))]), .assign (.name 44) (.call 18 [(.bin .add (.call 17 [(.name 53), (.bin .add (.bin .mul (.bi .abs [(.bi .sum [(.name 31)])]) (.lit (.int 7))) (.bin .mul (.name 35) (.lit (.int 31))))]) (.name 54))]), .ite (.cmp (.name 44) .ne (.bin .add (.name 53) (.name 54))) [.ret (.lit (.bool false))] [], .expr (.meth .append (.name 45) [(.slice (.name 44) (.lit .none) (.lit (.int 3)) (.lit .none))])],
    .assign (.name 38) (.call 20 [(.name 34), (.name 33)]),
    .assign (.name 43) (.ite (.cmp (.name 38) .is (.lit .none)) (.lit .none) (.call 21 [(.name 38), (.name 45)])),
    .ret (.and (.cmp (.name 43) .isnot (.lit .none)) (.cmp (.cmp (.name 43) .eq (.lit (.int 0))) .eq (.call 22 [(.name 38)])))]⟩
noncomputable def m1fns : List Fn := [m1f0, m1f1, m1f2, m1f3, m1f4, m1f5, m1f6, m1f7, m1f8, m1f9, m1f10, m1f11, m1f12, m1f13, m1f14, m1f15, m1f16, m1f17, m1f18, m1f19, m1f20, m1f21, m1f22, m1f23]
end uk0030_01
end
section
set_option maxHeartbeats 0
namespace uk0030_01
open PySem PySem.W PySem.Calls PyProof.Rows UK HL
noncomputable def nms : List Str := [⟨#[115, 101, 108, 102]⟩, ⟨#[110, 97, 109, 101]⟩, ⟨#[118, 97, 108]⟩, ⟨#[107, 118]⟩, ⟨#[107]⟩, ⟨#[118]⟩, ⟨#[100, 101, 102, 97, 117, 108, 116]⟩, ⟨#[118, 97, 108, 117, 101]⟩, ⟨#[119, 97, 110, 116]⟩, ⟨#[103, 111, 116]⟩, ⟨#[119, 115]⟩, ⟨#[115, 116, 97, 114, 116, 112, 111, 115]⟩, ⟨#[101, 110, 100, 112, 111, 115]⟩, ⟨#[119]⟩, ⟨#[107, 101, 121]⟩, ⟨#[108, 111]⟩, ⟨#[97]⟩, ⟨#[120]⟩, ⟨#[104, 105]⟩, ⟨#[109, 105, 100]⟩, ⟨#[99, 111, 100, 101]⟩, ⟨#[114]⟩, ⟨#[115, 109, 97, 108, 108]⟩, ⟨#[115, 104, 97, 112, 101, 115]⟩, ⟨#[116, 121, 112, 101, 100]⟩, ⟨#[110]⟩, ⟨#[119, 111, 114, 100]⟩, ⟨#[102, 105, 116, 115]⟩, ⟨#[115, 104, 97, 112, 101]⟩, ⟨#[115, 105, 103, 110]⟩, ⟨#[116, 111, 116, 97, 108]⟩, ⟨#[115, 99, 114, 105, 112, 116]⟩, ⟨#[102, 105, 120, 101, 100]⟩, ⟨#[100, 117, 101]⟩, ⟨#[114, 117, 108, 101]⟩, ⟨#[112, 108, 97, 99, 101]⟩, ⟨#[108, 101, 116, 116, 101, 114]⟩, ⟨#[112, 97, 105, 114]⟩, ⟨#[116, 111, 108, 100]⟩, ⟨#[107, 110, 111, 119, 110]⟩, ⟨#[104, 97, 110, 100, 101, 100]⟩, ⟨#[111, 110, 101]⟩, ⟨#[114, 111, 119]⟩, ⟨#[104, 101, 108, 112, 105, 110, 103]⟩, ⟨#[98, 97, 108, 108, 111, 116]⟩, ⟨#[98, 97, 108, 108, 111, 116, 115]⟩, ⟨#[112, 108, 97, 99, 101, 115]⟩, ⟨#[97, 104, 101, 97, 100]⟩, ⟨#[108, 105, 101]⟩, ⟨#[101, 110, 100, 115]⟩, ⟨#[116, 97, 107, 101, 110]⟩, ⟨#[111, 119, 110]⟩, ⟨#[116, 114, 105, 112, 108, 101]⟩, ⟨#[111, 114, 100, 101, 114]⟩, ⟨#[98, 101, 115, 105, 100, 101]⟩]
theorem nms_nodup : nms.Nodup := by decide +kernel
noncomputable def fa : Nat → Addr := fun i => [182, 187, 216, 233, 259, 208, 226, 45, 54, 63, 72, 90, 136, 280, 287, 294, 301, 306, 311, 316, 321, 326, 333, 340].getD i 0
noncomputable def gB : List (Str × GK) := [(⟨#[108, 101, 110]⟩, .bi .len), (⟨#[99, 104, 114]⟩, .bi .chr), (⟨#[111, 114, 100]⟩, .bi .ord), (⟨#[115, 117, 109]⟩, .bi .sum), (⟨#[97, 98, 115]⟩, .bi .abs), (⟨#[115, 111, 114, 116, 101, 100]⟩, .bi .sorted), (⟨#[108, 105, 115, 116]⟩, .bi .list), (⟨#[105, 110, 116]⟩, .bi .int), (⟨#[115, 116, 114]⟩, .bi .str), (⟨#[109, 105, 110]⟩, .bi .min), (⟨#[114, 97, 110, 103, 101]⟩, .range), (⟨#[101, 110, 117, 109, 101, 114, 97, 116, 101]⟩, .enum)]
noncomputable def gB2 : List (Str × Value) := [(⟨#[108, 101, 110]⟩, .builtin "len"), (⟨#[99, 104, 114]⟩, .builtin "chr"), (⟨#[111, 114, 100]⟩, .builtin "ord"), (⟨#[115, 117, 109]⟩, .builtin "sum"), (⟨#[97, 98, 115]⟩, .builtin "abs"), (⟨#[115, 111, 114, 116, 101, 100]⟩, .builtin "sorted"), (⟨#[108, 105, 115, 116]⟩, .type "list"), (⟨#[105, 110, 116]⟩, .type "int"), (⟨#[115, 116, 114]⟩, .type "str"), (⟨#[109, 105, 110]⟩, .builtin "min"), (⟨#[114, 97, 110, 103, 101]⟩, .type "range"), (⟨#[101, 110, 117, 109, 101, 114, 97, 116, 101]⟩, .type "enumerate"), (⟨#[116, 121, 112, 101]⟩, .type "type")]
noncomputable def gF : List (Str × GK) := [(⟨#[95, 101, 108, 108, 105, 112, 115, 105, 115, 95, 109, 97, 116, 99, 104]⟩, .fn 7), (⟨#[105, 110, 115, 111, 114, 116, 95, 114, 105, 103, 104, 116]⟩, .fn 8), (⟨#[98, 105, 115, 101, 99, 116, 95, 114, 105, 103, 104, 116]⟩, .fn 9), (⟨#[98, 105, 115, 101, 99, 116, 95, 108, 101, 102, 116]⟩, .fn 10), (⟨#[105, 110, 95, 116, 97, 98, 108, 101, 95, 98, 49]⟩, .fn 11), (⟨#[109, 97, 112, 95, 116, 97, 98, 108, 101, 95, 98, 51]⟩, .fn 12), (⟨#[95, 108, 97, 119, 95, 116, 114, 105, 112, 108, 101, 115]⟩, .fn 13), (⟨#[95, 108, 97, 119, 95, 117, 110, 115, 101, 101, 110]⟩, .fn 14), (⟨#[95, 108, 97, 119, 95, 98, 101, 115, 105, 100, 101]⟩, .fn 15), (⟨#[95, 108, 97, 119, 95, 108, 101, 116, 116, 101, 114]⟩, .fn 16), (⟨#[95, 108, 97, 119, 95, 116, 121, 112, 101, 100]⟩, .fn 17), (⟨#[95, 108, 97, 119, 95, 112, 114, 101, 112, 97, 114, 101, 100]⟩, .fn 18), (⟨#[95, 108, 97, 119, 95, 114, 117, 108, 101]⟩, .fn 19), (⟨#[95, 108, 97, 119, 95, 116, 111, 108, 100]⟩, .fn 20), (⟨#[95, 108, 97, 119, 95, 104, 101, 108, 112, 105, 110, 103]⟩, .fn 21), (⟨#[95, 108, 97, 119, 95, 105, 115, 95, 109, 105, 100, 100, 108, 101]⟩, .fn 22), (⟨#[108, 97, 119]⟩, .fn 23)]
noncomputable def gO : List (Str × GK) := [(⟨#[69, 76, 76, 73, 80, 83, 73, 83, 95, 77, 65, 82, 75, 69, 82]⟩, .dots), (⟨#[72, 101, 97, 100, 101, 114, 115]⟩, .hdrs), (⟨#[98, 51, 95, 101, 120, 99, 101, 112, 116, 105, 111, 110, 115]⟩, .b3), (⟨#[98, 49, 95, 115, 101, 116]⟩, .b1)]
noncomputable def tb : UK.Tb := ⟨gB ++ gF ++ gO, [(⟨#[95, 95, 115, 101, 116, 105, 116, 101, 109, 95, 95]⟩, 0), (⟨#[95, 95, 100, 101, 108, 105, 116, 101, 109, 95, 95]⟩, 1), (⟨#[103, 101, 116]⟩, 2), (⟨#[105, 116, 101, 109, 115]⟩, 3), (⟨#[115, 101, 116, 100, 101, 102, 97, 117, 108, 116]⟩, 4), (⟨#[103, 101, 116, 95, 97, 108, 108]⟩, 5), (⟨#[118, 97, 108, 117, 101, 115]⟩, 6)]⟩
noncomputable def es3 (P : Params) : Array DictEntry := match (o3f P).data with | .dict es _ => es | _ => #[]
noncomputable def esN (P : Params) : Array DictEntry := match (o268f P).data with | .dict es _ => es | _ => #[]
noncomputable def fnAddr : GK → Option Value
  | .fn f => some (.ref (fa f))
  | .hdrs => some (.ref 269)
  | .b3 => some (.ref 91)
  | .b1 => some (.ref 80)
  | .dots => some (.str ⟨#[46, 46, 46]⟩ 291)
  | _ => none
theorem g_raw (P : Params) : (tb.gl.map fun p => nsFind (es3 P) p.1) = tb.gl.map fun p => fnAddr p.2 := by kernel_rfl
theorem b_raw (P : Params) : (gB2.map fun p => (nsFind (es3 P) p.1, bootBuiltins p.1)) = gB2.map fun p => (none, some p.2) := by kernel_rfl
theorem rx_raw (P : Params) : ([true, false].map fun b => nsFind (es3 P) (rxName b)) = [some (.ref 141), some (.ref 146)] := by kernel_rfl
theorem c_raw (P : Params) : (tb.cm.map fun p => nsFind (esN P) p.1) = tb.cm.map fun p => some (.ref (fa p.2)) := by kernel_rfl
theorem c_raw2 (P : Params) : (([("__getattribute__" : Str), ("__getattr__" : Str), ("__setattr__" : Str), ("_headers" : Str), ("_convert_string_type" : Str), ("__init__" : Str)] : List Str).map fun (x : Str) => nsFind (esN P) x) = [none, none, none, none, some (.ref 168), some (.ref 161)] := by kernel_rfl
theorem b_ne : (gB2.all fun p => !(p.1 == ("__name__" : Str))) = true := by decide +kernel
noncomputable def b3L : List DictEntry := ents (prs.take 646) k3 ++ entsS (prs.drop 646) (k3 + 1938)
noncomputable def codeB : Bool → Array Nat := fun b => if b then #[14, 10, 4, 1, 1, 22, 0, 31, 16, 127, 0, 13, 7, 22, 0, 31, 16, 127, 0, 1] else #[14, 14, 4, 1, 1, 9, 4294966783, 0, 0, 2147483648, 0, 0, 0, 0, 0, 13, 11, 9, 4294966783, 0, 0, 2147483648, 0, 0, 0, 0, 0, 1]
noncomputable def b1P : List (Int × Nat) := [(65024, 366), (65025, 367), (65026, 368), (65027, 369), (65028, 370), (65029, 371), (6150, 352), (65030, 372), (65031, 373), (65032, 374), (65033, 375), (6155, 353), (6156, 354), (6157, 355), (8203, 356), (8204, 357), (8205, 358), (65034, 376), (65035, 377), (65036, 378), (65037, 379), (65038, 380), (65039, 381), (173, 350), (847, 351), (8288, 359), (65279, 360)]
noncomputable def b1L : List Int := b1P.map (·.1)
noncomputable def cx0 : Cx where
  F := fun _ _ _ => none
  conv := fun nm x => searchNo (codeB nm) x.cps
  b3 := fun c => match findBy Value.isInt b3L.toArray c with | some (.str x _) => some x | _ => none
  b1 := fun c => b1L.contains c
  N := 4096
theorem mem_map {α β : Type} {f g : α → β} : ∀ {l : List α}, l.map f = l.map g → ∀ p ∈ l, f p = g p
  | [], _, _, h => nomatch h
  | x :: l, e, p, h => by
    simp only [List.map_cons, List.cons.injEq] at e
    rcases List.mem_cons.mp h with rfl | h
    · exact e.1
    · exact mem_map e.2 p h
section
variable {w : World} {h : Heap} {mg mb : Str → Option Value}
structure Pre (w : World) (h : Heap) (mg mb : Str → Option Value) : Prop where
  k : ∀ p ∈ KF w.params, h.get? p.1 = some p.2
  g : h.Ns mainGlobals mg
  b : h.Ns builtinsNs mb
  nolim : h.NoLimit
  boot : ∀ x : Str, x ≠ "__name__" → mb x = bootBuiltins x
noncomputable def G0 (w : World) (h : Heap) (mg mb : Str → Option Value) (os : OsState) (gens : Array GenState) : Gl := ⟨PySem.Challenge.rw_uk0030_01.row.prog, w, h, 269, mg, mb, os, gens⟩
variable {os : OsState} {gens : Array GenState} (X : Pre w h mg mb)
include X
theorem at_ {a : Addr} {o : Obj} (e : at? (KF w.params) a = some o) : h.get? a = some o := at_in X.k e
theorem mg_is (x : Str) : mg x = nsFind (es3 w.params) x := by
  obtain ⟨o, es, ep, ho, hd, _, hf⟩ := X.g
  have h3 : h.get? mainGlobals = some (o3f w.params) := at_ X (by rfl)
  rw [h3] at ho; cases ho
  have e : es = es3 w.params := by
    have : (o3f w.params).data = .dict es ep := hd
    unfold es3; rw [this]
  rw [← hf, e]
theorem look_blt {p : Str × Value} (hp : p ∈ gB2) : (G0 w h mg mb os gens).look p.1 = some p.2 := by
  have := mem_map (b_raw w.params) p hp
  simp only [Prod.mk.injEq] at this
  unfold Gl.look
  show (match mg p.1 with | some v => some v | none => mb p.1) = _
  rw [mg_is X, this.1]
  have hne := List.all_eq_true.mp b_ne p hp
  show mb p.1 = _
  rw [X.boot p.1 (by
    intro q
    rw [q] at hne
    exact absurd hne (by decide +kernel)), this.2]
theorem look_top {x : Str} {v : Value} (e : nsFind (es3 w.params) x = some v) : (G0 w h mg mb os gens).look x = some v := by
  unfold Gl.look
  show (match mg x with | some v => some v | none => mb x) = _
  rw [mg_is X, e]
theorem fa0 : FA (G0 w h mg mb os gens) (fa 0) := ⟨o182f w.params, _, at_ X (by rfl), rfl, rfl⟩
theorem fa1 : FA (G0 w h mg mb os gens) (fa 1) := ⟨o187f w.params, _, at_ X (by rfl), rfl, rfl⟩
theorem fa2 : FA (G0 w h mg mb os gens) (fa 2) := ⟨o216f w.params, _, at_ X (by rfl), rfl, rfl⟩
theorem fa3 : FA (G0 w h mg mb os gens) (fa 3) := ⟨o233f w.params, _, at_ X (by rfl), rfl, rfl⟩
theorem fa4 : FA (G0 w h mg mb os gens) (fa 4) := ⟨o259f w.params, _, at_ X (by rfl), rfl, rfl⟩
theorem fa5 : FA (G0 w h mg mb os gens) (fa 5) := ⟨o208f w.params, _, at_ X (by rfl), rfl, rfl⟩
theorem fa6 : FA (G0 w h mg mb os gens) (fa 6) := ⟨o226f w.params, _, at_ X (by rfl), rfl, rfl⟩
theorem fa7 : FA (G0 w h mg mb os gens) (fa 7) := ⟨o45s1 w.params, _, at_ X (by rfl), rfl, rfl⟩
theorem fa8 : FA (G0 w h mg mb os gens) (fa 8) := ⟨o54s1 w.params, _, at_ X (by rfl), rfl, rfl⟩
theorem fa9 : FA (G0 w h mg mb os gens) (fa 9) := ⟨o63s1 w.params, _, at_ X (by rfl), rfl, rfl⟩
theorem fa10 : FA (G0 w h mg mb os gens) (fa 10) := ⟨o72s1 w.params, _, at_ X (by rfl), rfl, rfl⟩
theorem fa11 : FA (G0 w h mg mb os gens) (fa 11) := ⟨o90s3 w.params, _, at_ X (by rfl), rfl, rfl⟩
theorem fa12 : FA (G0 w h mg mb os gens) (fa 12) := ⟨o136f w.params, _, at_ X (by rfl), rfl, rfl⟩
theorem fa13 : FA (G0 w h mg mb os gens) (fa 13) := ⟨o280f w.params, _, at_ X (by rfl), rfl, rfl⟩
theorem fa14 : FA (G0 w h mg mb os gens) (fa 14) := ⟨o287f w.params, _, at_ X (by rfl), rfl, rfl⟩
theorem fa15 : FA (G0 w h mg mb os gens) (fa 15) := ⟨o294f w.params, _, at_ X (by rfl), rfl, rfl⟩
theorem fa16 : FA (G0 w h mg mb os gens) (fa 16) := ⟨o301f w.params, _, at_ X (by rfl), rfl, rfl⟩
theorem fa17 : FA (G0 w h mg mb os gens) (fa 17) := ⟨o306f w.params, _, at_ X (by rfl), rfl, rfl⟩
theorem fa18 : FA (G0 w h mg mb os gens) (fa 18) := ⟨o311f w.params, _, at_ X (by rfl), rfl, rfl⟩
theorem fa19 : FA (G0 w h mg mb os gens) (fa 19) := ⟨o316f w.params, _, at_ X (by rfl), rfl, rfl⟩
theorem fa20 : FA (G0 w h mg mb os gens) (fa 20) := ⟨o321f w.params, _, at_ X (by rfl), rfl, rfl⟩
theorem fa21 : FA (G0 w h mg mb os gens) (fa 21) := ⟨o326f w.params, _, at_ X (by rfl), rfl, rfl⟩
theorem fa22 : FA (G0 w h mg mb os gens) (fa 22) := ⟨o333f w.params, _, at_ X (by rfl), rfl, rfl⟩
theorem fa23 : FA (G0 w h mg mb os gens) (fa 23) := ⟨o340f w.params, _, at_ X (by rfl), rfl, rfl⟩
theorem fa_all : ∀ i, i < 24 → FA (G0 w h mg mb os gens) (fa i)
  | 0, _ => fa0 X
  | 1, _ => fa1 X
  | 2, _ => fa2 X
  | 3, _ => fa3 X
  | 4, _ => fa4 X
  | 5, _ => fa5 X
  | 6, _ => fa6 X
  | 7, _ => fa7 X
  | 8, _ => fa8 X
  | 9, _ => fa9 X
  | 10, _ => fa10 X
  | 11, _ => fa11 X
  | 12, _ => fa12 X
  | 13, _ => fa13 X
  | 14, _ => fa14 X
  | 15, _ => fa15 X
  | 16, _ => fa16 X
  | 17, _ => fa17 X
  | 18, _ => fa18 X
  | 19, _ => fa19 X
  | 20, _ => fa20 X
  | 21, _ => fa21 X
  | 22, _ => fa22 X
  | 23, _ => fa23 X
  | n + 24, h => absurd h (by omega)
theorem gl_ok : ∀ p ∈ tb.gl, GIs (G0 w h mg mb os gens) fa 91 80 p.1 p.2 := by
  intro p hp
  have e := mem_map (g_raw w.params) p hp
  have hb : p ∈ gB ∨ p ∈ gF ∨ p ∈ gO := by
    have : p ∈ gB ++ gF ++ gO := hp
    simp only [List.mem_append] at this
    rcases this with (h | h) | h
    · exact .inl h
    · exact .inr (.inl h)
    · exact .inr (.inr h)
  rcases hb with hb | hb | hb
  · have : (gB.map fun p => match p.2 with | .bi b => (p.1, biVal b) | .range => (p.1, Value.type "range") | _ => (p.1, Value.type "enumerate")) = gB2.take 12 := by rfl
    obtain ⟨x, k⟩ := p
    have hm : (match k with | .bi b => (x, biVal b) | .range => (x, Value.type "range") | _ => (x, Value.type "enumerate")) ∈ gB2 := by
      refine List.mem_of_mem_take (i := 12) ?_
      rw [← this]
      exact List.mem_map.mpr ⟨_, hb, by cases k <;> rfl⟩
    have hk : (gB.all fun p => match p.2 with | .bi _ => true | .range => true | .enum => true | _ => false) = true := by rfl
    have hk := List.all_eq_true.mp hk _ hb
    cases k with
    | bi b => exact look_blt X hm
    | range => exact look_blt X hm
    | enum => exact look_blt X hm
    | _ => cases hk
  · have hk : (gF.all fun p => match p.2 with | .fn f => decide (f < 24) | _ => false) = true := by decide +kernel
    have hk := List.all_eq_true.mp hk _ hb
    obtain ⟨x, k⟩ := p
    cases k with
    | fn f => exact ⟨look_top X e, fa_all X f (by simpa using hk)⟩
    | _ => cases hk
  · have hk : (gO.all fun p => match p.2 with | .dots => true | .hdrs => true | .b3 => true | .b1 => true | _ => false) = true := by rfl
    have hk := List.all_eq_true.mp hk _ hb
    obtain ⟨x, k⟩ := p
    cases k with
    | dots => exact ⟨_, look_top X e⟩
    | hdrs => exact look_top X e
    | b3 => exact look_top X e
    | b1 => exact look_top X e
    | _ => cases hk
theorem ns_strs : StrKeys (esN w.params) := by
  have : ((esN w.params).toList.all fun e => match e.key with | .str _ _ => true | _ => false) = true := by kernel_rfl
  intro e he
  have := List.all_eq_true.mp this e (by simpa using he)
  split at this
  · exact ⟨_, _, by assumption⟩
  · cases this
theorem ca_ok : CA (G0 w h mg mb os gens) 268 (nsFind (esN w.params)) := by
  have r := c_raw2 w.params
  simp only [List.map_cons, List.map_nil, List.cons.injEq] at r
  obtain ⟨r1, r2, r3, r4, _⟩ := r
  refine ⟨⟨⟨_, _, _, _, _, _, _, _, _, _, _, _, at_ X (a := 269) (by rfl)⟩, ⟨o268f w.params, esN w.params, _, at_ X (by rfl), rfl, ns_strs X, fun _ => rfl⟩⟩, r1, r2, r3, r4⟩
theorem cm_ok : ∀ p ∈ tb.cm, nsFind (esN w.params) p.1 = some (.ref (fa p.2)) ∧ FA (G0 w h mg mb os gens) (fa p.2) ∧ ∃ y, typeLookup (.type "object") p.1 = pure y := by
  intro p hp
  refine ⟨mem_map (c_raw w.params) p hp, fa_all X _ ?_, none, ?_⟩
  · have hk : (tb.cm.all fun p => decide (p.2 < 24)) = true := by decide +kernel
    simpa using List.all_eq_true.mp hk p hp
  · have hk : (tb.cm.map fun p => typeLookup (.type "object") p.1) = tb.cm.map fun p => pure none := by
      have e : ∀ p : Str × Nat, typeLookup (.type "object") p.1 = _ := fun p => by rw [typeLookup_type, builtinLookup_eq_fast]
      rw [show (fun p : Str × Nat => typeLookup (.type "object") p.1) = _ from funext e]
      kernel_rfl
    exact mem_map hk p hp
end
end uk0030_01
end
section
set_option maxHeartbeats 0
namespace uk0030_01
open PySem PySem.W PySem.Calls PyProof.Rows UK HL
noncomputable def bodyOf (fd : FuncData) : List Stmt := match fd.body with | .stmts xs => xs | _ => []
theorem look_all {fd : FuncData} {k : NameKind} {xs : List Str} (h : (xs.all fun x => fd.scope.names.lookup x == some k) = true) (x : Str) (hx : x ∈ xs) : fd.scope.names.lookup x = some k := eq_of_beq (List.all_eq_true.mp h x hx)
theorem ents_key {p : Program} {w : World} : ∀ (ps : List Pair) (k : Nat), ∀ e ∈ ents ps k, ∃ c, (intKind p w).is c e.key = true ∧ e.hash = hashInt c
  | [], _, e, he => nomatch he
  | (c, x) :: ps, k, e, he => by
    rcases List.mem_cons.mp he with rfl | he
    · exact ⟨c, intKind_is _ _ _ _, rfl⟩
    · exact ents_key ps _ e he
theorem entsS_key {p : Program} {w : World} : ∀ (ps : List Pair) (k : Nat), ∀ e ∈ entsS ps k, ∃ c, (intKind p w).is c e.key = true ∧ e.hash = hashInt c
  | [], _, e, he => nomatch he
  | (c, x) :: ps, k, e, he => by
    rcases List.mem_cons.mp he with rfl | he
    · exact ⟨c, intKind_is _ _ _ _, rfl⟩
    · exact entsS_key ps _ e he
theorem ents_val : ∀ (ps : List Pair) (k : Nat), ∀ e ∈ ents ps k, ∃ x t, e.val = .str x t
  | [], _, e, he => nomatch he
  | (c, x) :: ps, k, e, he => by
    rcases List.mem_cons.mp he with rfl | he
    · exact ⟨_, _, rfl⟩
    · exact ents_val ps _ e he
theorem entsS_val : ∀ (ps : List Pair) (k : Nat), ∀ e ∈ entsS ps k, ∃ x t, e.val = .str x t
  | [], _, e, he => nomatch he
  | (c, x) :: ps, k, e, he => by
    rcases List.mem_cons.mp he with rfl | he
    · exact ⟨_, _, rfl⟩
    · exact entsS_val ps _ e he
section
variable {w : World} {h : Heap} {mg mb : Str → Option Value} {os : OsState} {gens : Array GenState} (X : Pre w h mg mb)
include X
theorem init_ok : InitFact (G0 w h mg mb os gens) 161 where
  ex := ⟨o161f w.params, _, bodyOf (fd2 17 0), (fd2 17 0).params.args.getD 0 default, (fd2 17 0).params.args.getD 1 default, (fd2 17 0).params.kw_defaults, (fd2 17 0).params.defaults, 154, {
    fn := ⟨at_ X (by rfl), rfl, rfl, rfl, rfl, rfl, by kernel_rfl, ⟨160, _, _, _, rfl, at_ X (a := 160) (by rfl), rfl, by rfl⟩, by kernel_rfl, by kernel_rfl, by kernel_rfl, by kernel_rfl⟩
    n1 := by kernel_rfl
    n2 := by kernel_rfl
    df := rfl
    tp := ⟨_, at_ X (a := 154) (by rfl), rfl, _, rfl⟩
    body := by exact InitBody.mk _ _ _ _ _ _ _ _ _ _ _ _ _ _ _ _ _ _ _ _ _ _ _ _ _ _ _
    lo := look_all (by kernel_rfl)
    gn := look_all (by kernel_rfl) }⟩
  ty := look_blt X (p := (⟨#[116, 121, 112, 101]⟩, .type "type")) (by simp [gB2])
  li := look_blt X (p := (⟨#[108, 105, 115, 116]⟩, .type "list")) (by simp [gB2])
theorem pat_ok : ∀ nm, PatFact (G0 w h mg mb os gens) nm (codeB nm)
  | true => ⟨141, 140, _, _, _, _, _, look_top X (by have := rx_raw w.params; simp only [List.map_cons, List.cons.injEq] at this; exact this.1), at_ X (a := 141) (by rfl), rfl, rfl, rfl, rfl, rfl, rfl, at_ X (a := 140) (by rfl), rfl, by kernel_rfl⟩
  | false => ⟨146, 145, _, _, _, _, _, look_top X (by have := rx_raw w.params; simp only [List.map_cons, List.cons.injEq] at this; exact this.2.1), at_ X (a := 146) (by rfl), rfl, rfl, rfl, rfl, rfl, rfl, at_ X (a := 145) (by rfl), rfl, by kernel_rfl⟩
theorem conv_ok : ConvFact (G0 w h mg mb os gens) codeB 168 where
  ex := ⟨o168f w.params, _, bodyOf (fd2 17 1), (fd2 17 1).params.args.getD 0 default, (fd2 17 1).params.args.getD 1 default, (fd2 17 1).params.kwonlyargs.getD 0 default, (fd2 17 1).params.kw_defaults, {
    fn := ⟨at_ X (by rfl), rfl, rfl, rfl, rfl, rfl, by kernel_rfl, ⟨167, _, _, _, rfl, at_ X (a := 167) (by rfl), rfl, by rfl⟩, by kernel_rfl, by kernel_rfl, by kernel_rfl, by kernel_rfl⟩
    n1 := by kernel_rfl
    n2 := by kernel_rfl
    n3 := by kernel_rfl
    df := rfl
    kw := rfl
    body := by exact ConvBody.mk _ _ _ _ _ _ _ _ _ _ _ _ _ _ _ _ _ _ _ _ _ (by rfl)
    lo := look_all (by kernel_rfl)
    gn := look_all (by kernel_rfl) }⟩
  ty := look_blt X (p := (⟨#[116, 121, 112, 101]⟩, .type "type")) (by simp [gB2])
  st := look_blt X (p := (⟨#[115, 116, 114]⟩, .type "str")) (by simp [gB2])
  pat := pat_ok X
theorem b1_set_ok : h.SetOf (intKind (G0 w h mg mb os gens).p w) 80 cx0.b1 27 := by
  refine ⟨_, (b1P.map fun p => (p.1, Value.int p.1 p.2)).toArray, _, _, at_ X (a := 80) (by rfl), ⟨rfl, rfl, rfl⟩, by rfl, fun e he => ?_, fun c => ?_, by decide, by rfl, rfl⟩
  · have he : e ∈ b1P.map fun p => (p.1, Value.int p.1 p.2) := by simpa using he
    obtain ⟨p, hp, rfl⟩ := List.mem_map.mp he
    have hh : (b1P.all fun p => hashInt p.1 == p.1) = true := by decide +kernel
    have := List.all_eq_true.mp hh p hp
    exact ⟨⟨p.1, intKind_is _ _ _ _, (eq_of_beq this).symm⟩, rfl⟩
  · show b1L.contains c = true ↔ _
    rw [List.contains_iff_mem]
    constructor
    · intro hc
      obtain ⟨p, hp, rfl⟩ := List.mem_map.mp hc
      exact ⟨(p.1, Value.int p.1 p.2), by simpa using hp, intKind_is _ _ _ _⟩
    · rintro ⟨e, he, hc⟩
      have he : e ∈ b1P.map fun p => (p.1, Value.int p.1 p.2) := by simpa using he
      obtain ⟨p, hp, rfl⟩ := List.mem_map.mp he
      have hc : Value.isInt c (Value.int p.1 p.2) = true := hc
      obtain ⟨t, ht⟩ := Value.isInt_shape hc
      cases ht
      exact List.mem_map.mpr ⟨p, hp, rfl⟩
theorem dict_keys : KeysOf (intKind (G0 w h mg mb os gens).p w) b3L.toArray := by
  intro e he
  have he : e ∈ b3L := by simpa using he
  rcases List.mem_append.mp he with he | he
  · exact ents_key _ _ e he
  · exact entsS_key _ _ e he
theorem dict_vals : ∀ e ∈ b3L, ∃ x t, e.val = .str x t := by
  intro e he
  rcases List.mem_append.mp he with he | he
  · exact ents_val _ _ e he
  · exact entsS_val _ _ e he
theorem b3_map : h.MapOf (intKind (G0 w h mg mb os gens).p w) 91 (findBy Value.isInt b3L.toArray) :=
  ⟨_, b3L.toArray, 650, at_ X (a := 91) (by rfl), ⟨rfl, rfl, rfl⟩, rfl, dict_keys X, fun _ => rfl⟩
theorem b3_vals (c : Int) : (∃ x, cx0.b3 c = some x ∧ ∃ t, findBy Value.isInt b3L.toArray c = some (.str x t)) ∨ (cx0.b3 c = none ∧ findBy Value.isInt b3L.toArray c = none) := by
  show (∃ x, (match findBy Value.isInt b3L.toArray c with | some (.str x _) => some x | _ => none) = some x ∧ _) ∨ _
  cases e : findBy Value.isInt b3L.toArray c with
  | none => exact .inr ⟨by show (match findBy Value.isInt b3L.toArray c with | some (.str x _) => some x | _ => none) = none; rw [e], rfl⟩
  | some v =>
    unfold findBy at e
    obtain ⟨d, hd, rfl⟩ := Option.map_eq_some_iff.mp e
    have hm := Array.mem_of_find?_eq_some hd
    obtain ⟨x, t, hx⟩ := dict_vals X d (by simpa using hm)
    rw [hx]
    exact .inl ⟨x, rfl, t, rfl⟩
theorem facts_ok : Facts tb (G0 w h mg mb os gens) fa 91 80 268 (nsFind (esN w.params)) cx0 where
  gl := gl_ok X
  cA := ca_ok X
  cm := cm_ok X
  newH := fun hk hv hd => SE.newH (ca_ok X) (init_ok X) (by have r := c_raw2 w.params; simp only [List.map_cons, List.map_nil, List.cons.injEq] at r; exact r.2.2.2.2.2.1) hk hv hd
  conv := fun h1 h2 h3 h4 h5 => SE.conv (ca_ok X) (conv_ok X) (by have r := c_raw2 w.params; simp only [List.map_cons, List.map_nil, List.cons.injEq] at r; exact r.2.2.2.2.1) (yb := none) (by rw [typeLookup_type, builtinLookup_eq_fast]; kernel_rfl) (fun _ _ e => e) h1 h2 h3 h4 h5
  b3get := fun {C A env F e z id q ap p} h1 h2 h3 h4 h5 h6 => SE.b3get (cx := { cx0 with F := F }) (b3_map (os := os) (gens := gens) X) (b3_vals X) (by decide) h1 h2 h3 h4 h5 h6
  inB1 := fun {C A env F e z id q p} h1 h2 h3 h4 => SE.inB1 (cx := { cx0 with F := F }) (b1_set_ok (os := os) (gens := gens) X) h1 h2 h3 h4
end
end uk0030_01
end
section
set_option maxHeartbeats 0
namespace uk0030_01
open PySem PySem.W PySem.Calls PyProof.Rows UK HL
section
variable {w : World} {h : Heap} {mg mb : Str → Option Value} {os : OsState} {gens : Array GenState} (X : Pre w h mg mb)
include X
theorem ff0 : FnFact (G0 w h mg mb os gens) nms fa cx0 m1f0 (fa 0) := by
  have hb : (fd2 17 3).body = .stmts (bodyOf (fd2 17 3)) := by kernel_rfl
  exact FnFact.of (kwm := fun _ => none) (dv := []) (K := KF w.params) (c := 181) (oc := o181f w.params) (o := o182f w.params) (xs := bodyOf (fd2 17 3)) (facts_ok X) X.k (by rfl) rfl rfl hb rfl (by rfl) rfl (by rfl) (fun lev => by kernel_rfl) (.inl ⟨rfl, rfl⟩) trivial (Nat.zero_le _) (fun _ h => nomatch h) (fun hp => nomatch hp)
theorem ff1 : FnFact (G0 w h mg mb os gens) nms fa cx0 m1f1 (fa 1) := by
  have hb : (fd2 17 4).body = .stmts (bodyOf (fd2 17 4)) := by kernel_rfl
  exact FnFact.of (kwm := fun _ => none) (dv := []) (K := KF w.params) (c := 186) (oc := o186f w.params) (o := o187f w.params) (xs := bodyOf (fd2 17 4)) (facts_ok X) X.k (by rfl) rfl rfl hb rfl (by rfl) rfl (by rfl) (fun lev => by kernel_rfl) (.inl ⟨rfl, rfl⟩) trivial (Nat.zero_le _) (fun _ h => nomatch h) (fun hp => nomatch hp)
theorem ff2 : FnFact (G0 w h mg mb os gens) nms fa cx0 m1f2 (fa 2) := by
  have hb : (fd2 17 8).body = .stmts (bodyOf (fd2 17 8)) := by kernel_rfl
  exact FnFact.of (kwm := fun _ => none) (dv := [.none]) (K := KF w.params) (c := 215) (oc := o215f w.params) (o := o216f w.params) (xs := bodyOf (fd2 17 8)) (facts_ok X) X.k (by rfl) rfl rfl hb rfl (by rfl) rfl (by rfl) (fun lev => by kernel_rfl) (.inr ⟨209, rfl, ⟨_, at_ X (a := 209) (by rfl), rfl, _, rfl⟩⟩) ⟨rfl, trivial⟩ (by decide) (fun _ h => nomatch h) (fun hp => nomatch hp)
theorem ff3 : FnFact (G0 w h mg mb os gens) nms fa cx0 m1f3 (fa 3) := by
  have hb : (fd2 17 11).body = .stmts (bodyOf (fd2 17 11)) := by kernel_rfl
  exact FnFact.of (kwm := fun _ => none) (dv := []) (K := KF w.params) (c := 232) (oc := o232f w.params) (o := o233f w.params) (xs := bodyOf (fd2 17 11)) (facts_ok X) X.k (by rfl) rfl rfl hb rfl (by rfl) rfl (by rfl) (fun lev => by kernel_rfl) (.inl ⟨rfl, rfl⟩) trivial (Nat.zero_le _) (fun _ h => nomatch h) (fun hp => nomatch hp)
theorem ff4 : FnFact (G0 w h mg mb os gens) nms fa cx0 m1f4 (fa 4) := by
  have hb : (fd2 17 15).body = .stmts (bodyOf (fd2 17 15)) := by kernel_rfl
  exact FnFact.of (kwm := fun _ => none) (dv := []) (K := KF w.params) (c := 258) (oc := o258f w.params) (o := o259f w.params) (xs := bodyOf (fd2 17 15)) (facts_ok X) X.k (by rfl) rfl rfl hb rfl (by rfl) rfl (by rfl) (fun lev => by kernel_rfl) (.inl ⟨rfl, rfl⟩) trivial (Nat.zero_le _) (fun _ h => nomatch h) (fun hp => nomatch hp)
theorem ff5 : FnFact (G0 w h mg mb os gens) nms fa cx0 m1f5 (fa 5) := by
  have hb : (fd2 17 7).body = .stmts (bodyOf (fd2 17 7)) := by kernel_rfl
  exact FnFact.of (kwm := fun _ => none) (dv := []) (K := KF w.params) (c := 207) (oc := o207f w.params) (o := o208f w.params) (xs := bodyOf (fd2 17 7)) (facts_ok X) X.k (by rfl) rfl rfl hb rfl (by rfl) rfl (by rfl) (fun lev => by kernel_rfl) (.inl ⟨rfl, rfl⟩) trivial (Nat.zero_le _) (fun _ h => nomatch h) (fun hp => nomatch hp)
theorem ff6 : FnFact (G0 w h mg mb os gens) nms fa cx0 m1f6 (fa 6) := by
  have hb : (fd2 17 10).body = .stmts (bodyOf (fd2 17 10)) := by kernel_rfl
  exact FnFact.of (kwm := fun _ => none) (dv := []) (K := KF w.params) (c := 225) (oc := o225f w.params) (o := o226f w.params) (xs := bodyOf (fd2 17 10)) (facts_ok X) X.k (by rfl) rfl rfl hb rfl (by rfl) rfl (by rfl) (fun lev => by kernel_rfl) (.inl ⟨rfl, rfl⟩) trivial (Nat.zero_le _) (fun _ h => nomatch h) (fun hp => nomatch hp)
theorem ff7 : FnFact (G0 w h mg mb os gens) nms fa cx0 m1f7 (fa 7) := by
  have hb : (fd1 4).body = .stmts (bodyOf (fd1 4)) := by kernel_rfl
  exact FnFact.of (kwm := fun _ => none) (dv := []) (K := KF w.params) (c := 44) (oc := o44s1 w.params) (o := o45s1 w.params) (xs := bodyOf (fd1 4)) (facts_ok X) X.k (by rfl) rfl rfl hb rfl (by rfl) rfl (by rfl) (fun lev => by kernel_rfl) (.inl ⟨rfl, rfl⟩) trivial (Nat.zero_le _) (fun _ h => nomatch h) (fun hp => nomatch hp)
theorem ff8 : FnFact (G0 w h mg mb os gens) nms fa cx0 m1f8 (fa 8) := by
  have hb : (fd1 6).body = .stmts (bodyOf (fd1 6)) := by kernel_rfl
  refine FnFact.of (kwm := nsFind #[⟨PyData.keyHash w.params ("key" : Str), .str ("key" : Str) 308, .none⟩]) (dv := [(.int 0 307), .none]) (K := KF w.params) (c := 53) (oc := o53s1 w.params) (o := o54s1 w.params) (xs := bodyOf (fd1 6)) (facts_ok X) X.k (by rfl) rfl rfl hb rfl (by rfl) rfl (by rfl) (fun lev => by kernel_rfl) (.inr ⟨46, rfl, ⟨_, at_ X (a := 46) (by rfl), rfl, _, rfl⟩⟩) ⟨⟨_, rfl⟩, rfl, trivial⟩ (by decide)
    (fun n _ => ⟨47, _, rfl, ⟨_, _, _, at_ X (a := 47) (by rfl), rfl, fun e he => ?_, fun _ => rfl⟩, rfl⟩) (fun {p} hp => ?_)
  · simp only [List.mem_toArray, List.mem_cons, List.not_mem_nil, or_false] at he
    subst he; exact ⟨_, _, rfl⟩
  · have hp : p ∈ [((14 : Nat), D.none)] := hp
    rw [List.mem_singleton] at hp
    subst hp
    exact ⟨.none, by kernel_rfl, rfl⟩
theorem ff9 : FnFact (G0 w h mg mb os gens) nms fa cx0 m1f9 (fa 9) := by
  have hb : (fd1 7).body = .stmts (bodyOf (fd1 7)) := by kernel_rfl
  refine FnFact.of (kwm := nsFind #[⟨PyData.keyHash w.params ("key" : Str), .str ("key" : Str) 321, .none⟩]) (dv := [(.int 0 320), .none]) (K := KF w.params) (c := 62) (oc := o62s1 w.params) (o := o63s1 w.params) (xs := bodyOf (fd1 7)) (facts_ok X) X.k (by rfl) rfl rfl hb rfl (by rfl) rfl (by rfl) (fun lev => by kernel_rfl) (.inr ⟨55, rfl, ⟨_, at_ X (a := 55) (by rfl), rfl, _, rfl⟩⟩) ⟨⟨_, rfl⟩, rfl, trivial⟩ (by decide)
    (fun n _ => ⟨56, _, rfl, ⟨_, _, _, at_ X (a := 56) (by rfl), rfl, fun e he => ?_, fun _ => rfl⟩, rfl⟩) (fun {p} hp => ?_)
  · simp only [List.mem_toArray, List.mem_cons, List.not_mem_nil, or_false] at he
    subst he; exact ⟨_, _, rfl⟩
  · have hp : p ∈ [((14 : Nat), D.none)] := hp
    rw [List.mem_singleton] at hp
    subst hp
    exact ⟨.none, by kernel_rfl, rfl⟩
theorem ff10 : FnFact (G0 w h mg mb os gens) nms fa cx0 m1f10 (fa 10) := by
  have hb : (fd1 8).body = .stmts (bodyOf (fd1 8)) := by kernel_rfl
  refine FnFact.of (kwm := nsFind #[⟨PyData.keyHash w.params ("key" : Str), .str ("key" : Str) 335, .none⟩]) (dv := [(.int 0 334), .none]) (K := KF w.params) (c := 71) (oc := o71s1 w.params) (o := o72s1 w.params) (xs := bodyOf (fd1 8)) (facts_ok X) X.k (by rfl) rfl rfl hb rfl (by rfl) rfl (by rfl) (fun lev => by kernel_rfl) (.inr ⟨64, rfl, ⟨_, at_ X (a := 64) (by rfl), rfl, _, rfl⟩⟩) ⟨⟨_, rfl⟩, rfl, trivial⟩ (by decide)
    (fun n _ => ⟨65, _, rfl, ⟨_, _, _, at_ X (a := 65) (by rfl), rfl, fun e he => ?_, fun _ => rfl⟩, rfl⟩) (fun {p} hp => ?_)
  · simp only [List.mem_toArray, List.mem_cons, List.not_mem_nil, or_false] at he
    subst he; exact ⟨_, _, rfl⟩
  · have hp : p ∈ [((14 : Nat), D.none)] := hp
    rw [List.mem_singleton] at hp
    subst hp
    exact ⟨.none, by kernel_rfl, rfl⟩
theorem ff11 : FnFact (G0 w h mg mb os gens) nms fa cx0 m1f11 (fa 11) := by
  have hb : (fd1 11).body = .stmts (bodyOf (fd1 11)) := by kernel_rfl
  exact FnFact.of (kwm := fun _ => none) (dv := []) (K := KF w.params) (c := 89) (oc := o89s3 w.params) (o := o90s3 w.params) (xs := bodyOf (fd1 11)) (facts_ok X) X.k (by rfl) rfl rfl hb rfl (by rfl) rfl (by rfl) (fun lev => by kernel_rfl) (.inl ⟨rfl, rfl⟩) trivial (Nat.zero_le _) (fun _ h => nomatch h) (fun hp => nomatch hp)
theorem ff12 : FnFact (G0 w h mg mb os gens) nms fa cx0 m1f12 (fa 12) := by
  have hb : (fd1 13).body = .stmts (bodyOf (fd1 13)) := by kernel_rfl
  exact FnFact.of (kwm := fun _ => none) (dv := []) (K := KF w.params) (c := 135) (oc := o135f w.params) (o := o136f w.params) (xs := bodyOf (fd1 13)) (facts_ok X) X.k (by rfl) rfl rfl hb rfl (by rfl) rfl (by rfl) (fun lev => by kernel_rfl) (.inl ⟨rfl, rfl⟩) trivial (Nat.zero_le _) (fun _ h => nomatch h) (fun hp => nomatch hp)
theorem ff13 : FnFact (G0 w h mg mb os gens) nms fa cx0 m1f13 (fa 13) := by
  have hb : (fd1 19).body = .stmts (bodyOf (fd1 19)) := by kernel_rfl
  exact FnFact.of (kwm := fun _ => none) (dv := []) (K := KF w.params) (c := 279) (oc := o279f w.params) (o := o280f w.params) (xs := bodyOf (fd1 19)) (facts_ok X) X.k (by rfl) rfl rfl hb rfl (by rfl) rfl (by rfl) (fun lev => by kernel_rfl) (.inl ⟨rfl, rfl⟩) trivial (Nat.zero_le _) (fun _ h => nomatch h) (fun hp => nomatch hp)
theorem ff14 : FnFact (G0 w h mg mb os gens) nms fa cx0 m1f14 (fa 14) := by
  have hb : (fd1 20).body = .stmts (bodyOf (fd1 20)) := by kernel_rfl
  exact FnFact.of (kwm := fun _ => none) (dv := []) (K := KF w.params) (c := 286) (oc := o286f w.params) (o := o287f w.params) (xs := bodyOf (fd1 20)) (facts_ok X) X.k (by rfl) rfl rfl hb rfl (by rfl) rfl (by rfl) (fun lev => by kernel_rfl) (.inl ⟨rfl, rfl⟩) trivial (Nat.zero_le _) (fun _ h => nomatch h) (fun hp => nomatch hp)
theorem ff15 : FnFact (G0 w h mg mb os gens) nms fa cx0 m1f15 (fa 15) := by
  have hb : (fd1 21).body = .stmts (bodyOf (fd1 21)) := by kernel_rfl
  exact FnFact.of (kwm := fun _ => none) (dv := []) (K := KF w.params) (c := 293) (oc := o293f w.params) (o := o294f w.params) (xs := bodyOf (fd1 21)) (facts_ok X) X.k (by rfl) rfl rfl hb rfl (by rfl) rfl (by rfl) (fun lev => by kernel_rfl) (.inl ⟨rfl, rfl⟩) trivial (Nat.zero_le _) (fun _ h => nomatch h) (fun hp => nomatch hp)
theorem ff16 : FnFact (G0 w h mg mb os gens) nms fa cx0 m1f16 (fa 16) := by
  have hb : (fd1 22).body = .stmts (bodyOf (fd1 22)) := by kernel_rfl
  exact FnFact.of (kwm := fun _ => none) (dv := []) (K := KF w.params) (c := 300) (oc := o300f w.params) (o := o301f w.params) (xs := bodyOf (fd1 22)) (facts_ok X) X.k (by rfl) rfl rfl hb rfl (by rfl) rfl (by rfl) (fun lev => by kernel_rfl) (.inl ⟨rfl, rfl⟩) trivial (Nat.zero_le _) (fun _ h => nomatch h) (fun hp => nomatch hp)
theorem ff17 : FnFact (G0 w h mg mb os gens) nms fa cx0 m1f17 (fa 17) := by
  have hb : (fd1 23).body = .stmts (bodyOf (fd1 23)) := by kernel_rfl
  exact FnFact.of (kwm := fun _ => none) (dv := []) (K := KF w.params) (c := 305) (oc := o305f w.params) (o := o306f w.params) (xs := bodyOf (fd1 23)) (facts_ok X) X.k (by rfl) rfl rfl hb rfl (by rfl) rfl (by rfl) (fun lev => by kernel_rfl) (.inl ⟨rfl, rfl⟩) trivial (Nat.zero_le _) (fun _ h => nomatch h) (fun hp => nomatch hp)
theorem ff18 : FnFact (G0 w h mg mb os gens) nms fa cx0 m1f18 (fa 18) := by
  have hb : (fd1 24).body = .stmts (bodyOf (fd1 24)) := by kernel_rfl
  exact FnFact.of (kwm := fun _ => none) (dv := []) (K := KF w.params) (c := 310) (oc := o310f w.params) (o := o311f w.params) (xs := bodyOf (fd1 24)) (facts_ok X) X.k (by rfl) rfl rfl hb rfl (by rfl) rfl (by rfl) (fun lev => by kernel_rfl) (.inl ⟨rfl, rfl⟩) trivial (Nat.zero_le _) (fun _ h => nomatch h) (fun hp => nomatch hp)
theorem ff19 : FnFact (G0 w h mg mb os gens) nms fa cx0 m1f19 (fa 19) := by
  have hb : (fd1 25).body = .stmts (bodyOf (fd1 25)) := by kernel_rfl
  exact FnFact.of (kwm := fun _ => none) (dv := []) (K := KF w.params) (c := 315) (oc := o315f w.params) (o := o316f w.params) (xs := bodyOf (fd1 25)) (facts_ok X) X.k (by rfl) rfl rfl hb rfl (by rfl) rfl (by rfl) (fun lev => by kernel_rfl) (.inl ⟨rfl, rfl⟩) trivial (Nat.zero_le _) (fun _ h => nomatch h) (fun hp => nomatch hp)
theorem ff20 : FnFact (G0 w h mg mb os gens) nms fa cx0 m1f20 (fa 20) := by
  have hb : (fd1 26).body = .stmts (bodyOf (fd1 26)) := by kernel_rfl
  exact FnFact.of (kwm := fun _ => none) (dv := []) (K := KF w.params) (c := 320) (oc := o320f w.params) (o := o321f w.params) (xs := bodyOf (fd1 26)) (facts_ok X) X.k (by rfl) rfl rfl hb rfl (by rfl) rfl (by rfl) (fun lev => by kernel_rfl) (.inl ⟨rfl, rfl⟩) trivial (Nat.zero_le _) (fun _ h => nomatch h) (fun hp => nomatch hp)
theorem ff21 : FnFact (G0 w h mg mb os gens) nms fa cx0 m1f21 (fa 21) := by
  have hb : (fd1 27).body = .stmts (bodyOf (fd1 27)) := by kernel_rfl
  exact FnFact.of (kwm := fun _ => none) (dv := []) (K := KF w.params) (c := 325) (oc := o325f w.params) (o := o326f w.params) (xs := bodyOf (fd1 27)) (facts_ok X) X.k (by rfl) rfl rfl hb rfl (by rfl) rfl (by rfl) (fun lev => by kernel_rfl) (.inl ⟨rfl, rfl⟩) trivial (Nat.zero_le _) (fun _ h => nomatch h) (fun hp => nomatch hp)
theorem ff22 : FnFact (G0 w h mg mb os gens) nms fa cx0 m1f22 (fa 22) := by
  have hb : (fd1 28).body = .stmts (bodyOf (fd1 28)) := by kernel_rfl
  exact FnFact.of (kwm := fun _ => none) (dv := []) (K := KF w.params) (c := 332) (oc := o332f w.params) (o := o333f w.params) (xs := bodyOf (fd1 28)) (facts_ok X) X.k (by rfl) rfl rfl hb rfl (by rfl) rfl (by rfl) (fun lev => by kernel_rfl) (.inl ⟨rfl, rfl⟩) trivial (Nat.zero_le _) (fun _ h => nomatch h) (fun hp => nomatch hp)
theorem ff23 : FnFact (G0 w h mg mb os gens) nms fa cx0 m1f23 (fa 23) := by
  have hb : (fd1 29).body = .stmts (bodyOf (fd1 29)) := by kernel_rfl
  exact FnFact.of (kwm := fun _ => none) (dv := []) (K := KF w.params) (c := 339) (oc := o339f w.params) (o := o340f w.params) (xs := bodyOf (fd1 29)) (facts_ok X) X.k (by rfl) rfl rfl hb rfl (by rfl) rfl (by rfl) (fun lev => by kernel_rfl) (.inl ⟨rfl, rfl⟩) trivial (Nat.zero_le _) (fun _ h => nomatch h) (fun hp => nomatch hp)
theorem ff_all : ∀ f fn, m1fns[f]? = some fn → FnFact (G0 w h mg mb os gens) nms fa cx0 fn (fa f)
  | 0, fn, e => by have e : some m1f0 = some fn := e; cases e; exact ff0 X
  | 1, fn, e => by have e : some m1f1 = some fn := e; cases e; exact ff1 X
  | 2, fn, e => by have e : some m1f2 = some fn := e; cases e; exact ff2 X
  | 3, fn, e => by have e : some m1f3 = some fn := e; cases e; exact ff3 X
  | 4, fn, e => by have e : some m1f4 = some fn := e; cases e; exact ff4 X
  | 5, fn, e => by have e : some m1f5 = some fn := e; cases e; exact ff5 X
  | 6, fn, e => by have e : some m1f6 = some fn := e; cases e; exact ff6 X
  | 7, fn, e => by have e : some m1f7 = some fn := e; cases e; exact ff7 X
  | 8, fn, e => by have e : some m1f8 = some fn := e; cases e; exact ff8 X
  | 9, fn, e => by have e : some m1f9 = some fn := e; cases e; exact ff9 X
  | 10, fn, e => by have e : some m1f10 = some fn := e; cases e; exact ff10 X
  | 11, fn, e => by have e : some m1f11 = some fn := e; cases e; exact ff11 X
  | 12, fn, e => by have e : some m1f12 = some fn := e; cases e; exact ff12 X
  | 13, fn, e => by have e : some m1f13 = some fn := e; cases e; exact ff13 X
  | 14, fn, e => by have e : some m1f14 = some fn := e; cases e; exact ff14 X
  | 15, fn, e => by have e : some m1f15 = some fn := e; cases e; exact ff15 X
  | 16, fn, e => by have e : some m1f16 = some fn := e; cases e; exact ff16 X
  | 17, fn, e => by have e : some m1f17 = some fn := e; cases e; exact ff17 X
  | 18, fn, e => by have e : some m1f18 = some fn := e; cases e; exact ff18 X
  | 19, fn, e => by have e : some m1f19 = some fn := e; cases e; exact ff19 X
  | 20, fn, e => by have e : some m1f20 = some fn := e; cases e; exact ff20 X
  | 21, fn, e => by have e : some m1f21 = some fn := e; cases e; exact ff21 X
  | 22, fn, e => by have e : some m1f22 = some fn := e; cases e; exact ff22 X
  | 23, fn, e => by have e : some m1f23 = some fn := e; cases e; exact ff23 X
  | n + 24, fn, e => by have e : none = some fn := e; cases e
theorem law_walk {s : Shared} {a : Addr} {vs : List Value} {is : List Int} {n : Nat} (hs : s.heap = h) (ho : s.os = os) (hg : s.gens = gens) (ha : h.get? a = some { cls := .type "list", data := .seq vs.toArray n }) (hI : IntsAre vs is)
    (hrun : runF m1fns cx0 20 23 [.lst (is.map .int)] [] = some (.d (.bool true), [])) :
    wpAny (model PySem.Challenge.rw_uk0030_01.row.prog w) callerA (call (.ref 340) [.ref a]) (fun v s' => v = .bool true ∧ (∀ b o, s.heap.get? b = some o → s'.heap.get? b = some o) ∧ s'.os = s.os ∧ s'.gens = s.gens) (fun _ _ => False) s := by
  have B : Base (G0 w h mg mb os gens) 20 callerA ⟨h, [], [], []⟩ [] := {
    keep := fun b o e => ⟨e, nofun, nofun, nofun⟩
    glob := ⟨X.g, X.b⟩
    nolim := X.nolim
    handled := rfl
    depth := by decide
    units := by decide
    led := trivial
    nd := .nil
    sep := fun a h => (h.elim (fun m => nomatch m) fun m => nomatch m)
    ownex := fun a h => (h.elim (fun m => nomatch m) fun m => nomatch m)
    op := fun a m => nomatch m }
  have r : VRs (G0 w h mg mb os gens) ⟨h, [], [], []⟩ [.lst (is.map .int)] [.ref a] := ⟨⟨a, vs.toArray, rfl, ⟨n, ha⟩, ⟨nofun, nofun, nofun⟩, by simpa using DRs_ints hI⟩, trivial⟩
  refine runF_sound (G := G0 w h mg mb os gens) (fa := fa) nms_nodup (ff_all X) 20 (f := 23) (K := fun r => r = (.d (.bool true), [])) B ⟨hs.symm, ho, hg⟩ r (toW hrun rfl) fun {q v s' w'} e p => ?_
  subst e
  refine ⟨p.val, fun b o e => ?_, p.heap.2.1.trans ho.symm, p.heap.2.2.trans hg.symm⟩
  rw [← p.heap.1]
  exact (p.stp.keep b o (hs ▸ e) nofun).1
end
end uk0030_01
end
section
namespace UK
open PySem PySem.W
section
variable {cx : Cx} {mu : List Nat} {n₀ : Nat} {loc l : Loc} {led l1 l2 l3 d : Led}
theorem bindF {α β : Type} {o : Option α} {f : α → Option β} {a : α} (h : o = some a) : o.bind f = f a := by subst h; rfl
theorem mapF {α β : Type} {o : Option α} {f : α → β} {a : α} (h : o = some a) : o.map f = some (f a) := by subst h; rfl
theorem gdF {p : Prop} [Decidable p] {α : Type} {x : Option α} (h : p) : gd p x = x := if_pos h
theorem seq1 {s : S} {ss : List S} (h : evS cx mu n₀ s loc led = some (.nx, l, d)) : evSs cx mu n₀ (s :: ss) loc led = evSs cx mu n₀ ss l d := bindF h
theorem seqR {s : S} {ss : List S} {v : V} (h : evS cx mu n₀ s loc led = some (.ret v, l, d)) : evSs cx mu n₀ (s :: ss) loc led = some (.ret v, l, d) := bindF h
theorem ite_t {c : E} {a b : List S} {v : V} (h : evE cx c loc led = some (v, l1)) (t : tru l1 v = some true) : evS cx mu n₀ (.ite c a b) loc led = evSs cx mu n₀ a loc (l1.take led.length) := (bindF h).trans (bindF t)
theorem ite_f {c : E} {a b : List S} {v : V} (h : evE cx c loc led = some (v, l1)) (t : tru l1 v = some false) : evS cx mu n₀ (.ite c a b) loc led = evSs cx mu n₀ b loc (l1.take led.length) := (bindF h).trans (bindF t)
theorem assign1 {t : T} {e : E} {v : V} {b : BS} (h : evE cx e loc led = some (v, l1)) (hb : bindV mu n₀ l1 t v ⟨led.length, loc, l1.take led.length⟩ = some b) : evS cx mu n₀ (.assign t e) loc led = some (.nx, b.loc, b.base) := (bindF h).trans (mapF hb)
theorem expr1 {e : E} {v : V} (h : evE cx e loc led = some (v, l1)) : evS cx mu n₀ (.expr e) loc led = some (.nx, loc, l1.take led.length) := mapF h
theorem ret1 {e : E} {v : V} (h : evE cx e loc led = some (v, l1)) : evS cx mu n₀ (.ret e) loc led = some (.ret v, loc, l1) := mapF h
theorem bin_e {op : Op2} {a b : E} {x y : V} (h1 : evE cx a loc led = some (x, l1)) (h2 : evE cx b loc l1 = some (y, l2)) : evE cx (.bin op a b) loc led = evBin l2 op x y := (bindF h1).trans (bindF h2)
theorem call_e {f : Nat} {as : List E} {vs : List V} (h : evEs cx as loc led = some (vs, l1)) : evE cx (.call f as) loc led = cx.F f vs l1 := bindF h
theorem bi_e {b : Bi} {as : List E} {vs : List V} (h : evEs cx as loc led = some (vs, l1)) : evE cx (.bi b as) loc led = evBi l1 b vs := bindF h
theorem meth_e {m : Me} {o : E} {as : List E} {v : V} {vs : List V} (h : evE cx o loc led = some (v, l1)) (hm : methAt l1 m v = true) (h2 : evEs cx as loc l1 = some (vs, l2)) : evE cx (.meth m o as) loc led = evMeth l2 m v vs := (bindF h).trans ((gdF hm).trans (bindF h2))
theorem hm_e {f : Nat} {o : E} {as : List E} {v : V} {vs : List V} (h : evE cx o loc led = some (v, l1)) (h2 : evEs cx as loc l1 = some (vs, l2)) (hh : isHdr v = true) : evE cx (.hm f o as) loc led = cx.F f (v :: vs) l2 := (bindF h).trans ((bindF h2).trans (gdF hh))
theorem es1 {e : E} {es : List E} {v : V} {vs : List V} (h1 : evE cx e loc led = some (v, l1)) (h2 : evEs cx es loc l1 = some (vs, l2)) : evEs cx (e :: es) loc led = some (v :: vs, l2) := (bindF h1).trans (mapF h2)
theorem es0 {e : E} {v : V} (h1 : evE cx e loc led = some (v, l1)) : evEs cx [e] loc led = some ([v], l1) := es1 h1 rfl
theorem tuple_e {as : List E} {vs : List V} {ds : List D} (h : evEs cx as loc led = some (vs, l1)) (ha : allD vs = some ds) : evE cx (.tuple as) loc led = some (.d (.tup ds), l1) := (mapF h).trans (by show some (match allD vs with | some ds => (V.d (.tup ds), l1) | none => (.tup vs, l1)) = _; rw [ha])
theorem list_e {as : List E} {vs : List V} {ds : List D} (h : evEs cx as loc led = some (vs, l1)) (ha : allD vs = some ds) : evE cx (.list as) loc led = some (.ref l1.length, l1 ++ [.list ds]) := (bindF h).trans (mapF ha)
theorem index_e {a i : E} {x y r : V} (h1 : evE cx a loc led = some (x, l1)) (h2 : evE cx i loc l1 = some (y, l2)) (h3 : evIndex l2 x y = some r) : evE cx (.index a i) loc led = some (r, l2) := (bindF h1).trans ((bindF h2).trans (mapF h3))
theorem cmp_e {a b : E} {op : Cm} {x y : V} {r : Bool} (h1 : evE cx a loc led = some (x, l1)) (h2 : evE cx b loc l1 = some (y, l2)) (h3 : evCmp l2 op x y = some r) : evE cx (.cmp a op b) loc led = some (.d (.bool r), l2) := (bindF h1).trans ((bindF h2).trans (mapF h3))
theorem not_e {a : E} {x : V} {r : Bool} (h1 : evE cx a loc led = some (x, l1)) (h3 : tru l1 x = some r) : evE cx (.not a) loc led = some (.d (.bool !r), l1) := (bindF h1).trans (mapF h3)
theorem and_e {a b : E} {x : V} (h1 : evE cx a loc led = some (x, l1)) (h3 : tru l1 x = some true) : evE cx (.and a b) loc led = evE cx b loc l1 := (bindF h1).trans (bindF h3)
theorem ife_t {c a b : E} {x : V} (h1 : evE cx c loc led = some (x, l1)) (h3 : tru l1 x = some true) : evE cx (.ite c a b) loc led = evE cx a loc l1 := (bindF h1).trans (bindF h3)
theorem ife_f {c a b : E} {x : V} (h1 : evE cx c loc led = some (x, l1)) (h3 : tru l1 x = some false) : evE cx (.ite c a b) loc led = evE cx b loc l1 := (bindF h1).trans (bindF h3)
theorem slice_e {a lo hi st : E} {x y z u : V} {l4 : Led} (h1 : evE cx a loc led = some (x, l1)) (h2 : evE cx lo loc l1 = some (y, l2)) (h3 : evE cx hi loc l2 = some (z, l3)) (h4 : evE cx st loc l3 = some (u, l4)) : evE cx (.slice a lo hi st) loc led = evSlice l4 x y z u :=
  (bindF h1).trans ((bindF h2).trans ((bindF h3).trans (bindF h4)))
theorem name_e {x : Nat} {v : V} (h : get loc x = some v) : evE cx (.name x) loc led = some (v, led) := mapF h
theorem conv_e {nm : Bool} {o e : E} {v : V} {x : Str} (h1 : evE cx o loc led = some (v, l1)) (h2 : evE cx e loc l1 = some (.d (.str x), l2)) (h3 : isHdr v = true) (h4 : cx.conv nm x = true) : evE cx (.conv nm o e) loc led = some (.d (.str x), l2) := (bindF h1).trans ((bindF h2).trans (gdF ⟨h3, h4⟩))
theorem b3_e {e : E} {c : Int} (h : evE cx e loc led = some (.d (.int c), l1)) : evE cx (.b3get e) loc led = some ((cx.b3 c).elim (.d .none) fun x => .d (.str x), l1) := (bindF h).trans (by
  show some (match cx.b3 c with | some x => (V.d (.str x), l1) | none => (.d .none, l1)) = _
  cases cx.b3 c <;> rfl)
theorem add_str {x y : Str} (h : x.length + y.length ≤ cap) : evBin led .add (.d (.str x)) (.d (.str y)) = some (.d (.str (x ++ y)), led) := by
  show Option.map _ (gd (x.length + y.length ≤ cap) _) = _
  rw [gdF h]; rfl
theorem mul_int {x y : Int} (h : x.natAbs < 2 ^ 32 ∨ y.natAbs < 2 ^ 32) : evBin led .mul (.d (.int x)) (.d (.int y)) = some (.d (.int (x * y)), led) := by
  show Option.map _ (gd (x.natAbs < 2 ^ 32 ∨ y.natAbs < 2 ^ 32) _) = _
  rw [gdF h]; rfl
theorem hset_e {o k v : E} {a b c r : V} (h1 : evE cx v loc led = some (a, l1)) (h2 : evE cx o loc l1 = some (b, l2)) (h3 : evE cx k loc l2 = some (c, l3)) (h4 : isHd b = true) (h5 : cx.F 0 [b, c, a] l3 = some (r, d)) : evS cx mu n₀ (.hset o k v) loc led = some (.nx, loc, d.take led.length) :=
  (bindF h1).trans ((bindF h2).trans ((bindF h3).trans ((gdF h4).trans (mapF h5))))
theorem delh_e {o k : E} {b c r : V} (h2 : evE cx o loc led = some (b, l2)) (h3 : evE cx k loc l2 = some (c, l3)) (h4 : isHd b = true) (h5 : cx.F 1 [b, c] l3 = some (r, d)) : evS cx mu n₀ (.delh o k) loc led = some (.nx, loc, d.take led.length) :=
  (bindF h2).trans ((bindF h3).trans ((gdF h4).trans (mapF h5)))
theorem slset_e {o e : E} {a : V} {k : Nat} {xs ys : List D} (h1 : evE cx e loc led = some (a, l1)) (h2 : evE cx o loc l1 = some (.ref k, l2)) (h3 : l2.list a = some ys) (h4 : l2[k]? = some (.list xs)) (h5 : ys.length ≤ cap ∧ xs.length ≤ cap) : evS cx mu n₀ (.slset o e) loc led = some (.nx, loc, (l2.set k (.list ys)).take led.length) :=
  (bindF h1).trans ((bindF h2).trans ((bindF h3).trans ((bindF (a := xs) (bindF (f := O.list?) h4)).trans (gdF h5))))
theorem dset_e {x : Nat} {ke v : E} {d0 : D} {key : Str} {kvs : List (Str × D)} {j : Nat} (h1 : evE cx v loc led = some (.d d0, l1)) (h2 : get loc x = some (.ref j)) (h3 : evE cx ke loc l1 = some (.d (.str key), l2)) (h4 : l2[j]? = some (.dict kvs)) (h5 : kvs.length < cap) : evS cx mu n₀ (.dset x ke v) loc led = some (.nx, loc, (l2.set j (.dict (laidK kvs key d0))).take led.length) :=
  (bindF h1).trans ((bindF (a := d0) rfl).trans ((bindF h2).trans ((bindF (a := j) rfl).trans ((bindF h3).trans ((bindF (a := key) rfl).trans ((bindF (a := kvs) (bindF (f := O.dict?) h4)).trans (gdF h5)))))))
noncomputable def cF (cx : Cx) (c : E) : Loc → Led → Option (Bool × Led) := fun loc led => (evE cx c loc led).bind fun p => (tru p.2 p.1).map fun r => (r, p.2)
theorem while_eq {c : E} {b : List S} : evS cx mu n₀ (.while c b) loc led = whileLoop (cF cx c) (fun loc led' => evSs cx mu led.length b loc led') cx.N loc led := rfl
theorem while_f {cond : Loc → Led → Option (Bool × Led)} {body : Loc → Led → Option Res} {N : Nat} (hc : cond loc led = some (false, l1)) (ht : l1.take led.length = led) : whileLoop cond body (N + 1) loc led = some (.nx, loc, led) :=
  (bindF hc).trans (by show some (Fl.nx, loc, l1.take led.length) = _; rw [ht])
theorem while_t {cond : Loc → Led → Option (Bool × Led)} {body : Loc → Led → Option Res} {N : Nat} {loc2 loc3 : Loc} (hc : cond loc led = some (true, l1)) (ht : l1.take led.length = led) (hb : body loc led = some (.nx, loc2, l2)) (h3 : trunc loc.length led.length loc2 l2 = some (loc3, l3)) :
    whileLoop cond body (N + 1) loc led = whileLoop cond body N loc3 l3 :=
  (bindF hc).trans (by
    show (body loc (l1.take led.length)).bind _ = _
    rw [ht, bindF hb]
    exact bindF h3)
theorem for_eq {t : T} {k : IK} {its : List E} {b : List S} {vs : List V} {src : Src} (h1 : evEs cx its loc led = some (vs, l1)) (h2 : srcOf led.length l1 k vs = some src) :
    evS cx mu n₀ (.for t k its b) loc led = forLoop t (fun loc led' => evSs cx mu led.length b loc led') cx.N src loc (l1.take led.length) := (bindF h1).trans (bindF h2)
theorem for_go {t : T} {body : Loc → Led → Option Res} {N : Nat} {src src' : Src} {x : D} {loc1 loc2 loc3 : Loc} (hn : src.next led = some (some (x, src'))) (hb : bindD t x loc = some loc1) (he : body loc1 led = some (.nx, loc2, l2))
    (ht : trunc loc.length led.length loc2 l2 = some (loc3, l3)) : forLoop t body (N + 1) src loc led = forLoop t body N src' loc3 l3 :=
  (bindF hn).trans ((bindF hb).trans ((bindF he).trans (bindF ht)))
theorem for_stop {t : T} {body : Loc → Led → Option Res} {N : Nat} {src src' : Src} {x : D} {loc1 loc2 : Loc} {v : V} (hn : src.next led = some (some (x, src'))) (hb : bindD t x loc = some loc1) (he : body loc1 led = some (.ret v, loc2, l2)) :
    forLoop t body (N + 1) src loc led = some (.ret v, loc2, l2) := (bindF hn).trans ((bindF hb).trans (bindF he))
theorem for_end {t : T} {body : Loc → Led → Option Res} {N : Nat} {src : Src} (hn : src.next led = some none) : forLoop t body (N + 1) src loc led = some (.nx, loc, led) := bindF hn
theorem for_step {t : T} {body : Loc → Led → Option Res} {N : Nat} {x : D} {xs : List D} {loc1 loc2 loc3 : Loc} (hb : bindD t x loc = some loc1) (he : body loc1 led = some (.nx, loc2, l2))
    (ht : trunc loc.length led.length loc2 l2 = some (loc3, l3)) : forLoop t body (N + 1) (.fz (x :: xs)) loc led = forLoop t body N (.fz xs) loc3 l3 := for_go rfl hb he ht
theorem for_nil {t : T} {body : Loc → Led → Option Res} {N : Nat} : forLoop t body (N + 1) (.fz []) loc led = some (.nx, loc, led) := rfl
noncomputable def turnP (cx : Cx) (elt : E) (t : T) (conds : List E) (lc : Loc) (d : D) (led : Led) : Option (Option D × Led) := (bindD t d lc).bind fun loc' => (evConds cx conds loc' led).bind fun c =>
  cond c.1 ((evE cx elt loc' c.2).bind fun y => (ofV y.1).map fun d => (some d, y.2)) (some (none, c.2))
theorem turn_no {elt : E} {t : T} {lc : Loc} {x y : D} (hb : bindD t x lc = some loc) (he : evE cx elt loc led = some (.d y, l1)) : turnP cx elt t [] lc x led = some (some y, l1) := (bindF hb).trans (bindF he)
theorem cond1 {c : E} {v : V} {b : Bool} (h : evE cx c loc led = some (v, l1)) (t : tru l1 v = some b) : evConds cx [c] loc led = some (b, l1) := (bindF h).trans ((bindF t).trans (by cases b <;> rfl))
theorem turn_t {elt c : E} {t : T} {lc : Loc} {x y : D} {v : V} (hb : bindD t x lc = some loc) (hc : evE cx c loc led = some (v, l1)) (ht : tru l1 v = some true) (he : evE cx elt loc l1 = some (.d y, l2)) : turnP cx elt t [c] lc x led = some (some y, l2) :=
  (bindF hb).trans ((bindF (cond1 hc ht)).trans (bindF he))
theorem turn_f {elt c : E} {t : T} {lc : Loc} {x : D} {v : V} (hb : bindD t x lc = some loc) (hc : evE cx c loc led = some (v, l1)) (ht : tru l1 v = some false) : turnP cx elt t [c] lc x led = some (none, l1) :=
  (bindF hb).trans (bindF (cond1 hc ht))
theorem comp_eq {elt : E} {t : T} {k : IK} {its conds : List E} {caps : List Nat} {ledF : Led} {vs : List V} {src : Src} (h1 : evEs cx its loc led = some (vs, l1)) (h2 : srcOf l1.length l1 k vs = some src)
    (h3 : compLoop l1.length (turnP cx elt t conds (capt caps loc)) cx.N src (l1 ++ [.list []]) = some ledF) : evE cx (.comp elt t k its conds caps) loc led = some (.ref l1.length, ledF) := (bindF h1).trans ((bindF h2).trans (mapF h3))
theorem keep_none {n : Nat} : keepL n none led = some (led.take (n + 1)) := rfl
theorem keep_some {n : Nat} {y : D} {led0 l1 : Led} {ys : List D} (hn : led0.length = n) (h : l1.take (n + 1) = led0 ++ [.list ys]) (hc : ys.length < cap) : keepL n (some y) l1 = some (led0 ++ [.list (ys ++ [y])]) := by
  subst hn
  have hg : l1[led0.length]? = some (.list ys) := by
    have := congrArg (fun l => l[led0.length]?) h
    rwa [List.getElem?_take_of_lt (Nat.lt_succ_self _), List.getElem?_concat_length] at this
  refine (bindF (a := ys) (bindF (f := O.list?) hg)).trans ((gdF hc).trans ?_)
  rw [h, List.set_append_right _ _ (Nat.le_refl _), Nat.sub_self]; rfl
theorem comp_fz {n : Nat} {turn : D → Led → Option (Option D × Led)} {led0 : Led} (hn : led0.length = n) (f : D → Option D) : ∀ (xs ys : List D) (N : Nat), xs.length < N → ys.length + xs.length < cap →
    (∀ x ∈ xs, ∀ ys', ∃ l, turn x (led0 ++ [.list ys']) = some (f x, l) ∧ l.take (n + 1) = led0 ++ [.list ys']) → compLoop n turn N (.fz xs) (led0 ++ [.list ys]) = some (led0 ++ [.list (ys ++ xs.filterMap f)])
  | [], ys, 0, h1, _, _ => absurd h1 (Nat.not_lt_zero _)
  | [], ys, N + 1, _, _, _ => by rw [List.filterMap_nil, List.append_nil]; rfl
  | x :: xs, ys, 0, h1, _, _ => absurd h1 (Nat.not_lt_zero _)
  | x :: xs, ys, N + 1, h1, h2, h => by
    obtain ⟨l, ht, hl⟩ := h x (.head _) ys
    have ih := comp_fz (turn := turn) hn f xs
    have h2' : ys.length + xs.length + 1 < cap := h2
    refine (bindF ht).trans ?_
    cases hf : f x with
    | none =>
      rw [List.filterMap_cons_none hf]
      refine (bindF (keep_none.trans (congrArg some hl))).trans ?_
      exact ih ys N (Nat.lt_of_succ_lt_succ h1) (Nat.lt_of_succ_lt h2') fun y hy => h y (.tail _ hy)
    | some y =>
      rw [List.filterMap_cons_some hf, List.append_cons ys y]
      refine (bindF (keep_some hn hl (Nat.lt_of_le_of_lt (Nat.le_add_right _ _) (Nat.lt_of_succ_lt h2')))).trans ?_
      refine ih (ys ++ [y]) N (Nat.lt_of_succ_lt_succ h1) ?_ fun z hz => h z (.tail _ hz)
      rw [List.length_append, Nat.add_right_comm]; exact h2'
theorem comp_live {n j : Nat} {turn : D → Led → Option (Option D × Led)} {led0 : Led} {zs : List D} (hn : led0.length = n) (hj : led0[j]? = some (.list zs)) (f : D → Option D) : ∀ (xs ys : List D) (i N : Nat), zs.drop i = xs → xs.length < N → ys.length + xs.length < cap →
    (∀ x ∈ xs, ∀ ys', ∃ l, turn x (led0 ++ [.list ys']) = some (f x, l) ∧ l.take (n + 1) = led0 ++ [.list ys']) → compLoop n turn N (.live j i) (led0 ++ [.list ys]) = some (led0 ++ [.list (ys ++ xs.filterMap f)])
  | xs, ys, i, 0, _, h1, _, _ => absurd h1 (Nat.not_lt_zero _)
  | xs, ys, i, N + 1, hd, h1, h2, h => by
    have hn' : Src.next (led0 ++ [.list ys]) (.live j i) = some ((zs[i]?).map fun x => (x, .live j (i + 1))) := by
      refine mapF (f := fun xs => (xs[i]?).map fun x => (x, Src.live j (i + 1))) (bindF (f := O.list?) (a := .list zs) ?_)
      rw [List.getElem?_append_left (List.getElem?_eq_some_iff.mp hj).1]; exact hj
    match xs with
    | [] =>
      have hz : zs[i]? = none := List.getElem?_eq_none (List.drop_eq_nil_iff.mp hd)
      rw [hz] at hn'
      refine (bindF hn').trans ?_
      rw [List.filterMap_nil, List.append_nil]; rfl
    | x :: xs =>
      have hz : zs[i]? = some x := by
        have := congrArg (fun l => l[0]?) hd
        rwa [List.getElem?_drop] at this
      rw [hz] at hn'
      have hd' : zs.drop (i + 1) = xs := by rw [← List.drop_drop, hd]; rfl
      obtain ⟨l, ht, hl⟩ := h x (.head _) ys
      have ih := comp_live (turn := turn) hn hj f xs
      have h2' : ys.length + xs.length + 1 < cap := h2
      refine (bindF hn').trans ((bindF ht).trans ?_)
      cases hf : f x with
      | none =>
        rw [List.filterMap_cons_none hf]
        refine (bindF (keep_none.trans (congrArg some hl))).trans ?_
        exact ih ys (i + 1) N hd' (Nat.lt_of_succ_lt_succ h1) (Nat.lt_of_succ_lt h2') fun y hy => h y (.tail _ hy)
      | some y =>
        rw [List.filterMap_cons_some hf, List.append_cons ys y]
        refine (bindF (keep_some hn hl (Nat.lt_of_le_of_lt (Nat.le_add_right _ _) (Nat.lt_of_succ_lt h2')))).trans ?_
        refine ih (ys ++ [y]) (i + 1) N hd' (Nat.lt_of_succ_lt_succ h1) ?_ fun z hz => h z (.tail _ hz)
        rw [List.length_append, Nat.add_right_comm]; exact h2'
theorem turn_pl {n : Nat} {led0 : Led} (hn : led0.length = n) {ys : List D} {o : Option D} {r : Option (Option D × Led)} (h : r = some (o, led0 ++ [.list ys])) : ∃ l, r = some (o, l) ∧ l.take (n + 1) = led0 ++ [.list ys] :=
  ⟨_, h, by rw [List.take_of_length_le]; rw [List.length_append, hn]; exact Nat.le_refl _⟩
theorem run_step {fns : List Fn} {k f : Nat} {fn : Fn} {as : List V} {loc' : Loc} {fl : Fl} {r : V × Led} (hf : fns[f]? = some fn) (ha : argsV fn as = some loc)
    (he : evSs { cx with F := runF fns cx k } fn.mu led.length fn.body loc led = some (fl, loc', l1)) (hr : resV led.length l1 fl.val = some r) : runF fns cx (k + 1) f as led = some r :=
  (bindF hf).trans ((bindF ha).trans ((bindF he).trans hr))
end
end UK
end
section
set_option maxHeartbeats 0
namespace uk0030_01
open PySem PySem.W UK
noncomputable def mapR {α β : Type} (f : α → β) : List α → List β
  | [] => []
  | x :: l => f x :: mapR f l
theorem mapAt {α β : Type} {f g : α → β} : ∀ {l : List α}, l.map f = mapR g l → ∀ p ∈ l, f p = g p
  | [], _, _, h => nomatch h
  | x :: l, e, p, h => (List.mem_cons.mp h).elim (fun q => q ▸ (List.cons.inj e).1) fun q => mapAt (List.cons.inj e).2 p q
structure Tab where
  conv : Bool → Str → Bool
  b3 : Int → Option Str
  b1 : Int → Bool
noncomputable def cxA (X : Tab) : Cx := ⟨fun _ _ _ => none, X.conv, X.b3, X.b1, 4096⟩
noncomputable def R (X : Tab) (k f : Nat) (as : List V) (led : Led) : Option (V × Led) := runF m1fns (cxA X) k f as led
noncomputable def cxK (X : Tab) (k : Nat) : Cx := ⟨R X k, X.conv, X.b3, X.b1, 4096⟩
noncomputable abbrev ch (c : Nat) : V := .d (.str ⟨#[c]⟩)
noncomputable abbrev dI (i : Int) : V := .d (.int i)
noncomputable abbrev dS (x : Str) : V := .d (.str x)
noncomputable def tS (w : List Nat) : Str := ⟨w.toArray⟩
section
variable {X : Tab} {k : Nat} {loc loc' : UK.Loc} {led led' : Led}
theorem R_step {f : Nat} {fn : Fn} {as : List V} {fl : Fl} {r : V × Led} (hf : m1fns[f]? = some fn) (ha : argsV fn as = some loc)
    (he : evSs (cxK X k) fn.mu led.length fn.body loc led = some (fl, loc', led')) (hr : resV led.length led' fl.val = some r) : R X (k + 1) f as led = some r := run_step hf ha he hr
theorem resD {x : D} : resV led.length led (.d x) = some (.d x, led) := by show some (V.d x, led.take led.length) = _; rw [List.take_length]
theorem R_d {f : Nat} {fn : Fn} {as : List V} {fl : Fl} {x : D} (hf : m1fns[f]? = some fn) (ha : argsV fn as = some loc)
    (he : evSs (cxK X k) fn.mu led.length fn.body loc led = some (fl, loc', led)) (hx : fl.val = .d x) : R X (k + 1) f as led = some (.d x, led) := R_step hf ha he (by rw [hx]; exact resD)
theorem call_R {f : Nat} {as : List E} {vs : List V} (h : evEs (cxK X k) as loc led = some (vs, led')) : evE (cxK X k) (.call f as) loc led = R X k f vs led' := call_e h
theorem hm_R {f : Nat} {o : E} {as : List E} {v : V} {vs : List V} {l1 : Led} (h : evE (cxK X k) o loc led = some (v, l1)) (h2 : evEs (cxK X k) as loc l1 = some (vs, led')) (hh : isHdr v = true) : evE (cxK X k) (.hm f o as) loc led = R X k f (v :: vs) led' := hm_e h h2 hh
theorem ite_t' {mu : List Nat} {n₀ : Nat} {cx : Cx} {c : E} {a b : List UK.S} {v : V} (h : evE cx c loc led = some (v, led)) (t : tru led v = some true) : evS cx mu n₀ (.ite c a b) loc led = evSs cx mu n₀ a loc led := (ite_t h t).trans (by rw [List.take_length])
theorem ite_f' {mu : List Nat} {n₀ : Nat} {cx : Cx} {c : E} {a b : List UK.S} {v : V} (h : evE cx c loc led = some (v, led)) (t : tru led v = some false) : evS cx mu n₀ (.ite c a b) loc led = evSs cx mu n₀ b loc led := (ite_f h t).trans (by rw [List.take_length])
theorem assignD {mu : List Nat} {n₀ x : Nat} {cx : Cx} {e : E} {y : D} (h : evE cx e loc led = some (.d y, led)) (hm : mu.contains x = false) : evS cx mu n₀ (.assign (.name x) e) loc led = some (.nx, put loc x (.d y), led) := by
  refine (assign1 (b := ⟨led.length, put loc x (.d y), led.take led.length⟩) h ?_).trans (by rw [List.take_length])
  show cond (mu.contains x) _ _ = _
  rw [hm]; rfl
theorem tab1 (c : Nat) (led : Led) : R X (k + 1) 11 [ch c] led = some (.d (.bool (X.b1 c)), led) :=
  R_d (fn := m1f11) (loc := [(20, ch c)]) (loc' := [(20, ch c)]) (fl := .ret (.d (.bool (X.b1 c)))) rfl rfl rfl rfl
noncomputable def unS : List Nat := [173, 847, 6150, 6155, 6156, 6157, 8203, 8204, 8205, 8288, 65279, 65024, 65025, 65026, 65027, 65028, 65029, 65030, 65031, 65032, 65033, 65034, 65035, 65036, 65037, 65038, 65039]
noncomputable def beS : List Nat := [172, 174, 846, 848, 6149, 6151, 6154, 6158, 8202, 8206, 8287, 8289, 65278, 65280, 65023, 65040]
noncomputable def FIL : List Nat := [102, 105, 108]
noncomputable def leT : List (Nat × List Nat) := [(102, [102, 70, 119813, 119865, 119917, 120021, 120177, 120229, 120281, 120333, 120385, 120437]), (105, [105, 73, 119816, 119868, 119920, 120024, 120180, 120232, 120284, 120336, 120388, 120440]), (108, [108, 76, 119819, 119871, 119923, 120027, 120183, 120235, 120287, 120339, 120391, 120443])]
noncomputable def leS2 (c i : Nat) : Nat := ((leT.lookup c).getD []).getD i 0
theorem unseen_all (o : O) : ((List.range 27).map fun (i : Nat) => R X (k + 1) 14 [dI i] [o]) = mapR (fun i => some (ch (unS.getD i 0), [o])) (List.range 27) := by kernel_rfl
theorem beside_all (o : O) : ((List.range 16).map fun (i : Nat) => R X (k + 1) 15 [dI i] [o]) = mapR (fun i => some (ch (beS.getD i 0), [o])) (List.range 16) := by kernel_rfl
theorem letter_all (o : O) : (FIL.map fun c => (List.range 12).map fun (i : Nat) => R X (k + 1) 16 [ch c, dI i] [o]) = mapR (fun c => mapR (fun i => some (ch (leS2 c i), [o])) (List.range 12)) FIL := by kernel_rfl
noncomputable def pc (X : Tab) (c : Nat) : Option Str := cond (X.b1 c) none (some ((X.b3 c).getD (Txt.lower ⟨#[c]⟩)))
noncomputable def pcS (X : Tab) (c : Nat) : List Nat := ((pc X c).getD ⟨#[]⟩).cps.toList
noncomputable def okC (X : Tab) (c : Nat) : Prop := (pcS X c).length ≤ 8 ∧ (Txt.lower ⟨#[c]⟩).length ≤ cap
theorem map3 {c : Nat} (hl : (Txt.lower ⟨#[c]⟩).length ≤ cap) : R X (k + 1) 12 [ch c] led = some (dS ((X.b3 c).getD (Txt.lower ⟨#[c]⟩)), led) := by
  have e1 : evE (cxK X k) (.b3get (.bi .ord [(.name 20)])) [(20, ch c)] led = some ((X.b3 c).elim (.d .none) fun x => .d (.str x), led) := b3_e (c := c) rfl
  cases h : X.b3 c with
  | some x =>
    rw [h] at e1
    exact R_d (fn := m1f12) (loc := [(20, ch c)]) (loc' := [(20, ch c), (21, dS x)]) (fl := .ret (dS x)) rfl rfl ((seq1 (assignD e1 rfl)).trans (seqR ((ite_t' (v := .d (.bool true)) rfl rfl).trans rfl))) rfl
  | none =>
    rw [h] at e1
    refine R_d (fn := m1f12) (loc := [(20, ch c)]) (loc' := [(20, ch c), (21, .d .none)]) (fl := .ret (dS (Txt.lower ⟨#[c]⟩))) rfl rfl ((seq1 (assignD e1 rfl)).trans ((seq1 (l := [(20, ch c), (21, .d .none)]) (d := led) ((ite_f' (v := .d (.bool false)) rfl rfl).trans rfl)).trans (seqR (ret1 ?_)))) rfl
    exact (meth_e (v := ch c) (vs := []) rfl rfl rfl).trans (gdF hl)
theorem strsOf_map : ∀ l : List Str, strsOf (l.map .str) = some l
  | [] => rfl
  | x :: l => (bindF (a := x) rfl).trans (mapF (strsOf_map l))
theorem str_append (a b : Str) : (a ++ b).cps = a.cps ++ b.cps := rfl
theorem join_nil (ys : List Str) : Txt.join ⟨#[]⟩ ys = ⟨(ys.flatMap (·.cps.toList)).toArray⟩ := by
  show Builtin.Str.glued _ _ = _
  rw [StrLaws.glued_eq_join]
  induction ys with
  | nil => rfl
  | cons x ys ih =>
    cases ys with
    | nil => show x = _; simp
    | cons y ys =>
      show x ++ ⟨#[]⟩ ++ Str.join ⟨#[]⟩ (y :: ys) = _
      rw [ih]
      exact congrArg Str.mk (by simp [str_append])
theorem join_e {ss : List Str} {n : Nat} (h : led[n]? = some (.list (ss.map .str))) (hs : (ss.map (·.length)).sum ≤ cap) : evMeth led .join (.d (.str ⟨#[]⟩)) [.ref n] = some (dS ⟨(ss.flatMap (·.cps.toList)).toArray⟩, led) := by
  rw [← join_nil]
  exact (bindF (a := ss) ((bindF (a := ss.map .str) (bindF (f := O.list?) h)).trans (strsOf_map ss))).trans (gdF (by show _ + ss.length * 0 ≤ cap; rw [Nat.mul_zero]; exact hs))
theorem prep_turn {T : Str} {c : Nat} (hc : okC X c) (led' : Led) : turnP (cxK X (k + 1)) (.call 12 [(.name 29)]) (.name 29) [(.cmp (.call 11 [(.name 29)]) .is (.lit (.bool false)))] (capt [] [(24, dS T)]) (.str ⟨#[c]⟩) led' = some ((pc X c).map .str, led') := by
  have h1 : evE (cxK X (k + 1)) (.cmp (.call 11 [(.name 29)]) .is (.lit (.bool false))) [(29, ch c)] led' = some (.d (.bool (false == X.b1 c)), led') := cmp_e ((call_R (es0 (name_e rfl))).trans (tab1 c led')) rfl rfl
  unfold pc
  cases hb : X.b1 c with
  | true => rw [hb] at h1; exact turn_f rfl h1 rfl
  | false => rw [hb] at h1; exact turn_t rfl h1 rfl ((call_R (es0 (name_e rfl))).trans (map3 hc.2))
theorem flat_pc : ∀ l : List Nat, (l.filterMap (pc X)).flatMap (·.cps.toList) = l.flatMap (pcS X)
  | [] => rfl
  | c :: l => by
    have ih := flat_pc l
    rw [List.filterMap_cons, List.flatMap_cons]
    unfold pcS at ih ⊢
    cases h : pc X c with
    | none => exact ih
    | some x => exact congrArg (x.cps.toList ++ ·) ih
theorem sum_pc : ∀ l : List Nat, (∀ c ∈ l, okC X c) → ((l.filterMap (pc X)).map (·.length)).sum ≤ 8 * l.length
  | [], _ => Nat.le_refl _
  | c :: l, h => by
    have hc := (h c (.head _)).1
    have ih := sum_pc l fun d hd => h d (.tail _ hd)
    rw [List.filterMap_cons, List.length_cons]
    unfold pcS at hc
    cases hp : pc X c with
    | none => exact Nat.le_trans ih (Nat.mul_le_mul_left 8 (Nat.le_succ _))
    | some x =>
      rw [hp] at hc
      have hx : x.length ≤ 8 := hc
      show x.length + ((l.filterMap (pc X)).map (·.length)).sum ≤ _
      omega
theorem prepared_ok {T : Str} {led : Led} (hT : ∀ c ∈ T.cps.toList, okC X c) (hl : T.cps.size ≤ 100) : R X (k + 2) 18 [dS T] led = some (dS ⟨(T.cps.toList.flatMap (pcS X)).toArray⟩, led) := by
  have hlen : (chars T).length ≤ 100 := by unfold chars; rw [List.length_map, Array.length_toList]; exact hl
  have hcomp := comp_fz (n := led.length) (turn := turnP (cxK X (k + 1)) (.call 12 [(.name 29)]) (.name 29) [(.cmp (.call 11 [(.name 29)]) .is (.lit (.bool false)))] (capt [] [(24, dS T)])) (led0 := led) rfl (fun d => d.str?.bind fun x => (pc X (x.cps.getD 0 0)).map .str) (chars T) [] 4096
    (Nat.lt_of_le_of_lt hlen (by decide)) (by rw [List.length_nil, Nat.zero_add]; exact Nat.lt_of_le_of_lt hlen (by decide)) (fun x hx ys' => by
      obtain ⟨c, hc, rfl⟩ := List.mem_map.mp hx
      exact turn_pl rfl (prep_turn (hT c hc) _))
  have hfm : (chars T).filterMap (fun d => d.str?.bind fun x => (pc X (x.cps.getD 0 0)).map .str) = ((T.cps.toList.filterMap (pc X)).map D.str) := by
    unfold chars
    rw [List.filterMap_map, List.map_filterMap]; rfl
  rw [List.nil_append, hfm] at hcomp
  have hE := comp_eq (cx := cxK X (k + 1)) (its := [(.name 24)]) (caps := []) (k := .e) (loc := [(24, dS T)]) (l1 := led) (vs := [dS T]) (src := .fz (chars T)) rfl rfl hcomp
  have hj := join_e (n := led.length) (led := led ++ [.list ((T.cps.toList.filterMap (pc X)).map .str)]) List.getElem?_concat_length (Nat.le_trans (sum_pc _ hT) (by rw [Array.length_toList]; unfold cap; omega))
  rw [flat_pc] at hj
  refine R_step (fn := m1f18) (loc := [(24, dS T)]) (fl := .ret (dS ⟨(T.cps.toList.flatMap (pcS X)).toArray⟩)) rfl rfl (seqR (ret1 ((meth_e (v := .d (.str ⟨#[]⟩)) rfl rfl (es0 hE)).trans hj))) ?_
  show some (dS _, List.take led.length (led ++ _)) = _
  rw [List.take_left]
structure Kn (X : Tab) : Prop where
  un : ∀ i, i < 27 → okC X (unS.getD i 0) ∧ pcS X (unS.getD i 0) = []
  be : ∀ i, i < 16 → okC X (beS.getD i 0) ∧ pcS X (beS.getD i 0) = [beS.getD i 0]
  le : ∀ c ∈ FIL, ∀ i, i < 12 → okC X (leS2 c i) ∧ pcS X (leS2 c i) = [c]
  lig : ∀ p ∈ [(64256, [102, 102]), (64257, [102, 105]), (64258, [102, 108]), (64259, [102, 102, 105]), (64260, [102, 102, 108])], okC X p.1 ∧ pcS X p.1 = p.2
theorem fd24 (m : Nat) : (m : Int).fdiv 24 = ((m / 24 : Nat) : Int) := by
  rw [Int.fdiv_eq_ediv_of_nonneg _ (by decide)]; rfl
theorem fm12 (m : Nat) : ((m : Int).fdiv 2).fmod 12 = ((m / 2 % 12 : Nat) : Int) := by
  rw [Int.fmod_eq_emod_of_nonneg _ (by decide), Int.fdiv_eq_ediv_of_nonneg _ (by decide)]; rfl
theorem fm27 (m : Nat) : (m : Int).fmod 27 = ((m % 27 : Nat) : Int) := by
  rw [Int.fmod_eq_emod_of_nonneg _ (by decide)]; rfl
theorem fd27 (m : Nat) : (m : Int).fdiv 27 = ((m / 27 : Nat) : Int) := by
  rw [Int.fdiv_eq_ediv_of_nonneg _ (by decide)]; rfl
noncomputable def shapesL : List (List Nat × Nat) := [([102, 102, 105], 64259), ([102, 102, 108], 64260), ([102, 102], 64256), ([102, 105], 64257), ([102, 108], 64258)]
noncomputable def shapesD : List D := shapesL.map fun p => .tup [.str (tS p.1), .int p.2]
noncomputable def locT (w : List Nat) (m : Int) (T : Str) : UK.Loc := [(26, dS (tS w)), (25, dI m), (23, .lst shapesD), (24, dS T)]
noncomputable def tB1 : UK.S := .assign (.name 27) (.comp (.name 28) (.name 28) .e [(.name 23)] [(.cmp (.slice (.name 26) (.lit .none) (.bi .len [(.index (.name 28) (.lit (.int 0)))]) (.lit .none)) .eq (.index (.name 28) (.lit (.int 0))))] [26])
noncomputable def tC : E := (.and (.cmp (.name 27) .ne (.list [])) (.cmp (.bin .mod (.name 25) (.lit (.int 2))) .eq (.lit (.int 0))))
noncomputable def tAc : E := .bi .chr [(.index (.index (.name 27) (.lit (.int 0))) (.lit (.int 1)))]
noncomputable def tAs : E := .slice (.name 26) (.bi .len [(.index (.index (.name 27) (.lit (.int 0))) (.lit (.int 0)))]) (.lit .none) (.lit .none)
noncomputable def tA : UK.S := .assign (.tup [(.name 24), (.name 26)]) (.tuple [(.bin .add (.name 24) tAc), tAs])
noncomputable def tBi : E := .index (.name 26) (.lit (.int 0))
noncomputable def tBm : E := .bin .mod (.bin .fdiv (.name 25) (.lit (.int 2))) (.lit (.int 12))
noncomputable def tBs : E := .slice (.name 26) (.lit (.int 1)) (.lit .none) (.lit .none)
noncomputable def tB : UK.S := .assign (.tup [(.name 24), (.name 26)]) (.tuple [(.bin .add (.name 24) (.call 16 [tBi, tBm])), tBs])
noncomputable def tB3 : UK.S := .assign (.name 25) (.bin .fdiv (.name 25) (.lit (.int 24)))
noncomputable def tBody : List UK.S := [tB1, .ite tC [tA] [tB], tB3]
noncomputable def fits (w : List Nat) : List (List Nat × Nat) := shapesL.filter fun p => w.take p.1.length == p.1
noncomputable def locF (w : List Nat) (m : Int) (T : Str) : UK.Loc := locT w m T ++ [(27, .lst ((fits w).map fun p => .tup [.str (tS p.1), .int p.2]))]
noncomputable def words : List (List Nat) := [[102], [105], [108], [102, 102], [102, 105], [102, 108], [105, 102], [105, 105], [105, 108], [108, 102], [108, 108], [102, 102, 102], [102, 102, 105], [102, 102, 108], [102, 105, 105], [102, 105, 108], [102, 108, 108], [105, 102, 108], [105, 105, 105], [105, 105, 108], [105, 108, 102], [105, 108, 108], [108, 105, 102], [108, 108, 108]]
noncomputable def fit (w : List Nat) : List Nat × Nat := (fits w).headD ([], 0)
noncomputable def evenB (w : List Nat) (m : Int) : Bool := !(fits w).isEmpty && (m.fmod 2 == 0)
section
variable (m : Int) (T : Str) (o : O)
theorem all_1 : (words.map fun w => evS (cxK X k) [] 1 tB1 (locT w m T) [o]) = mapR (fun w => some (.nx, locF w m T, [o])) words := by kernel_rfl
theorem all_c : (words.map fun w => evE (cxK X k) tC (locF w m T) [o]) = mapR (fun w => some (.d (.bool (evenB w m)), [o] ++ [.list []])) words := by kernel_rfl
theorem all_a : ((words.filter fun w => !(fits w).isEmpty).map fun w => (evE (cxK X k) tAc (locF w m T) [o], evE (cxK X k) tAs (locF w m T) [o])) = mapR (fun w => (some (ch (fit w).2, [o]), some (dS (tS (w.drop (fit w).1.length)), [o]))) (words.filter fun w => !(fits w).isEmpty) := by kernel_rfl
theorem all_b : (words.map fun w => (evE (cxK X k) tBi (locF w m T) [o], evE (cxK X k) tBm (locF w m T) [o], evE (cxK X k) tBs (locF w m T) [o])) = mapR (fun w => (some (ch (w.headD 0), [o]), some (dI ((m.fdiv 2).fmod 12), [o]), some (dS (tS w.tail), [o]))) words := by kernel_rfl
end
theorem words_fit : ∀ w ∈ words, !(fits w).isEmpty → ((fit w).2, (fit w).1) ∈ [(64256, [102, 102]), (64257, [102, 105]), (64258, [102, 108]), (64259, [102, 102, 105]), (64260, [102, 102, 108])] ∧ (fit w).1 ++ w.drop (fit w).1.length = w ∧ (w.drop (fit w).1.length).length < w.length ∧ (w.drop (fit w).1.length = [] ∨ w.drop (fit w).1.length ∈ words) := by decide +kernel
theorem words_tail : ∀ w ∈ words, w.headD 0 ∈ FIL ∧ w.headD 0 :: w.tail = w ∧ w.tail.length < w.length ∧ (w.tail = [] ∨ w.tail ∈ words) ∧ w.length ≤ 3 ∧ (tS w == ⟨#[]⟩) = false := by decide +kernel
theorem pair_e {mu : List Nat} {n₀ : Nat} {cx : Cx} {loc : UK.Loc} {led : Led} {a b : E} {x y : D} {t u : Nat} (h1 : evE cx a loc led = some (.d x, led)) (h2 : evE cx b loc led = some (.d y, led)) (hm : mu.contains t = false) (hn : mu.contains u = false) (hne : (t == u) = false) :
    evS cx mu n₀ (.assign (.tup [(.name t), (.name u)]) (.tuple [a, b])) loc led = some (.nx, put (put loc t (.d x)) u (.d y), led) := by
  refine (assign1 (b := ⟨led.length, put (put loc t (.d x)) u (.d y), led.take led.length⟩) (tuple_e (es1 h1 (es0 h2)) rfl) ?_).trans (by rw [List.take_length])
  refine (gdF (by show ((t == u) || false) = false; rw [hne]; rfl)).trans ((bindF (a := BS.mk led.length (put loc t (.d x)) (led.take led.length)) ?_).trans ((gdF rfl).trans (bindF (a := BS.mk led.length (put (put loc t (.d x)) u (.d y)) (led.take led.length)) ?_)))
  · show cond (mu.contains t) _ _ = _; rw [hm]; rfl
  · show cond (mu.contains u) _ _ = _; rw [hn]; rfl
theorem turn_ok (K : Kn X) {w : List Nat} (hw : w ∈ words) (m : Nat) (T : Str) (o : O) (hT : T.length ≤ 100) : ∃ (c : Nat) (rest : List Nat), evSs (cxK X (k + 1)) [] 1 tBody (locT w m T) [o] = some (.nx, locT rest (m / 24 : Nat) (T ++ ⟨#[c]⟩) ++ [(27, .lst ((fits w).map fun p => .tup [.str (tS p.1), .int p.2]))], [o]) ∧
    okC X c ∧ pcS X c ++ rest = w ∧ rest.length < w.length ∧ (rest = [] ∨ rest ∈ words) := by
  have e1 := mapAt (all_1 (X := X) (k := k + 1) m T o) w hw
  have ec := mapAt (all_c (X := X) (k := k + 1) m T o) w hw
  have ad : ∀ {e : E} {c : Nat}, evE (cxK X (k + 1)) e (locF w m T) [o] = some (ch c, [o]) → evE (cxK X (k + 1)) (.bin .add (.name 24) e) (locF w m T) [o] = some (dS (T ++ ⟨#[c]⟩), [o]) := fun h => (bin_e (x := dS T) rfl h).trans (add_str (by show T.length + 1 ≤ 4096; omega))
  have fin : ∀ (c : Nat) (rest : List Nat), evS (cxK X (k + 1)) [] 1 tB3 (locT rest m (T ++ ⟨#[c]⟩) ++ [(27, .lst ((fits w).map fun p => .tup [.str (tS p.1), .int p.2]))]) [o] = some (.nx, locT rest (m / 24 : Nat) (T ++ ⟨#[c]⟩) ++ [(27, .lst ((fits w).map fun p => .tup [.str (tS p.1), .int p.2]))], [o]) := fun c rest =>
    (assignD (y := .int (m / 24 : Nat)) ((bin_e (x := dI m) (y := dI 24) rfl rfl).trans (by rw [← fd24]; rfl)) rfl).trans rfl
  cases hb : evenB w m with
  | true =>
    rw [hb] at ec
    have hf := (Bool.and_eq_true_iff.mp hb).1
    obtain ⟨f1, f2, f3, f4⟩ := words_fit w hw hf
    have ea := mapAt (all_a (X := X) (k := k + 1) m T o) w (List.mem_filter.mpr (And.intro hw hf))
    have ea1 : evE (cxK X (k + 1)) tAc (locF w m T) [o] = some (ch (fit w).2, [o]) := congrArg Prod.fst ea
    have ea2 : evE (cxK X (k + 1)) tAs (locF w m T) [o] = some (dS (tS (w.drop (fit w).1.length)), [o]) := congrArg Prod.snd ea
    have L := K.lig _ f1
    refine ⟨(fit w).2, w.drop (fit w).1.length, ?_, L.1, by rw [L.2]; exact f2, f3, f4⟩
    refine (seq1 e1).trans ((seq1 (((ite_t ec rfl).trans (seq1 (pair_e (ad ea1) ea2 rfl rfl rfl))).trans rfl)).trans ((seq1 (fin _ _)).trans rfl))
  | false =>
    rw [hb] at ec
    obtain ⟨f0, f2, f3, f4, _⟩ := words_tail w hw
    have eb := mapAt (all_b (X := X) (k := k + 1) m T o) w hw
    have eb1 : evE (cxK X (k + 1)) tBi (locF w m T) [o] = some (ch (w.headD 0), [o]) := congrArg Prod.fst eb
    have em : evE (cxK X (k + 1)) tBm (locF w m T) [o] = some (dI ((m : Int).fdiv 2 |>.fmod 12), [o]) := congrArg (fun p => p.2.1) eb
    have eb2 : evE (cxK X (k + 1)) tBs (locF w m T) [o] = some (dS (tS w.tail), [o]) := congrArg (fun p => p.2.2) eb
    rw [fm12] at em
    have hj : m / 2 % 12 < 12 := Nat.mod_lt _ (by decide)
    have el := mapAt (mapAt (letter_all (X := X) (k := k) o) _ f0) (m / 2 % 12) (List.mem_range.mpr hj)
    have L := K.le _ f0 _ hj
    refine ⟨leS2 (w.headD 0) (m / 2 % 12), w.tail, ?_, L.1, by rw [L.2]; exact f2, f3, f4⟩
    refine (seq1 e1).trans ((seq1 (((ite_f ec rfl).trans (seq1 (pair_e (ad ((call_R (es1 eb1 (es0 em))).trans el)) eb2 rfl rfl rfl))).trans rfl)).trans ((seq1 (fin _ _)).trans rfl))
noncomputable def tCond : E := .cmp (.name 26) .ne (.lit (.str ⟨#[]⟩))
theorem typed_loop (K : Kn X) (o : O) : ∀ (N : Nat) (w : List Nat), (w = [] ∨ w ∈ words) → w.length < N → ∀ (m : Nat) (T : Str), T.length + w.length ≤ 100 → (∀ c ∈ T.cps.toList, okC X c) →
    ∃ (T' : Str) (m' : Nat), whileLoop (cF (cxK X (k + 1)) tCond) (fun loc led' => evSs (cxK X (k + 1)) [] 1 tBody loc led') N (locT w m T) [o] = some (.nx, locT [] m' T', [o]) ∧
      (∀ c ∈ T'.cps.toList, okC X c) ∧ T'.cps.toList.flatMap (pcS X) = T.cps.toList.flatMap (pcS X) ++ w ∧ T'.length ≤ T.length + w.length
  | 0, w, _, hN, _, _, _, _ => absurd hN (Nat.not_lt_zero _)
  | N + 1, w, hw, hN, m, T, hT, hok => by
    rcases hw with rfl | hw
    · exact ⟨T, m, while_f (l1 := [o]) (by kernel_rfl) rfl, hok, by rw [List.append_nil], Nat.le_refl _⟩
    · obtain ⟨c, rest, e, hc, hp, hr, hd⟩ := turn_ok (k := k) K hw m T o (by omega)
      have hlen : (T ++ (⟨#[c]⟩ : Str)).length = T.length + 1 := by show (T.cps ++ #[c]).size = _; rw [Array.size_append]; rfl
      have happ : (T ++ (⟨#[c]⟩ : Str)).cps.toList = T.cps.toList ++ [c] := Array.toList_append
      have hcond : cF (cxK X (k + 1)) tCond (locT w m T) [o] = some (true, [o]) := by
        show some (!(tS w == ⟨#[]⟩), [o]) = _
        rw [(words_tail w hw).2.2.2.2.2]; rfl
      obtain ⟨T', m', e2, h1, h2, h3⟩ := typed_loop K o N rest hd (by omega) (m / 24) (T ++ ⟨#[c]⟩) (by omega) (fun d hd => by
        rw [happ] at hd
        exact (List.mem_append.mp hd).elim (hok d) fun q => (List.mem_singleton.mp q) ▸ hc)
      refine ⟨T', m', (while_t hcond rfl e rfl).trans e2, h1, ?_, by omega⟩
      rw [h2, happ, List.flatMap_append, List.append_assoc, List.flatMap_cons, List.flatMap_nil, List.append_nil, hp]
theorem typed_ok (K : Kn X) (m : Nat) (o : O) {w : List Nat} (hw : w ∈ words) : ∃ T : Str, R X (k + 2) 17 [dS (tS w), dI m] [o] = some (dS T, [o]) ∧ (∀ c ∈ T.cps.toList, okC X c) ∧ T.cps.toList.flatMap (pcS X) = w ∧ T.length ≤ 4 := by
  have h27 : m % 27 < 27 := Nat.mod_lt _ (by decide)
  have hu := K.un (m % 27) h27
  have hwl := (words_tail w hw).2.2.2.2.1
  obtain ⟨T', m', e2, h1, h2, h3⟩ := typed_loop (k := k) K o 4096 w (.inr hw) (by omega) (m / 27) ⟨#[unS.getD (m % 27) 0]⟩ (by show 1 + _ ≤ _; omega) (fun c hc => (List.mem_singleton.mp hc) ▸ hu.1)
  have h3' : T'.length ≤ 1 + w.length := h3
  refine ⟨T', ?_, h1, ?_, by omega⟩
  · have hm : evE (cxK X (k + 1)) (.bin .mod (.name 25) (.lit (.int 27))) [(26, dS (tS w)), (25, dI m), (23, .lst shapesD)] [o] = some (dI ((m % 27 : Nat) : Int), [o]) := by rw [← fm27]; kernel_rfl
    have hd : evE (cxK X (k + 1)) (.bin .fdiv (.name 25) (.lit (.int 27))) [(26, dS (tS w)), (25, dI m), (23, .lst shapesD)] [o] = some (dI ((m / 27 : Nat) : Int), [o]) := by rw [← fd27]; kernel_rfl
    have hs := seq1 (ss := [.assign (.tup [(.name 24), (.name 25)]) (.tuple [(.call 14 [(.bin .mod (.name 25) (.lit (.int 27)))]), (.bin .fdiv (.name 25) (.lit (.int 27)))]), .while tCond tBody, .ret (.name 24)]) (s := m1f17.body.headD .stuck) (cx := cxK X (k + 1)) (mu := []) (n₀ := 1) (loc := [(26, dS (tS w)), (25, dI m)]) (led := [o]) (l := [(26, dS (tS w)), (25, dI m), (23, .lst shapesD)]) (d := [o]) (by kernel_rfl)
    refine R_d (fn := m1f17) (loc := [(26, dS (tS w)), (25, dI m)]) (fl := .ret (dS T')) (loc' := locT [] m' T') rfl rfl (hs.trans ((seq1 (pair_e ((call_R (es0 hm)).trans (mapAt (unseen_all (X := X) (k := k) o) _ (List.mem_range.mpr h27))) hd rfl rfl rfl)).trans ((seq1 (while_eq.trans e2)).trans rfl))) rfl
  · rw [h2]
    show List.flatMap _ [unS.getD (m % 27) 0] ++ w = w
    rw [List.flatMap_cons, hu.2]; rfl
end
end uk0030_01
end
section
set_option maxHeartbeats 0
namespace uk0030_01
open PySem PySem.W UK
noncomputable def Feeds (led : Led) : List D → Src → Prop
  | [], src => src.next led = some none
  | x :: xs, src => ∃ src', src.next led = some (some (x, src')) ∧ Feeds led xs src'
theorem feeds_fz {led : Led} : ∀ xs, Feeds led xs (.fz xs)
  | [] => rfl
  | x :: xs => ⟨.fz xs, rfl, feeds_fz xs⟩
theorem feeds_live {led : Led} {k : Nat} {zs : List D} (h : led[k]? = some (.list zs)) : ∀ (xs : List D) (i : Nat), zs.drop i = xs → Feeds led xs (.live k i)
  | [], i, hd => by
    have hz : zs[i]? = none := List.getElem?_eq_none (List.drop_eq_nil_iff.mp hd)
    exact (mapF (a := zs) (bindF (f := O.list?) h)).trans (by rw [hz]; rfl)
  | x :: xs, i, hd => by
    have hz : zs[i]? = some x := by
      have := congrArg (fun l => l[0]?) hd
      rwa [List.getElem?_drop] at this
    exact ⟨.live k (i + 1), (mapF (a := zs) (bindF (f := O.list?) h)).trans (by rw [hz]; rfl), feeds_live h xs (i + 1) (by rw [← List.drop_drop, hd]; rfl)⟩
theorem filterC {α : Type} {f : α → Bool} {x : α} {l : List α} : (x :: l).filter f = cond (f x) (x :: l.filter f) (l.filter f) := by
  show (match f x with | true => x :: l.filter f | false => l.filter f) = _
  cases f x <;> rfl
theorem findC {α : Type} {f : α → Bool} {x : α} {l : List α} : (x :: l).find? f = cond (f x) (some x) (l.find? f) := by
  show (match f x with | true => some x | false => l.find? f) = _
  cases f x <;> rfl
noncomputable abbrev low (x : Str) : Str := Txt.lower x
noncomputable def pr (p : Str × Str) : D := .tup [.str p.1, .str p.2]
noncomputable def dL (L : List (Str × Str)) : List D := L.map pr
theorem dL_len (L : List (Str × Str)) : (dL L).length = L.length := List.length_map _
noncomputable def delF (b : Bool) (key : Str) (d : D) : Option D := d.tup?.bind fun xs => (two? xs).bind fun p => p.1.str?.bind fun n => cond ((low n == key) == b) (some d) none
theorem filt (b : Bool) (key : Str) : ∀ L : List (Str × Str), (dL L).filterMap (delF b key) = dL (L.filter fun p => (low p.1 == key) == b)
  | [] => rfl
  | p :: L => by
    have ih := filt b key L
    have e : delF b key (pr p) = cond ((low p.1 == key) == b) (some (pr p)) none := rfl
    show List.filterMap _ (pr p :: dL L) = _
    cases h : (low p.1 == key) == b with
    | true =>
      rw [h] at e
      rw [List.filterMap_cons_some e, filterC, h, ih]; rfl
    | false =>
      rw [h] at e
      rw [List.filterMap_cons_none e, filterC, h, ih]; rfl
noncomputable def getV (L : List (Str × Str)) (key : Str) : Option Str := (L.find? fun p => low p.1 == key).map (·.2)
section
variable {X : Tab} {k : Nat}
noncomputable def okN (X : Tab) (x : Str) : Prop := x.length ≤ 100 ∧ (low x).length ≤ 100 ∧ X.conv true x = true ∧ X.conv true (low x) = true
theorem low_m {led : Led} {x : Str} (h : (low x).length ≤ cap) : evMeth led .lower (dS x) [] = some (dS (low x), led) := by
  show gd ((Txt.lower x).length ≤ cap) _ = _
  exact gdF h
theorem up_m {led : Led} {x : Str} (h : (Txt.upper x).length ≤ cap) : evMeth led .upper (dS x) [] = some (dS (Txt.upper x), led) := by
  show gd ((Txt.upper x).length ≤ cap) _ = _
  exact gdF h
theorem low_e {e : E} {loc : UK.Loc} {led : Led} {x : Str} (h : evE (cxK X k) e loc led = some (dS x, led)) (hx : (low x).length ≤ 100) : evE (cxK X k) (.meth .lower e []) loc led = some (dS (low x), led) :=
  (meth_e h rfl rfl).trans (low_m (Nat.le_trans hx (by decide)))
theorem conv_low {loc : UK.Loc} {led : Led} {v : V} {name : Str} (h0 : UK.get loc 0 = some v) (hv : isHdr v = true) (h1 : UK.get loc 1 = some (dS name)) (hn : okN X name) :
    evE (cxK X k) (.conv true (.name 0) (.meth .lower (.name 1) [])) loc led = some (dS (low name), led) := conv_e (name_e h0) (low_e (name_e h1) hn.2.1) hv hn.2.2.2
theorem ledL_is {led : Led} {n : Nat} {xs : List D} (h : led[n]? = some (.list xs)) : ledL led (.ref n) = some (n, xs) := bindF (a := O.list xs) h
theorem app_at {led : Led} {n : Nat} {xs : List D} (h : led[n]? = some (.list xs)) : methAt led .append (.ref n) = true := by
  show (ledL led (.ref n)).isSome = true
  rw [ledL_is h]; rfl
theorem app_m {led : Led} {n : Nat} {xs : List D} {x : D} (h : led[n]? = some (.list xs)) (hl : xs.length < cap) : evMeth led .append (.ref n) [.d x] = some (.d .none, led.set n (.list (xs ++ [x]))) :=
  (bindF (ledL_is h)).trans (by show gd (xs.length < cap) _ = _; exact gdF hl)
theorem item0 {p : Str × Str} {led : Led} : evIndex led (.d (pr p)) (.d (.int 0)) = some (dS p.1) := by kernel_rfl
theorem item1 {p : Str × Str} {led : Led} : evIndex led (.d (pr p)) (.d (.int 1)) = some (dS p.2) := by kernel_rfl
theorem key_e {led : Led} {loc : UK.Loc} {v : Nat} {p : Str × Str} {key : Str} {op : Cm} {b : Bool} (h3 : UK.get loc v = some (.d (pr p))) (h1 : UK.get loc 1 = some (dS key)) (hp : (low p.1).length ≤ 100) (hb : evCmp led op (dS (low p.1)) (dS key) = some b) :
    evE (cxK X k) (.cmp (.meth .lower (.index (.name v) (.lit (.int 0))) []) op (.name 1)) loc led = some (.d (.bool b), led) := cmp_e (low_e (index_e (name_e h3) rfl item0) hp) (name_e h1) hb
noncomputable def gTgt : UK.T := .tup [(.name 4), (.name 5)]
noncomputable def gBody : List UK.S := [.ite (.cmp (.meth .lower (.name 4) []) .eq (.name 1)) [.ret (.name 5)] []]
theorem get_loop {led : Led} {self : V} {dx : D} {key : Str} (hs : below led.length self = true) : ∀ (L : List (Str × Str)) (src : Src) (N : Nat), Feeds led (dL L) src → L.length < N → (∀ p ∈ L, (low p.1).length ≤ 100) →
    ∃ loc', forLoop gTgt (fun loc led' => evSs (cxK X k) [] led.length gBody loc led') N src [(0, self), (1, dS key), (6, .d dx)] led = some ((getV L key).elim .nx fun x => .ret (dS x), loc', led) ∧ (getV L key = none → loc' = [(0, self), (1, dS key), (6, .d dx)])
  | L, src, 0, _, hN, _ => absurd hN (Nat.not_lt_zero _)
  | [], src, N + 1, hf, _, _ => ⟨_, for_end hf, fun _ => rfl⟩
  | p :: L, src, N + 1, ⟨src', hf, hf'⟩, hN, hp => by
    have hc : evE (cxK X k) (.cmp (.meth .lower (.name 4) []) .eq (.name 1)) [(0, self), (1, dS key), (6, .d dx), (4, dS p.1), (5, dS p.2)] led = some (.d (.bool (low p.1 == key)), led) := cmp_e (low_e (name_e rfl) (hp p (.head _))) (name_e rfl) rfl
    unfold getV
    rw [findC]
    cases h : (low p.1 == key) with
    | true =>
      rw [h] at hc
      exact ⟨_, for_stop hf rfl (seqR ((ite_t' hc rfl).trans (seqR (ret1 (name_e rfl))))), nofun⟩
    | false =>
      rw [h] at hc
      obtain ⟨l, e1, e2⟩ := get_loop hs L src' N hf' (Nat.lt_of_succ_lt_succ hN) fun q hq => hp q (.tail _ hq)
      refine ⟨l, (for_go (loc3 := [(0, self), (1, dS key), (6, .d dx)]) (l3 := led) hf rfl (seq1 ((ite_f' hc rfl).trans rfl)) ?_).trans e1, e2⟩
      refine (gdF ?_).trans (by rw [List.take_length]; rfl)
      show (below led.length self && true) = true
      rw [hs]; rfl
theorem get_ok {led : Led} {L : List (Str × Str)} {self : V} {name : Str} (hs : below led.length self = true) (hh : isHdr self = true) {r : V} (hr : hdrL self = some r) {src : Src} (hsrc : srcE led.length led [r] = some src) (hf : Feeds led (dL L) src) (hn : okN X name) (hL : L.length ≤ 50) (hp : ∀ p ∈ L, (low p.1).length ≤ 100) (dx : D) (as : List V)
    (ha : argsV m1f2 as = some [(0, self), (1, dS name), (6, .d dx)]) : R X (k + 1) 2 as led = some (.d ((getV L (low name)).elim dx .str), led) := by
  obtain ⟨loc', g1, g2⟩ := get_loop (X := X) (k := k) (led := led) (dx := dx) (key := low name) hs L src 4096 hf (by omega) hp
  have h1 : evS (cxK X k) [] led.length (.assign (.name 1) (.conv true (.name 0) (.meth .lower (.name 1) []))) [(0, self), (1, dS name), (6, .d dx)] led = some (.nx, [(0, self), (1, dS (low name)), (6, .d dx)], led) := assignD (conv_low rfl hh rfl hn) rfl
  have hA : evE (cxK X k) (.attrH (.name 0)) [(0, self), (1, dS (low name)), (6, .d dx)] led = some (r, led) := (bindF (name_e rfl)).trans (mapF hr)
  have hF := for_eq (mu := []) (n₀ := led.length) (t := gTgt) (k := .e) (b := gBody) (es0 hA) hsrc
  rw [List.take_length] at hF
  have hF := hF.trans g1
  cases hg : getV L (low name) with
  | some x =>
    rw [hg] at hF
    exact R_d (fn := m1f2) (fl := .ret (dS x)) rfl ha ((seq1 h1).trans (seqR hF)) rfl
  | none =>
    rw [hg, g2 hg] at hF
    exact R_d (fn := m1f2) (fl := .ret (.d dx)) rfl ha ((seq1 h1).trans ((seq1 hF).trans (seqR (ret1 (name_e rfl))))) rfl
end
end uk0030_01
end
section
namespace UK
open PySem PySem.W
theorem range_pick : ∀ (xs : List D) (a c : Nat), a + c ≤ xs.length → ((List.range c).map fun k => a + k).filterMap (xs[·]?) = (xs.drop a).take c := by
  intro xs a c
  induction c with
  | zero => intro _; simp
  | succ c ih =>
    intro h
    rw [List.range_succ, List.map_append, List.filterMap_append, ih (by omega)]
    have hx : xs[a + c]? = some xs[a + c] := List.getElem?_eq_getElem (by omega)
    simp only [List.map_cons, List.map_nil, List.filterMap_cons, hx, List.filterMap_nil]
    rw [List.take_add_one, List.getElem?_drop, hx]
    rfl
theorem sliceRange_nat (a b : Nat) : sliceRange a b 1 = (List.range (b - a)).map fun k => a + k := by
  unfold sliceRange
  simp only [show (1 : Int) > 0 from by decide, if_true, Int.ediv_one, Int.one_mul]
  have : (if (a : Int) < b then (b : Int) - a + 1 - 1 else 0).toNat = b - a := by split <;> omega
  rw [this]
  exact List.map_congr_left fun k _ => by omega
theorem pickD_nat {xs : List D} {lo hi : Option Int} {a b : Nat} (e : sliceBounds lo hi none xs.length = ((a : Int), (b : Int), 1)) (hb : b ≤ xs.length) : pickD xs lo hi none = (xs.drop a).take (b - a) := by
  unfold pickD
  rw [e]
  dsimp only
  rw [sliceRange_nat]
  by_cases h : a ≤ b
  · rw [range_pick xs a (b - a) (by omega)]
  · rw [show b - a = 0 by omega]; simp
theorem pick_all (xs : List D) : pickD xs none none none = xs := by
  rw [pickD_nat (a := 0) (b := xs.length) (by simp [sliceBounds]) (Nat.le_refl _)]
  simp
end UK
end
section
set_option maxHeartbeats 0
namespace uk0030_01
open PySem PySem.W UK
section
variable {X : Tab} {k : Nat}
theorem ne_is {led : Led} {a b : Str} : evCmp led .ne (dS a) (dS b) = some (!(a == b)) := by kernel_rfl
theorem ne_turn {t : Nat} {lc : UK.Loc} {key : Str} {p : Str × Str} {led : Led} (h1 : UK.get (put lc t (.d (pr p))) 1 = some (dS key)) (ht : UK.get (put lc t (.d (pr p))) t = some (.d (pr p))) (hp : (low p.1).length ≤ 100) :
    turnP (cxK X k) (.name t) (.name t) [(.cmp (.meth .lower (.index (.name t) (.lit (.int 0))) []) .ne (.name 1))] lc (pr p) led = some (delF false key (pr p), led) := by
  have e : delF false key (pr p) = cond ((low p.1 == key) == false) (some (pr p)) none := rfl
  rw [e]
  cases h : (low p.1 == key) with
  | true => exact turn_f rfl (key_e ht h1 hp (ne_is.trans (congrArg (fun b => some !b) h))) rfl
  | false => exact turn_t rfl (key_e ht h1 hp (ne_is.trans (congrArg (fun b => some !b) h))) rfl (name_e ht)
theorem eq_turn {t : Nat} {lc : UK.Loc} {key : Str} {p : Str × Str} {led : Led} (h1 : UK.get (put lc t (.d (pr p))) 1 = some (dS key)) (ht : UK.get (put lc t (.d (pr p))) t = some (.d (pr p))) (hp : (low p.1).length ≤ 100) :
    turnP (cxK X k) (.index (.name t) (.lit (.int 1))) (.name t) [(.cmp (.meth .lower (.index (.name t) (.lit (.int 0))) []) .eq (.name 1))] lc (pr p) led = some (cond (low p.1 == key) (some (.str p.2)) none, led) := by
  have hb : evEq led (dS (low p.1)) (dS key) = some (low p.1 == key) := rfl
  cases h : (low p.1 == key) with
  | true => exact turn_t rfl (key_e ht h1 hp (hb.trans (congrArg some h))) rfl (index_e (name_e ht) rfl item1)
  | false => exact turn_f rfl (key_e ht h1 hp (hb.trans (congrArg some h))) rfl
noncomputable def del2 (L : List (Str × Str)) (key : Str) : List (Str × Str) := L.filter fun p => (low p.1 == key) == false
theorem del2_len (L : List (Str × Str)) (key : Str) : (del2 L key).length ≤ L.length := List.length_filter_le _ _
theorem delitem_ok {L : List (Str × Str)} {name : Str} (hn : okN X name) (hL : L.length ≤ 50) (hp : ∀ p ∈ L, okN X p.1) :
    R X (k + 1) 1 [.hd 0, dS name] [.list (dL L)] = some (.d .none, [.list (dL (del2 L (low name)))]) := by
  have hl : (dL L).length ≤ 50 := by rw [dL_len]; exact hL
  have hl2 : (dL (del2 L (low name))).length ≤ 50 := by rw [dL_len]; exact Nat.le_trans (del2_len _ _) hL
  have hc := comp_live (n := 1) (j := 0) (led0 := [.list (dL L)]) (turn := turnP (cxK X k) (.name 3) (.name 3) [(.cmp (.meth .lower (.index (.name 3) (.lit (.int 0))) []) .ne (.name 1))] (capt [1] [(0, .hd 0), (1, dS (low name))])) rfl rfl
    (delF false (low name)) (dL L) [] 0 4096 rfl (Nat.lt_of_le_of_lt hl (by decide)) (by rw [List.length_nil, Nat.zero_add]; exact Nat.lt_of_le_of_lt hl (by decide)) (fun x hx ys' => by
      obtain ⟨p, hp', rfl⟩ := List.mem_map.mp hx
      exact turn_pl rfl (ne_turn rfl rfl (hp p hp').2.1))
  rw [filt, List.nil_append] at hc
  have hE := comp_eq (cx := cxK X k) (loc := [(0, .hd 0), (1, dS (low name))]) (led := [.list (dL L)]) (l1 := [.list (dL L)]) (its := [(.attrH (.name 0))]) (caps := [1]) (k := .e) (vs := [.ref 0]) (src := .live 0 0) rfl rfl hc
  exact R_step (fn := m1f1) (loc := [(0, .hd 0), (1, dS name)]) (fl := .nx) rfl rfl ((seq1 (assignD (conv_low rfl rfl rfl hn) rfl)).trans (seq1 (slset_e (k := 0) (xs := dL L) hE rfl rfl rfl ⟨Nat.le_trans hl2 (by decide), Nat.le_trans hl (by decide)⟩))) rfl
noncomputable def put2 (L : List (Str × Str)) (name val : Str) : List (Str × Str) := del2 L (low name) ++ [(name, val)]
theorem put2_len (L : List (Str × Str)) (n v : Str) : (put2 L n v).length ≤ L.length + 1 := by
  unfold put2
  rw [List.length_append]
  exact Nat.succ_le_succ (del2_len _ _)
theorem setitem_ok {L : List (Str × Str)} {name val : Str} (hn : okN X name) (hv : X.conv false val = true) (hL : L.length ≤ 50) (hp : ∀ p ∈ L, okN X p.1) :
    R X (k + 2) 0 [.hd 0, dS name, dS val] [.list (dL L)] = some (.d .none, [.list (dL (put2 L name val))]) := by
  have hlen : (dL (del2 L (low name))).length < cap := by rw [dL_len]; exact Nat.lt_of_le_of_lt (Nat.le_trans (del2_len _ _) hL) (by decide)
  have hput : dL (del2 L (low name)) ++ [.tup [.str name, .str val]] = dL (put2 L name val) := by unfold put2 dL; rw [List.map_append]; rfl
  have ht : evE (cxK X (k + 1)) (.tuple [(.conv true (.name 0) (.name 1)), (.conv false (.name 0) (.name 2))]) [(0, .hd 0), (1, dS name), (2, dS val)] [.list (dL (del2 L (low name)))] = some (.d (.tup [.str name, .str val]), [.list (dL (del2 L (low name)))]) :=
    tuple_e (es1 (conv_e (name_e rfl) (name_e rfl) rfl hn.2.2.1) (es0 (conv_e (name_e rfl) (name_e rfl) rfl hv))) rfl
  have ha := (meth_e (cx := cxK X (k + 1)) (m := .append) (o := .attrH (.name 0)) (led := [.list (dL (del2 L (low name)))]) (v := .ref 0) rfl (app_at rfl) (es0 ht)).trans (app_m rfl hlen)
  rw [hput] at ha
  exact R_step (fn := m1f0) (loc := [(0, .hd 0), (1, dS name), (2, dS val)]) (fl := .nx) rfl rfl ((seq1 (delh_e (d := [.list (dL (del2 L (low name)))]) (b := .hd 0) (c := dS name) rfl rfl rfl (delitem_ok hn hL hp))).trans (seq1 (expr1 ha))) rfl
theorem items_ok {L : List (Str × Str)} (hL : L.length ≤ 50) (led : Led) : R X (k + 1) 3 [.hdr (dL L)] led = some (.ref led.length, led ++ [.list (dL L)]) := by
  have hs : evE (cxK X k) (.slice (.attrH (.name 0)) (.lit .none) (.lit .none) (.lit .none)) [(0, .hdr (dL L))] led = some (.ref led.length, led ++ [.list (dL L)]) := by
    refine (slice_e (x := .lst (dL L)) rfl rfl rfl rfl).trans ?_
    show gd ((dL L).length ≤ cap) (some (V.ref led.length, led ++ [O.list (pickD (dL L) none none none)])) = _
    rw [gdF (by rw [dL_len]; exact Nat.le_trans hL (by decide)), pick_all]
  refine R_step (fn := m1f3) (loc := [(0, .hdr (dL L))]) rfl rfl (seqR (ret1 hs)) ?_
  show resO led.length (led ++ [.list (dL L)]) .ref led.length = _
  unfold resO
  rw [if_neg (Nat.lt_irrefl _), List.getElem?_concat_length, List.take_left]; rfl
end
noncomputable def upL (w : List Nat) : List Nat := w.map (· - 32)
noncomputable def trip : List (List Nat) := [[102, 102, 102], [102, 102, 105], [102, 102, 108], [102, 105, 105], [102, 105, 108], [102, 108, 108], [105, 105, 105], [105, 105, 108], [105, 108, 108], [108, 108, 108]]
theorem trip_words : ∀ w ∈ trip, w ∈ words := by decide
theorem tS_inj {a b : List Nat} (h : tS a = tS b) : a = b := congrArg (fun s => s.cps.toList) h
theorem low_all : (trip.map fun w => (low (tS w), low (tS (upL w)), Txt.upper (tS w))) = mapR (fun w => (tS w, tS w, tS (upL w))) trip := by kernel_rfl
theorem low1 {w : List Nat} (hw : w ∈ trip) : low (tS w) = tS w := congrArg Prod.fst (mapAt low_all w hw)
theorem low2 {w : List Nat} (hw : w ∈ trip) : low (tS (upL w)) = tS w := congrArg (fun p => p.2.1) (mapAt low_all w hw)
theorem up1 {w : List Nat} (hw : w ∈ trip) : Txt.upper (tS w) = tS (upL w) := congrArg (fun p => p.2.2) (mapAt low_all w hw)
theorem trip_len : ∀ w ∈ trip, (tS w).length = 3 ∧ (tS (upL w)).length = 3 := by decide
structure Cv (X : Tab) : Prop where
  nm : ∀ w ∈ trip, X.conv true (tS w) = true ∧ X.conv true (tS (upL w)) = true
  lif : X.conv true ⟨#[108, 105, 102]⟩ = true ∧ X.conv true ⟨#[76, 73, 70]⟩ = true
  vl : ∀ c ∈ FIL, X.conv false ⟨#[c]⟩ = true
section
variable {X : Tab} {k : Nat}
theorem okN_trip (C : Cv X) {w : List Nat} (h : w ∈ trip) : okN X (tS w) ∧ okN X (tS (upL w)) := by
  obtain ⟨c1, c2⟩ := C.nm w h
  obtain ⟨s1, s2⟩ := trip_len w h
  unfold okN
  rw [low1 h, low2 h, s1, s2]
  exact ⟨⟨by decide, by decide, c1, c1⟩, by decide, by decide, c2, c1⟩
structure Inv (L : List (Str × Str)) : Prop where
  nm : ∀ p ∈ L, ∃ w ∈ trip, p.1 = tS w ∨ p.1 = tS (upL w)
  vl : ∀ p ∈ L, ∃ c ∈ FIL, p.2 = ⟨#[c]⟩
  cov : ∀ w ∈ trip, ∃ p ∈ L, low p.1 = tS w
theorem Inv.okN {L : List (Str × Str)} (I : Inv L) (C : Cv X) : ∀ p ∈ L, okN X p.1 := fun p hp => by
  obtain ⟨w, hw, h⟩ := I.nm p hp
  exact h.elim (fun h => h ▸ (okN_trip C hw).1) fun h => h ▸ (okN_trip C hw).2
theorem Inv.low {L : List (Str × Str)} (I : Inv L) : ∀ p ∈ L, (low p.1).length ≤ 100 := fun p hp => by
  obtain ⟨w, hw, h⟩ := I.nm p hp
  have := (trip_len w hw).1
  rcases h with h | h <;> rw [h]
  · rw [low1 hw, this]; decide
  · rw [low2 hw, this]; decide
theorem Inv.get {L : List (Str × Str)} (I : Inv L) {w : List Nat} (hw : w ∈ trip) : ∃ c ∈ FIL, getV L (tS w) = some ⟨#[c]⟩ := by
  obtain ⟨p, hp, hl⟩ := I.cov w hw
  unfold getV
  cases h : L.find? fun p => uk0030_01.low p.1 == tS w with
  | none => exact absurd (beq_iff_eq.mpr hl) (List.find?_eq_none.mp h p hp)
  | some q =>
    obtain ⟨c, hc, e⟩ := I.vl q (List.mem_of_find?_eq_some h)
    exact ⟨c, hc, congrArg some e⟩
theorem Inv.put {L : List (Str × Str)} (I : Inv L) {w : List Nat} (hw : w ∈ trip) {c : Nat} (hc : c ∈ FIL) : Inv (put2 L (tS (upL w)) ⟨#[c]⟩) := by
  refine ⟨fun p hp => (List.mem_append.mp hp).elim (fun hp => I.nm p (List.mem_filter.mp hp).1) fun hp => ?_, fun p hp => (List.mem_append.mp hp).elim (fun hp => I.vl p (List.mem_filter.mp hp).1) fun hp => ?_, fun w' hw' => ?_⟩
  · obtain rfl := List.mem_singleton.mp hp; exact ⟨w, hw, .inr rfl⟩
  · obtain rfl := List.mem_singleton.mp hp; exact ⟨c, hc, rfl⟩
  · by_cases h : w' = w
    · subst h; exact ⟨_, List.mem_append_right _ (.head _), low2 hw⟩
    · obtain ⟨p, hp, e⟩ := I.cov w' hw'
      refine ⟨p, List.mem_append_left _ (List.mem_filter.mpr ⟨hp, ?_⟩), e⟩
      rw [e, low2 hw, beq_eq_false_iff_ne.mpr fun q => h (tS_inj q)]; rfl
theorem word_ok (K : Kn X) {m : Nat} {o : O} {w : List Nat} (hw : w ∈ words) {loc : UK.Loc} {e1 e2 : E} (h1 : evE (cxK X (k + 2)) e1 loc [o] = some (dS (tS w), [o])) (h2 : evE (cxK X (k + 2)) e2 loc [o] = some (dI m, [o])) :
    evE (cxK X (k + 2)) (.call 18 [(.call 17 [e1, e2])]) loc [o] = some (dS (tS w), [o]) := by
  obtain ⟨T, t1, t2, t3, t4⟩ := typed_ok (k := k) K m o hw
  have p := prepared_ok (k := k) (led := [o]) t2 (Nat.le_trans t4 (by decide))
  rw [t3] at p
  exact (call_R (es0 ((call_R (es1 h1 (es0 h2))).trans t1))).trans p
theorem put2_new {pre : List (Str × Str)} {p : Str × Str} (h : ∀ q ∈ pre, low q.1 ≠ low p.1) : put2 pre p.1 p.2 = pre ++ [p] := by
  unfold put2 del2
  rw [List.filter_eq_self.mpr fun q hq => by rw [beq_eq_false_iff_ne.mpr (h q hq)]; rfl]
noncomputable def locR (is : List Int) (t : Int) (fx : Str) (L : List (Str × Str)) : UK.Loc := [(31, .lst (is.map .int)), (30, dI t), (32, dS fx), (33, .lst (dL L)), (34, .hd 0)]
noncomputable def rBody1 : List UK.S := [.hset (.name 34) (.call 18 [(.call 17 [(.name 1), (.bin .add (.bin .mul (.bi .abs [(.name 30)]) (.lit (.int 5))) (.name 35))])]) (.name 36)]
theorem rule_loop1 (K : Kn X) (C : Cv X) {is : List Int} {t : Int} {fx : Str} {L0 : List (Str × Str)} : ∀ (rest pre : List (Str × Str)) (i N : Nat), rest.length < N → pre.length + rest.length ≤ 20 → (∀ p ∈ pre ++ rest, ∃ w ∈ trip, p.1 = tS w) → (∀ p ∈ rest, ∃ c ∈ FIL, p.2 = ⟨#[c]⟩) → ((pre ++ rest).map (·.1)).Nodup →
    forLoop (.tup [(.name 35), (.tup [(.name 1), (.name 36)])]) (fun loc led' => evSs (cxK X (k + 2)) [34] 1 rBody1 loc led') N (.fz (enumD i (dL rest))) (locR is t fx L0) [.list (dL pre)] = some (.nx, locR is t fx L0, [.list (dL (pre ++ rest))])
  | rest, pre, i, 0, hN, _, _, _, _ => absurd hN (Nat.not_lt_zero _)
  | [], pre, i, N + 1, _, _, _, _, _ => by rw [List.append_nil]; rfl
  | p :: rest, pre, i, N + 1, hN, hl, hw, hv, hnd => by
    have hpm : p ∈ pre ++ p :: rest := List.mem_append_right _ (.head _)
    obtain ⟨w, hwm, hp⟩ := hw p hpm
    obtain ⟨c, hc, hpv⟩ := hv p (.head _)
    have hlow : ∀ q ∈ pre ++ p :: rest, low q.1 = q.1 := fun q hq => by
      obtain ⟨u, hu, e⟩ := hw q hq
      rw [e]; exact low1 hu
    have ha : evE (cxK X (k + 2)) (.bin .add (.bin .mul (.bi .abs [(.name 30)]) (.lit (.int 5))) (.name 35)) (locR is t fx L0 ++ [(35, dI i), (1, dS p.1), (36, dS p.2)]) [.list (dL pre)] = some (dI ((t.natAbs * 5 + i : Nat) : Int), [.list (dL pre)]) := by
      rw [Int.natCast_add, Int.natCast_mul]
      exact (bin_e (l1 := [.list (dL pre)]) (y := dI i) ((bin_e (x := dI (t.natAbs : Int)) (y := dI 5) (l1 := [.list (dL pre)]) rfl rfl).trans (mul_int (.inr (by decide)))) rfl).trans rfl
    have hk := word_ok K (k := k) (o := .list (dL pre)) (trip_words w hwm) (loc := locR is t fx L0 ++ [(35, dI i), (1, dS p.1), (36, dS p.2)]) (e1 := .name 1) (by rw [← hp]; rfl) ha
    have hset := setitem_ok (k := k) (L := pre) (name := p.1) (val := p.2) (by rw [hp]; exact (okN_trip C hwm).1) (by rw [hpv]; exact C.vl _ hc) (by omega) (fun q hq => by
      obtain ⟨u, hu, e⟩ := hw q (List.mem_append_left _ hq)
      rw [e]; exact (okN_trip C hu).1)
    rw [put2_new (fun q hq => by
      rw [hlow q (List.mem_append_left _ hq), hlow p hpm]
      rw [List.map_append, List.nodup_append] at hnd
      exact hnd.2.2 q.1 (List.mem_map.mpr ⟨q, hq, rfl⟩) p.1 (.head _))] at hset
    rw [← hp] at hk
    refine (for_step (loc3 := locR is t fx L0) (l3 := [.list (dL (pre ++ [p]))]) rfl (seq1 (hset_e (a := dS p.2) (b := .hd 0) rfl rfl hk rfl hset)) rfl).trans ?_
    refine (rule_loop1 K C rest (pre ++ [p]) (i + 1) N (Nat.lt_of_succ_lt_succ hN) ?_ ?_ (fun q hq => hv q (.tail _ hq)) ?_).trans ?_
    · rw [List.length_append]; simp only [List.length_cons, List.length_nil] at hl ⊢; omega
    · rw [List.append_assoc]; exact hw
    · rw [List.append_assoc]; exact hnd
    · rw [List.append_assoc]; rfl
end
end uk0030_01
end
section
namespace UK
open PySem PySem.W
noncomputable abbrev ltS (a b : Str) : Prop := a.cps.toList < b.cps.toList
theorem ltS_trans {a b c : Str} (h : ltS a b) (g : ltS b c) : ltS a c := List.lt_trans h g
theorem ltS_le {a b c : Str} (h : ltS a b) (g : ¬ ltS c b) : ltS a c := Std.lt_of_lt_of_le h g
theorem ltS_asymm {a b : Str} (h : ltS a b) : ¬ ltS b a := List.lt_asymm h
theorem ltS_le' {a b c : Str} (h : ¬ ltS b a) (g : ltS b c) : ltS a c := by
  refine Decidable.byContradiction fun q => ?_
  by_cases e : ltS a b
  · exact q (ltS_trans e g)
  · have : a.cps.toList = b.cps.toList := List.le_antisymm h e
    apply q
    unfold ltS at g ⊢
    rw [this]; exact g
noncomputable def SortedS (ys : List Str) : Prop := ys.Pairwise fun a b => ¬ ltS b a
noncomputable def cntR (x : Str) (ys : List Str) : Nat := (ys.filter fun y => !decide (ltS x y)).length
noncomputable def cntL (x : Str) (ys : List Str) : Nat := (ys.filter fun y => decide (ltS y x)).length
noncomputable def Parts (t : Str → Prop) (ys : List Str) (p : Nat) : Prop := p ≤ ys.length ∧ (∀ (i : Nat) (h : i < ys.length), i < p → t ys[i]) ∧ (∀ (i : Nat) (h : i < ys.length), p ≤ i → ¬ t ys[i])
theorem parts_sorted {t : Str → Prop} [DecidablePred t] (ht : ∀ a b, ¬ t a → ¬ ltS b a → ¬ t b) : ∀ {ys : List Str}, SortedS ys → Parts t ys (ys.filter fun y => decide (t y)).length
  | [], _ => ⟨Nat.le_refl _, fun i h => absurd h (by simp), fun i h => absurd h (by simp)⟩
  | y :: ys, hs => by
    obtain ⟨h1, h2⟩ := List.pairwise_cons.mp hs
    obtain ⟨p1, p2, p3⟩ := parts_sorted ht h2
    by_cases hy : t y
    · rw [List.filter_cons_of_pos (by simpa using hy)]
      refine ⟨by simpa using p1, fun i h hi => ?_, fun i h hi => ?_⟩
      · cases i with
        | zero => exact hy
        | succ i => exact p2 i (by simpa using h) (by simpa using hi)
      · cases i with
        | zero => simp at hi
        | succ i => exact p3 i (by simpa using h) (by simpa using hi)
    · have hall : ∀ z ∈ ys, ¬ t z := fun z hz => ht y z hy (h1 z hz)
      have hf : (y :: ys).filter (fun y => decide (t y)) = [] := by
        rw [List.filter_eq_nil_iff]
        intro z hz
        rcases List.mem_cons.mp hz with rfl | hz
        · simpa using hy
        · simpa using hall z hz
      rw [hf]
      refine ⟨Nat.zero_le _, fun i h hi => absurd hi (by simp), fun i h _ => ?_⟩
      cases i with
      | zero => exact hy
      | succ i => exact hall _ (List.getElem_mem _)
theorem parts_R {x : Str} {ys : List Str} (h : SortedS ys) : Parts (fun y => ¬ ltS x y) ys (cntR x ys) := by
  have := parts_sorted (t := fun y => ¬ ltS x y) (fun a b h1 h2 => by
    rw [Decidable.not_not] at h1 ⊢
    exact ltS_le h1 h2) h
  unfold cntR
  simp only [decide_not] at this
  exact this
theorem parts_L {x : Str} {ys : List Str} (h : SortedS ys) : Parts (fun y => ltS y x) ys (cntL x ys) :=
  parts_sorted (t := fun y => ltS y x) (fun a b h1 h2 q => h1 (ltS_le' h2 q)) h
theorem Parts.of {t u : Str → Prop} {ys : List Str} {p : Nat} (h : Parts t ys p) (e : ∀ y, t y ↔ u y) : Parts u ys p := ⟨h.1, fun i hi q => (e _).mp (h.2.1 i hi q), fun i hi q r => h.2.2 i hi q ((e _).mpr r)⟩
theorem parts_B {x : Str} {ys : List Str} {p : Nat} (h : Parts (fun y => ¬ ltS x y) ys p) : Parts (fun y => (!decide (ltS x y)) = true) ys p := h.of fun y => by rw [← decide_not, decide_eq_true_iff]
theorem parts_BL {x : Str} {ys : List Str} {p : Nat} (h : Parts (fun y => ltS y x) ys p) : Parts (fun y => decide (ltS y x) = true) ys p := h.of fun y => by rw [decide_eq_true_iff]
noncomputable def insR (x : Str) (ys : List Str) : List Str := ys.take (cntR x ys) ++ x :: ys.drop (cntR x ys)
theorem insR_perm (x : Str) (ys : List Str) : (insR x ys).Perm (x :: ys) := by
  unfold insR
  refine List.perm_middle.trans ?_
  rw [List.take_append_drop]
theorem insR_length (x : Str) (ys : List Str) : (insR x ys).length = ys.length + 1 := by rw [(insR_perm x ys).length_eq]; rfl
theorem insR_sorted {x : Str} {ys : List Str} (h : SortedS ys) : SortedS (insR x ys) := by
  obtain ⟨p1, p2, p3⟩ := parts_R (x := x) h
  unfold insR SortedS
  have hs := h
  unfold SortedS at hs
  rw [← List.take_append_drop (cntR x ys) ys, List.pairwise_append] at hs
  obtain ⟨a1, a2, a3⟩ := hs
  rw [List.pairwise_append]
  have ht : ∀ z ∈ ys.take (cntR x ys), ¬ ltS x z := fun z hz => by
    obtain ⟨i, hi, rfl⟩ := List.mem_iff_getElem.mp hz
    have hi' := hi
    rw [List.length_take] at hi'
    rw [List.getElem_take]
    exact p2 i (by omega) (by omega)
  have hd : ∀ z ∈ ys.drop (cntR x ys), ltS x z := fun z hz => by
    obtain ⟨i, hi, rfl⟩ := List.mem_iff_getElem.mp hz
    have hi' := hi
    rw [List.length_drop] at hi'
    rw [List.getElem_drop]
    exact Decidable.not_not.mp (p3 (cntR x ys + i) (by omega) (by omega))
  refine ⟨a1, List.pairwise_cons.mpr ⟨fun z hz => ltS_asymm (hd z hz), a2⟩, fun a ha b hb => ?_⟩
  rcases List.mem_cons.mp hb with rfl | hb
  · exact ht a ha
  · exact a3 a ha b hb
theorem cntR_perm {x : Str} {a b : List Str} (h : a.Perm b) : cntR x a = cntR x b := (h.filter _).length_eq
theorem cntL_perm {x : Str} {a b : List Str} (h : a.Perm b) : cntL x a = cntL x b := (h.filter _).length_eq
theorem sorted_nil : SortedS [] := List.Pairwise.nil
theorem insR_congr {x : Str} {a b : List Str} (h : a.Perm b) : (insR x a).Perm (x :: b) := (insR_perm x a).trans (h.cons x)
theorem seqIndex_nat {i n : Nat} (h : i < n) : seqIndex? (i : Int) n = some i := by
  unfold seqIndex?
  simp only [show ¬ ((i : Int) < 0) by omega, if_false, Int.toNat_natCast]
  rw [if_pos (by simp; omega)]
theorem atI_nat {xs : List D} {i : Nat} {x : D} (hx : xs[i]? = some x) : atI xs (i : Int) = some (.d x) := mapF ((bindF (seqIndex_nat (List.getElem?_eq_some_iff.mp hx).1)).trans hx)
theorem evIndex_list {led : Led} {a : V} {xs : List D} (ha : ofV a = none) (h : led.list a = some xs) {i : Nat} {x : D} (hx : xs[i]? = some x) (h62 : i < 2 ^ 62) : evIndex led a (.d (.int i)) = some (.d x) := by
  refine (bindF (a := D.int i) rfl).trans ((gdF ?_).trans ?_)
  · constructor <;> omega
  · cases a with
    | d x => exact nomatch ha
    | _ => exact (bindF h).trans (atI_nat hx)
end UK
end
section
set_option maxHeartbeats 0
namespace uk0030_01
open PySem PySem.W UK
noncomputable abbrev S1 (c : Nat) : Str := ⟨#[c]⟩
noncomputable def leN (a b : Nat) : Bool := decide (a ≤ b)
theorem ltS1 (a b : Nat) : ltS (S1 a) (S1 b) ↔ a < b := by
  have : ([a] : List Nat) < [b] ↔ a < b := by rw [List.cons_lt_cons_iff]; simp
  exact this
theorem leS1 (a b : Nat) : leS (S1 a) (S1 b) = leN a b := by
  show (!decide (ltS (S1 b) (S1 a))) = decide (a ≤ b)
  rw [decide_eq_decide.mpr (ltS1 b a), ← decide_not, decide_eq_decide]
  exact Nat.not_lt
theorem ins_map (x : Nat) : ∀ l : List Nat, ins leS (S1 x) (l.map S1) = (ins leN x l).map S1
  | [] => rfl
  | y :: l => by
    show (if leS (S1 y) (S1 x) = true then _ else _) = (if leN y x = true then y :: ins leN x l else x :: y :: l).map S1
    rw [leS1]
    cases leN y x with
    | true => exact congrArg (S1 y :: ·) (ins_map x l)
    | false => rfl
theorem isort_map : ∀ l : List Nat, isort leS (l.map S1) = (isort leN l).map S1
  | [] => rfl
  | x :: l => by
    show ins leS (S1 x) (isort leS (l.map S1)) = _
    rw [isort_map l, ins_map]; rfl
theorem ins_perm (x : Nat) : ∀ l : List Nat, (ins leN x l).Perm (x :: l)
  | [] => .refl _
  | y :: l => by
    show (if leN y x = true then y :: ins leN x l else x :: y :: l).Perm _
    cases leN y x with
    | true => exact ((ins_perm x l).cons y).trans (.swap x y l)
    | false => exact .refl _
theorem isort_perm : ∀ l : List Nat, (isort leN l).Perm l
  | [] => .refl _
  | x :: l => (ins_perm x _).trans ((isort_perm l).cons x)
theorem tS_app (a b : List Nat) : tS a ++ tS b = tS (a ++ b) := by
  show (⟨a.toArray ++ b.toArray⟩ : Str) = ⟨(a ++ b).toArray⟩
  simp
theorem mod_lt (x : Int) {n : Nat} (h : 0 < n) : ∃ j : Nat, j < n ∧ x.fmod n = (j : Int) := by
  have hn : (0 : Int) < (n : Int) := Int.ofNat_lt.mpr h
  have h1 := Int.fmod_nonneg_of_pos x hn
  have h2 := Int.fmod_lt_of_pos x hn
  exact ⟨(x.fmod n).toNat, by omega, by omega⟩
noncomputable def filC (x : Int) : Nat := FIL.getD (x.fmod 3).toNat 0
theorem fil_all {led : Led} : ((List.range 3).map fun (j : Nat) => evIndex led (dS ⟨#[102, 105, 108]⟩) (dI j)) = mapR (fun j => some (ch (FIL.getD j 0))) (List.range 3) := by kernel_rfl
theorem fil_mem : ∀ j ∈ List.range 3, FIL.getD j 0 ∈ FIL := by decide
theorem fil_idx (led : Led) (x : Int) : evIndex led (dS ⟨#[102, 105, 108]⟩) (dI (x.fmod 3)) = some (ch (filC x)) ∧ filC x ∈ FIL := by
  obtain ⟨j, hj, h⟩ := mod_lt x (n := 3) (by decide)
  have h : x.fmod 3 = (j : Int) := h
  unfold filC
  rw [h]
  exact ⟨mapAt fil_all j (List.mem_range.mpr hj), fil_mem j (List.mem_range.mpr hj)⟩
section
variable {X : Tab} {k : Nat}
noncomputable def fElt : E := .index (.lit (.str ⟨#[102, 105, 108]⟩)) (.bin .mod (.bin .fdiv (.name 30) (.bin .pow (.lit (.int 3)) (.name 4))) (.lit (.int 3)))
theorem pow_all {t : Int} {led : Led} : ((List.range 4).map fun (j : Nat) => evE (cxK X k) (.bin .mod (.bin .fdiv (.name 30) (.bin .pow (.lit (.int 3)) (.name 4))) (.lit (.int 3))) [(30, dI t), (4, dI j)] led) = mapR (fun j => some (dI ((t.fdiv ((3 : Int) ^ j)).fmod 3), led)) (List.range 4) := by kernel_rfl
noncomputable def fixL (t : Int) : List Nat := (List.range 4).map fun j => filC (t.fdiv ((3 : Int) ^ j))
theorem fixL_mem (t : Int) : ∀ c ∈ fixL t, c ∈ FIL := fun c hc => by
  obtain ⟨j, _, rfl⟩ := List.mem_map.mp hc
  exact (fil_idx [] _).2
theorem fixed_ok (sc : V) (t : Int) : evE (cxK X k) (.meth .join (.lit (.str ⟨#[]⟩)) [(.comp fElt (.name 4) .range [(.lit (.int 4))] [] [30])]) [(31, sc), (30, dI t)] [] = some (dS (tS (fixL t)), [.list ((fixL t).map fun c => .str ⟨#[c]⟩)]) := by
  have hc := comp_fz (n := 0) (turn := turnP (cxK X k) fElt (.name 4) [] (capt [30] [(31, sc), (30, dI t)])) (led0 := []) rfl (fun d => d.int?.map fun i => .str (S1 (filC (t.fdiv ((3 : Int) ^ i.toNat))))) [.int 0, .int 1, .int 2, .int 3] [] 4096 (by decide) (by decide) (fun x hx ys' => by
    have hx : x ∈ (List.range 4).map (fun (j : Nat) => D.int j) := hx
    obtain ⟨j, hj, rfl⟩ := List.mem_map.mp hx
    have he : ∀ led, evE (cxK X k) fElt [(30, dI t), (4, dI (j : Nat))] led = some (ch (filC (t.fdiv ((3 : Int) ^ j))), led) := fun led => index_e (l1 := led) (x := dS ⟨#[102, 105, 108]⟩) rfl (mapAt pow_all j hj) (fil_idx _ _).1
    exact turn_pl rfl (turn_no rfl (he _)))
  have hE := comp_eq (cx := cxK X k) (loc := [(31, sc), (30, dI t)]) (led := []) (l1 := []) (its := [(.lit (.int 4))]) (caps := [30]) (k := .range) (vs := [dI 4]) (src := .fz [.int 0, .int 1, .int 2, .int 3]) rfl (by kernel_rfl) hc
  exact (meth_e rfl rfl (es0 hE)).trans (join_e (ss := (fixL t).map S1) (n := 0) rfl (by show 4 ≤ 4096; decide))
noncomputable def tripD : List D := trip.map fun w => .str (tS w)
theorem triples_nil : R X (k + 1) 13 [] [] = some (.ref 0, [.list tripD]) := by kernel_rfl
theorem triples_one (o : O) : R X (k + 1) 13 [] [o] = some (.ref 1, [o, .list tripD]) := by kernel_rfl
noncomputable def dElt : E := .tuple [(.name 1), (.index (.bi .sorted [(.bin .add (.name 1) (.name 32))]) (.lit (.int 3)))]
noncomputable def kthL (fx w : List Nat) : Nat := (isort leN (w ++ fx)).getD 3 0
noncomputable def dueF (fx w : List Nat) : Str × Str := (tS w, S1 (kthL fx w))
theorem kth_mem {fx w : List Nat} (hl : (w ++ fx).length = 7) : (isort leN (w ++ fx))[3]? = some (kthL fx w) ∧ kthL fx w ∈ w ++ fx := by
  have h3 : 3 < (isort leN (w ++ fx)).length := by rw [(isort_perm _).length_eq, hl]; decide
  have e : (isort leN (w ++ fx))[3]? = some (kthL fx w) := by unfold kthL; rw [List.getD_eq_getElem?_getD, List.getElem?_eq_getElem h3]; rfl
  exact ⟨e, (isort_perm _).mem_iff.mp (List.mem_of_getElem? e)⟩
theorem trip_mem : ∀ w ∈ trip, w.length = 3 ∧ ∀ c ∈ w, c ∈ FIL := by decide
theorem due_mem {fx w : List Nat} (hfx : fx.length = 4) (hc : ∀ c ∈ fx, c ∈ FIL) (hw : w ∈ trip) : kthL fx w ∈ FIL :=
  (List.mem_append.mp (kth_mem (by rw [List.length_append, hfx, (trip_mem w hw).1])).2).elim ((trip_mem w hw).2 _) (hc _)
theorem due_turn {fx w : List Nat} (hfx : fx.length = 4) (hw : w ∈ trip) (a b : O) : evE (cxK X k) dElt [(32, dS (tS fx)), (1, dS (tS w))] [a, b] = some (.d (pr (dueF fx w)), [a, b, .list ((isort leS ((w ++ fx).map S1)).map .str)]) := by
  have hl : (w ++ fx).length = 7 := by rw [List.length_append, hfx, (trip_mem w hw).1]
  have ha : evE (cxK X k) (.bin .add (.name 1) (.name 32)) [(32, dS (tS fx)), (1, dS (tS w))] [a, b] = some (dS (tS (w ++ fx)), [a, b]) :=
    (bin_e (x := dS (tS w)) (y := dS (tS fx)) (l1 := [a, b]) (l2 := [a, b]) rfl rfl).trans ((add_str (by show w.length + fx.length ≤ 4096; rw [hfx, (trip_mem w hw).1]; decide)).trans (by rw [tS_app]))
  have hs : evBi [a, b] .sorted [dS (tS (w ++ fx))] = some (.ref 2, [a, b, .list ((isort leS ((w ++ fx).map S1)).map .str)]) := by
    show gd ((w ++ fx).length < 64) _ = _
    rw [gdF (by rw [hl]; decide)]; rfl
  refine tuple_e (es1 rfl (es0 (index_e ((bi_e (es0 ha)).trans hs) rfl (evIndex_list (i := 3) rfl rfl ?_ (by decide))))) rfl
  rw [isort_map, List.map_map, List.getElem?_map, (kth_mem hl).1]; rfl
theorem due_ok (sc : V) (t : Int) {fx : List Nat} (hfx : fx.length = 4) : evE (cxK X (k + 1)) (.comp dElt (.name 1) .e [(.call 13 [])] [] [32]) [(31, sc), (30, dI t), (32, dS (tS fx))] [] = some (.ref 1, [.list tripD, .list (dL (trip.map (dueF fx)))]) := by
  have hl := comp_live (n := 1) (j := 0) (led0 := [.list tripD]) (turn := turnP (cxK X (k + 1)) dElt (.name 1) [] (capt [32] [(31, sc), (30, dI t), (32, dS (tS fx))])) rfl rfl (fun d => d.str?.map fun x => pr (dueF fx x.cps.toList)) tripD [] 0 4096 rfl (by decide) (by decide) (fun x hx ys' => by
    obtain ⟨w, hw, rfl⟩ := List.mem_map.mp hx
    exact ⟨_, turn_no rfl (due_turn hfx hw _ _), rfl⟩)
  exact comp_eq (cx := cxK X (k + 1)) (led := []) (l1 := [.list tripD]) (caps := [32]) (k := .e) (vs := [.ref 0]) (src := .live 0 0) (es0 ((call_R (vs := []) rfl).trans triples_nil)) rfl hl
theorem inv_due {f : List Nat → Str × Str} (h1 : ∀ w, (f w).1 = tS w) (h2 : ∀ w ∈ trip, ∃ c ∈ FIL, (f w).2 = S1 c) : Inv (trip.map f) :=
  ⟨fun p hp => by obtain ⟨w, hw, rfl⟩ := List.mem_map.mp hp; exact ⟨w, hw, .inl (h1 w)⟩, fun p hp => by obtain ⟨w, hw, rfl⟩ := List.mem_map.mp hp; exact h2 w hw,
    fun w hw => ⟨f w, List.mem_map.mpr ⟨w, hw, rfl⟩, by rw [h1]; exact low1 hw⟩⟩
theorem trip_nodup : (trip.map tS).Nodup := by decide
noncomputable def s6a : UK.S := .assign (.name 1) (.index (.call 13 []) (.bin .mod (.name 17) (.lit (.int 10))))
noncomputable def s6b : UK.S := .assign (.name 36) (.index (.comp (.index (.name 37) (.lit (.int 1))) (.name 37) .e [(.name 33)] [(.cmp (.meth .lower (.index (.name 37) (.lit (.int 0))) []) .eq (.name 1))] [1]) (.lit (.int 0)))
noncomputable def s6c : UK.S := .ite (.cmp (.bin .mod (.bin .fdiv (.name 17) (.lit (.int 10))) (.lit (.int 2))) .eq (.lit (.int 0))) [.assign (.name 36) (.index (.lit (.str ⟨#[102, 105, 108]⟩)) (.bin .mod (.bin .fdiv (.name 17) (.lit (.int 20))) (.lit (.int 3))))] []
noncomputable def s6d : UK.S := .assign (.name 33) (.bin .add (.comp (.name 37) (.name 37) .e [(.name 33)] [(.cmp (.meth .lower (.index (.name 37) (.lit (.int 0))) []) .ne (.name 1))] [1]) (.list [(.tuple [(.meth .upper (.name 1) []), (.name 36)])]))
noncomputable def s6e : UK.S := .hset (.name 34) (.meth .upper (.call 18 [(.call 17 [(.name 1), (.bi .abs [(.name 17)])])]) []) (.name 36)
noncomputable def rBody2 : List UK.S := [s6a, s6b, s6c, s6d, s6e]
noncomputable def locX (is : List Int) (t : Int) (fx : Str) (L : List (Str × Str)) (x : Int) (w : List Nat) (c : Nat) : UK.Loc := locR is t fx L ++ [(17, dI x), (1, dS (tS w)), (36, ch c)]
section
variable {is : List Int} {t x : Int} {fx : Str} {L : List (Str × Str)} {o : O} {w : List Nat}
theorem idx10 : ((List.range 10).map fun (j : Nat) => evIndex [o, .list tripD] (.ref 1) (dI j)) = mapR (fun j => some (dS (tS (trip.getD j [])))) (List.range 10) := by kernel_rfl
theorem trip10 : ∀ j ∈ List.range 10, trip.getD j [] ∈ trip := by decide
theorem turn_a : ∃ w ∈ trip, evS (cxK X (k + 1)) [34] 1 s6a (locR is t fx L ++ [(17, dI x)]) [o] = some (.nx, locR is t fx L ++ [(17, dI x), (1, dS (tS w))], [o]) := by
  obtain ⟨j, hj, hx⟩ := mod_lt x (n := 10) (by decide)
  have hj := List.mem_range.mpr hj
  have hm : evE (cxK X (k + 1)) (.bin .mod (.name 17) (.lit (.int 10))) (locR is t fx L ++ [(17, dI x)]) [o, .list tripD] = some (dI (j : Int), [o, .list tripD]) := by rw [← hx]; rfl
  exact ⟨trip.getD j [], trip10 j hj, assign1 (b := ⟨1, locR is t fx L ++ [(17, dI x), (1, dS (tS (trip.getD j [])))], [o]⟩) (index_e ((call_R (vs := []) rfl).trans (triples_one o)) hm (mapAt idx10 j hj)) rfl⟩
noncomputable def eqF (key : Str) (d : D) : Option D := d.tup?.bind fun xs => (two? xs).bind fun p => p.1.str?.bind fun n => cond (low n == key) (some p.2) none
theorem eq_first {key : Str} : ∀ {L : List (Str × Str)}, (∃ p ∈ L, low p.1 = key) → ∃ p ∈ L, ∃ ds, (dL L).filterMap (eqF key) = .str p.2 :: ds
  | [], ⟨_, h, _⟩ => nomatch h
  | q :: L, ⟨p, hp, hl⟩ => by
    have e : eqF key (pr q) = cond (low q.1 == key) (some (.str q.2)) none := rfl
    show ∃ p ∈ q :: L, ∃ ds, List.filterMap (eqF key) (pr q :: dL L) = _
    cases h : (low q.1 == key) with
    | true => rw [h] at e; exact ⟨q, .head _, _, List.filterMap_cons_some e⟩
    | false =>
      rw [h] at e
      rw [List.filterMap_cons_none e]
      obtain ⟨p', h1, h2⟩ := eq_first (L := L) ⟨p, (List.mem_cons.mp hp).resolve_left fun q => by rw [← q, hl, beq_self_eq_true] at h; exact Bool.noConfusion h, hl⟩
      exact ⟨p', .tail _ h1, h2⟩
theorem dL_lt (hL : L.length ≤ 50) : (dL L).length < 4096 := by rw [dL_len]; exact Nat.lt_of_le_of_lt hL (by decide)
theorem turn_b (I : Inv L) (hL : L.length ≤ 50) (hw : w ∈ trip) :
    ∃ c ∈ FIL, evS (cxK X k) [34] 1 s6b (locR is t fx L ++ [(17, dI x), (1, dS (tS w))]) [o] = some (.nx, locX is t fx L x w c, [o]) := by
  have hc := comp_fz (n := 1) (led0 := [o]) (turn := turnP (cxK X k) (.index (.name 37) (.lit (.int 1))) (.name 37) [(.cmp (.meth .lower (.index (.name 37) (.lit (.int 0))) []) .eq (.name 1))] (capt [1] (locR is t fx L ++ [(17, dI x), (1, dS (tS w))]))) rfl (eqF (tS w)) (dL L) [] 4096
    (dL_lt hL) (by rw [List.length_nil, Nat.zero_add]; exact dL_lt hL) (fun d hd ys' => by
      obtain ⟨p, hp, rfl⟩ := List.mem_map.mp hd
      exact turn_pl rfl (eq_turn rfl rfl (I.low p hp)))
  obtain ⟨p, hp, ds, hq⟩ := eq_first (I.cov w hw)
  obtain ⟨c, hcm, hv⟩ := I.vl p hp
  rw [List.nil_append, hq, hv] at hc
  have hE := comp_eq (cx := cxK X k) (loc := locR is t fx L ++ [(17, dI x), (1, dS (tS w))]) (led := [o]) (l1 := [o]) (its := [(.name 33)]) (caps := [1]) (k := .e) (vs := [.lst (dL L)]) (src := .fz (dL L)) rfl rfl hc
  exact ⟨c, hcm, assign1 (b := ⟨1, locX is t fx L x w c, [o]⟩) (index_e hE rfl (evIndex_list (i := 0) rfl rfl rfl (by decide))) rfl⟩
theorem turn_c {c : Nat} (hc : c ∈ FIL) : ∃ c' ∈ FIL, evS (cxK X k) [34] 1 s6c (locX is t fx L x w c) [o] = some (.nx, locX is t fx L x w c', [o]) := by
  have hm : evE (cxK X k) (.cmp (.bin .mod (.bin .fdiv (.name 17) (.lit (.int 10))) (.lit (.int 2))) .eq (.lit (.int 0))) (locX is t fx L x w c) [o] = some (.d (.bool ((x.fdiv 10).fmod 2 == 0)), [o]) := by kernel_rfl
  cases hb : ((x.fdiv 10).fmod 2 == 0) with
  | true =>
    rw [hb] at hm
    have hi := fil_idx [o] (x.fdiv 20)
    exact ⟨_, hi.2, (ite_t hm rfl).trans (seq1 (assign1 (b := ⟨1, locX is t fx L x w (filC (x.fdiv 20)), [o]⟩) (index_e (l1 := [o]) (y := dI ((x.fdiv 20).fmod 3)) rfl (by kernel_rfl) hi.1) rfl))⟩
  | false =>
    rw [hb] at hm
    exact ⟨c, hc, (ite_f hm rfl).trans rfl⟩
theorem turn_d (I : Inv L) (hL : L.length ≤ 50) (hw : w ∈ trip) {c : Nat} : evS (cxK X k) [34] 1 s6d (locX is t fx L x w c) [o] = some (.nx, locX is t fx (put2 L (tS (upL w)) (S1 c)) x w c, [o]) := by
  have hc := comp_fz (n := 1) (led0 := [o]) (turn := turnP (cxK X k) (.name 37) (.name 37) [(.cmp (.meth .lower (.index (.name 37) (.lit (.int 0))) []) .ne (.name 1))] (capt [1] (locX is t fx L x w c))) rfl (delF false (tS w)) (dL L) [] 4096
    (dL_lt hL) (by rw [List.length_nil, Nat.zero_add]; exact dL_lt hL) (fun d hd ys' => by
      obtain ⟨p, hp, rfl⟩ := List.mem_map.mp hd
      exact turn_pl rfl (ne_turn rfl rfl (I.low p hp)))
  rw [List.nil_append, filt] at hc
  have hE := comp_eq (cx := cxK X k) (loc := locX is t fx L x w c) (led := [o]) (l1 := [o]) (its := [(.name 33)]) (caps := [1]) (k := .e) (vs := [.lst (dL L)]) (src := .fz (dL L)) rfl rfl hc
  have hu := (meth_e (cx := cxK X k) (o := .name 1) (m := .upper) (as := []) (loc := locX is t fx L x w c) (led := [o, .list (dL (del2 L (tS w)))]) (v := dS (tS w)) (vs := []) (l2 := [o, .list (dL (del2 L (tS w)))]) rfl rfl rfl).trans (up_m (by rw [up1 hw, (trip_len w hw).2]; decide))
  rw [up1 hw] at hu
  have hR := list_e (cx := cxK X k) (es0 (tuple_e (es1 hu (es0 (v := ch c) (e := .name 36) rfl)) rfl)) rfl
  have hput : dL (del2 L (tS w)) ++ [.tup [.str (tS (upL w)), .str (S1 c)]] = dL (put2 L (tS (upL w)) (S1 c)) := by
    unfold put2 dL
    rw [low2 hw, List.map_append]; rfl
  have hadd : evBin [o, .list (dL (del2 L (tS w))), .list [.tup [.str (tS (upL w)), .str (S1 c)]]] .add (.ref 1) (.ref 2) = some (.ref 3, [o, .list (dL (del2 L (tS w))), .list [.tup [.str (tS (upL w)), .str (S1 c)]], .list (dL (put2 L (tS (upL w)) (S1 c)))]) := by
    rw [← hput]
    refine gdF (p := (dL (del2 L (tS w))).length + 1 ≤ cap) ?_
    rw [dL_len]
    exact Nat.le_trans (Nat.succ_le_succ (Nat.le_trans (del2_len _ _) hL)) (by decide)
  exact assign1 (b := ⟨4, locX is t fx (put2 L (tS (upL w)) (S1 c)) x w c, [o]⟩) ((bin_e hE hR).trans hadd) rfl
theorem turn_e (K : Kn X) (C : Cv X) {L2 : List (Str × Str)} (I : Inv L) (hL : L.length ≤ 50) (hw : w ∈ trip) {c : Nat} (hc : c ∈ FIL) :
    evS (cxK X (k + 2)) [34] 1 s6e (locX is t fx L2 x w c) [.list (dL L)] = some (.nx, locX is t fx L2 x w c, [.list (dL (put2 L (tS (upL w)) (S1 c)))]) := by
  have hk := word_ok K (k := k) (o := .list (dL L)) (trip_words w hw) (loc := locX is t fx L2 x w c) (e1 := .name 1) (e2 := .bi .abs [(.name 17)]) (m := x.natAbs) rfl rfl
  have hu := (meth_e (m := .upper) (as := []) hk rfl rfl).trans (up_m (by rw [up1 hw, (trip_len w hw).2]; decide))
  rw [up1 hw] at hu
  exact hset_e (a := ch c) (b := .hd 0) (d := [.list (dL (put2 L (tS (upL w)) (S1 c)))]) rfl rfl hu rfl (setitem_ok (k := k) (okN_trip C hw).2 (C.vl _ hc) hL (I.okN C))
theorem rule_turn (K : Kn X) (C : Cv X) (I : Inv L) (hL : L.length ≤ 50) : ∃ L' w c, Inv L' ∧ L'.length ≤ L.length + 1 ∧
    evSs (cxK X (k + 2)) [34] 1 rBody2 (locR is t fx L ++ [(17, dI x)]) [.list (dL L)] = some (.nx, locX is t fx L' x w c, [.list (dL L')]) := by
  obtain ⟨w, hw, ea⟩ := turn_a (X := X) (k := k + 1) (is := is) (t := t) (x := x) (fx := fx) (L := L) (o := .list (dL L))
  obtain ⟨c, hc, eb⟩ := turn_b (X := X) (k := k + 2) (is := is) (t := t) (x := x) (fx := fx) (o := .list (dL L)) I hL hw
  obtain ⟨c', hc', ec⟩ := turn_c (X := X) (k := k + 2) (is := is) (t := t) (x := x) (fx := fx) (L := L) (o := .list (dL L)) (w := w) hc
  exact ⟨put2 L (tS (upL w)) (S1 c'), w, c', I.put hw hc', put2_len _ _ _, (seq1 ea).trans ((seq1 eb).trans ((seq1 ec).trans ((seq1 (turn_d I hL hw)).trans (seq1 (turn_e K C I hL hw hc')))))⟩
theorem rule_loop2 (K : Kn X) (C : Cv X) : ∀ (xs : List Int) (L : List (Str × Str)) (N : Nat), Inv L → L.length + xs.length ≤ 50 → xs.length < N →
    ∃ L', Inv L' ∧ L'.length ≤ 50 ∧ forLoop (.name 17) (fun loc led' => evSs (cxK X (k + 2)) [34] 1 rBody2 loc led') N (.fz (xs.map .int)) (locR is t fx L) [.list (dL L)] = some (.nx, locR is t fx L', [.list (dL L')])
  | xs, L, 0, _, _, hN => absurd hN (Nat.not_lt_zero _)
  | [], L, N + 1, I, h, _ => ⟨L, I, h, rfl⟩
  | x :: xs, L, N + 1, I, h, hN => by
    have h : L.length + (xs.length + 1) ≤ 50 := h
    obtain ⟨L1, w, c, I1, l1, e1⟩ := rule_turn (k := k) K C (is := is) (t := t) (x := x) (fx := fx) I (by omega)
    obtain ⟨L', I', l', e'⟩ := rule_loop2 K C xs L1 N I1 (by omega) (Nat.lt_of_succ_lt_succ hN)
    exact ⟨L', I', l', (for_step (loc3 := locR is t fx L1) (l3 := [.list (dL L1)]) rfl e1 rfl).trans e'⟩
end
theorem intsOf_map : ∀ is : List Int, intsOf (is.map .int) = some is
  | [] => rfl
  | x :: l => (bindF (a := x) rfl).trans (mapF (intsOf_map l))
theorem sum_e (is : List Int) {loc : UK.Loc} {led : Led} (h : UK.get loc 31 = some (.lst (is.map .int))) : evE (cxK X k) (.bi .sum [(.name 31)]) loc led = some (dI is.sum, led) := (bi_e (es0 (name_e h))).trans (mapF (intsOf_map is))
theorem pick10 (is : List Int) : ∃ xs : List Int, xs.length ≤ 10 ∧ pickD (is.map .int) none (some 10) none = xs.map .int := by
  refine ⟨(sliceRange (sliceBounds none (some 10) none is.length).1 (sliceBounds none (some 10) none is.length).2.1 (sliceBounds none (some 10) none is.length).2.2).filterMap (is[·]?), ?_, ?_⟩
  · refine Nat.le_trans (List.length_filterMap_le _ _) ?_
    unfold sliceRange sliceBounds
    simp
    split <;> omega
  · unfold pickD
    rw [List.length_map, List.map_filterMap]
    congr 1
    funext i
    rw [List.getElem?_map]
theorem rule_ok (K : Kn X) (C : Cv X) (is : List Int) (his : is.length ≤ 63) : ∃ L, Inv L ∧ L.length ≤ 50 ∧ R X (k + 3) 19 [.lst (is.map .int)] [] = some (.tup [.hdr (dL L), .lst (dL L)], []) := by
  have hfx : (fixL (is.sum + 48)).length = 4 := rfl
  have I0 := inv_due (f := dueF (fixL (is.sum + 48))) (fun _ => rfl) fun w hw => ⟨_, due_mem hfx (fixL_mem _) hw, rfl⟩
  have e5 := rule_loop1 (k := k) K C (is := is) (t := is.sum + 48) (fx := tS (fixL (is.sum + 48))) (L0 := trip.map (dueF (fixL (is.sum + 48)))) (trip.map (dueF (fixL (is.sum + 48)))) [] 0 4096 (by rw [List.length_map]; decide) (by rw [List.length_map]; decide)
    (fun p hp => by obtain ⟨w, hw, rfl⟩ := List.mem_map.mp hp; exact ⟨w, hw, rfl⟩) I0.vl (by rw [List.nil_append, List.map_map]; exact trip_nodup)
  obtain ⟨xs, hxs, hpick⟩ := pick10 is
  obtain ⟨L, I, hL, e6⟩ := rule_loop2 (k := k) K C (is := is) (t := is.sum + 48) (fx := tS (fixL (is.sum + 48))) xs (trip.map (dueF (fixL (is.sum + 48)))) 4096 I0 (by rw [List.length_map]; show 10 + _ ≤ _; omega) (by omega)
  refine ⟨L, I, hL, R_step (fn := m1f19) (loc := [(31, .lst (is.map .int))]) (fl := .ret (.tup [.hd 0, .lst (dL L)])) (loc' := locR is (is.sum + 48) (tS (fixL (is.sum + 48))) L) (led' := [.list (dL L)]) rfl rfl ?_ rfl⟩
  have h1 : evS (cxK X (k + 2)) [34] 0 (.assign (.name 30) (.bin .add (.bi .sum [(.name 31)]) (.lit (.int 48)))) [(31, .lst (is.map .int))] [] = some (.nx, [(31, .lst (is.map .int)), (30, dI (is.sum + 48))], []) := assignD (led := []) ((bin_e (l1 := []) (l2 := []) (y := dI 48) (sum_e is rfl) rfl).trans rfl) rfl
  have h2 := assign1 (cx := cxK X (k + 2)) (mu := [34]) (n₀ := 0) (t := .name 32) (b := ⟨0, [(31, .lst (is.map .int)), (30, dI (is.sum + 48)), (32, dS (tS (fixL (is.sum + 48))))], []⟩) (fixed_ok (.lst (is.map .int)) (is.sum + 48)) rfl
  have h3 := assign1 (mu := [34]) (n₀ := 0) (t := .name 33) (b := ⟨2, [(31, .lst (is.map .int)), (30, dI (is.sum + 48)), (32, dS (tS (fixL (is.sum + 48)))), (33, .lst (dL (trip.map (dueF (fixL (is.sum + 48))))))], []⟩) (due_ok (X := X) (k := k + 1) (.lst (is.map .int)) (is.sum + 48) hfx) rfl
  have h4 : evS (cxK X (k + 2)) [34] 0 (.assign (.name 34) .newH) [(31, .lst (is.map .int)), (30, dI (is.sum + 48)), (32, dS (tS (fixL (is.sum + 48)))), (33, .lst (dL (trip.map (dueF (fixL (is.sum + 48))))))] [] = some (.nx, locR is (is.sum + 48) (tS (fixL (is.sum + 48))) (trip.map (dueF (fixL (is.sum + 48)))), [.list (dL [])]) := rfl
  have h5 : evS (cxK X (k + 2)) [34] 0 (.for (.tup [(.name 35), (.tup [(.name 1), (.name 36)])]) .enum [(.name 33)] rBody1) (locR is (is.sum + 48) (tS (fixL (is.sum + 48))) (trip.map (dueF (fixL (is.sum + 48))))) [.list (dL [])] = some (.nx, locR is (is.sum + 48) (tS (fixL (is.sum + 48))) (trip.map (dueF (fixL (is.sum + 48)))), [.list (dL (trip.map (dueF (fixL (is.sum + 48)))))]) := e5
  have hsl : evE (cxK X (k + 2)) (.slice (.name 31) (.lit .none) (.lit (.int 10)) (.lit .none)) (locR is (is.sum + 48) (tS (fixL (is.sum + 48))) (trip.map (dueF (fixL (is.sum + 48))))) [.list (dL (trip.map (dueF (fixL (is.sum + 48)))))] = some (.ref 1, [.list (dL (trip.map (dueF (fixL (is.sum + 48))))), .list (xs.map .int)]) := by
    show gd ((is.map D.int).length ≤ cap) (some (V.ref 1, [O.list (dL (trip.map (dueF (fixL (is.sum + 48))))), .list (pickD (is.map .int) none (some 10) none)])) = _
    rw [gdF (by rw [List.length_map]; exact Nat.le_trans his (by decide)), hpick]
  have h6 := (for_eq (mu := [34]) (n₀ := 0) (t := .name 17) (k := .e) (b := rBody2) (es0 hsl) rfl).trans e6
  exact (seq1 h1).trans ((seq1 h2).trans ((seq1 h3).trans ((seq1 h4).trans ((seq1 h5).trans ((seq1 h6).trans rfl)))))
end
end uk0030_01
end
section
set_option maxHeartbeats 0
namespace uk0030_01
open PySem PySem.W UK
section
variable {X : Tab} {k : Nat} {led : Led} {a : V} {x : Str} {ys : List Str}
noncomputable def strD (ys : List Str) : List D := ys.map .str
theorem strD_at {m : Nat} {y : Str} (h : ys[m]? = some y) : (strD ys)[m]? = some (.str y) := by unfold strD; rw [List.getElem?_map, h]; rfl
noncomputable def locB (a : V) (x : Str) (lo hi : Nat) : UK.Loc := [(16, a), (17, dS x), (15, dI lo), (18, dI hi), (14, .d .none)]
noncomputable def locC (a : V) (x : Str) (lo hi m : Nat) : UK.Loc := locB a x lo hi ++ [(19, dI m)]
noncomputable def bCond : E := .cmp (.name 15) .lt (.name 18)
noncomputable def bM : UK.S := .assign (.name 19) (.bin .fdiv (.bin .add (.name 15) (.name 18)) (.lit (.int 2)))
noncomputable def bRc : E := .cmp (.name 17) .lt (.index (.name 16) (.name 19))
noncomputable def bLc : E := .cmp (.index (.name 16) (.name 19)) .lt (.name 17)
noncomputable def bHi : UK.S := .assign (.name 18) (.name 19)
noncomputable def bLo : UK.S := .assign (.name 15) (.bin .add (.name 19) (.lit (.int 1)))
theorem b_cond (lo hi : Nat) : cF (cxK X k) bCond (locB a x lo hi) led = some (decide (lo < hi), led) := by
  show some (decide ((lo : Int) < hi), led) = _
  rw [decide_eq_decide.mpr (Int.ofNat_lt)]
theorem b_m (lo hi : Nat) : evS (cxK X k) [] led.length bM (locB a x lo hi) led = some (.nx, locC a x lo hi ((lo + hi) / 2), led) := by
  have e : ((lo : Int) + hi).fdiv 2 = (((lo + hi) / 2 : Nat) : Int) := by rw [Int.fdiv_eq_ediv_of_nonneg _ (by decide)]; omega
  refine assignD (y := .int (((lo + hi) / 2 : Nat) : Int)) ((bin_e (l2 := led) (x := dI ((lo : Int) + hi)) (y := dI 2) ((bin_e (l1 := led) (l2 := led) (x := dI lo) (y := dI hi) rfl rfl).trans rfl) rfl).trans ?_) rfl
  rw [← e]; rfl
theorem b_hi (lo hi m : Nat) : evSs (cxK X k) [] led.length [bHi] (locC a x lo hi m) led = some (.nx, locC a x lo m m, led) := seq1 (assignD (y := .int m) (name_e rfl) rfl)
theorem b_lo (lo hi m : Nat) : evSs (cxK X k) [] led.length [bLo] (locC a x lo hi m) led = some (.nx, locC a x (m + 1) hi m, led) := seq1 (assignD (y := .int ((m : Int) + 1)) ((bin_e (x := dI m) (y := dI 1) (l1 := led) (l2 := led) rfl rfl).trans rfl) rfl)
theorem b_idx (ha : ofV a = none ∧ led.list a = some (strD ys)) {lo hi m : Nat} {y : Str} (hy : ys[m]? = some y) (hl : ys.length ≤ 4000) : evE (cxK X k) (.index (.name 16) (.name 19)) (locC a x lo hi m) led = some (dS y, led) :=
  index_e (y := dI m) (name_e rfl) rfl (evIndex_list ha.1 ha.2 (strD_at hy) (by have := (List.getElem?_eq_some_iff.mp hy).1; omega))
noncomputable def BisOk (X : Tab) (k : Nat) (led : Led) (a : V) (x : Str) (ys : List Str) (bs : UK.S) (t : Str → Bool) : Prop := ∀ (lo hi m : Nat) (y : Str), ys[m]? = some y → evS (cxK X k) [] led.length bs (locC a x lo hi m) led = some (.nx, cond (t y) (locC a x (m + 1) hi m) (locC a x lo m m), led)
theorem bisR (ha : ofV a = none ∧ led.list a = some (strD ys)) (hl : ys.length ≤ 4000) : BisOk X k led a x ys (.ite bRc [bHi] [bLo]) fun y => !decide (ltS x y) := fun lo hi m y hy => by
  have hc : evE (cxK X k) bRc (locC a x lo hi m) led = some (.d (.bool (decide (ltS x y))), led) := cmp_e (name_e rfl) (b_idx ha hy hl) rfl
  show _ = some (Fl.nx, cond (!decide (ltS x y)) _ _, led)
  cases h : decide (ltS x y) with
  | true => rw [h] at hc; exact (ite_t' hc rfl).trans (b_hi lo hi m)
  | false => rw [h] at hc; exact (ite_f' hc rfl).trans (b_lo lo hi m)
theorem bisL (ha : ofV a = none ∧ led.list a = some (strD ys)) (hl : ys.length ≤ 4000) : BisOk X k led a x ys (.ite bLc [bLo] [bHi]) fun y => decide (ltS y x) := fun lo hi m y hy => by
  have hc : evE (cxK X k) bLc (locC a x lo hi m) led = some (.d (.bool (decide (ltS y x))), led) := cmp_e (b_idx ha hy hl) (name_e rfl) rfl
  show _ = some (Fl.nx, cond (decide (ltS y x)) _ _, led)
  cases h : decide (ltS y x) with
  | true => rw [h] at hc; exact (ite_t' hc rfl).trans (b_lo lo hi m)
  | false => rw [h] at hc; exact (ite_f' hc rfl).trans (b_hi lo hi m)
theorem bis_loop {bs : UK.S} {t : Str → Bool} (hb : below led.length a = true) (hs : BisOk X k led a x ys bs t) {p : Nat} (hp : Parts (fun y => t y = true) ys p) : ∀ (N lo hi : Nat), hi - lo < N → lo ≤ p → p ≤ hi → hi ≤ ys.length →
    whileLoop (cF (cxK X k) bCond) (fun loc led' => evSs (cxK X k) [] led.length [bM, bs] loc led') N (locB a x lo hi) led = some (.nx, locB a x p p, led)
  | 0, lo, hi, h, _, _, _ => absurd h (Nat.not_lt_zero _)
  | N + 1, lo, hi, hN, h1, h2, h3 => by
    by_cases hlt : lo < hi
    · have hm : (lo + hi) / 2 < ys.length := by omega
      have e := hs lo hi _ _ (List.getElem?_eq_getElem hm)
      have tr : ∀ l h, trunc (locB a x lo hi).length led.length (locC a x l h ((lo + hi) / 2)) led = some (locB a x l h, led) := fun l h => by
        refine (gdF ?_).trans (by rw [List.take_length]; rfl)
        show (below led.length a && true) = true
        rw [hb]; rfl
      have go := fun {l h : Nat} (he : evS (cxK X k) [] led.length bs (locC a x lo hi ((lo + hi) / 2)) led = some (.nx, locC a x l h ((lo + hi) / 2), led)) => while_t (N := N) (cond := cF (cxK X k) bCond) (body := fun loc led' => evSs (cxK X k) [] led.length [bM, bs] loc led') ((b_cond (X := X) (k := k) (a := a) (x := x) (led := led) lo hi).trans (by rw [decide_eq_true hlt])) List.take_length ((seq1 (b_m lo hi)).trans (seq1 he)) (tr l h)
      cases ht : t ys[(lo + hi) / 2] with
      | true =>
        have hpm : (lo + hi) / 2 < p := Nat.lt_of_not_le fun q => hp.2.2 _ hm q ht
        rw [ht] at e
        exact (go e).trans (bis_loop hb hs hp N _ _ (by omega) hpm h2 h3)
      | false =>
        have hpm : p ≤ (lo + hi) / 2 := Nat.le_of_not_lt fun q => Bool.noConfusion (ht.symm.trans (hp.2.1 _ hm q))
        rw [ht] at e
        exact (go e).trans (bis_loop hb hs hp N _ _ (by omega) h1 hpm (by omega))
    · obtain rfl : lo = p := by omega
      obtain rfl : hi = lo := by omega
      exact while_f ((b_cond _ _).trans (by rw [decide_eq_false hlt])) List.take_length
noncomputable def locB0 (a : V) (x : Str) : UK.Loc := [(16, a), (17, dS x), (15, dI 0), (18, .d .none), (14, .d .none)]
theorem len_list {led : Led} {a : V} {xs : List D} (ha : ofV a = none ∧ led.list a = some xs) (hl : xs.length ≤ cap) : evBi led .len [a] = some (dI xs.length, led) := by
  have e : lenOf led a = some xs.length := by
    cases a with
    | d x => exact nomatch ha.1
    | _ => exact mapF ha.2
  show (lenOf led a).bind _ = _
  rw [bindF e]; exact gdF hl
noncomputable def bBody (bs e : UK.S) : List UK.S := [.ite (.cmp (.name 15) .lt (.lit (.int 0))) [.stuck] [], .ite (.cmp (.name 18) .is (.lit .none)) [.assign (.name 18) (.bi .len [(.name 16)])] [], .ite (.cmp (.name 14) .is (.lit .none)) [.while bCond [bM, bs]] [e], .ret (.name 15)]
theorem bis_run {bs e : UK.S} {t : Str → Bool} (ha : ofV a = none ∧ led.list a = some (strD ys)) (hb : below led.length a = true) (hl : ys.length ≤ 4000) (hs : BisOk X k led a x ys bs t) {p : Nat} (hp : Parts (fun y => t y = true) ys p) :
    evSs (cxK X k) [] led.length (bBody bs e) (locB0 a x) led = some (.ret (dI p), locB a x p p, led) := by
  have hsl : (strD ys).length = ys.length := List.length_map _
  have h2 : evS (cxK X k) [] led.length (.ite (.cmp (.name 18) .is (.lit .none)) [.assign (.name 18) (.bi .len [(.name 16)])] []) (locB0 a x) led = some (.nx, locB a x 0 ys.length, led) :=
    (ite_t' (v := .d (.bool true)) rfl rfl).trans (seq1 (assignD (y := .int ys.length) ((bi_e (es0 (name_e rfl))).trans ((len_list ha (by rw [hsl]; exact Nat.le_trans hl (by decide))).trans (by rw [hsl]))) rfl))
  have hw := bis_loop hb hs hp 4096 0 ys.length (by omega) (Nat.zero_le _) hp.1 (Nat.le_refl _)
  exact (seq1 ((ite_f' (v := .d (.bool false)) rfl rfl).trans rfl)).trans ((seq1 h2).trans ((seq1 ((ite_t' (v := .d (.bool true)) rfl rfl).trans (seq1 (while_eq.trans hw)))).trans (seqR (ret1 (name_e rfl)))))
theorem bisR_ok (ha : ofV a = none ∧ led.list a = some (strD ys)) (hb : below led.length a = true) (hl : ys.length ≤ 4000) (hs : SortedS ys) {as : List V} (has : argsV m1f9 as = some (locB0 a x)) : R X (k + 1) 9 as led = some (dI (cntR x ys), led) :=
  R_d (fn := m1f9) (fl := .ret (dI (cntR x ys))) rfl has (bis_run ha hb hl (bisR ha hl) (parts_B (parts_R hs))) rfl
theorem bisL_ok (ha : ofV a = none ∧ led.list a = some (strD ys)) (hb : below led.length a = true) (hl : ys.length ≤ 4000) (hs : SortedS ys) {as : List V} (has : argsV m1f10 as = some (locB0 a x)) : R X (k + 1) 10 as led = some (dI (cntL x ys), led) :=
  R_d (fn := m1f10) (fl := .ret (dI (cntL x ys))) rfl has (bis_run ha hb hl (bisL ha hl) (parts_BL (parts_L hs))) rfl
theorem insort_ok {j : Nat} (hj : led[j]? = some (.list (strD ys))) (hl : ys.length ≤ 4000) (hs : SortedS ys) : R X (k + 2) 8 [.ref j, dS x] led = some (.d .none, led.set j (.list (strD (insR x ys)))) := by
  have hjl : j < led.length := (List.getElem?_eq_some_iff.mp hj).1
  have ha : ofV (.ref j) = none ∧ led.list (.ref j) = some (strD ys) := ⟨rfl, bindF (f := O.list?) hj⟩
  have hc : cntR x ys ≤ ys.length := List.length_filter_le _ _
  have hsl : (strD ys).length = ys.length := List.length_map _
  have e1 : evS (cxK X (k + 1)) [] led.length (.ite (.cmp (.name 14) .is (.lit .none)) [.assign (.name 15) (.call 9 [(.name 16), (.name 17), (.name 15), (.name 18)])] [.stuck]) (locB0 (.ref j) x) led = some (.nx, put (locB0 (.ref j) x) 15 (dI (cntR x ys)), led) :=
    (ite_t' (v := .d (.bool true)) rfl rfl).trans (seq1 (assignD (y := .int (cntR x ys)) ((call_R (vs := [.ref j, dS x, dI 0, .d .none]) (led' := led) rfl).trans (bisR_ok (k := k) ha (decide_eq_true hjl) hl hs rfl)) rfl))
  have hins : evMeth led .insert (.ref j) [dI (cntR x ys), dS x] = some (.d .none, led.set j (.list (strD (insR x ys)))) := by
    refine (bindF (ledL_is hj)).trans ?_
    refine (gdF (p := (strD ys).length < cap ∧ (0 : Int) ≤ (cntR x ys : Nat) ∧ ((cntR x ys : Nat) : Int) ≤ (strD ys).length) ⟨?_, ?_, ?_⟩).trans ?_
    · rw [hsl]; exact Nat.lt_of_le_of_lt hl (by decide)
    · exact Int.natCast_nonneg _
    · rw [hsl]; exact Int.ofNat_le.mpr hc
    · unfold insR strD
      rw [List.map_append, List.map_cons, List.map_take, List.map_drop]; rfl
  have e2 := expr1 (mu := []) (n₀ := led.length) (cx := cxK X (k + 1)) ((meth_e (m := .insert) (o := .name 16) (as := [(.name 15), (.name 17)]) (loc := put (locB0 (.ref j) x) 15 (dI (cntR x ys))) (led := led) (v := .ref j) (vs := [dI (cntR x ys), dS x]) (l2 := led) rfl (by show (ledL led (.ref j)).isSome = true; rw [ledL_is hj]; rfl) rfl).trans hins)
  have ht : (led.set j (.list (strD (insR x ys)))).take led.length = led.set j (.list (strD (insR x ys))) := by rw [List.take_of_length_le]; rw [List.length_set]; exact Nat.le_refl _
  rw [ht] at e2
  refine R_step (fn := m1f8) (loc := locB0 (.ref j) x) (fl := .nx) rfl rfl ((seq1 e1).trans (seq1 e2)) ?_
  show some (V.d .none, List.take led.length (led.set j (.list (strD (insR x ys))))) = _
  rw [ht]
end
end uk0030_01
end
section
set_option maxHeartbeats 0
namespace uk0030_01
open PySem PySem.W UK
theorem dMem_dL {p : Str × Str} : ∀ {l : List (Str × Str)}, ∃ b, dMem (pr p) (dL l) = some b ∧ (p ∈ l → b = true)
  | [] => ⟨false, rfl, fun h => nomatch h⟩
  | q :: l => by
    obtain ⟨b, hb, hm⟩ := dMem_dL (p := p) (l := l)
    refine ⟨(q.1 == p.1 && (q.2 == p.2 && true)) || b, (bindF (a := (q.1 == p.1 && (q.2 == p.2 && true))) rfl).trans (mapF hb), fun h => ?_⟩
    rcases List.mem_cons.mp h with rfl | h
    · rw [beq_self_eq_true, beq_self_eq_true]; rfl
    · rw [hm h, Bool.or_true]
theorem dEqs_dL : ∀ l : List (Str × Str), dEqs (dL l) (dL l) = some true
  | [] => rfl
  | q :: l => by
    show Option.bind (some (q.1 == q.1 && (q.2 == q.2 && true))) (fun a => Option.map (a && ·) (dEqs (dL l) (dL l))) = _
    rw [dEqs_dL l, beq_self_eq_true, beq_self_eq_true]; rfl
theorem lookup_laid {key : Str} {x : D} : ∀ {kvs : List (Str × D)}, (laidK kvs key x).lookup key = some x := by
  have h1 : ∀ kvs : List (Str × D), kvs.any (fun p => p.1 = key) = true → (kvs.map fun p => if p.1 = key then (p.1, x) else p).lookup key = some x := fun kvs => by
    induction kvs with
    | nil => exact nofun
    | cons q kvs ih =>
      intro h
      rw [List.map_cons]
      by_cases hq : q.1 = key
      · rw [if_pos hq, List.lookup_cons, hq, beq_self_eq_true]
      · rw [if_neg hq, List.lookup_cons, beq_eq_false_iff_ne.mpr fun e => hq e.symm]
        rw [List.any_cons, decide_eq_false hq] at h
        exact ih h
  have h2 : ∀ kvs : List (Str × D), kvs.any (fun p => p.1 = key) = false → (kvs ++ [(key, x)]).lookup key = some x := fun kvs => by
    induction kvs with
    | nil => intro _; rw [List.nil_append, List.lookup_cons, beq_self_eq_true]
    | cons q kvs ih =>
      intro h
      rw [List.any_cons, Bool.or_eq_false_iff] at h
      rw [List.cons_append, List.lookup_cons, beq_eq_false_iff_ne.mpr fun e => of_decide_eq_false h.1 e.symm]
      exact ih h.2
  intro kvs
  unfold laidK
  cases h : kvs.any (fun p => p.1 = key) with
  | true => rw [if_pos rfl]; exact h1 kvs h
  | false => rw [if_neg Bool.false_ne_true]; exact h2 kvs h
theorem laid_len {key : Str} {x : D} {kvs : List (Str × D)} : (laidK kvs key x).length ≤ kvs.length + 1 := by
  unfold laidK
  split
  · rw [List.length_map]; exact Nat.le_succ _
  · rw [List.length_append]; exact Nat.le_refl _
section
variable {X : Tab} {k : Nat}
noncomputable def KN (L : List (Str × Str)) : List (Str × Str) := L.map fun p => (low p.1, p.2)
noncomputable def locU (L : List (Str × Str)) : UK.Loc := [(34, .hdr (dL L)), (33, .lst (dL L))]
theorem known_ok {L : List (Str × Str)} (I : Inv L) (hL : L.length ≤ 50) (b : O) :
    evE (cxK X k) (.comp (.tuple [(.meth .lower (.name 1) []), (.name 36)]) (.tup [(.name 1), (.name 36)]) .e [(.name 33)] [] []) (locU L) [b, .dict []] = some (.ref 2, [b, .dict [], .list (dL (KN L))]) := by
  have hc := comp_fz (n := 2) (led0 := [b, .dict []]) (turn := turnP (cxK X k) (.tuple [(.meth .lower (.name 1) []), (.name 36)]) (.tup [(.name 1), (.name 36)]) [] (capt [] (locU L))) rfl
    (fun d => d.tup?.bind fun xs => (two? xs).bind fun p => p.1.str?.map fun n => .tup [.str (low n), p.2]) (dL L) [] 4096 (dL_lt hL) (by rw [List.length_nil, Nat.zero_add]; exact dL_lt hL) (fun d hd ys' => by
      obtain ⟨p, hp, rfl⟩ := List.mem_map.mp hd
      exact turn_pl rfl (turn_no rfl (tuple_e (es1 (low_e (name_e rfl) (I.low p hp)) (es0 (name_e rfl))) rfl)))
  have hm : (dL L).filterMap (fun d => d.tup?.bind fun xs => (two? xs).bind fun p => p.1.str?.map fun n => .tup [.str (low n), p.2]) = dL (KN L) := by
    unfold dL KN
    rw [List.filterMap_map, List.map_map, ← List.filterMap_eq_map]; rfl
  rw [List.nil_append, hm] at hc
  exact comp_eq (cx := cxK X k) (loc := locU L) (led := [b, .dict []]) (l1 := [b, .dict []]) (its := [(.name 33)]) (caps := []) (k := .e) (vs := [.lst (dL L)]) (src := .fz (dL L)) rfl rfl hc
noncomputable def tA2 : UK.S := .for (.name 36) .e [(.bin .add (.name 41) (.name 37))] [.ite (.cmp (.call 8 [(.name 42), (.name 36)]) .isnot (.lit .none)) [.ret (.lit .none)] []]
noncomputable def tKey : E := .bin .add (.name 41) (.name 37)
noncomputable def tJ : E := .meth .join (.lit (.str ⟨#[]⟩)) [(.name 42)]
noncomputable def tA4 : UK.S := .ite (.cmp (.tuple [tJ, (.index (.name 38) tKey)]) .notin (.name 39)) [.ret (.lit .none)] []
noncomputable def tBody3 : List UK.S := [.assign (.name 42) (.list []), tA2, .dset 38 tKey (.hm 2 (.name 34) [(.meth .upper tJ [])]), tA4]
noncomputable def locQ (L : List (Str × Str)) : UK.Loc := [(34, .hdr (dL L)), (33, .lst (dL L)), (38, .ref 1), (39, .lst (dL (KN L))), (40, .ref 2)]
noncomputable def LP (p : List Nat) (L : List (Str × Str)) : UK.Loc := locQ L ++ [(37, dS (tS p))]
noncomputable def locP (L : List (Str × Str)) (p : List Nat) (c : Nat) : UK.Loc := locQ L ++ [(37, dS (tS p)), (41, ch c), (42, .ref 3)]
noncomputable def rowD (s : List Nat) : List D := s.map fun c => .str ⟨#[c]⟩
noncomputable def pairsL : List (List Nat) := [[102, 102], [102, 105], [102, 108], [105, 105], [105, 108], [108, 108]]
noncomputable def LIF : List Nat := [108, 105, 102]
noncomputable def PC : List (List Nat × Nat) := pairsL.flatMap fun p => LIF.map fun c => (p, c)
noncomputable def srt3 (w : List Nat) : List Nat := isort leN w
noncomputable def sq (q : List Nat × Nat) : List Nat := srt3 (q.2 :: q.1)
theorem row_all {L : List (Str × Str)} {b h : O} {kvs : List (Str × D)} : (PC.map fun q => evS (cxK X (k + 4)) [40, 42, 38] 3 tA2 (locP L q.1 q.2) [b, .dict kvs, h, .list []]) = mapR (fun q => some (.nx, locP L q.1 q.2, [b, .dict kvs, h, .list (rowD (sq q))])) PC := by kernel_rfl
theorem key_all {L : List (Str × Str)} {led : Led} : (PC.map fun q => evE (cxK X (k + 4)) tKey (locP L q.1 q.2) led) = mapR (fun q => some (dS (tS (q.2 :: q.1)), led)) PC := by kernel_rfl
theorem join_all {L : List (Str × Str)} {b h : O} {kvs : List (Str × D)} : (PC.map fun q => evE (cxK X (k + 4)) tJ (locP L q.1 q.2) [b, .dict kvs, h, .list (rowD (sq q))]) = mapR (fun q => some (dS (tS (sq q)), [b, .dict kvs, h, .list (rowD (sq q))])) PC := by kernel_rfl
theorem sq_trip : ∀ q ∈ PC, sq q ∈ trip := by decide +kernel
theorem mem_KN {L : List (Str × Str)} {s v : Str} (h : getV L s = some v) : (s, v) ∈ KN L := by
  unfold getV at h
  obtain ⟨p, hp, rfl⟩ := Option.map_eq_some_iff.mp h
  exact List.mem_map.mpr ⟨p, List.mem_of_find?_eq_some hp, by rw [eq_of_beq (List.find?_some (p := fun p : Str × Str => low p.1 == s) hp)]⟩
noncomputable def laid1 (ρ : List Nat → Nat) (p : List Nat) (kvs : List (Str × D)) (c : Nat) : List (Str × D) := laidK kvs (tS (c :: p)) (.str (S1 (ρ (sq (p, c)))))
section
variable {L : List (Str × Str)} {ρ : List Nat → Nat}
theorem told_turn (C : Cv X) (I : Inv L) (hL : L.length ≤ 50) (hr : ∀ w ∈ trip, getV L (tS w) = some (S1 (ρ w))) {b h : O} {kvs : List (Str × D)} {p : List Nat} {c : Nat} (hq : (p, c) ∈ PC) (hlen : kvs.length < 100) :
    evSs (cxK X (k + 4)) [40, 42, 38] 3 tBody3 (locQ L ++ [(37, dS (tS p)), (41, ch c)]) [b, .dict kvs, h] = some (.nx, locP L p c, [b, .dict (laid1 ρ p kvs c), h, .list (rowD (sq (p, c)))]) := by
  have hs := sq_trip _ hq
  have hj : ∀ d, evE (cxK X (k + 4)) tJ (locP L p c) [b, .dict d, h, .list (rowD (sq (p, c)))] = some (dS (tS (sq (p, c))), [b, .dict d, h, .list (rowD (sq (p, c)))]) := fun d => mapAt join_all _ hq
  have hkey : ∀ led, evE (cxK X (k + 4)) tKey (locP L p c) led = some (dS (tS (c :: p)), led) := fun led => mapAt key_all _ hq
  have hu := (meth_e (m := .upper) (as := []) (hj kvs) rfl rfl).trans (up_m (by rw [up1 hs, (trip_len _ hs).2]; decide))
  rw [up1 hs] at hu
  have hget := get_ok (X := X) (k := k + 3) (led := [b, .dict kvs, h, .list (rowD (sq (p, c)))]) (L := L) (self := .hdr (dL L)) (name := tS (upL (sq (p, c)))) rfl rfl rfl rfl (feeds_fz _) (okN_trip C hs).2 hL I.low .none [.hdr (dL L), dS (tS (upL (sq (p, c))))] rfl
  rw [low2 hs, hr _ hs] at hget
  have hv := (hm_R (f := 2) (o := .name 34) (v := .hdr (dL L)) rfl (es0 hu) rfl).trans hget
  have h3 := dset_e (mu := [40, 42, 38]) (n₀ := 3) (x := 38) (j := 1) (kvs := kvs) hv rfl (hkey _) rfl (Nat.lt_trans hlen (by decide))
  have hx : evIndex [b, .dict (laid1 ρ p kvs c), h, .list (rowD (sq (p, c)))] (.ref 1) (dS (tS (c :: p))) = some (.d (.str (S1 (ρ (sq (p, c)))))) := by
    show Option.map V.d (List.lookup (tS (c :: p)) (laid1 ρ p kvs c)) = _
    exact mapF lookup_laid
  have hi := index_e (a := .name 38) (x := .ref 1) (r := .d (.str (S1 (ρ (sq (p, c)))))) (led := [b, .dict (laid1 ρ p kvs c), h, .list (rowD (sq (p, c)))]) rfl (hkey _) hx
  have hc := cmp_e (op := .notin) (r := false) (tuple_e (es1 (hj (laid1 ρ p kvs c)) (es0 hi)) rfl) (b := .name 39) (y := .lst (dL (KN L))) (l2 := [b, .dict (laid1 ρ p kvs c), h, .list (rowD (sq (p, c)))]) rfl (by
    obtain ⟨bb, hb, hm⟩ := dMem_dL (p := (tS (sq (p, c)), S1 (ρ (sq (p, c))))) (l := KN L)
    obtain rfl := hm (mem_KN (hr _ hs))
    exact mapF (f := (!·)) hb)
  exact (seq1 (l := locP L p c) (d := [b, .dict kvs, h, .list []]) rfl).trans ((seq1 (mapAt row_all _ hq)).trans ((seq1 h3).trans (seq1 ((ite_f hc rfl).trans rfl))))
theorem told_in (C : Cv X) (I : Inv L) (hL : L.length ≤ 50) (hr : ∀ w ∈ trip, getV L (tS w) = some (S1 (ρ w))) {b h : O} {p : List Nat} : ∀ (cs : List Nat) (N : Nat) (kvs : List (Str × D)), (∀ c ∈ cs, (p, c) ∈ PC) → cs.length < N → kvs.length + cs.length ≤ 100 →
    forLoop (.name 41) (fun loc led' => evSs (cxK X (k + 4)) [40, 42, 38] 3 tBody3 loc led') N (.fz (cs.map fun c => .str (S1 c))) (LP p L) [b, .dict kvs, h] = some (.nx, LP p L, [b, .dict (cs.foldl (laid1 ρ p) kvs), h])
  | cs, 0, _, _, hN, _ => absurd hN (Nat.not_lt_zero _)
  | [], N + 1, kvs, _, _, _ => for_nil
  | c :: cs, N + 1, kvs, hc, hN, hl => by
    have hl' : kvs.length + (cs.length + 1) ≤ 100 := hl
    refine (for_step (loc3 := LP p L) (l3 := [b, .dict (laid1 ρ p kvs c), h]) rfl (told_turn C I hL hr (hc c (.head _)) (by omega)) rfl).trans ?_
    have := laid_len (key := tS (c :: p)) (x := .str (S1 (ρ (sq (p, c))))) (kvs := kvs)
    exact told_in C I hL hr cs N _ (fun d hd => hc d (.tail _ hd)) (Nat.lt_of_succ_lt_succ hN) (by unfold laid1; omega)
noncomputable def laid3 (ρ : List Nat → Nat) (kvs : List (Str × D)) (p : List Nat) : List (Str × D) := LIF.foldl (laid1 ρ p) kvs
theorem laid3_len (kvs : List (Str × D)) (p : List Nat) : (laid3 ρ kvs p).length ≤ kvs.length + 3 := by
  have h1 := laid_len (key := tS (108 :: p)) (x := .str (S1 (ρ (sq (p, 108))))) (kvs := kvs)
  have h2 := laid_len (key := tS (105 :: p)) (x := .str (S1 (ρ (sq (p, 105))))) (kvs := laid1 ρ p kvs 108)
  have h3 := laid_len (key := tS (102 :: p)) (x := .str (S1 (ρ (sq (p, 102))))) (kvs := laid1 ρ p (laid1 ρ p kvs 108) 105)
  exact Nat.le_trans h3 (Nat.succ_le_succ (Nat.le_trans h2 (Nat.succ_le_succ h1)))
noncomputable def tL3 : UK.S := .for (.name 41) .e [(.lit (.str ⟨#[108, 105, 102]⟩))] tBody3
theorem told_out (C : Cv X) (I : Inv L) (hL : L.length ≤ 50) (hr : ∀ w ∈ trip, getV L (tS w) = some (S1 (ρ w))) {b h : O} : ∀ (ps : List (List Nat)) (N : Nat) (kvs : List (Str × D)), (∀ p ∈ ps, p ∈ pairsL) → ps.length < N → kvs.length + 3 * ps.length ≤ 100 →
    forLoop (.name 37) (fun loc led' => evSs (cxK X (k + 4)) [40, 42, 38] 3 [tL3] loc led') N (.fz (ps.map fun p => .str (tS p))) (locQ L) [b, .dict kvs, h] = some (.nx, locQ L, [b, .dict (ps.foldl (laid3 ρ) kvs), h])
  | ps, 0, _, _, hN, _ => absurd hN (Nat.not_lt_zero _)
  | [], N + 1, kvs, _, _, _ => for_nil
  | p :: ps, N + 1, kvs, hp, hN, hl => by
    have hl' : kvs.length + 3 * (ps.length + 1) ≤ 100 := hl
    have e := told_in (k := k) C I hL hr (b := b) (h := h) (p := p) LIF 4096 kvs (fun c hc => List.mem_flatMap.mpr ⟨p, hp p (.head _), List.mem_map.mpr ⟨c, hc, rfl⟩⟩) (by decide) (by show kvs.length + 3 ≤ 100; omega)
    refine (for_step (loc3 := locQ L) (l3 := [b, .dict (laid3 ρ kvs p), h]) rfl (seq1 ((for_eq (vs := [dS ⟨#[108, 105, 102]⟩]) (src := .fz (LIF.map fun c => .str (S1 c))) (l1 := [b, .dict kvs, h]) rfl rfl).trans e)) rfl).trans ?_
    exact told_out C I hL hr ps N _ (fun q hq => hp q (.tail _ hq)) (Nat.lt_of_succ_lt_succ hN) (by have := laid3_len (ρ := ρ) kvs p; omega)
noncomputable def kvsT (ρ : List Nat → Nat) : List (Str × D) := pairsL.foldl (laid3 ρ) []
theorem told_ok (C : Cv X) (I : Inv L) (hL : L.length ≤ 50) (hr : ∀ w ∈ trip, getV L (tS w) = some (S1 (ρ w))) (b : O) :
    R X (k + 5) 20 [.hdr (dL L), .lst (dL L)] [b] = some (.ref 1, [b, .dict (kvsT ρ)]) := by
  have e1 := assign1 (mu := [40, 42, 38]) (n₀ := 1) (t := .tup [(.name 38), (.name 39)]) (cx := cxK X (k + 4)) (e := .tuple [.dict0, (.comp (.tuple [(.meth .lower (.name 1) []), (.name 36)]) (.tup [(.name 1), (.name 36)]) .e [(.name 33)] [] [])]) (loc := locU L) (led := [b]) (v := .tup [.ref 1, .ref 2]) (l1 := [b, .dict [], .list (dL (KN L))])
    (b := ⟨3, [(34, .hdr (dL L)), (33, .lst (dL L)), (38, .ref 1), (39, .lst (dL (KN L)))], [b, .dict []]⟩) (mapF (es1 (v := .ref 1) rfl (es0 (known_ok I hL b)))) rfl
  have e2 := assign1 (mu := [40, 42, 38]) (n₀ := 1) (t := .name 40) (b := ⟨3, locQ L, [b, .dict [], .list (dL L)]⟩) ((hm_R (X := X) (k := k + 4) (f := 3) (o := .name 34) (as := []) (v := .hdr (dL L)) (loc := [(34, .hdr (dL L)), (33, .lst (dL L)), (38, .ref 1), (39, .lst (dL (KN L)))]) (led := [b, .dict []]) rfl rfl rfl).trans (items_ok hL [b, .dict []])) rfl
  have e3 : evS (cxK X (k + 4)) [40, 42, 38] 1 (.expr (.meth .insert (.name 40) [(.lit (.int 0)), (.tuple [(.lit (.str ⟨#[102, 102, 102]⟩)), (.lit (.str ⟨#[]⟩))])])) (locQ L) [b, .dict [], .list (dL L)] = some (.nx, locQ L, [b, .dict [], .list (pr (⟨#[102, 102, 102]⟩, ⟨#[]⟩) :: dL L)]) := by
    refine (expr1 (v := .d .none) (l1 := [b, .dict [], .list (pr (⟨#[102, 102, 102]⟩, ⟨#[]⟩) :: dL L)]) ?_).trans rfl
    exact gdF (p := (dL L).length < cap ∧ (0 : Int) ≤ 0 ∧ (0 : Int) ≤ (dL L).length) ⟨dL_lt hL, Int.le_refl _, Int.natCast_nonneg _⟩
  have e4 := (for_eq (mu := [40, 42, 38]) (n₀ := 1) (t := .name 37) (k := .e) (cx := cxK X (k + 4)) (b := [tL3]) (loc := locQ L) (led := [b, .dict [], .list (pr (⟨#[102, 102, 102]⟩, ⟨#[]⟩) :: dL L)]) (its := [(.list [(.lit (.str ⟨#[102, 102]⟩)), (.lit (.str ⟨#[102, 105]⟩)), (.lit (.str ⟨#[102, 108]⟩)), (.lit (.str ⟨#[105, 105]⟩)), (.lit (.str ⟨#[105, 108]⟩)), (.lit (.str ⟨#[108, 108]⟩))])])
    (vs := [.ref 3]) (src := .fz (pairsL.map fun p => .str (tS p))) (l1 := [b, .dict [], .list (pr (⟨#[102, 102, 102]⟩, ⟨#[]⟩) :: dL L), .list (pairsL.map fun p => .str (tS p))]) rfl rfl).trans
    (told_out C I hL hr (h := .list (pr (⟨#[102, 102, 102]⟩, ⟨#[]⟩) :: dL L)) pairsL 4096 [] (fun _ h => h) (by decide) (by decide))
  have hno : getV L ⟨#[108, 105, 102]⟩ = none := by
    unfold getV
    rw [Option.map_eq_none_iff, List.find?_eq_none]
    intro p hp
    obtain ⟨w, hw, e⟩ := I.nm p hp
    have : ∀ w ∈ trip, ¬(tS w == { cps := #[108, 105, 102] }) = true := by decide +kernel
    rcases e with e | e <;> rw [e]
    · rw [low1 hw]; exact this w hw
    · rw [low2 hw]; exact this w hw
  have l1 : low ⟨#[108, 105, 102]⟩ = ⟨#[108, 105, 102]⟩ := by kernel_rfl
  have l2 : low ⟨#[76, 73, 70]⟩ = ⟨#[108, 105, 102]⟩ := by kernel_rfl
  have n1 : okN X ⟨#[108, 105, 102]⟩ := ⟨by decide, by rw [l1]; decide, C.lif.1, by rw [l1]; exact C.lif.1⟩
  have n2 : okN X ⟨#[76, 73, 70]⟩ := ⟨by decide, by rw [l2]; decide, C.lif.2, by rw [l2]; exact C.lif.1⟩
  generalize (O.list (pr (⟨#[102, 102, 102]⟩, ⟨#[]⟩) :: dL L)) = h at e3 e4
  have g1 := get_ok (X := X) (k := k + 3) (led := [b, .dict (kvsT ρ), h]) (self := .hdr (dL L)) rfl rfl rfl rfl (feeds_fz _) n1 hL I.low .none [.hdr (dL L), dS ⟨#[108, 105, 102]⟩] rfl
  have g2 := get_ok (X := X) (k := k + 3) (led := [b, .dict (kvsT ρ), h]) (self := .hdr (dL L)) rfl rfl rfl rfl (feeds_fz _) n2 hL I.low (.str ⟨#[105]⟩) [.hdr (dL L), dS ⟨#[76, 73, 70]⟩, dS ⟨#[105]⟩] rfl
  rw [l1, hno] at g1
  rw [l2, hno] at g2
  have q1 := (hm_R (X := X) (k := k + 4) (f := 2) (o := .name 34) (as := [(.lit (.str ⟨#[108, 105, 102]⟩))]) (loc := locQ L) (v := .hdr (dL L)) (led := [b, .dict (kvsT ρ), h]) rfl rfl rfl).trans g1
  have q2 := (hm_R (X := X) (k := k + 4) (f := 2) (o := .name 34) (as := [(.lit (.str ⟨#[76, 73, 70]⟩)), (.lit (.str ⟨#[105]⟩))]) (loc := locQ L) (v := .hdr (dL L)) (led := [b, .dict (kvsT ρ), h]) rfl rfl rfl).trans g2
  have e5 := ife_t (a := .name 38) (b := .lit .none) ((and_e (cmp_e (op := .is) (b := .lit .none) (r := true) q1 rfl rfl) rfl).trans (cmp_e (op := .eq) (b := .lit (.str ⟨#[105]⟩)) (r := true) q2 rfl rfl)) rfl
  exact R_step (fn := m1f20) (loc := locU L) (fl := .ret (.ref 1)) rfl rfl ((seq1 e1).trans ((seq1 e2).trans ((seq1 e3).trans ((seq1 e4).trans (seqR (ret1 e5)))))) rfl
end
end
end uk0030_01
end
section
set_option maxHeartbeats 0
namespace uk0030_01
open PySem PySem.W UK
noncomputable def ballots : List (List Nat) := [[102, 105, 108], [105, 102, 108], [105, 108, 102], [108, 105, 102]]
noncomputable def pos (b : List Nat) (c : Nat) : Nat := b.findIdx (· == c)
noncomputable def Tells (kvs : List (Str × D)) (ρ : List Nat → Nat) : Prop := ∀ q ∈ PC, kvs.lookup (tS (q.2 :: q.1)) = some (.str (S1 (ρ (sq q))))
theorem tells_all (ρ : List Nat → Nat) : (PC.map fun q => (kvsT ρ).lookup (tS (q.2 :: q.1))) = mapR (fun q => some (.str (S1 (ρ (sq q))))) PC := by kernel_rfl
theorem tells_kvsT (ρ : List Nat → Nat) : Tells (kvsT ρ) ρ := fun q hq => mapAt (tells_all ρ) q hq
section
variable {X : Tab} {k : Nat} {kvs : List (Str × D)} {ρ : List Nat → Nat} {p : List Nat} {o : O}
noncomputable def g1e : E := .meth .index (.name 44) [(.index (.name 38) (.bin .add (.name 41) (.name 37)))]
noncomputable def g1 : UK.S := .assign (.tup [(.name 46), (.name 47)]) (.tuple [(.comp g1e (.name 41) .e [(.name 44)] [] [44, 38, 37]), (.lit (.int 0))])
noncomputable def g21 : UK.S := .assign (.name 49) (.bin .add (.bin .add (.index (.name 38) (.bin .add (.name 48) (.name 37))) (.lit (.str ⟨#[46, 46, 46]⟩))) (.index (.name 38) (.bin .add (.index (.name 44) (.lit (.int 0))) (.name 37))))
noncomputable def g22 : UK.S := .assign (.name 50) (.call 7 [(.bin .add (.bin .add (.lit (.str ⟨#[46, 46, 46]⟩)) (.name 49)) (.lit (.str ⟨#[46, 46, 46]⟩))), (.name 44)])
noncomputable def g23 : UK.S := .ite (.cmp (.name 50) .is (.lit (.bool true))) [.aug 47 .add (.lit (.int 1)), .ite (.cmp (.call 7 [(.name 49), (.name 44)]) .isnot (.cmp (.name 49) .eq (.bin .add (.bin .add (.index (.name 44) (.lit (.int 0))) (.lit (.str ⟨#[46, 46, 46]⟩))) (.index (.name 44) (.lit (.int 2)))))) [.ret (.lit .none)] []] [.ite (.cmp (.name 50) .isnot (.lit (.bool false))) [.ret (.lit .none)] []]
noncomputable def g2 : UK.S := .for (.name 48) .e [(.slice (.name 44) (.lit (.int 1)) (.lit .none) (.lit .none))] [g21, g22, g23]
noncomputable def g3 : UK.S := .ite (.cmp (.name 47) .ne (.call 10 [(.bi .sorted [(.name 46)]), (.index (.name 46) (.lit (.int 0)))])) [.ret (.lit .none)] []
noncomputable def gBody4 : List UK.S := [g1, g2, g3, .aug 43 .add (.name 47)]
noncomputable def locG (kvs : List (Str × D)) (h : Int) (p : List Nat) : UK.Loc := [(38, .dct kvs), (45, .ref 0), (43, dI h), (37, dS (tS p))]
noncomputable def locH (kvs : List (Str × D)) (h : Int) (p b : List Nat) (pl : List D) (a : Int) : UK.Loc := locG kvs h p ++ [(44, dS (tS b)), (46, .lst pl), (47, dI a)]
noncomputable abbrev endsS (x y : Nat) : Str := ⟨#[x, 46, 46, 46, y]⟩
theorem endsS_is (x y : Nat) : S1 x ++ ⟨#[46, 46, 46]⟩ ++ S1 y = endsS x y := by kernel_rfl
noncomputable def bxy : List (List Nat × Nat × Nat) := ballots.flatMap fun b => FIL.flatMap fun x => FIL.map fun y => (b, x, y)
theorem mem_bxy {b : List Nat} {x y : Nat} (hb : b ∈ ballots) (hx : x ∈ FIL) (hy : y ∈ FIL) : (b, x, y) ∈ bxy := List.mem_flatMap.mpr ⟨b, hb, List.mem_flatMap.mpr ⟨x, hx, List.mem_map.mpr ⟨y, hy, rfl⟩⟩⟩
noncomputable def up1a (b : List Nat) (x y : Nat) (a : Int) : Int := cond (decide (pos b x < pos b y)) (a + 1) a
theorem tail23 {h a : Int} {pl : List D} {c : Nat} : (bxy.map fun q => evSs (cxK X (k + 1)) [] 1 [g22, g23] (locH kvs h p q.1 pl a ++ [(48, ch c), (49, dS (endsS q.2.1 q.2.2))]) [o]) =
    mapR (fun q => some (.nx, locH kvs h p q.1 pl (up1a q.1 q.2.1 q.2.2 a) ++ [(48, ch c), (49, dS (endsS q.2.1 q.2.2)), (50, .d (.bool (decide (pos q.1 q.2.1 < pos q.1 q.2.2))))], [o])) bxy := by kernel_rfl
noncomputable def q3 : List (Nat × Nat × Nat) := (List.range 3).flatMap fun x => (List.range 3).flatMap fun y => (List.range 3).map fun z => (x, y, z)
theorem mem_q3 {x y z : Nat} (hx : x < 3) (hy : y < 3) (hz : z < 3) : (x, y, z) ∈ q3 := List.mem_flatMap.mpr ⟨x, List.mem_range.mpr hx, List.mem_flatMap.mpr ⟨y, List.mem_range.mpr hy, List.mem_map.mpr ⟨z, List.mem_range.mpr hz, rfl⟩⟩⟩
noncomputable def ah3 (x y z : Nat) : Int := cond (decide (z < x)) (cond (decide (y < x)) (0 + 1) 0 + 1) (cond (decide (y < x)) (0 + 1) 0)
theorem tail34 {h : Int} {b : List Nat} : (q3.map fun q => evSs (cxK X (k + 1)) [] 1 [g3, .aug 43 .add (.name 47)] (locH kvs h p b [.int q.1, .int q.2.1, .int q.2.2] (ah3 q.1 q.2.1 q.2.2)) [o]) =
    mapR (fun q => some (.nx, locH kvs (h + ah3 q.1 q.2.1 q.2.2) p b [.int q.1, .int q.2.1, .int q.2.2] (ah3 q.1 q.2.1 q.2.2), [o])) q3 := by kernel_rfl
theorem look_e (H : Tells kvs ρ) {c : Nat} (hq : (p, c) ∈ PC) (hp : p.length ≤ 10) {loc : UK.Loc} {led : Led} {e : E} (h38 : UK.get loc 38 = some (.dct kvs)) (h37 : UK.get loc 37 = some (dS (tS p))) (he : evE (cxK X k) e loc led = some (ch c, led)) :
    evE (cxK X k) (.index (.name 38) (.bin .add e (.name 37))) loc led = some (ch (ρ (sq (p, c))), led) := by
  have hx : evIndex led (.dct kvs) (dS (tS (c :: p))) = some (ch (ρ (sq (p, c)))) := by
    show Option.map V.d (List.lookup (tS (c :: p)) kvs) = _
    exact mapF (H _ hq)
  have hl : (S1 c).length + (tS p).length ≤ cap := by
    show 1 + p.length ≤ 4096
    omega
  have ha := (bin_e (op := .add) he (name_e h37)).trans (add_str hl)
  rw [show S1 c ++ tS p = tS (c :: p) from tS_app [c] p] at ha
  exact index_e (name_e h38) ha hx
theorem pairs_len : ∀ p ∈ pairsL, p.length ≤ 10 ∧ ∀ c ∈ FIL, (p, c) ∈ PC := by decide
theorem pos_lt : ∀ b ∈ ballots, ∀ x ∈ FIL, pos b x < 3 := by decide
theorem idx_all {led : Led} : (bxy.map fun q => evMeth led .index (dS (tS q.1)) [ch q.2.1]) = mapR (fun q => some (dI (pos q.1 q.2.1), led)) bxy := by kernel_rfl
theorem ballot_is {b : List Nat} (hb : b ∈ ballots) : ∃ b0 b1 b2, b = [b0, b1, b2] ∧ b0 ∈ FIL ∧ b1 ∈ FIL ∧ b2 ∈ FIL := by
  have h : ∀ b ∈ ballots, b = [b.getD 0 0, b.getD 1 0, b.getD 2 0] ∧ b.getD 0 0 ∈ FIL ∧ b.getD 1 0 ∈ FIL ∧ b.getD 2 0 ∈ FIL := by decide
  exact ⟨_, _, _, h b hb⟩
noncomputable def wins (ρ : List Nat → Nat) (p : List Nat) (c : Nat) : Nat := ρ (sq (p, c))
noncomputable def aheadB (b : List Nat) (v : Nat → Nat) : Int := ah3 (pos b (v (b.getD 0 0))) (pos b (v (b.getD 1 0))) (pos b (v (b.getD 2 0)))
theorem help_turn (H : Tells kvs ρ) (hρ : ∀ w ∈ trip, ρ w ∈ FIL) (hp : p ∈ pairsL) (h : Int) {b : List Nat} (hb : b ∈ ballots) : ∃ pl a,
    evSs (cxK X (k + 1)) [] 1 gBody4 (locG kvs h p ++ [(44, dS (tS b))]) [o] = some (.nx, locH kvs (h + aheadB b (wins ρ p)) p b pl a, [o]) := by
  obtain ⟨hp10, hPC⟩ := pairs_len p hp
  have hv : ∀ c ∈ FIL, wins ρ p c ∈ FIL := fun c hc => hρ _ (sq_trip _ (hPC c hc))
  obtain ⟨b0, c1, c2, rfl, h0, h1, h2⟩ := ballot_is hb
  have L := fun {c : Nat} (hc : c ∈ FIL) {loc : UK.Loc} {led : Led} {e : E} => look_e (X := X) (k := k + 1) H (hPC c hc) hp10 (loc := loc) (led := led) (e := e)
  have he : ∀ (c : Nat) (hcF : c ∈ FIL) (led : Led), evE (cxK X (k + 1)) g1e [(44, dS (tS [b0, c1, c2])), (38, .dct kvs), (37, dS (tS p)), (41, ch c)] led = some (dI (pos [b0, c1, c2] (wins ρ p c)), led) := fun c hcF led =>
    (meth_e (l1 := led) (v := dS (tS [b0, c1, c2])) (vs := [ch (wins ρ p c)]) (l2 := led) (name_e rfl) rfl (es0 (L hcF (e := .name 41) rfl rfl (name_e rfl)))).trans (mapAt idx_all ([b0, c1, c2], wins ρ p c, b0) (mem_bxy hb (hv c hcF) h0))
  have hc := comp_fz (n := 1) (led0 := [o]) (turn := turnP (cxK X (k + 1)) g1e (.name 41) [] (capt [44, 38, 37] (locG kvs h p ++ [(44, dS (tS [b0, c1, c2]))]))) rfl
    (fun d => d.str?.map fun s => .int (pos [b0, c1, c2] (wins ρ p (s.cps.getD 0 0)))) [.str (S1 b0), .str (S1 c1), .str (S1 c2)] [] 4096 (by show 3 < 4096; decide) (by show 0 + 3 < 4096; decide) (fun x hx ys' => by
      have hx : x ∈ [b0, c1, c2].map fun c => D.str (S1 c) := hx
      obtain ⟨c, hcm, rfl⟩ := List.mem_map.mp hx
      have hcF : c ∈ FIL := by
        rcases List.mem_cons.mp hcm with rfl | hcm
        · exact h0
        rcases List.mem_cons.mp hcm with rfl | hcm
        · exact h1
        · obtain rfl := List.mem_singleton.mp hcm; exact h2
      exact turn_pl rfl (turn_no (loc := [(44, dS (tS [b0, c1, c2])), (38, .dct kvs), (37, dS (tS p)), (41, ch c)]) rfl (he c hcF _)))
  have hE := comp_eq (cx := cxK X (k + 1)) (loc := locG kvs h p ++ [(44, dS (tS [b0, c1, c2]))]) (led := [o]) (l1 := [o]) (its := [(.name 44)]) (caps := [44, 38, 37]) (k := .e) (vs := [dS (tS [b0, c1, c2])]) (src := .fz [.str (S1 b0), .str (S1 c1), .str (S1 c2)]) rfl rfl hc
  have e1 := assign1 (mu := []) (n₀ := 1) (t := .tup [(.name 46), (.name 47)]) (e := .tuple [(.comp g1e (.name 41) .e [(.name 44)] [] [44, 38, 37]), (.lit (.int 0))])
    (b := ⟨2, locH kvs h p [b0, c1, c2] [.int (pos [b0, c1, c2] (wins ρ p b0)), .int (pos [b0, c1, c2] (wins ρ p c1)), .int (pos [b0, c1, c2] (wins ρ p c2))] 0, [o]⟩) (v := .tup [.ref 1, dI 0]) (mapF (es1 hE (es0 (v := dI 0) rfl))) rfl
  have turn := fun (pl : List D) (a : Int) {c : Nat} (hcF : c ∈ FIL) => by
    have l1 := L hcF (loc := locH kvs h p [b0, c1, c2] pl a ++ [(48, ch c)]) (led := [o]) (e := .name 48) rfl rfl rfl
    have l2 := L h0 (loc := locH kvs h p [b0, c1, c2] pl a ++ [(48, ch c)]) (led := [o]) (e := .index (.name 44) (.lit (.int 0))) rfl rfl (by kernel_rfl)
    have m1 : (S1 (wins ρ p c)).length + (⟨#[46, 46, 46]⟩ : Str).length ≤ cap := by show 1 + 3 ≤ 4096; decide
    have m2 : (S1 (wins ρ p c) ++ (⟨#[46, 46, 46]⟩ : Str)).length + (S1 (wins ρ p b0)).length ≤ cap := by show 4 + 1 ≤ 4096; decide
    have l4 := (bin_e (op := .add) (b := .lit (.str ⟨#[46, 46, 46]⟩)) (y := dS ⟨#[46, 46, 46]⟩) (l2 := [o]) l1 rfl).trans (add_str m1)
    have l3 := (bin_e (op := .add) l4 l2).trans (add_str m2)
    rw [endsS_is] at l3
    exact (seq1 (assign1 (mu := []) (n₀ := 1) (t := .name 49) (b := ⟨1, locH kvs h p [b0, c1, c2] pl a ++ [(48, ch c), (49, dS (endsS (wins ρ p c) (wins ρ p b0)))], [o]⟩) l3 rfl)).trans (mapAt (tail23 (h := h) (a := a) (pl := pl) (c := c)) _ (mem_bxy hb (hv c hcF) (hv b0 h0)))
  generalize hpl : [D.int (pos [b0, c1, c2] (wins ρ p b0)), D.int (pos [b0, c1, c2] (wins ρ p c1)), D.int (pos [b0, c1, c2] (wins ρ p c2))] = pl at e1
  have e2 := (for_eq (mu := []) (n₀ := 1) (cx := cxK X (k + 1)) (t := .name 48) (k := .e) (its := [(.slice (.name 44) (.lit (.int 1)) (.lit .none) (.lit .none))]) (b := [g21, g22, g23]) (loc := locH kvs h p [b0, c1, c2] pl 0) (led := [o]) (vs := [dS ⟨#[c1, c2]⟩]) (src := .fz [.str (S1 c1), .str (S1 c2)]) (l1 := [o]) (by kernel_rfl) rfl).trans
    ((for_step (N := 4095) (loc3 := locH kvs h p [b0, c1, c2] pl (up1a [b0, c1, c2] (wins ρ p c1) (wins ρ p b0) 0)) (l3 := [o]) rfl (turn pl 0 h1) rfl).trans
    ((for_step (N := 4094) (loc3 := locH kvs h p [b0, c1, c2] pl (ah3 (pos [b0, c1, c2] (wins ρ p b0)) (pos [b0, c1, c2] (wins ρ p c1)) (pos [b0, c1, c2] (wins ρ p c2)))) (l3 := [o]) rfl (turn pl _ h2) rfl).trans for_nil))
  subst hpl
  have t := mapAt (tail34 (X := X) (k := k) (kvs := kvs) (p := p) (o := o) (h := h) (b := [b0, c1, c2])) _ (mem_q3 (pos_lt _ hb _ (hv b0 h0)) (pos_lt _ hb _ (hv c1 h1)) (pos_lt _ hb _ (hv c2 h2)))
  exact ⟨_, _, (seq1 e1).trans ((seq1 e2).trans t)⟩
noncomputable def balD : List D := ballots.map fun b => .str (tS b)
theorem help_loop (H : Tells kvs ρ) (hρ : ∀ w ∈ trip, ρ w ∈ FIL) (hp : p ∈ pairsL) : ∀ (bs : List (List Nat)) (src : Src) (N : Nat) (h : Int), Feeds [.list balD] (bs.map fun b => .str (tS b)) src → (∀ b ∈ bs, b ∈ ballots) → bs.length < N →
    forLoop (.name 44) (fun loc led' => evSs (cxK X (k + 1)) [] 1 gBody4 loc led') N src (locG kvs h p) [.list balD] = some (.nx, locG kvs (bs.foldl (fun h b => h + aheadB b (wins ρ p)) h) p, [.list balD])
  | bs, src, 0, _, _, _, hN => absurd hN (Nat.not_lt_zero _)
  | [], src, N + 1, h, hf, _, _ => for_end hf
  | b :: bs, src, N + 1, h, ⟨src', hf, hf'⟩, hb, hN => by
    obtain ⟨pl, a, e⟩ := help_turn (X := X) (k := k) (o := .list balD) H hρ hp h (hb b (.head _))
    exact (for_go (loc3 := locG kvs (h + aheadB b (wins ρ p)) p) (l3 := [.list balD]) hf rfl e rfl).trans (help_loop H hρ hp bs src' N _ hf' (fun q hq => hb q (.tail _ hq)) (Nat.lt_of_succ_lt_succ hN))
noncomputable def help0 (v : Nat → Nat) (h : Int) : Int := ballots.foldl (fun h b => h + aheadB b v) h
noncomputable def gFor : UK.S := .for (.name 44) .e [(.name 45)] gBody4
theorem help_pairs (H : Tells kvs ρ) (hρ : ∀ w ∈ trip, ρ w ∈ FIL) : ∀ (ps : List (List Nat)) (N : Nat) (h : Int), (∀ p ∈ ps, p ∈ pairsL) → ps.length < N →
    forLoop (.name 37) (fun loc led' => evSs (cxK X (k + 1)) [] 1 [gFor] loc led') N (.fz (ps.map fun p => .str (tS p))) [(38, .dct kvs), (45, .ref 0), (43, dI h)] [.list balD] = some (.nx, [(38, .dct kvs), (45, .ref 0), (43, dI (ps.foldl (fun h p => help0 (wins ρ p) h) h))], [.list balD])
  | ps, 0, _, _, hN => absurd hN (Nat.not_lt_zero _)
  | [], N + 1, h, _, _ => for_nil
  | p :: ps, N + 1, h, hp, hN => by
    have e := (for_eq (mu := []) (n₀ := 1) (t := .name 44) (k := .e) (b := gBody4) (cx := cxK X (k + 1)) (its := [(.name 45)]) (loc := locG kvs h p) (led := [.list balD]) (vs := [.ref 0]) (src := .live 0 0) (l1 := [.list balD]) rfl rfl).trans (help_loop H hρ (hp p (.head _)) ballots (.live 0 0) 4096 h (feeds_live rfl _ 0 rfl) (fun _ h => h) (by decide))
    exact (for_step (loc3 := [(38, .dct kvs), (45, .ref 0), (43, dI (help0 (wins ρ p) h))]) (l3 := [.list balD]) rfl (seq1 e) rfl).trans (help_pairs H hρ ps N _ (fun q hq => hp q (.tail _ hq)) (Nat.lt_of_succ_lt_succ hN))
noncomputable def helpAll (ρ : List Nat → Nat) : Int := pairsL.foldl (fun h p => help0 (wins ρ p) h) 0
theorem helping_ok (H : Tells kvs ρ) (hρ : ∀ w ∈ trip, ρ w ∈ FIL) : R X (k + 2) 21 [.dct kvs, .ref 0] [.list balD] = some (dI (helpAll ρ), [.list balD]) := by
  have e1 := (for_eq (mu := []) (n₀ := 1) (t := .name 37) (k := .e) (b := [gFor]) (cx := cxK X (k + 1)) (its := [(.list [(.lit (.str ⟨#[102, 102]⟩)), (.lit (.str ⟨#[102, 105]⟩)), (.lit (.str ⟨#[102, 108]⟩)), (.lit (.str ⟨#[105, 105]⟩)), (.lit (.str ⟨#[105, 108]⟩)), (.lit (.str ⟨#[108, 108]⟩))])]) (loc := [(38, .dct kvs), (45, .ref 0), (43, dI 0)]) (led := [.list balD])
    (vs := [.ref 1]) (src := .fz (pairsL.map fun p => .str (tS p))) (l1 := [.list balD, .list (pairsL.map fun p => .str (tS p))]) rfl rfl).trans (help_pairs H hρ pairsL 4096 0 (fun _ h => h) (by decide))
  exact R_d (fn := m1f21) (loc := [(38, .dct kvs), (45, .ref 0)]) (fl := .ret (dI (helpAll ρ))) rfl rfl ((seq1 (l := [(38, .dct kvs), (45, .ref 0), (43, dI 0)]) (d := [.list balD]) rfl).trans ((seq1 e1).trans rfl)) rfl
end
end uk0030_01
end
section
set_option maxHeartbeats 0
namespace uk0030_01
open PySem PySem.W UK
noncomputable def cL (v : Nat) (xs : List Nat) : Nat := (xs.filter fun y => decide (y < v)).length
noncomputable def cR (v : Nat) (xs : List Nat) : Nat := (xs.filter fun y => !decide (v < y)).length
theorem cntL_map (v : Nat) (xs : List Nat) : cntL (S1 v) (xs.map S1) = cL v xs := by
  unfold cntL cL
  rw [List.filter_map, List.length_map]
  exact congrArg List.length (List.filter_congr fun y _ => decide_eq_decide.mpr (ltS1 y v))
theorem cntR_map (v : Nat) (xs : List Nat) : cntR (S1 v) (xs.map S1) = cR v xs := by
  unfold cntR cR
  rw [List.filter_map, List.length_map]
  exact congrArg List.length (List.filter_congr fun y _ => congrArg (!·) (decide_eq_decide.mpr (ltS1 v y)))
noncomputable def ownN : List (List Nat) := [[108, 108, 108], [102, 102, 108], [102, 102, 102], [102, 108, 108]]
noncomputable def insAllR (cs : List Nat) (ys : List Str) : List Str := cs.foldl (fun ys c => insR (S1 c) ys) ys
theorem insAllR_len : ∀ (cs : List Nat) (ys : List Str), (insAllR cs ys).length = ys.length + cs.length
  | [], _ => rfl
  | c :: cs, ys => (insAllR_len cs _).trans (by rw [insR_length, List.length_cons, Nat.add_right_comm]; rfl)
theorem insAllR_sorted : ∀ (cs : List Nat) {ys : List Str}, SortedS ys → SortedS (insAllR cs ys)
  | [], _, h => h
  | c :: cs, _, h => insAllR_sorted cs (insR_sorted h)
theorem insAllR_perm : ∀ (cs : List Nat) {ys : List Str} {xs : List Nat}, ys.Perm (xs.map S1) → (insAllR cs ys).Perm ((cs.reverse ++ xs).map S1)
  | [], _, _, h => h
  | c :: cs, ys, xs, h => by
    have e : (c :: cs).reverse ++ xs = cs.reverse ++ (c :: xs) := by rw [List.reverse_cons, List.append_assoc]; rfl
    rw [e]
    exact insAllR_perm cs (insR_congr h)
noncomputable def ownL (ρ : List Nat → Nat) : List Nat := [ρ [102, 108, 108], ρ [102, 102, 102], ρ [102, 102, 108], ρ [108, 108, 108]]
noncomputable def midT (ρ : List Nat → Nat) (t : List Nat) : Bool := decide (cL (ρ t) (t.reverse ++ ownL ρ) ≤ 3) && decide (3 < cR (ρ t) (t.reverse ++ ownL ρ))
noncomputable def TellsT (kvs : List (Str × D)) (ρ : List Nat → Nat) : Prop := ∀ w ∈ trip, kvs.lookup (tS w) = some (.str (S1 (ρ w)))
theorem tellsT_all (ρ : List Nat → Nat) : (trip.map fun w => (kvsT ρ).lookup (tS w)) = mapR (fun w => some (.str (S1 (ρ w)))) trip := by kernel_rfl
theorem tellsT_kvsT (ρ : List Nat → Nat) : TellsT (kvsT ρ) ρ := fun w hw => mapAt (tellsT_all ρ) w hw
section
variable {X : Tab} {k : Nat} {kvs : List (Str × D)} {ρ : List Nat → Nat} {w : List Nat} {o : O}
theorem lookT_e (H : TellsT kvs ρ) (hw : w ∈ trip) {loc : UK.Loc} {led : Led} (h38 : UK.get loc 38 = some (.dct kvs)) (h52 : UK.get loc 52 = some (dS (tS w))) :
    evE (cxK X k) (.index (.name 38) (.name 52)) loc led = some (ch (ρ w), led) := by
  have hx : evIndex led (.dct kvs) (dS (tS w)) = some (ch (ρ w)) := by
    show Option.map V.d (List.lookup (tS w) kvs) = _
    exact mapF (H w hw)
  exact index_e (name_e h38) (name_e h52) hx
noncomputable def locM (kvs : List (Str × D)) : UK.Loc := [(38, .dct kvs), (51, .ref 1)]
noncomputable def locW (kvs : List (Str × D)) (w : List Nat) : UK.Loc := locM kvs ++ [(52, dS (tS w)), (42, .ref 2)]
noncomputable def mA : UK.S := .expr (.call 8 [(.name 51), (.index (.name 38) (.name 52))])
theorem mA_loop (H : TellsT kvs ρ) : ∀ (ws : List (List Nat)) (N : Nat) (ys : List Str), (∀ w ∈ ws, w ∈ trip) → SortedS ys → ys.length + ws.length ≤ 100 → ws.length < N →
    forLoop (.name 52) (fun loc led' => evSs (cxK X (k + 2)) [51, 42] 2 [mA] loc led') N (.fz (ws.map fun w => .str (tS w))) (locM kvs) [o, .list (strD ys)] = some (.nx, locM kvs, [o, .list (strD (insAllR (ws.map ρ) ys))])
  | ws, 0, _, _, _, _, hN => absurd hN (Nat.not_lt_zero _)
  | [], N + 1, ys, _, _, _, _ => for_nil
  | w :: ws, N + 1, ys, hw, hs, hl, hN => by
    have hl' : ys.length + (ws.length + 1) ≤ 100 := hl
    have hi := insort_ok (X := X) (k := k) (x := S1 (ρ w)) (j := 1) (led := [o, .list (strD ys)]) rfl (by omega) hs
    have hc := (call_R (X := X) (k := k + 2) (f := 8) (as := [(.name 51), (.index (.name 38) (.name 52))]) (loc := locM kvs ++ [(52, dS (tS w))]) (es1 (v := .ref 1) (l1 := [o, .list (strD ys)]) rfl (es0 (lookT_e H (hw w (.head _)) rfl rfl)))).trans hi
    refine (for_step (loc3 := locM kvs) (l3 := [o, .list (strD (insR (S1 (ρ w)) ys))]) rfl (seq1 (expr1 hc)) rfl).trans ?_
    exact mA_loop H ws N _ (fun q hq => hw q (.tail _ hq)) (insR_sorted hs) (by rw [insR_length]; omega) (Nat.lt_of_succ_lt_succ hN)
noncomputable def mB2b : List UK.S := [.expr (.call 8 [(.name 42), (.name 36)])]
noncomputable def mB3 : UK.S := .ite (.not (.cmp2 (.call 10 [(.name 42), (.index (.name 38) (.name 52))]) .le (.lit (.int 3)) .lt (.call 9 [(.name 42), (.index (.name 38) (.name 52))]))) [.ret (.lit (.bool false))] []
noncomputable def mBody : List UK.S := [.assign (.name 42) (.bi .list [(.name 51)]), .for (.name 36) .e [(.name 52)] mB2b, mB3]
theorem mB2_loop {o2 : O} : ∀ (cs : List Nat) (N : Nat) (ys : List Str), SortedS ys → ys.length + cs.length ≤ 100 → cs.length < N →
    forLoop (.name 36) (fun loc led' => evSs (cxK X (k + 2)) [51, 42] 3 mB2b loc led') N (.fz (cs.map fun c => .str (S1 c))) (locW kvs w) [o, o2, .list (strD ys)] = some (.nx, locW kvs w, [o, o2, .list (strD (insAllR cs ys))])
  | cs, 0, _, _, _, hN => absurd hN (Nat.not_lt_zero _)
  | [], N + 1, ys, _, _, _ => for_nil
  | c :: cs, N + 1, ys, hs, hl, hN => by
    have hl' : ys.length + (cs.length + 1) ≤ 100 := hl
    have hi := insort_ok (X := X) (k := k) (x := S1 c) (j := 2) (led := [o, o2, .list (strD ys)]) rfl (by omega) hs
    have hc := (call_R (X := X) (k := k + 2) (f := 8) (as := [(.name 42), (.name 36)]) (loc := locW kvs w ++ [(36, ch c)]) (vs := [.ref 2, ch c]) (led := [o, o2, .list (strD ys)]) rfl).trans hi
    refine (for_step (loc3 := locW kvs w) (l3 := [o, o2, .list (strD (insR (S1 c) ys))]) rfl (seq1 (expr1 hc)) rfl).trans ?_
    exact mB2_loop cs N _ (insR_sorted hs) (by rw [insR_length]; omega) (Nat.lt_of_succ_lt_succ hN)
theorem cmp2_e {cx : Cx} {loc : UK.Loc} {led l1 l2 : Led} {a b c : E} {op op' : Cm} {x y z : V} {p q : Bool} (h1 : evE cx a loc led = some (x, l1)) (h2 : evE cx b loc l1 = some (y, l2)) (h3 : evCmp l2 op x y = some p) (h4 : evE cx c loc l2 = some (z, l2)) (h5 : evCmp l2 op' y z = some q) :
    evE cx (.cmp2 a op b op' c) loc led = some (.d (.bool (p && q)), l2) := (bindF h1).trans ((bindF h2).trans ((bindF h3).trans (by
  cases p with
  | true => exact (bindF h4).trans (mapF h5)
  | false => rfl)))
theorem list_m {led : Led} {v : V} {xs : List D} (h : led.list v = some xs) (hl : xs.length < 64) : evBi led .list [v] = some (.ref led.length, led ++ [.list xs]) := (bindF (a := v) rfl).trans ((bindF h).trans (gdF hl))
theorem le3 (a b : Nat) : (decide ((a : Int) ≤ 3) && decide ((3 : Int) < b)) = (decide (a ≤ 3) && decide (3 < b)) := by
  rw [decide_eq_decide.mpr (show ((a : Int) ≤ 3 ↔ a ≤ 3) by omega), decide_eq_decide.mpr (show ((3 : Int) < b ↔ 3 < b) by omega)]
theorem middle_turn (H : TellsT kvs ρ) (hw : w ∈ trip) {ys : List Str} (s0 : SortedS ys) (l0 : ys.length = 4) (hp0 : ys.Perm ((ownL ρ).map S1)) : ∃ row : List Str,
    evSs (cxK X (k + 2)) [51, 42] 2 mBody (locM kvs ++ [(52, dS (tS w))]) [o, .list (strD (ys))] = some (cond (midT ρ w) .nx (.ret (.d (.bool false))), locW kvs w, [o, .list (strD (ys)), .list (strD row)]) := by
  have hwl := (trip_mem w hw).1
  have hp := insAllR_perm w hp0
  have s3 := insAllR_sorted w s0
  have l3 : (insAllR w (ys)).length = 7 := by rw [insAllR_len, l0, hwl]
  have hsl : (strD ys).length < 64 := by unfold strD; rw [List.length_map, l0]; decide
  have hl := (bi_e (cx := cxK X (k + 2)) (loc := locM kvs ++ [(52, dS (tS w))]) (b := .list) (as := [(.name 51)]) (vs := [.ref 1]) (led := [o, .list (strD ys)]) (l1 := [o, .list (strD ys)]) rfl).trans (list_m rfl hsl)
  have e1 := assign1 (mu := [51, 42]) (n₀ := 2) (t := .name 42) (b := ⟨3, locW kvs w, [o, .list (strD (ys)), .list (strD (ys))]⟩) hl rfl
  have e2 := (for_eq (mu := [51, 42]) (n₀ := 2) (cx := cxK X (k + 2)) (t := .name 36) (k := .e) (its := [(.name 52)]) (b := mB2b) (loc := locW kvs w) (led := [o, .list (strD (ys)), .list (strD (ys))]) (vs := [dS (tS w)]) (src := .fz (w.map fun c => .str (S1 c))) (l1 := [o, .list (strD (ys)), .list (strD (ys))]) rfl rfl).trans
    (mB2_loop (k := k) w 4096 (ys) s0 (by rw [l0, hwl]; decide) (by rw [hwl]; decide))
  have eL : cntL (S1 (ρ w)) (insAllR w (ys)) = cL (ρ w) (w.reverse ++ ownL ρ) := by rw [cntL_perm hp, cntL_map]
  have eR : cntR (S1 (ρ w)) (insAllR w (ys)) = cR (ρ w) (w.reverse ++ ownL ρ) := by rw [cntR_perm hp, cntR_map]
  refine ⟨insAllR w (ys), ?_⟩
  generalize insAllR w (ys) = row at e2 s3 l3 eL eR
  have hv := lookT_e (X := X) (k := k + 2) H hw (loc := locW kvs w) (led := [o, .list (strD (ys)), .list (strD row)]) rfl rfl
  have has := es1 (cx := cxK X (k + 2)) (loc := locW kvs w) (led := [o, .list (strD (ys)), .list (strD row)]) (l1 := [o, .list (strD (ys)), .list (strD row)]) (e := .name 42) (v := .ref 2) rfl (es0 hv)
  have h10 := (call_R (f := 10) has).trans (bisL_ok (X := X) (k := k + 1) (a := .ref 2) (ys := row) (led := [o, .list (strD (ys)), .list (strD row)]) ⟨rfl, rfl⟩ rfl (by omega) s3 (as := [.ref 2, ch (ρ w)]) rfl)
  have h9 := (call_R (f := 9) has).trans (bisR_ok (X := X) (k := k + 1) (a := .ref 2) (ys := row) (led := [o, .list (strD (ys)), .list (strD row)]) ⟨rfl, rfl⟩ rfl (by omega) s3 (as := [.ref 2, ch (ρ w)]) rfl)
  rw [eL] at h10
  rw [eR] at h9
  have h11 := not_e (cmp2_e (p := decide (((cL (ρ w) (w.reverse ++ ownL ρ) : Nat) : Int) ≤ 3)) (q := decide ((3 : Int) < (cR (ρ w) (w.reverse ++ ownL ρ) : Nat))) (op := .le) (b := .lit (.int 3)) (y := dI 3) (op' := .lt) h10 rfl rfl h9 rfl) rfl
  have hm : (decide (((cL (ρ w) (w.reverse ++ ownL ρ) : Nat) : Int) ≤ 3) && decide ((3 : Int) < (cR (ρ w) (w.reverse ++ ownL ρ) : Nat))) = midT ρ w := le3 _ _
  rw [hm] at h11
  refine (seq1 e1).trans ((seq1 e2).trans ?_)
  cases h : midT ρ w with
  | true => rw [h] at h11; exact seq1 ((ite_f h11 rfl).trans rfl)
  | false => rw [h] at h11; exact seqR ((ite_t h11 rfl).trans rfl)
theorem middle_loop (H : TellsT kvs ρ) {ys : List Str} (s0 : SortedS ys) (l0 : ys.length = 4) (hp0 : ys.Perm ((ownL ρ).map S1)) : ∀ (ws : List (List Nat)) (N : Nat), (∀ w ∈ ws, w ∈ trip) → ws.length < N → ∃ (loc' : UK.Loc) (rest : Led),
    forLoop (.name 52) (fun loc led' => evSs (cxK X (k + 2)) [51, 42] 2 mBody loc led') N (.fz (ws.map fun w => .str (tS w))) (locM kvs) [o, .list (strD (ys))] = some (cond (ws.all (midT ρ)) .nx (.ret (.d (.bool false))), loc', o :: rest)
  | ws, 0, _, hN => absurd hN (Nat.not_lt_zero _)
  | [], N + 1, _, _ => ⟨_, _, for_nil⟩
  | w :: ws, N + 1, hw, hN => by
    obtain ⟨row, e⟩ := middle_turn (X := X) (k := k) (o := o) H (hw w (.head _)) s0 l0 hp0
    rw [List.all_cons]
    cases hm : midT ρ w with
    | true =>
      rw [hm] at e
      obtain ⟨loc', rest, ih⟩ := middle_loop H s0 l0 hp0 ws N (fun v hv => hw v (.tail _ hv)) (Nat.lt_of_succ_lt_succ hN)
      exact ⟨loc', rest, (for_step (loc3 := locM kvs) (l3 := [o, .list (strD (ys))]) rfl e rfl).trans ih⟩
    | false =>
      rw [hm] at e
      exact ⟨_, _, for_stop rfl rfl e⟩
theorem middle_ok (H : TellsT kvs ρ) : R X (k + 3) 22 [.dct kvs] [o] = some (.d (.bool (trip.all (midT ρ))), [o]) := by
  have e1 := (for_eq (mu := [51, 42]) (n₀ := 1) (cx := cxK X (k + 2)) (t := .name 52) (k := .e) (its := [(.list [(.lit (.str ⟨#[108, 108, 108]⟩)), (.lit (.str ⟨#[102, 102, 108]⟩)), (.lit (.str ⟨#[102, 102, 102]⟩)), (.lit (.str ⟨#[102, 108, 108]⟩))])]) (b := [mA]) (loc := locM kvs) (led := [o, .list (strD [])])
    (vs := [.ref 2]) (src := .fz (ownN.map fun w => .str (tS w))) (l1 := [o, .list (strD []), .list (ownN.map fun w => .str (tS w))]) rfl rfl).trans (mA_loop (k := k) H ownN 4096 [] (by decide) sorted_nil (by decide) (by decide))
  have s0 : SortedS (insAllR (ownN.map ρ) []) := insAllR_sorted _ sorted_nil
  have l0 : (insAllR (ownN.map ρ) []).length = 4 := insAllR_len _ _
  have hp0 : (insAllR (ownN.map ρ) []).Perm ((ownL ρ).map S1) := insAllR_perm (ownN.map ρ) (xs := []) (.refl _)
  generalize insAllR (ownN.map ρ) [] = ys at e1 s0 l0 hp0
  have t13 : R X (k + 2) 13 [] [o, .list (strD (ys))] = some (.ref 2, [o, .list (strD (ys)), .list tripD]) := by
    generalize O.list (strD (ys)) = o2
    kernel_rfl
  obtain ⟨loc', rest, hl⟩ := middle_loop (X := X) (k := k) (o := o) H s0 l0 hp0 trip 4096 (fun _ h => h) (by decide)
  have e2 := (for_eq (mu := [51, 42]) (n₀ := 1) (t := .name 52) (k := .e) (b := mBody) (src := .fz tripD) (es0 ((call_R (X := X) (k := k + 2) (f := 13) (as := []) (loc := locM kvs) (vs := []) (led := [o, .list (strD (ys))]) rfl).trans t13)) rfl).trans hl
  have e0 := (seq1 (cx := cxK X (k + 2)) (mu := [51, 42]) (n₀ := 1) (s := .assign (.name 51) (.list [])) (ss := m1f22.body.tail) (loc := [(38, .dct kvs)]) (led := [o]) (l := locM kvs) (d := [o, .list (strD [])]) rfl).trans (seq1 e1)
  cases hm : trip.all (midT ρ) with
  | true => rw [hm] at e2; exact R_step (fn := m1f22) (loc := [(38, .dct kvs)]) (fl := .ret (.d (.bool true))) rfl rfl (e0.trans ((seq1 e2).trans rfl)) rfl
  | false => rw [hm] at e2; exact R_step (fn := m1f22) (loc := [(38, .dct kvs)]) (fl := .ret (.d (.bool false))) rfl rfl (e0.trans (seqR e2)) rfl
end
end uk0030_01
end
section
set_option maxHeartbeats 0
namespace uk0030_01
open PySem PySem.W UK
noncomputable def med3 (a b c : Nat) : Nat := max (min a b) (min (max a b) c)
noncomputable def okP (x y z : Nat) : Bool := decide (x ≤ z) && decide (y = med3 x 105 z)
noncomputable def aheads (x y z : Nat) : Int := help0 (fun c => if c = 102 then x else if c = 105 then y else z) 0
theorem aheads_ok : ∀ x ∈ FIL, ∀ y ∈ FIL, ∀ z ∈ FIL, aheads x y z = 0 ↔ okP x y z = true := by decide +kernel
theorem aheads_pos : ∀ x ∈ FIL, ∀ y ∈ FIL, ∀ z ∈ FIL, 0 ≤ aheads x y z := by decide +kernel
theorem help0_eq (v : Nat → Nat) (h : Int) : help0 v h = h + aheads (v 102) (v 105) (v 108) := by
  show h + aheadB [102, 105, 108] v + aheadB [105, 102, 108] v + aheadB [105, 108, 102] v + aheadB [108, 105, 102] v = h + (0 + aheadB [102, 105, 108] v + aheadB [105, 102, 108] v + aheadB [105, 108, 102] v + aheadB [108, 105, 102] v)
  omega
noncomputable def midB (v : Nat) (t own : List Nat) : Bool := decide (cL v (t.reverse ++ own) ≤ 3) && decide (3 < cR v (t.reverse ++ own))
noncomputable def kth (t own : List Nat) : Nat := (isort leN (t.reverse ++ own)).getD 3 0
theorem fwd : ∀ a ∈ FIL, ∀ c ∈ FIL, ∀ f ∈ FIL, ∀ j ∈ FIL, okP a (med3 a 105 c) c = true → okP (med3 a 105 c) (med3 (med3 a 105 c) 105 (med3 c 105 f)) (med3 c 105 f) = true → okP c (med3 c 105 f) f = true →
    okP (med3 (med3 a 105 c) 105 (med3 c 105 f)) (med3 (med3 (med3 a 105 c) 105 (med3 c 105 f)) 105 (med3 (med3 c 105 f) 105 (med3 f 105 j))) (med3 (med3 c 105 f) 105 (med3 f 105 j)) = true →
    okP (med3 c 105 f) (med3 (med3 c 105 f) 105 (med3 f 105 j)) (med3 f 105 j) = true → okP f (med3 f 105 j) j = true →
    midB a [102, 102, 102] [f, a, c, j] = true ∧ midB (med3 a 105 c) [102, 102, 105] [f, a, c, j] = true ∧ midB c [102, 102, 108] [f, a, c, j] = true ∧ midB (med3 (med3 a 105 c) 105 (med3 c 105 f)) [102, 105, 105] [f, a, c, j] = true ∧
    midB (med3 c 105 f) [102, 105, 108] [f, a, c, j] = true ∧ midB f [102, 108, 108] [f, a, c, j] = true ∧ midB (med3 (med3 (med3 a 105 c) 105 (med3 c 105 f)) 105 (med3 (med3 c 105 f) 105 (med3 f 105 j))) [105, 105, 105] [f, a, c, j] = true ∧
    midB (med3 (med3 c 105 f) 105 (med3 f 105 j)) [105, 105, 108] [f, a, c, j] = true ∧ midB (med3 f 105 j) [105, 108, 108] [f, a, c, j] = true ∧ midB j [108, 108, 108] [f, a, c, j] = true := by decide +kernel
theorem kth_is : ∀ a ∈ FIL, ∀ c ∈ FIL, ∀ f ∈ FIL, ∀ j ∈ FIL, ∀ t ∈ trip, ∀ v ∈ FIL, midB v t [f, a, c, j] = true → v = kth t [f, a, c, j] := by decide +kernel
theorem bwd : ∀ a ∈ FIL, ∀ c ∈ FIL, ∀ f ∈ FIL, ∀ j ∈ FIL, a = kth [102, 102, 102] [f, a, c, j] → c = kth [102, 102, 108] [f, a, c, j] → f = kth [102, 108, 108] [f, a, c, j] → j = kth [108, 108, 108] [f, a, c, j] →
    okP a (kth [102, 102, 105] [f, a, c, j]) c = true ∧ okP (kth [102, 102, 105] [f, a, c, j]) (kth [102, 105, 105] [f, a, c, j]) (kth [102, 105, 108] [f, a, c, j]) = true ∧ okP c (kth [102, 105, 108] [f, a, c, j]) f = true ∧
    okP (kth [102, 105, 105] [f, a, c, j]) (kth [105, 105, 105] [f, a, c, j]) (kth [105, 105, 108] [f, a, c, j]) = true ∧ okP (kth [102, 105, 108] [f, a, c, j]) (kth [105, 105, 108] [f, a, c, j]) (kth [105, 108, 108] [f, a, c, j]) = true ∧ okP f (kth [105, 108, 108] [f, a, c, j]) j = true := by decide +kernel
theorem okP_eq {x y z : Nat} (h : okP x y z = true) : y = med3 x 105 z := by
  unfold okP at h
  simp only [Bool.and_eq_true, decide_eq_true_eq] at h
  exact h.2
theorem zero_iff (ρ : List Nat → Nat) (hρ : ∀ w ∈ trip, ρ w ∈ FIL) : helpAll ρ = 0 ↔ trip.all (midT ρ) = true := by
  have f := fun w hw => hρ w hw
  have e : helpAll ρ = aheads (ρ [102, 102, 102]) (ρ [102, 102, 105]) (ρ [102, 102, 108]) + aheads (ρ [102, 102, 105]) (ρ [102, 105, 105]) (ρ [102, 105, 108]) + aheads (ρ [102, 102, 108]) (ρ [102, 105, 108]) (ρ [102, 108, 108])
      + aheads (ρ [102, 105, 105]) (ρ [105, 105, 105]) (ρ [105, 105, 108]) + aheads (ρ [102, 105, 108]) (ρ [105, 105, 108]) (ρ [105, 108, 108]) + aheads (ρ [102, 108, 108]) (ρ [105, 108, 108]) (ρ [108, 108, 108]) := by
    have h6 : helpAll ρ = help0 (wins ρ [108, 108]) (help0 (wins ρ [105, 108]) (help0 (wins ρ [105, 105]) (help0 (wins ρ [102, 108]) (help0 (wins ρ [102, 105]) (help0 (wins ρ [102, 102]) 0))))) := rfl
    rw [h6, help0_eq, help0_eq, help0_eq, help0_eq, help0_eq, help0_eq]
    show 0 + aheads (ρ [102, 102, 102]) (ρ [102, 102, 105]) (ρ [102, 102, 108]) + aheads (ρ [102, 102, 105]) (ρ [102, 105, 105]) (ρ [102, 105, 108]) + aheads (ρ [102, 102, 108]) (ρ [102, 105, 108]) (ρ [102, 108, 108])
      + aheads (ρ [102, 105, 105]) (ρ [105, 105, 105]) (ρ [105, 105, 108]) + aheads (ρ [102, 105, 108]) (ρ [105, 105, 108]) (ρ [105, 108, 108]) + aheads (ρ [102, 108, 108]) (ρ [105, 108, 108]) (ρ [108, 108, 108]) = _
    rw [Int.zero_add]
  have M : trip.all (midT ρ) = true ↔ ∀ t ∈ trip, midB (ρ t) t [ρ [102, 108, 108], ρ [102, 102, 102], ρ [102, 102, 108], ρ [108, 108, 108]] = true := by rw [List.all_eq_true]; rfl
  rw [e, M]
  have ha := hρ [102, 102, 102] (by decide)
  have hb := hρ [102, 102, 105] (by decide)
  have hc := hρ [102, 102, 108] (by decide)
  have hd := hρ [102, 105, 105] (by decide)
  have he := hρ [102, 105, 108] (by decide)
  have hf := hρ [102, 108, 108] (by decide)
  have hg := hρ [105, 105, 105] (by decide)
  have hh := hρ [105, 105, 108] (by decide)
  have hi := hρ [105, 108, 108] (by decide)
  have hj := hρ [108, 108, 108] (by decide)
  constructor
  · intro hz
    have p1 := aheads_pos _ ha _ hb _ hc
    have p2 := aheads_pos _ hb _ hd _ he
    have p3 := aheads_pos _ hc _ he _ hf
    have p4 := aheads_pos _ hd _ hg _ hh
    have p5 := aheads_pos _ he _ hh _ hi
    have p6 := aheads_pos _ hf _ hi _ hj
    have q1 := (aheads_ok _ ha _ hb _ hc).mp (by omega)
    have q2 := (aheads_ok _ hb _ hd _ he).mp (by omega)
    have q3 := (aheads_ok _ hc _ he _ hf).mp (by omega)
    have q4 := (aheads_ok _ hd _ hg _ hh).mp (by omega)
    have q5 := (aheads_ok _ he _ hh _ hi).mp (by omega)
    have q6 := (aheads_ok _ hf _ hi _ hj).mp (by omega)
    have r1 := okP_eq q1
    have r2 := okP_eq q2
    have r3 := okP_eq q3
    have r4 := okP_eq q4
    have r5 := okP_eq q5
    have r6 := okP_eq q6
    rw [r1, r3] at r2
    rw [r3, r6] at r5
    rw [r2, r5] at r4
    rw [r1] at q1
    rw [r2, r1, r3] at q2
    rw [r3] at q3
    rw [r4, r2, r5] at q4
    rw [r5, r3, r6] at q5
    rw [r6] at q6
    obtain ⟨m1, m2, m3, m4, m5, m6, m7, m8, m9, m10⟩ := fwd _ ha _ hc _ hf _ hj q1 q2 q3 q4 q5 q6
    intro t ht
    simp only [trip, List.mem_cons, List.not_mem_nil, or_false] at ht
    rcases ht with rfl | rfl | rfl | rfl | rfl | rfl | rfl | rfl | rfl | rfl
    · exact m1
    · rw [r1]; exact m2
    · exact m3
    · rw [r2]; exact m4
    · rw [r3]; exact m5
    · exact m6
    · rw [r4]; exact m7
    · rw [r5]; exact m8
    · rw [r6]; exact m9
    · exact m10
  · intro hm
    have K := fun t ht => kth_is _ ha _ hc _ hf _ hj t ht (ρ t) (hρ t ht) (hm t ht)
    obtain ⟨m1, m2, m3, m4, m5, m6⟩ := bwd _ ha _ hc _ hf _ hj (K _ (by decide)) (K _ (by decide)) (K _ (by decide)) (K _ (by decide))
    rw [← K [102, 102, 105] (by decide)] at m1 m2
    rw [← K [102, 105, 105] (by decide)] at m2 m4
    rw [← K [102, 105, 108] (by decide)] at m2 m3 m5
    rw [← K [105, 105, 105] (by decide)] at m4
    rw [← K [105, 105, 108] (by decide)] at m4 m5
    rw [← K [105, 108, 108] (by decide)] at m5 m6
    rw [(aheads_ok _ ha _ hb _ hc).mpr m1, (aheads_ok _ hb _ hd _ he).mpr m2, (aheads_ok _ hc _ he _ hf).mpr m3, (aheads_ok _ hd _ hg _ hh).mpr m4, (aheads_ok _ he _ hh _ hi).mpr m5, (aheads_ok _ hf _ hi _ hj).mpr m6]
    rfl
end uk0030_01
end
section
set_option maxHeartbeats 0
namespace uk0030_01
open PySem PySem.W UK
section
variable {X : Tab} {k : Nat} {is : List Int} {L : List (Str × Str)} {w : List Nat}
noncomputable def a1e : E := .bin .mod (.bin .add (.bi .sum [(.name 31)]) (.name 35)) (.lit (.int 16))
noncomputable def a2e : E := .bin .add (.bin .mul (.bi .abs [(.bi .sum [(.name 31)])]) (.lit (.int 7))) (.bin .mul (.name 35) (.lit (.int 31)))
noncomputable def a2 : UK.S := .assign (.name 44) (.call 18 [(.bin .add (.call 17 [(.name 53), a2e]) (.name 54))])
noncomputable def a3 : UK.S := .ite (.cmp (.name 44) .ne (.bin .add (.name 53) (.name 54))) [.ret (.lit (.bool false))] []
noncomputable def a4s : E := .slice (.name 44) (.lit .none) (.lit (.int 3)) (.lit .none)
noncomputable def aBody : List UK.S := [.assign (.name 54) (.call 15 [a1e]), a2, a3, .expr (.meth .append (.name 45) [a4s])]
noncomputable def locA (is : List Int) (L : List (Str × Str)) : UK.Loc := [(31, .lst (is.map .int)), (34, .hdr (dL L)), (33, .lst (dL L)), (45, .ref 0)]
noncomputable def locW1 (is : List Int) (L : List (Str × Str)) (i : Nat) (w : List Nat) (c : Nat) : UK.Loc := locA is L ++ [(35, dI i), (53, dS (tS w)), (54, ch c)]
noncomputable def locW2 (is : List Int) (L : List (Str × Str)) (i : Nat) (w : List Nat) (c : Nat) : UK.Loc := locA is L ++ [(35, dI i), (53, dS (tS w)), (54, ch c), (44, dS (tS (w ++ [c])))]
noncomputable def balS (bs : List (List Nat)) : O := .list (bs.map fun b => .str (tS b))
theorem ballot_words : ∀ w ∈ ballots, w ∈ words ∧ w.length = 3 := by decide
theorem cut_all {i c : Nat} {o : O} : (ballots.map fun w => evE (cxK X k) a4s (locW2 is L i w c) [o]) = mapR (fun w => some (dS (tS w), [o])) ballots := by kernel_rfl
theorem ballot_turn (K : Kn X) (i : Nat) (hw : w ∈ ballots) (bs : List (List Nat)) (hbs : bs.length ≤ 10) : ∃ c : Nat,
    evSs (cxK X (k + 2)) [45] 1 aBody (locA is L ++ [(35, dI i), (53, dS (tS w))]) [balS bs] = some (.nx, locW2 is L i w c, [balS (bs ++ [w])]) := by
  obtain ⟨hww, hwl⟩ := ballot_words w hw
  obtain ⟨j, hj, ej⟩ := mod_lt (is.sum + i) (n := 16) (by decide)
  have hbe := K.be j hj
  have hb := mapAt (beside_all (X := X) (k := k + 1) (balS bs)) j (List.mem_range.mpr hj)
  obtain ⟨T, t1, t2, t3, t4⟩ := typed_ok (k := k) K (is.sum.natAbs * 7 + i * 31) (balS bs) hww
  refine ⟨beS.getD j 0, ?_⟩
  have hs1 : evE (cxK X (k + 2)) (.bi .sum [(.name 31)]) (locA is L ++ [(35, dI i), (53, dS (tS w))]) [balS bs] = some (dI is.sum, [balS bs]) := sum_e is rfl
  have hm : evE (cxK X (k + 2)) a1e (locA is L ++ [(35, dI i), (53, dS (tS w))]) [balS bs] = some (dI (j : Int), [balS bs]) := by
    rw [← ej]
    exact (bin_e (y := dI 16) (l2 := [balS bs]) ((bin_e (op := .add) (y := dI i) (l2 := [balS bs]) hs1 rfl).trans rfl) rfl).trans rfl
  have e1 := assign1 (mu := [45]) (n₀ := 1) (t := .name 54) (b := ⟨1, locW1 is L i w (beS.getD j 0), [balS bs]⟩) ((call_R (es0 hm)).trans hb) rfl
  have hs2 : evE (cxK X (k + 2)) (.bi .sum [(.name 31)]) (locW1 is L i w (beS.getD j 0)) [balS bs] = some (dI is.sum, [balS bs]) := sum_e is rfl
  have hab := (bi_e (b := .abs) (es0 hs2)).trans (show evBi [balS bs] .abs [dI is.sum] = some (dI (is.sum.natAbs : Int), [balS bs]) from rfl)
  have hm1 := (bin_e (op := .mul) (b := .lit (.int 7)) (y := dI 7) (l2 := [balS bs]) hab rfl).trans (mul_int (.inr (by decide)))
  have hm2 := (bin_e (cx := cxK X (k + 2)) (loc := locW1 is L i w (beS.getD j 0)) (led := [balS bs]) (op := .mul) (a := .name 35) (b := .lit (.int 31)) (x := dI i) (y := dI 31) (l1 := [balS bs]) (l2 := [balS bs]) rfl rfl).trans (mul_int (.inr (by decide)))
  have hm3 : evE (cxK X (k + 2)) a2e (locW1 is L i w (beS.getD j 0)) [balS bs] = some (dI ((is.sum.natAbs * 7 + i * 31 : Nat) : Int), [balS bs]) := by
    rw [Int.natCast_add, Int.natCast_mul, Int.natCast_mul]
    exact (bin_e hm1 hm2).trans rfl
  have h17 := (call_R (f := 17) (es1 (e := .name 53) (v := dS (tS w)) rfl (es0 hm3))).trans t1
  have hsz : T.length + (S1 (beS.getD j 0)).length ≤ cap := Nat.le_trans (Nat.succ_le_succ t4) (by decide)
  have hadd := (bin_e (op := .add) (b := .name 54) (y := dS (S1 (beS.getD j 0))) (l2 := [balS bs]) h17 rfl).trans (add_str hsz)
  have happ : (T ++ S1 (beS.getD j 0)).cps.toList = T.cps.toList ++ [beS.getD j 0] := Array.toList_append
  have hp := prepared_ok (X := X) (k := k) (T := T ++ S1 (beS.getD j 0)) (led := [balS bs]) (fun c hc => by
    rw [happ] at hc
    exact (List.mem_append.mp hc).elim (t2 c) fun q => (List.mem_singleton.mp q) ▸ hbe.1) (by show (T.cps ++ #[_]).size ≤ 100; rw [Array.size_append]; exact Nat.le_trans (Nat.succ_le_succ t4) (by decide))
  rw [happ, List.flatMap_append, t3, List.flatMap_cons, List.flatMap_nil, List.append_nil, hbe.2] at hp
  have e2 := assign1 (mu := [45]) (n₀ := 1) (t := .name 44) (b := ⟨1, locW2 is L i w (beS.getD j 0), [balS bs]⟩) ((call_R (f := 18) (es0 hadd)).trans hp) rfl
  generalize beS.getD j 0 = c at e1 e2
  have hcap : (tS w).length + (S1 c).length ≤ cap := by show w.length + 1 ≤ 4096; omega
  have ha := (bin_e (cx := cxK X (k + 2)) (loc := locW2 is L i w c) (led := [balS bs]) (op := .add) (a := .name 53) (b := .name 54) (x := dS (tS w)) (y := dS (S1 c)) (l1 := [balS bs]) (l2 := [balS bs]) rfl rfl).trans (add_str hcap)
  rw [show tS w ++ S1 c = tS (w ++ [c]) from tS_app w [c]] at ha
  have hc := cmp_e (a := .name 44) (op := .ne) (x := dS (tS (w ++ [c]))) (r := false) rfl ha (ne_is.trans (by rw [beq_self_eq_true]; rfl))
  have hap := (meth_e (m := .append) (o := .name 45) (v := .ref 0) (led := [balS bs]) rfl (app_at rfl) (es0 (mapAt (cut_all (X := X) (k := k + 2) (is := is) (L := L) (i := i) (c := c) (o := balS bs)) w hw))).trans (app_m (x := .str (tS w)) rfl (by rw [List.length_map]; exact Nat.lt_of_le_of_lt hbs (by decide)))
  have hbal : [balS bs].set 0 (.list ((bs.map fun b => .str (tS b)) ++ [.str (tS w)])) = [balS (bs ++ [w])] := by unfold balS; rw [List.map_append]; rfl
  rw [hbal] at hap
  exact (seq1 e1).trans ((seq1 e2).trans ((seq1 ((ite_f hc rfl).trans rfl)).trans (seq1 (expr1 hap))))
theorem ballot_loop (K : Kn X) : ∀ (ws : List (List Nat)) (i N : Nat) (bs : List (List Nat)), (∀ w ∈ ws, w ∈ ballots) → bs.length + ws.length ≤ 10 → ws.length < N →
    forLoop (.tup [(.name 35), (.name 53)]) (fun loc led' => evSs (cxK X (k + 2)) [45] 1 aBody loc led') N (.fz (enumD i (ws.map fun w => .str (tS w)))) (locA is L) [balS bs] = some (.nx, locA is L, [balS (bs ++ ws)])
  | ws, i, 0, bs, _, _, hN => absurd hN (Nat.not_lt_zero _)
  | [], i, N + 1, bs, _, _, _ => by rw [List.append_nil]; rfl
  | w :: ws, i, N + 1, bs, hw, hl, hN => by
    have hl' : bs.length + (ws.length + 1) ≤ 10 := hl
    obtain ⟨c, e⟩ := ballot_turn (k := k) (is := is) (L := L) K i (hw w (.head _)) bs (by omega)
    have r := ballot_loop K ws (i + 1) N (bs ++ [w]) (fun q hq => hw q (.tail _ hq)) (by rw [List.length_append]; show _ + 1 + _ ≤ _; omega) (Nat.lt_of_succ_lt_succ hN)
    rw [List.append_assoc] at r
    exact (for_step (loc3 := locA is L) (l3 := [balS (bs ++ [w])]) rfl e rfl).trans r
theorem law_ok (K : Kn X) (C : Cv X) (is : List Int) (his : is.length ≤ 63) : R X 20 23 [.lst (is.map .int)] [] = some (.d (.bool true), []) := by
  obtain ⟨L, I, hL, hrule⟩ := rule_ok (k := 16) K C is his
  have e1 := assign1 (mu := [45]) (n₀ := 0) (t := .tup [(.name 34), (.name 33)]) (b := ⟨0, [(31, .lst (is.map .int)), (34, .hdr (dL L)), (33, .lst (dL L))], []⟩) ((call_R (X := X) (k := 19) (f := 19) (as := [(.name 31)]) (loc := [(31, .lst (is.map .int))]) (led := []) (led' := []) (vs := [.lst (is.map .int)]) rfl).trans hrule) rfl
  have hit := (hm_R (X := X) (k := 19) (f := 3) (o := .name 34) (as := []) (v := .hdr (dL L)) (loc := [(31, .lst (is.map .int)), (34, .hdr (dL L)), (33, .lst (dL L))]) (led := []) rfl rfl rfl).trans (items_ok hL [])
  have hc := cmp_e (op := .ne) (b := .name 33) (y := .lst (dL L)) (r := false) (l2 := [.list (dL L)]) hit rfl (by
    show Option.map (!·) (dEqs (dL L) (dL L)) = _
    rw [dEqs_dL]; rfl)
  have e4 := (for_eq (mu := [45]) (n₀ := 0) (cx := cxK X 19) (t := .tup [(.name 35), (.name 53)]) (k := .enum) (b := aBody) (its := [(.list [(.lit (.str ⟨#[102, 105, 108]⟩)), (.lit (.str ⟨#[105, 102, 108]⟩)), (.lit (.str ⟨#[105, 108, 102]⟩)), (.lit (.str ⟨#[108, 105, 102]⟩))])]) (loc := locA is L) (led := [balS []])
    (vs := [.ref 1]) (src := .fz (enumD 0 (ballots.map fun w => .str (tS w)))) (l1 := [balS [], .list (ballots.map fun w => .str (tS w))]) rfl rfl).trans (ballot_loop (k := 17) K ballots 0 4096 [] (fun _ h => h) (by decide) (by decide))
  have hch : ∀ w : List Nat, ∃ c : Nat, w ∈ trip → c ∈ FIL ∧ getV L (tS w) = some (S1 c) := fun w => by
    by_cases hw : w ∈ trip
    · obtain ⟨c, hc⟩ := I.get hw; exact ⟨c, fun _ => hc⟩
    · exact ⟨0, fun h => absurd h hw⟩
  obtain ⟨ρ, hρ⟩ : ∃ ρ : List Nat → Nat, ∀ w ∈ trip, ρ w ∈ FIL ∧ getV L (tS w) = some (S1 (ρ w)) := ⟨fun w => Classical.choose (hch w), fun w hw => Classical.choose_spec (hch w) hw⟩
  have hρF : ∀ w ∈ trip, ρ w ∈ FIL := fun w hw => (hρ w hw).1
  have htold := told_ok (k := 14) C I hL (fun w hw => (hρ w hw).2) (balS ballots)
  have H1 := tells_kvsT ρ
  have H2 := tellsT_kvsT ρ
  generalize kvsT ρ = kvs at htold H1 H2
  have e5 := assign1 (mu := [45]) (n₀ := 0) (t := .name 38) (b := ⟨2, locA is L ++ [(38, .dct kvs)], [balS ballots]⟩) ((call_R (X := X) (k := 19) (f := 20) (as := [(.name 34), (.name 33)]) (loc := locA is L) (led := [balS ballots]) (led' := [balS ballots]) (vs := [.hdr (dL L), .lst (dL L)]) rfl).trans htold) rfl
  have hhelp := (call_R (X := X) (k := 19) (f := 21) (as := [(.name 38), (.name 45)]) (loc := locA is L ++ [(38, .dct kvs)]) (led := [balS ballots]) (led' := [balS ballots]) (vs := [.dct kvs, .ref 0]) rfl).trans (helping_ok (k := 17) H1 hρF)
  have e6 := assign1 (mu := [45]) (n₀ := 0) (t := .name 43) (b := ⟨1, locA is L ++ [(38, .dct kvs), (43, dI (helpAll ρ))], [balS ballots]⟩) ((ife_f (cx := cxK X 19) (c := .cmp (.name 38) .is (.lit .none)) (a := .lit .none) (loc := locA is L ++ [(38, .dct kvs)]) (led := [balS ballots]) (l1 := [balS ballots]) (x := .d (.bool false)) rfl rfl).trans hhelp) rfl
  have hmid := middle_ok (X := X) (k := 16) (o := balS ballots) H2
  have hz := zero_iff ρ hρF
  generalize helpAll ρ = z at e6 hz
  generalize trip.all (midT ρ) = m at hmid hz
  have hzm : (z == 0) = m := by
    cases m with
    | true => rw [hz.mpr rfl]; rfl
    | false => exact beq_eq_false_iff_ne.mpr fun q => Bool.noConfusion (hz.mp q)
  have hm2 := (call_R (X := X) (k := 19) (f := 22) (as := [(.name 38)]) (loc := locA is L ++ [(38, .dct kvs), (43, dI z)]) (led := [balS ballots]) (led' := [balS ballots]) (vs := [.dct kvs]) rfl).trans hmid
  have h0 : evE (cxK X 19) (.cmp (.name 43) .eq (.lit (.int 0))) (locA is L ++ [(38, .dct kvs), (43, dI z)]) [balS ballots] = some (.d (.bool m), [balS ballots]) := by
    rw [← hzm]; exact cmp_e (x := dI z) (y := dI 0) (l1 := [balS ballots]) rfl rfl rfl
  have e7 := (and_e (cx := cxK X 19) (a := .cmp (.name 43) .isnot (.lit .none)) (x := .d (.bool true)) (l1 := [balS ballots]) rfl rfl).trans (cmp_e (op := .eq) (r := true) h0 hm2 (by show some (m == m) = _; rw [beq_self_eq_true]))
  exact R_step (k := 19) (fn := m1f23) (loc := [(31, .lst (is.map .int))]) (fl := .ret (.d (.bool true))) rfl rfl ((seq1 e1).trans ((seq1 ((ite_f hc rfl).trans rfl)).trans ((seq1 (l := locA is L) (d := [balS []]) rfl).trans ((seq1 e4).trans ((seq1 e5).trans ((seq1 e6).trans (seqR (ret1 e7)))))))) rfl
end
end uk0030_01
end
section
set_option maxHeartbeats 0
namespace uk0030_01
open PySem PySem.W UK
noncomputable def X0 : Tab := ⟨cx0.conv, cx0.b3, cx0.b1⟩
noncomputable def chkC (c : Nat) (ex : List Nat) : Bool := decide (pcS X0 c = ex) && (decide (ex.length ≤ 8) && decide ((Txt.lower ⟨#[c]⟩).length ≤ cap))
theorem chkC_ok {c : Nat} {ex : List Nat} (h : chkC c ex = true) : okC X0 c ∧ pcS X0 c = ex := by
  obtain ⟨h1, h⟩ := andB h
  have h1 := of_decide_eq_true h1
  exact ⟨⟨by rw [h1]; exact of_decide_eq_true (andB h).1, of_decide_eq_true (andB h).2⟩, h1⟩
noncomputable def chkL : List (Nat × List Nat) := (unS.map fun c => (c, [])) ++ (beS.map fun c => (c, [c])) ++ (FIL.flatMap fun c => (List.range 12).map fun i => (leS2 c i, [c])) ++ [(64256, [102, 102]), (64257, [102, 105]), (64258, [102, 108]), (64259, [102, 102, 105]), (64260, [102, 102, 108])]
noncomputable def X1 : Tab := ⟨cx0.conv, fun c => (((prs.take 646).find? fun p => Int.beq' p.1 c).map fun p => some p.2).getD ((((prs.drop 646).find? fun p => Int.beq' p.1 c).map fun p => some p.2).getD none), cx0.b1⟩
noncomputable def b3X (o : Option Value) : Option Str := match o with
  | some (.str x _) => some x
  | _ => none
theorem find_ents {c : Int} {L : List DictEntry} (f : List HL.Pair → Nat → List DictEntry) (n : Nat) (h0 : ∀ k, f [] k = []) (h1 : ∀ q r k, f (q :: r) k = ⟨hashInt q.1, .int q.1 k, .str q.2 (k + 1)⟩ :: f r (k + n)) : ∀ ps k, b3X (((f ps k ++ L).find? fun e => Value.isInt c e.key).map (·.val)) = ((ps.find? fun p => Int.beq' p.1 c).map fun p => some p.2).getD (b3X ((L.find? fun e => Value.isInt c e.key).map (·.val)))
  | [], k => by rw [h0]; rfl
  | q :: r, k => by
    rw [h1, List.cons_append, List.find?_cons, List.find?_cons]
    show b3X ((match Value.isInt c (.int q.1 k) with | true => _ | false => _ : Option DictEntry).map _) = _
    rw [show Value.isInt c (.int q.1 k) = Int.beq' q.1 c from (Int.beq'_eq_beq q.1 c).symm]
    cases Int.beq' q.1 c with
    | true => rfl
    | false => exact find_ents f n h0 h1 r _
theorem X01 : X0 = X1 := congrArg (Tab.mk cx0.conv · cx0.b1) (funext fun c => by
  show b3X (findBy Value.isInt b3L.toArray c) = _
  unfold findBy b3L
  rw [List.find?_toArray, find_ents HL.ents 3 (fun _ => rfl) (fun _ _ _ => rfl), ← List.append_nil (HL.entsS _ _), find_ents HL.entsS 2 (fun _ => rfl) (fun _ _ _ => rfl)]
  rfl)
theorem ch_all : chkL.all (fun p => chkC p.1 p.2) = true := by
  unfold chkC
  rw [X01]
  kernel_rfl
theorem ch_in {p : Nat × List Nat} (h : p ∈ chkL) : okC X0 p.1 ∧ pcS X0 p.1 = p.2 := chkC_ok (List.all_eq_true.mp ch_all p h)
theorem getD_mem {l : List Nat} {i : Nat} (h : i < l.length) : l.getD i 0 ∈ l := by
  rw [List.getD_eq_getElem?_getD, List.getElem?_eq_getElem h]; exact List.getElem_mem h
theorem kn : Kn X0 where
  un := fun i hi => ch_in (List.mem_append_left _ (List.mem_append_left _ (List.mem_append_left _ (List.mem_map.mpr ⟨_, getD_mem (l := unS) hi, rfl⟩))))
  be := fun i hi => ch_in (List.mem_append_left _ (List.mem_append_left _ (List.mem_append_right _ (List.mem_map.mpr ⟨_, getD_mem (l := beS) hi, rfl⟩))))
  le := fun c hc i hi => ch_in (List.mem_append_left _ (List.mem_append_right _ (List.mem_flatMap.mpr ⟨c, hc, List.mem_map.mpr ⟨i, List.mem_range.mpr hi, rfl⟩⟩)))
  lig := fun p hp => ch_in (List.mem_append_right _ hp)
theorem ch_nm : trip.all (fun w => cx0.conv true (tS w) && cx0.conv true (tS (upL w))) = true := by kernel_rfl
theorem ch_vl : FIL.all (fun c => cx0.conv false ⟨#[c]⟩) = true := by kernel_rfl
theorem cv : Cv X0 where
  nm := fun w hw => andB (List.all_eq_true.mp ch_nm w hw)
  lif := ⟨by kernel_rfl, by kernel_rfl⟩
  vl := fun v hv => List.all_eq_true.mp ch_vl v hv
theorem plain1 (is : List Int) (h : is.length ≤ 63) : runF m1fns cx0 20 23 [.lst (is.map .int)] [] = some (.d (.bool true), []) := law_ok kn cv is h
end uk0030_01
end
section
open PySem PySem.W PySem.Spec PySem.Calls PyProof.Rows
set_option maxHeartbeats 0
open HL uk0030_01 UK
theorem laid_list {R : WRecords} {cl : Str → Option Addr} {P : Params} {ord : List DictEntry → List DictEntry} {xs : List WData} {s₀ s₁ : Shared} {a : Addr} {items : Array Value}
    (e : layAllW R cl P ord [.list xs] s₀ = some ([.ref a], s₁)) (hl : s₁.heap.IsList a items) : s₁.heap.get? a = some { cls := .type "list", data := .seq items } := by
  simp only [layAllW, layW] at e
  cases e1 : layAllW R cl P ord xs s₀ with
  | none => rw [e1] at e; cases e
  | some r =>
    rw [e1] at e
    simp only [Option.some.injEq, Prod.mk.injEq, List.cons.injEq, and_true] at e
    obtain ⟨ea, es⟩ := e
    cases ea
    subst es
    have hg : (r.2.heap.push { cls := .type "list", data := .seq r.1.toArray }).get? r.2.heap.objs.size = some { cls := .type "list", data := .seq r.1.toArray } := Heap.get?_push_size _ rfl
    obtain ⟨o, ho, _, n, hd⟩ := hl
    have ho' := hg.symm.trans ho
    cases ho'
    cases hd
    exact hg
theorem allIn_mem {h : Heap} : ∀ {K : Frag}, X.AllIn h K → ∀ p ∈ K, h.get? p.1 = some p.2
  | [], _, p, m => nomatch m
  | q :: K, x, p, m => by
    rcases List.mem_cons.mp m with rfl | m
    · exact x.1
    · exact allIn_mem x.2 p m
theorem ws : PySem.W.OpenLaw.wellSaid PySem.Challenge.rw_uk0030_01 = true := by kernel_rfl
set_option maxRecDepth 100000 in
set_option maxHeartbeats 0 in
theorem PySem.Challenge.cw_uk0030_01_holds : PySem.Challenge.rw_uk0030_01.Holds := by
  w_on
  refine holds_law ws fun said => ?_
  refine holds_stood (q := vw) (loose := looseL) stood rfl (by rfl) (by rfl) (by rfl) (by assumption) (by decide +kernel) ⟨rfl, rfl, rfl, rfl, rfl, by decide +kernel⟩ ?hw ?call
  case hw => w_witness2
  case call =>
    intro w s₀ s₁ mg mb G y fa o pm cd doc dV kV ho hd hcd hD hmg hg args vals as L hpre hlay hrd hwl hlo
    clear hd
    wrow_args hpre hlay hrd hwl hlo
    have ZZ := X.z_facts asF_is y
    rename_i is _ _ hL0 _ _ _ _ a vs _ hL ra _ _ hI _ hc1 _
    have X : Pre w s₁.heap mg mb := ⟨fun p hp => L.keeps _ _ (allIn_mem ZZ.1 p hp), G.T.g, G.T.b, G.T.nolimit, G.T.builtins⟩
    have hfa : fa = 340 := by
      have h1 : mg (Str.ofString "law") = some (.ref fa) := hmg
      rw [mg_is X] at h1
      have h2 : nsFind (es3 w.params) (Str.ofString "law") = some (.ref 340) := by kernel_rfl
      rw [h2] at h1
      cases h1; rfl
    subst hfa
    obtain ⟨ord, _, hlaid⟩ := L.laid
    have ha := laid_list (xs := ofPys (List.map PyData.int is)) hlaid hL
    refine wpAny_mono (law_walk X (s := s₁) rfl rfl rfl ha hI (plain1 is (by omega))) (fun v s' hp => ?_) fun _ _ x => x.elim
    obtain ⟨rfl, kp, hos, hgens⟩ := hp
    refine ⟨.inl ⟨_, _, [], rfl, fun _ => rfl, ReadsW.bool true, ?_, fun _ => ⟨List.nodup_nil, fun _ hm => (nomatch hm)⟩⟩, .of_keep kp, hos, .of_eq (hgens.trans hg)⟩
    first | rfl | wrow_post
end
