import PyProof.Rows.All
import Wide.All
import OpenK.AllK
import Wide.FinOn
import PySem.Challenge.RW_re0115_01
set_option Elab.async false
-- part Hd1
section
open PySem PySem.W PyProof.Rows PySem.Calls
namespace Mine

abbrev pp : Program := PySem.Challenge.pw_re0115_01

/-- add steps to a result -/
def addN {α : Type} (n : Nat) : Option (α × Shared × Pos × Nat) → Option (α × Shared × Pos × Nat)
  | none => none
  | some (a, s, p, m) => some (a, s, p, n + m)

def hashArg? : Code → Option Int
  | .call (.builtin id) ⟨[.int i _], []⟩ => if id = "int.__hash__" then some i else none
  | _ => none
theorem hashArg?_eq {c : Code} {i : Int} (h : hashArg? c = some i) : ∃ t, c = .call (.builtin "int.__hash__") ⟨[.int i t], []⟩ := by
  unfold hashArg? at h
  split at h
  · split at h
    · rename_i e; cases h; subst e; exact ⟨_, rfl⟩
    · cases h
  · cases h

/-- the value of a tree that makes no frames but the hash of an int -/
def ev (w : World) (n₀ : Nat) {α : Type} : Sem α → Shared → Pos → Option (α × Shared × Pos × Nat)
  | .pure a, s, p => some (a, s, p, 0)
  | .rule _ k, s, p => addN 1 (ev w n₀ (k ()) s p)
  | .at q k, s, _ => addN 1 (ev w n₀ (k ()) s q)
  | .load a _ k, s, p => match s.heap.get? a with
    | some o => addN 1 (ev w n₀ (k o) s p)
    | none => none
  | .update a _ f k, s, p => if (s.heap.get? a).isSome ∧ (n₀ ≤ a ∨ a = mainNs ∨ a = cStatics) then addN 1 (ev w n₀ (k ()) { s with heap := s.heap.update a f } p) else none
  | .alloc o k, s, p => addN 1 (ev w n₀ (k s.heap.objs.size) { s with heap := s.heap.push o } p)
  | .point _ k, s, p => addN 1 (ev w n₀ (k ()) s p)
  | .fresh k, s, p => addN 1 (ev w n₀ (k s.toks) { s with toks := s.toks + 1 } p)
  | .ask k, s, p => addN 1 (ev w n₀ (k ⟨pp, w.params⟩) s p)
  | .call c _ _ _ k, s, p => match hashArg? c with
    | some i => addN 4 (ev w n₀ (k (.ok (.ret (.int (rawHash i) s.toks)))) { s with toks := s.toks + 1 } p)
    | none => none
  | _, _, _ => none

section
variable {w : World} {n₀ : Nat} {α β : Type}

theorem addN_add (n m : Nat) (x : Option (α × Shared × Pos × Nat)) : addN n (addN m x) = addN (n + m) x := by
  cases x with
  | none => rfl
  | some r => obtain ⟨a, s, p, k⟩ := r; simp only [addN, Nat.add_assoc]
theorem addN_zero (x : Option (α × Shared × Pos × Nat)) : addN 0 x = x := by
  cases x with
  | none => rfl
  | some r => obtain ⟨a, s, p, k⟩ := r; simp only [addN, Nat.zero_add]

/-- what comes behind -/
def evB (w : World) (n₀ : Nat) (f : α → Sem β) : Option (α × Shared × Pos × Nat) → Option (β × Shared × Pos × Nat)
  | none => none
  | some (a, s, p, n) => addN n (ev w n₀ (f a) s p)
theorem evB_addN (f : α → Sem β) (n : Nat) (x : Option (α × Shared × Pos × Nat)) : evB w n₀ f (addN n x) = addN n (evB w n₀ f x) := by
  cases x with
  | none => rfl
  | some r => obtain ⟨a, s, p, k⟩ := r; rw [addN, evB, evB, addN_add]

theorem ev_wrap (K : α → Sem β) (H : Value → Sem β) (gd : Bool → Bool) (lv : List Value → List Value) (m : Sem α) :
    ∀ (s : Shared) (p : Pos) (r : α × Shared × Pos × Nat), ev w n₀ m s p = some r → ev w n₀ (m.wrap K H gd lv) s p = addN r.2.2.2 (ev w n₀ (K r.1) r.2.1 r.2.2.1) := by
  induction m with
  | pure a => intro s p r h; simp only [ev, Option.some.injEq] at h; subst h; simp only [Sem.wrap, addN_zero]
  | rule t k ih | «at» q k ih | alloc o k ih | point l k ih | fresh k ih | ask k ih =>
    intro s p r h
    simp only [ev] at h
    cases e : ev w n₀ (k _) _ _ with
    | none => rw [e] at h; cases h
    | some x =>
      rw [e] at h
      obtain ⟨a, s', p', n⟩ := x
      simp only [addN, Option.some.injEq] at h
      subst h
      simp only [Sem.wrap, ev, ih _ _ _ _ e, addN_add]
  | load a q k ih =>
    intro s p r h
    simp only [ev] at h
    cases ho : s.heap.get? a with
    | none => rw [ho] at h; cases h
    | some o =>
      rw [ho] at h
      dsimp only at h
      cases e : ev w n₀ (k o) s p with
      | none => rw [e] at h; cases h
      | some x =>
        rw [e] at h
        obtain ⟨a', s', p', n⟩ := x
        simp only [addN, Option.some.injEq] at h
        subst h
        simp only [Sem.wrap, ev, ho, ih _ _ _ _ e, addN_add]
  | update a q f k ih =>
    intro s p r h
    simp only [ev] at h
    split at h
    · rename_i hc
      cases e : ev w n₀ (k ()) { s with heap := s.heap.update a f } p with
      | none => rw [e] at h; cases h
      | some x =>
        rw [e] at h
        obtain ⟨a', s', p', n⟩ := x
        simp only [addN, Option.some.injEq] at h
        subst h
        simp only [Sem.wrap, ev, if_pos hc, ih _ _ _ _ e, addN_add]
    · cases h
  | call c hd g l k ih =>
    intro s p r h
    simp only [ev] at h
    cases hc : hashArg? c with
    | none => rw [hc] at h; cases h
    | some i =>
      rw [hc] at h
      dsimp only at h
      cases e : ev w n₀ (k (.ok (.ret (.int (rawHash i) s.toks)))) { s with toks := s.toks + 1 } p with
      | none => rw [e] at h; cases h
      | some x =>
        rw [e] at h
        obtain ⟨a', s', p', n⟩ := x
        simp only [addN, Option.some.injEq] at h
        subst h
        simp only [Sem.wrap, ev, hc, ih _ _ _ _ e, addN_add]
  | _ => intro s p r h; simp only [ev] at h; cases h
end
end Mine
end
-- part Hd2
section
open PySem PySem.W PyProof.Rows PySem.Calls
namespace Mine
set_option maxRecDepth 100000 in
theorem hash_steps (w : World) (n₀ : Nat) (ann : Option Value) (s : Shared) (i : Int) (t : Tok) (hd : Option Value) (g : Bool) (l : List Value) (K : Result → Sem Fin) (c : Code) (p q : Pos) :
    segGo treeTable pp w n₀ ann 1 4 s ⟨.call (.call (.builtin "int.__hash__") ⟨[.int i t], []⟩) hd g l K, c, p, [topFrame q]⟩ =
      some ({ s with toks := s.toks + 1 }, ⟨K (.ok (.ret (.int (rawHash i) s.toks))), c, p, [topFrame q]⟩) := by
  obtain ⟨heap, gens, drawn, toks, os⟩ := s
  rw [PySem.W.Fast.te3277212676724774461, PySem.W.Fast.te14364793385576792824]
  kernel_rfl!

theorem segGo_add {tb : String → Option Builtin} {p : Program} {w : World} {n₀ : Nat} {ann : Option Value} {b : Nat} : ∀ {n m : Nat} {s s' : Shared} {t t' : Thread} {r : Shared × Thread}, segGo tb p w n₀ ann b n s t = some (s', t') →
    segGo tb p w n₀ ann b m s' t' = some r → segGo tb p w n₀ ann b (n + m) s t = some r
  | 0, m, s, s', t, t', r, h, k => by
    obtain ⟨rfl, rfl⟩ : s = s' ∧ t = t' := by simpa [segGo] using h
    rw [Nat.zero_add]; exact k
  | n + 1, m, s, s', t, t', r, h, k => by
    rw [show n + 1 + m = n + m + 1 by omega]
    unfold segGo at h ⊢
    cases he : endAt b t with
    | some f => rw [he] at h; cases h
    | none =>
      rw [he] at h
      dsimp only at h ⊢
      cases hk : stepOk n₀ ann t with
      | false => rw [hk] at h; cases h
      | true =>
        rw [hk] at h
        dsimp only at h ⊢
        cases hs : step (denote tb) p w s t with
        | halt o s₂ => rw [hs] at h; cases h
        | go s₂ t₂ => rw [hs] at h; exact segGo_add h k

theorem segGo_one {tb : String → Option Builtin} {p : Program} {w : World} {n₀ : Nat} {ann : Option Value} {b m : Nat} {s s₂ : Shared} {t t₂ : Thread} {r : Shared × Thread} (he : endAt b t = none) (hk : stepOk n₀ ann t = true)
    (hs : step (denote tb) p w s t = .go s₂ t₂) (k : segGo tb p w n₀ ann b m s₂ t₂ = some r) : segGo tb p w n₀ ann b (1 + m) s t = some r := by
  rw [Nat.add_comm]
  unfold segGo
  rw [he]; dsimp only; rw [hk]; dsimp only; rw [hs]; exact k

theorem ev_sound {α : Type} {w : World} {n₀ : Nat} {ann : Option Value} {c : Code} {q : Pos} (K : α → Sem Fin) (H : Value → Sem Fin) (gd : Bool → Bool) (lv : List Value → List Value) (m : Sem α) :
    ∀ (s : Shared) (p : Pos) (r : α × Shared × Pos × Nat), ev w n₀ m s p = some r →
      segGo treeTable pp w n₀ ann 1 r.2.2.2 s ⟨m.wrap K H gd lv, c, p, [topFrame q]⟩ = some (r.2.1, ⟨K r.1, c, r.2.2.1, [topFrame q]⟩) := by
  induction m with
  | pure a => intro s p r h; simp only [ev, Option.some.injEq] at h; subst h; rfl
  | rule t k ih | «at» x k ih | alloc o k ih | point l k ih | fresh k ih | ask k ih =>
    intro s p r h
    obtain ⟨heap, gens, drawn, toks, os⟩ := s
    simp only [ev] at h
    cases e : ev w n₀ (k _) _ _ with
    | none => rw [e] at h; cases h
    | some x =>
      rw [e] at h
      obtain ⟨a, s', p', n⟩ := x
      simp only [addN, Option.some.injEq] at h
      subst h
      exact segGo_one rfl rfl rfl (ih _ _ _ _ e)
  | load a x k ih =>
    intro s p r h
    obtain ⟨heap, gens, drawn, toks, os⟩ := s
    simp only [ev] at h
    cases ho : heap.get? a with
    | none => rw [ho] at h; cases h
    | some o =>
      rw [ho] at h
      dsimp only at h
      cases e : ev w n₀ (k o) ⟨heap, gens, drawn, toks, os⟩ p with
      | none => rw [e] at h; cases h
      | some x =>
        rw [e] at h
        obtain ⟨a', s', p', n⟩ := x
        simp only [addN, Option.some.injEq] at h
        subst h
        exact segGo_one rfl rfl (by simp only [Sem.wrap, step, ho]) (ih _ _ _ _ e)
  | update a x f k ih =>
    intro s p r h
    obtain ⟨heap, gens, drawn, toks, os⟩ := s
    simp only [ev] at h
    split at h
    · rename_i hc
      cases e : ev w n₀ (k ()) ⟨heap.update a f, gens, drawn, toks, os⟩ p with
      | none => rw [e] at h; cases h
      | some x =>
        rw [e] at h
        obtain ⟨a', s', p', n⟩ := x
        simp only [addN, Option.some.injEq] at h
        subst h
        refine segGo_one rfl ?_ (by simp only [Sem.wrap, step, hc.1, if_true]) (ih _ _ _ _ e)
        have hc2 := hc.2
        show (true && (Nat.ble n₀ a || a == mainNs || a == cStatics || ann == some (.ref a))) = true
        rcases hc2 with h1 | h1 | h1
        · rw [Nat.ble_eq_true_of_le h1]; rfl
        · rw [beq_iff_eq.mpr h1]; simp
        · rw [beq_iff_eq.mpr h1]; simp
    · cases h
  | call cd hd g l k ih =>
    intro s p r h
    simp only [ev] at h
    cases hc : hashArg? cd with
    | none => rw [hc] at h; cases h
    | some i =>
      rw [hc] at h
      dsimp only at h
      cases e : ev w n₀ (k (.ok (.ret (.int (rawHash i) s.toks)))) { s with toks := s.toks + 1 } p with
      | none => rw [e] at h; cases h
      | some x =>
        rw [e] at h
        obtain ⟨a', s', p', n⟩ := x
        simp only [addN, Option.some.injEq] at h
        subst h
        obtain ⟨t, rfl⟩ := hashArg?_eq hc
        exact segGo_add (hash_steps w n₀ ann s i t hd (gd g) (lv l) _ c p q) (ih _ _ _ _ e)
  | _ => intro s p r h; simp only [ev] at h; cases h

/-- a whole statement -/
theorem ev_piece {w : World} {n₀ : Nat} {ann : Option Value} {c : Code} {q : Pos} {st : Stmt} {env : Env} {s s' : Shared} {p p' : Pos} {n : Nat} (h : ev w n₀ (exec st env) s p = some (.next, s', p', n)) :
    segRun treeTable pp w n₀ ann 1 (n + 1) s (pieceOf st env c p [topFrame q]) = some (.next, s', c, p') :=
  seg_go (ev_sound doneF deadEnd id id (exec st env) s p _ h) rfl
end Mine
end
-- part Hd3
section
open PySem PySem.W PyProof.Rows PySem.Calls
namespace Mine
section
variable {w : World} {n₀ : Nat} {α β : Type} {s s' s'' : Shared} {p p' p'' : Pos} {n m : Nat}

theorem ev_bind {t : Sem α} {f : α → Sem β} {a : α} {b : β} (h : ev w n₀ t s p = some (a, s', p', n)) (k : ev w n₀ (f a) s' p' = some (b, s'', p'', m)) : ev w n₀ (t >>= f) s p = some (b, s'', p'', n + m) := by
  rw [Sem.bind_eq_wrap', ev_wrap f .raise id id t s p _ h]
  show addN n (ev w n₀ (f a) s' p') = _
  rw [k]; rfl
theorem ev_holding {vs : List Value} {t : Sem α} {a : α} (h : ev w n₀ t s p = some (a, s', p', n)) : ev w n₀ (holding vs t) s p = some (a, s', p', n) := by
  unfold holding
  split
  · exact h
  · rw [Sem.keep_eq_wrap, ev_wrap _ _ _ _ t s p _ h]; rfl
theorem ev_onRaise {t : Sem α} {hd : Value → Sem Unit} {a : α} (h : ev w n₀ t s p = some (a, s', p', n)) : ev w n₀ (t.onRaise hd) s p = some (a, s', p', n) := by
  rw [Sem.onRaise_eq_wrap, ev_wrap _ _ _ _ t s p _ h]; rfl
theorem ev_tryCatch {t : Sem α} {hd : Value → Sem α} {a : α} (h : ev w n₀ t s p = some (a, s', p', n)) : ev w n₀ (t.tryCatch hd) s p = some (a, s', p', n) := by
  rw [Sem.tryCatch_eq_wrap, ev_wrap _ _ _ _ t s p _ h]; rfl
theorem ev_pure {a : α} : ev w n₀ (pure a) s p = some (a, s, p, 0) := rfl
theorem ev_rule {tag : String} : ev w n₀ (rule tag) s p = some ((), s, p, 1) := rfl
theorem ev_loadPart {a : Addr} {part : Option Value} {o : Obj} (ho : s.heap.get? a = some o) : ev w n₀ (loadPart a part) s p = some (o, s, p, 1) := by
  show ev w n₀ (.load a part .pure) s p = _
  simp only [ev, ho]; rfl
theorem ev_updatePart {a : Addr} {part : Option Value} {f : Obj → Obj} {o : Obj} (ho : s.heap.get? a = some o) (hn : n₀ ≤ a) : ev w n₀ (updatePart a part f) s p = some ((), { s with heap := s.heap.update a f }, p, 1) := by
  show ev w n₀ (.update a part f .pure) s p = _
  simp only [ev]
  rw [if_pos ⟨by rw [ho]; rfl, .inl hn⟩]; rfl
theorem ev_alloc {o : Obj} : ev w n₀ (alloc o) s p = some (s.heap.objs.size, { s with heap := s.heap.push o }, p, 1) := rfl
theorem ev_ask : ev w n₀ ask s p = some (⟨pp, w.params⟩, s, p, 1) := rfl
theorem ev_mkInt {i : Int} : ev w n₀ (mkInt i) s p = some (.int i s.toks, { s with toks := s.toks + 1 }, p, 1) := rfl

/-- the hash of an int -/
theorem ev_pyHash {k : Int} {t : Tok} : ev w n₀ (pyHash (.int k t)) s p = some (hashInt k, { s with toks := s.toks + 1 }, p, 5) := by
  have hr := rawHash_range k
  have hl : specialOf (.int k t) (Str.ofString "__hash__") = pure (some (.builtin "int.__hash__")) := by
    unfold specialOf
    show (typeLookup (.type "int") (Str.ofString "__hash__") : Sem _) = _
    exact slot_int_hash.lookup
  unfold pyHash
  show ev w n₀ (pyHashByItsType (.int k t)) s p = _
  unfold pyHashByItsType
  refine ev_bind (n := 0) (m := 5) (a := ()) rfl ?_
  rw [hl]
  refine ev_bind (n := 0) (m := 5) ev_pure ?_
  show ev w n₀ (pure (some (Value.builtin "int.__hash__")) >>= _) s p = _
  refine ev_bind (n := 0) (m := 5) ev_pure ?_
  show ev w n₀ (callSpecialIfBoundUnlessNone? (.int k t) (Str.ofString "__hash__") _ >>= _) s p = _
  have hb : ev w n₀ (bindSpecialIfBound? (.int k t) (Str.ofString "__hash__")) s p = some (some (.builtin "int.__hash__", [.int k t]), s, p, 1) := by
    unfold bindSpecialIfBound?
    rw [hl]
    refine ev_bind (n := 0) (m := 1) ev_pure ?_
    refine ev_bind (n := 1) (m := 0) ev_ask ?_
    rw [slot_int_hash.bind]
    dsimp only
    split
    · rfl
    · rfl
  refine ev_bind (n := 5) (m := 0) (a := some (.int (rawHash k) s.toks)) (s' := { s with toks := s.toks + 1 }) (p' := p) ?_ ?_
  · unfold callSpecialIfBoundUnlessNone?
    refine ev_holding (ev_bind (n := 1) (m := 4) hb ?_)
    rfl
  · show ev w n₀ (pyHashByItsType.reduced (rawHash k)) _ p = _
    unfold pyHashByItsType.reduced
    rw [if_pos (by rw [decide_eq_true hr.1, decide_eq_true hr.2]; rfl)]
    rfl
end
end Mine
end
-- part Hd4
section
open PySem PySem.W PyProof.Rows PySem.Calls
namespace Mine
section
variable {w : World} {n₀ : Nat} {α β : Type} {s s' s'' : Shared} {p p' p'' : Pos} {n m : Nat}

abbrev dObj (es : Array DictEntry) (e : Nat) : Obj := { cls := .type "dict", data := .dict es e }

theorem places_nil {es : Array DictEntry} {h : Int} (hf : ∀ e ∈ es, e.hash ≠ h) : placesWithHash es.size (fun i => es[i]?.map (·.hash)) h = [] := by
  unfold placesWithHash
  rw [List.filter_eq_nil_iff]
  intro i hi
  have hi' := List.mem_range.mp hi
  dsimp only
  rw [Array.getElem?_eq_getElem hi']
  simp only [Option.map_some, beq_iff_eq, Option.some.injEq]
  exact hf _ (Array.getElem_mem hi')

theorem ev_dictFind_none {d : Addr} {es : Array DictEntry} {e : Nat} {k h : Int} {t : Tok} (ho : s.heap.get? d = some (dObj es e)) (hf : ∀ x ∈ es, x.hash ≠ h) :
    ev w n₀ (dictFind d (.int k t) h) s p = some (none, s, p, 1) := by
  unfold dictFind
  refine ev_holding ?_
  refine ev_bind (n := 1) (m := 0) (a := es) (s' := s) (p' := p) ?_ ?_
  · unfold dictEntries
    exact ev_bind (n := 1) (m := 0) (ev_loadPart ho) rfl
  · dsimp only
    rw [places_nil hf]
    rfl

theorem mapDictKeys_dObj {es : Array DictEntry} {e : Nat} {f : Array DictEntry → Array DictEntry} : Obj.mapDictKeys f (dObj es e) = dObj (f es) (e + 1) := rfl

theorem get_update_self {h : Heap} {d : Addr} {o : Obj} {f : Obj → Obj} (ho : h.get? d = some o) (hfree : (f o).isFreed = false) : (h.update d f).get? d = some (f o) := Heap.get?_update_self _ ho hfree

theorem ev_updateDictKeys {d : Addr} {es : Array DictEntry} {e : Nat} {part : Option Value} {x : DictEntry} (ho : s.heap.get? d = some (dObj es e)) (hn : n₀ ≤ d) (hs : es.size ≤ 10000) :
    ev w n₀ (updateDictKeys d (·.push x) part) s p = some ((), { s with heap := s.heap.update d (Obj.mapDictKeys (·.push x)) }, p, 3) := by
  unfold updateDictKeys
  refine ev_bind (n := 1) (m := 2) (ev_loadPart ho) ?_
  refine ev_bind (n := 1) (m := 1) (ev_updatePart ho hn) ?_
  unfold lookBehind
  refine ev_bind (n := 1) (m := 0) (ev_loadPart (get_update_self ho rfl)) ?_
  rw [mapDictKeys_dObj]
  have : (dObj (es.push x) (e + 1)).data.pastItsLine = none := by
    show (if (es.push x).size > sizeLine + 1 then some "dict:memory" else none) = none
    rw [if_neg]
    rw [Array.size_push, sizeLine_eq]; omega
  rw [this]
  rfl

theorem ev_dictSet {d : Addr} {es : Array DictEntry} {e : Nat} {k : Int} {t : Tok} {v : Value} (ho : s.heap.get? d = some (dObj es e)) (hn : n₀ ≤ d) (hs : es.size ≤ 10000) (hf : ∀ x ∈ es, x.hash ≠ hashInt k) :
    ev w n₀ (dictSet d (.int k t) v) s p = some ((), { s with heap := s.heap.update d (Obj.mapDictKeys (·.push ⟨hashInt k, .int k t, v⟩)), toks := s.toks + 1 }, p, 10) := by
  unfold dictSet
  refine ev_holding (ev_bind (n := 5) (m := 5) ev_pyHash ?_)
  unfold dictSetHashed
  refine ev_holding (ev_bind (n := 1) (m := 4) (ev_dictFind_none (s := { s with toks := s.toks + 1 }) ho hf) ?_)
  refine ev_bind (n := 1) (m := 3) ev_rule ?_
  exact ev_updateDictKeys (s := { s with toks := s.toks + 1 }) ho hn hs

/-- objects laid on top -/
def onto (h : Heap) (l : List Obj) : Heap := ⟨h.objs ++ l.toArray, h.life⟩
theorem onto_size (h : Heap) (l : List Obj) : (onto h l).objs.size = h.objs.size + l.length := by simp [onto]
theorem onto_push (h : Heap) (l : List Obj) (o : Obj) : (onto h l).push o = onto h (l ++ [o]) := by
  show Heap.mk _ _ = Heap.mk _ _
  congr 1
  show (h.objs ++ l.toArray).push o = h.objs ++ (l ++ [o]).toArray
  rw [← List.push_toArray, Array.append_push]
theorem onto_nil (h : Heap) : onto h [] = h := by
  obtain ⟨o, l⟩ := h
  show Heap.mk _ _ = Heap.mk _ _
  simp
theorem onto_get (h : Heap) (l : List Obj) (i : Nat) (o : Obj) (hl : l[i]? = some o) (hf : o.isFreed = false) : (onto h l).get? (h.objs.size + i) = some o := by
  unfold Heap.get?
  have : (onto h l).objs[h.objs.size + i]? = some o := by
    show (h.objs ++ l.toArray)[h.objs.size + i]? = some o
    rw [Array.getElem?_append_right (by omega)]
    simpa using hl
  rw [this]
  obtain ⟨c, d, dt, sl⟩ := o
  cases dt <;> first | rfl | (simp [Obj.isFreed] at hf)
theorem onto_update (h : Heap) (l : List Obj) (i : Nat) (f : Obj → Obj) : (onto h l).update (h.objs.size + i) f = onto h (l.modify i f) := by
  show Heap.mk _ _ = Heap.mk _ _
  congr 1
  show (h.objs ++ l.toArray).modify (h.objs.size + i) f = h.objs ++ (l.modify i f).toArray
  apply Array.ext_getElem?
  intro j
  rw [Array.getElem?_modify]
  by_cases hj : j < h.objs.size
  · rw [Array.getElem?_append_left hj, Array.getElem?_append_left hj]
    simp; omega
  · rw [Array.getElem?_append_right (by omega), Array.getElem?_append_right (by omega)]
    simp only [List.getElem?_toArray, List.getElem?_modify]
    by_cases e : h.objs.size + i = j
    · rw [if_pos e]
      have : i = j - h.objs.size := by omega
      simp [this]
    · rw [if_neg e]
      have : ¬ i = j - h.objs.size := by omega
      simp [this]
end
end Mine
end
-- part Hd5
section
open PySem PySem.W PyProof.Rows PySem.Calls
namespace Mine
section
variable {w : World} {n₀ : Nat} {α β : Type} {s s' s'' : Shared} {p p' p'' : Pos} {n m : Nat}

abbrev vT (pos : Pos) (v : Str) : Sem Value := do let x ← mkText v; standAt pos; pure x
abbrev pairT (pos : Pos) (kv : Int × Str) : Sem Value × Sem Value := (mkInt kv.1, vT pos kv.2)
/-- entries as the long road lays them -/
def entL (t : Nat) : List (Int × Str) → List DictEntry
  | [] => []
  | kv :: r => ⟨hashInt kv.1, .int kv.1 t, .str kv.2 (t + 1)⟩ :: entL (t + 3) r
theorem entL_length (t : Nat) (l : List (Int × Str)) : (entL t l).length = l.length := by
  induction l generalizing t with
  | nil => rfl
  | cons a r ih => simp only [entL, List.length_cons, ih]
theorem entL_hash {t : Nat} {l : List (Int × Str)} {e : DictEntry} (h : e ∈ entL t l) : ∃ kv ∈ l, e.hash = hashInt kv.1 := by
  induction l generalizing t with
  | nil => cases h
  | cons a r ih =>
    cases h with
    | head => exact ⟨a, .head _, rfl⟩
    | tail _ h => obtain ⟨kv, h1, h2⟩ := ih h; exact ⟨kv, .tail _ h1, h2⟩
def keysApart (l : List (Int × Str)) : Prop := l.Pairwise fun a b => hashInt a.1 ≠ hashInt b.1

theorem ev_vT {pos : Pos} {v : Str} : ev w n₀ (vT pos v) s p = some (.str v s.toks, { s with toks := s.toks + 1 }, pos, 2) := rfl

theorem get_last (h : Heap) (l : List Obj) (o : Obj) (hf : o.isFreed = false) : (onto h (l ++ [o])).get? (h.objs.size + l.length) = some o :=
  onto_get h (l ++ [o]) l.length o (by simp) hf
theorem update_last (h : Heap) (l : List Obj) (o : Obj) (f : Obj → Obj) : (onto h (l ++ [o])).update (h.objs.size + l.length) f = onto h (l ++ [f o]) := by
  rw [onto_update]
  congr 1
  induction l with
  | nil => rfl
  | cons a r ih => simp only [List.cons_append, List.length_cons, List.modify_succ_cons, ih]

theorem ev_longLoop {h : Heap} {l : List Obj} {pos : Pos} {os : OsState} {gens : Array GenState} {drawn : Drawn} : ∀ (kvs : List (Int × Str)) (es : Array DictEntry) (e t : Nat),
    n₀ ≤ h.objs.size → es.size + kvs.length ≤ 10000 → keysApart kvs → (∀ x ∈ es, ∀ kv ∈ kvs, x.hash ≠ hashInt kv.1) →
    ev w n₀ (forIn (kvs.map (pairT pos)) PUnit.unit fun (x : Sem Value × Sem Value) (_ : PUnit) => (do
        let kv ← x.1
        let vv ← holding [kv] x.2
        holding [kv, vv] (dictSet (h.objs.size + l.length) kv vv)
        pure (ForInStep.yield PUnit.unit) : Sem (ForInStep PUnit))) ⟨onto h (l ++ [dObj es e]), gens, drawn, t, os⟩ pos =
      some (PUnit.unit, ⟨onto h (l ++ [dObj (es ++ (entL t kvs).toArray) (e + kvs.length)]), gens, drawn, t + 3 * kvs.length, os⟩, pos, 13 * kvs.length)
  | [], es, e, t, _, _, _, _ => by
    simp only [List.map_nil, List.forIn_nil, entL]
    simp [ev_pure]
  | kv :: r, es, e, t, hn, hsz, hap, hf => by
    rw [List.map_cons, List.forIn_cons]
    have hlen : (kv :: r).length = r.length + 1 := rfl
    have hap' := List.pairwise_cons.mp hap
    have ih := ev_longLoop (h := h) (l := l) (pos := pos) (os := os) (gens := gens) (drawn := drawn) r (es.push ⟨hashInt kv.1, .int kv.1 t, .str kv.2 (t + 1)⟩) (e + 1) (t + 3) hn (by rw [Array.size_push]; omega) hap'.2 (fun x hx kv' hkv' => by
      rcases Array.mem_push.mp hx with hx | rfl
      · exact hf x hx kv' (.tail _ hkv')
      · exact hap'.1 kv' hkv')
    have e1 : es ++ (entL t (kv :: r)).toArray = es.push ⟨hashInt kv.1, .int kv.1 t, .str kv.2 (t + 1)⟩ ++ (entL (t + 3) r).toArray := by
      simp [entL]
    rw [e1, hlen, show e + (r.length + 1) = e + 1 + r.length by omega, show t + 3 * (r.length + 1) = t + 3 + 3 * r.length by omega, show 13 * (r.length + 1) = 13 + 13 * r.length by omega]
    refine ev_bind (n := 13) (m := 13 * r.length) (a := ForInStep.yield PUnit.unit) ?_ ih
    refine ev_bind (n := 1) (m := 12) (a := .int kv.1 t) rfl ?_
    refine ev_bind (n := 2) (m := 10) (a := .str kv.2 (t + 1)) (ev_holding ev_vT) ?_
    refine ev_bind (n := 10) (m := 0) (a := ()) (ev_holding (ev_dictSet (es := es) (e := e) (get_last _ _ _ rfl) (by omega) (by omega) (fun x hx => hf x hx kv (.head _)))) ?_
    dsimp only
    rw [update_last]
    rfl

theorem ev_subDict_long {h : Heap} {l : List Obj} {pos : Pos} {os : OsState} {gens : Array GenState} {drawn : Drawn} {t : Nat} {kvs : List (Int × Str)} (hl : 15 < kvs.length) (hs : kvs.length ≤ 10000) (hn : n₀ ≤ h.objs.size) (hap : keysApart kvs) :
    ev w n₀ (subDict (kvs.map (pairT pos))) ⟨onto h l, gens, drawn, t, os⟩ pos =
      some (h.objs.size + l.length, ⟨onto h (l ++ [dObj (entL t kvs).toArray kvs.length]), gens, drawn, t + 3 * kvs.length, os⟩, pos, 1 + (1 + 13 * kvs.length)) := by
  unfold subDict
  refine ev_bind (n := 1) (m := 1 + 13 * kvs.length) (a := h.objs.size + l.length) (s' := ⟨onto h (l ++ [dObj #[] 0]), gens, drawn, t, os⟩) (p' := pos) ?_ ?_
  · rw [ev_alloc]
    dsimp only
    rw [onto_size, onto_push]
  · refine ev_bind (n := 1 + 13 * kvs.length) (m := 0) (a := PUnit.unit) (s' := ⟨onto h (l ++ [dObj (entL t kvs).toArray kvs.length]), gens, drawn, t + 3 * kvs.length, os⟩) (p' := pos) (ev_holding ?_) rfl
    rw [if_neg (by rw [List.length_map]; omega)]
    refine ev_bind (n := 1) (m := 13 * kvs.length) ev_rule ?_
    have := ev_longLoop (w := w) (n₀ := n₀) (h := h) (l := l) (pos := pos) (os := os) (gens := gens) (drawn := drawn) kvs #[] 0 t hn (by simp; omega) hap (fun x hx => by simp at hx)
    simp only [Array.empty_append, Nat.zero_add] at this
    exact ev_bind (n := 13 * kvs.length) (m := 0) this rfl

/-- entries as the short road lays them -/
def entS (t : Nat) : List (Int × Str) → List DictEntry
  | [] => []
  | kv :: r => ⟨hashInt kv.1, .int kv.1 t, .str kv.2 (t + 1)⟩ :: entS (t + 2) r
theorem entS_length (t : Nat) (l : List (Int × Str)) : (entS t l).length = l.length := by
  induction l generalizing t with
  | nil => rfl
  | cons a r ih => simp only [entS, List.length_cons, ih]
theorem entS_hash {t : Nat} {l : List (Int × Str)} {e : DictEntry} (h : e ∈ entS t l) : ∃ kv ∈ l, e.hash = hashInt kv.1 := by
  induction l generalizing t with
  | nil => cases h
  | cons a r ih =>
    cases h with
    | head => exact ⟨a, .head _, rfl⟩
    | tail _ h => obtain ⟨kv, h1, h2⟩ := ih h; exact ⟨kv, .tail _ h1, h2⟩
def valS (t : Nat) : List (Int × Str) → List (Value × Value)
  | [] => []
  | kv :: r => (.int kv.1 t, .str kv.2 (t + 1)) :: valS (t + 2) r
theorem valS_length (t : Nat) (l : List (Int × Str)) : (valS t l).length = l.length := by
  induction l generalizing t with
  | nil => rfl
  | cons a r ih => simp only [valS, List.length_cons, ih]

theorem ev_evalPairs {heap : Heap} {pos : Pos} {os : OsState} {gens : Array GenState} {drawn : Drawn} : ∀ (kvs : List (Int × Str)) (t : Nat),
    ev w n₀ (evalPairs (kvs.map (pairT pos))) ⟨heap, gens, drawn, t, os⟩ pos = some (valS t kvs, ⟨heap, gens, drawn, t + 2 * kvs.length, os⟩, pos, 3 * kvs.length)
  | [], t => by simp [evalPairs, valS, ev_pure]
  | kv :: r, t => by
    rw [List.map_cons, evalPairs]
    rw [show (kv :: r).length = r.length + 1 from rfl, show t + 2 * (r.length + 1) = t + 2 + 2 * r.length by omega, show 3 * (r.length + 1) = 1 + (2 + (3 * r.length + 0)) by omega]
    refine ev_bind (n := 1) (a := .int kv.1 t) rfl ?_
    refine ev_bind (n := 2) (a := .str kv.2 (t + 1)) (ev_holding ev_vT) ?_
    exact ev_bind (n := 3 * r.length) (m := 0) (ev_holding (ev_evalPairs r (t + 2))) rfl

theorem ev_storeS {h : Heap} {l : List Obj} {pos : Pos} {os : OsState} {gens : Array GenState} {drawn : Drawn} : ∀ (kvs : List (Int × Str)) (es : Array DictEntry) (e u t : Nat),
    n₀ ≤ h.objs.size → es.size + kvs.length ≤ 10000 → keysApart kvs → (∀ x ∈ es, ∀ kv ∈ kvs, x.hash ≠ hashInt kv.1) →
    ev w n₀ (forIn (valS u kvs) PUnit.unit fun (x : Value × Value) (_ : PUnit) => (do
        dictSet (h.objs.size + l.length) x.1 x.2
        pure (ForInStep.yield PUnit.unit) : Sem (ForInStep PUnit))) ⟨onto h (l ++ [dObj es e]), gens, drawn, t, os⟩ pos =
      some (PUnit.unit, ⟨onto h (l ++ [dObj (es ++ (entS u kvs).toArray) (e + kvs.length)]), gens, drawn, t + kvs.length, os⟩, pos, 10 * kvs.length)
  | [], es, e, u, t, _, _, _, _ => by
    simp only [valS, List.forIn_nil, entS]
    simp [ev_pure]
  | kv :: r, es, e, u, t, hn, hsz, hap, hf => by
    rw [valS, List.forIn_cons]
    have hlen : (kv :: r).length = r.length + 1 := rfl
    have hap' := List.pairwise_cons.mp hap
    have ih := ev_storeS (h := h) (l := l) (pos := pos) (os := os) (gens := gens) (drawn := drawn) r (es.push ⟨hashInt kv.1, .int kv.1 u, .str kv.2 (u + 1)⟩) (e + 1) (u + 2) (t + 1) hn (by rw [Array.size_push]; omega) hap'.2 (fun x hx kv' hkv' => by
      rcases Array.mem_push.mp hx with hx | rfl
      · exact hf x hx kv' (.tail _ hkv')
      · exact hap'.1 kv' hkv')
    have e1 : es ++ (entS u (kv :: r)).toArray = es.push ⟨hashInt kv.1, .int kv.1 u, .str kv.2 (u + 1)⟩ ++ (entS (u + 2) r).toArray := by
      simp [entS]
    rw [e1, hlen, show e + (r.length + 1) = e + 1 + r.length by omega, show t + (r.length + 1) = t + 1 + r.length by omega, show 10 * (r.length + 1) = 10 + 10 * r.length by omega]
    refine ev_bind (n := 10) (m := 10 * r.length) (a := ForInStep.yield PUnit.unit) ?_ ih
    refine ev_bind (n := 10) (m := 0) (a := ()) (ev_dictSet (es := es) (e := e) (get_last _ _ _ rfl) (by omega) (by omega) (fun x hx => hf x hx kv (.head _))) ?_
    dsimp only
    rw [update_last]
    rfl

theorem ev_subDict_short {h : Heap} {l : List Obj} {pos : Pos} {os : OsState} {gens : Array GenState} {drawn : Drawn} {t : Nat} {kvs : List (Int × Str)} (hl : kvs.length ≤ 15) (hn : n₀ ≤ h.objs.size) (hap : keysApart kvs) :
    ev w n₀ (subDict (kvs.map (pairT pos))) ⟨onto h l, gens, drawn, t, os⟩ pos =
      some (h.objs.size + l.length, ⟨onto h (l ++ [dObj (entS t kvs).toArray kvs.length]), gens, drawn, t + 2 * kvs.length + kvs.length, os⟩, pos, 1 + (3 * kvs.length + 10 * kvs.length)) := by
  unfold subDict
  refine ev_bind (n := 1) (m := 3 * kvs.length + 10 * kvs.length) (a := h.objs.size + l.length) (s' := ⟨onto h (l ++ [dObj #[] 0]), gens, drawn, t, os⟩) (p' := pos) ?_ ?_
  · rw [ev_alloc]
    dsimp only
    rw [onto_size, onto_push]
  · refine ev_bind (n := 3 * kvs.length + 10 * kvs.length) (m := 0) (a := PUnit.unit) (s' := ⟨onto h (l ++ [dObj (entS t kvs).toArray kvs.length]), gens, drawn, t + 2 * kvs.length + kvs.length, os⟩) (p' := pos) (ev_holding ?_) rfl
    rw [if_pos (by rw [List.length_map]; omega)]
    refine ev_bind (n := 3 * kvs.length) (m := 10 * kvs.length) (ev_evalPairs kvs t) (ev_holding ?_)
    have := ev_storeS (w := w) (n₀ := n₀) (h := h) (l := l) (pos := pos) (os := os) (gens := gens) (drawn := drawn) kvs #[] 0 t (t + 2 * kvs.length) hn (by simp; omega) hap (fun x hx => by simp at hx)
    simp only [Array.empty_append, Nat.zero_add] at this
    exact ev_bind (n := 10 * kvs.length) (m := 0) this rfl
end
end Mine
end
-- part Hd6
section
open PySem PySem.W PyProof.Rows PySem.Calls
namespace Mine
section
variable {w : World} {n₀ : Nat} {α β : Type} {s s' s'' : Shared} {p p' p'' : Pos} {n m : Nat}

theorem ev_typeOf_ref {a : Addr} {o : Obj} (ho : s.heap.get? a = some o) : ev w n₀ (typeOf (.ref a)) s p = some (o.cls, s, p, 1) :=
  ev_bind (n := 1) (m := 0) (ev_loadPart ho) rfl
theorem ev_isInstance_dict {a : Addr} {es : Array DictEntry} {e : Nat} (ho : s.heap.get? a = some (dObj es e)) : ev w n₀ (isInstance (.ref a) (.type "dict")) s p = some (true, s, p, 1) := by
  unfold isInstance
  refine ev_bind (n := 1) (m := 0) (ev_typeOf_ref ho) ?_
  rw [show (dObj es e).cls = .type "dict" from rfl, isSubtype_dict_dict]
  rfl
theorem ev_special_iter {a : Addr} {es : Array DictEntry} {e : Nat} (ho : s.heap.get? a = some (dObj es e)) : ev w n₀ (specialOf (.ref a) (Str.ofString "__iter__")) s p = some (some (.builtin "dict.__iter__"), s, p, 1) := by
  unfold specialOf
  refine ev_bind (n := 1) (m := 0) (ev_typeOf_ref ho) ?_
  rw [show (dObj es e).cls = .type "dict" from rfl, F.slot_dict_iter.lookup]
  rfl
theorem ev_dictEntries {a : Addr} {es : Array DictEntry} {e : Nat} {part : Option Value} (ho : s.heap.get? a = some (dObj es e)) : ev w n₀ (dictEntries a part) s p = some (es, s, p, 1) := by
  unfold dictEntries
  exact ev_bind (n := 1) (m := 0) (ev_loadPart ho) rfl
theorem ev_dictEpoch {a : Addr} {es : Array DictEntry} {e : Nat} {part : Option Value} (ho : s.heap.get? a = some (dObj es e)) : ev w n₀ (dictEpoch a part) s p = some (e, s, p, 1) := by
  unfold dictEpoch
  exact ev_bind (n := 1) (m := 0) (ev_loadPart ho) rfl

theorem get_first (h : Heap) (l : List Obj) (o : Obj) (hf : o.isFreed = false) : (onto h (o :: l)).get? h.objs.size = some o := by
  have := onto_get h (o :: l) 0 o rfl hf
  simpa using this
theorem update_first (h : Heap) (l : List Obj) (o : Obj) (f : Obj → Obj) : (onto h (o :: l)).update h.objs.size f = onto h (f o :: l) := by
  have := onto_update h (o :: l) 0 f
  simpa using this

def intKeys (l : List DictEntry) : Prop := ∀ e ∈ l, ∃ k t, e.key = .int k t

/-- the merge's loop, from the i-th on -/
theorem ev_mergeLoop {h : Heap} {l : List Obj} {fs : List DictEntry} {pos : Pos} {os : OsState} {gens : Array GenState} {drawn : Drawn} {t : Nat} {F : Nat → PUnit → Sem (ForInStep PUnit)}
    (hF : ∀ (i : Nat) (x : DictEntry) (es : Array DictEntry) (e : Nat), fs[i]? = some x → es.size ≤ 10000 → (∀ y ∈ es, y.hash ≠ x.hash) →
      ev w n₀ (F i PUnit.unit) ⟨onto h (dObj es e :: l), gens, drawn, t, os⟩ pos = some (.yield PUnit.unit, ⟨onto h (dObj (es.push x) (e + 1) :: l), gens, drawn, t, os⟩, pos, 6)) :
    ∀ (i : Nat) (es : Array DictEntry) (e : Nat) (todo : List DictEntry), fs.drop i = todo → es.size + todo.length ≤ 10000 → (∀ x ∈ es, ∀ y ∈ todo, x.hash ≠ y.hash) → todo.Pairwise (fun a b => a.hash ≠ b.hash) →
    ev w n₀ (forIn (List.range' i todo.length) PUnit.unit F) ⟨onto h (dObj es e :: l), gens, drawn, t, os⟩ pos =
      some (PUnit.unit, ⟨onto h (dObj (es ++ todo.toArray) (e + todo.length) :: l), gens, drawn, t, os⟩, pos, 6 * todo.length)
  | i, es, e, [], _, _, _, _ => by
    simp only [List.length_nil, List.range'_zero, List.forIn_nil]
    simp [ev_pure]
  | i, es, e, x :: r, hd, hsz, hf, hap => by
    have hxi : fs[i]? = some x := by
      rw [← List.head?_drop, hd]; rfl
    have hd' : fs.drop (i + 1) = r := by rw [← List.tail_drop, hd]; rfl
    have hap' := List.pairwise_cons.mp hap
    rw [List.length_cons] at hsz
    rw [List.length_cons, List.range'_succ, List.forIn_cons]
    have ih := ev_mergeLoop (h := h) (l := l) (pos := pos) (os := os) (gens := gens) (drawn := drawn) (t := t) hF (i + 1) (es.push x) (e + 1) r hd' (by rw [Array.size_push]; omega) (fun a ha b hb => by
      rcases Array.mem_push.mp ha with ha | rfl
      · exact hf a ha b (.tail _ hb)
      · exact hap'.1 b hb) hap'.2
    have e1 : es ++ (x :: r).toArray = es.push x ++ r.toArray := by simp
    rw [e1, show e + (r.length + 1) = e + 1 + r.length by omega, show 6 * (r.length + 1) = 6 + 6 * r.length by omega]
    exact ev_bind (n := 6) (m := 6 * r.length) (a := ForInStep.yield PUnit.unit) (hF i x es e hxi (by omega) (fun y hy => hf y hy x (.head _))) ih

theorem ev_merge {h : Heap} {l : List Obj} {j : Nat} {fs : List DictEntry} {f : Nat} {pos : Pos} {os : OsState} {gens : Array GenState} {drawn : Drawn} {t : Nat} {es : Array DictEntry} {e : Nat} (hj : l[j]? = some (dObj fs.toArray f)) (hn : n₀ ≤ h.objs.size) (hk : intKeys fs)
    (hsm : sysModules < h.objs.size) (hne : es.isEmpty = false) (hsz : es.size + fs.length ≤ 10000) (hf : ∀ x ∈ es, ∀ y ∈ fs, x.hash ≠ y.hash) (hap : fs.Pairwise (fun a b => a.hash ≠ b.hash)) :
    ev w n₀ (mergeMapping h.objs.size (.ref (h.objs.size + (j + 1))) false) ⟨onto h (dObj es e :: l), gens, drawn, t, os⟩ pos =
      some ((), ⟨onto h (dObj (es ++ fs.toArray) (e + fs.length) :: l), gens, drawn, t, os⟩, pos, 1 + (1 + (1 + (1 + (1 + 6 * fs.length))))) := by
  have hsub : ∀ es' e', (onto h (dObj es' e' :: l)).get? (h.objs.size + (j + 1)) = some (dObj fs.toArray f) := fun es' e' => onto_get h _ (j + 1) _ (by simpa using hj) rfl
  unfold mergeMapping
  refine ev_bind (n := 1) (ev_isInstance_dict (hsub es e)) ?_
  dsimp only
  rw [if_pos rfl]
  refine ev_bind (n := 1) (ev_special_iter (hsub es e)) ?_
  show ev w n₀ (if ((h.objs.size + (j + 1)) == sysModules) = true then _ else _) _ _ = _
  rw [if_neg (by rw [beq_iff_eq]; exact Nat.ne_of_gt (Nat.lt_of_lt_of_le hsm (Nat.le_add_right _ _)))]
  refine ev_bind (n := 1) (ev_dictEntries (get_first _ _ _ rfl)) ?_
  rw [if_neg (by rw [hne]; exact Bool.false_ne_true)]
  refine ev_bind (n := 1) (ev_dictEntries (hsub es e)) ?_
  refine ev_bind (n := 1) (ev_dictEpoch (hsub es e)) ?_
  rw [List.size_toArray, List.range_eq_range']
  refine ev_bind (n := 6 * fs.length) (m := 0) (a := PUnit.unit) (ev_mergeLoop (fs := fs) ?_ 0 es e fs rfl hsz hf hap) rfl
  intro i x es' e' hxi hs' hf'
  obtain ⟨k, tk, hkey⟩ := hk x (List.mem_of_getElem? hxi)
  refine ev_bind (n := 1) (m := 5) (ev_dictEntries (hsub es' e')) ?_
  rw [List.getElem?_toArray, hxi]
  dsimp only
  refine ev_bind (n := 4) (m := 1) (a := ()) (s' := ⟨onto h (dObj (es'.push x) (e' + 1) :: l), gens, drawn, t, os⟩) (p' := pos) (ev_holding ?_) ?_
  · rw [if_neg Bool.false_ne_true]
    unfold dictPut
    rw [hkey]
    refine ev_bind (n := 1) (m := 3) (ev_dictFind_none (get_first _ _ _ rfl) hf') ?_
    dsimp only
    rw [ev_updateDictKeys (get_first _ _ _ rfl) hn hs']
    dsimp only
    rw [update_first, mapDictKeys_dObj, ← hkey]
  · refine ev_bind (n := 1) (m := 0) (ev_dictEpoch (hsub _ _)) ?_
    rw [if_neg (by simp)]
    rfl
end
end Mine
end
-- part Hd7
section
open PySem PySem.W PyProof.Rows PySem.Calls
namespace Mine
abbrev SP := Sem Value × Sem Value
/-- what the display does with a full run -/
def flushT (run : List SP) (main : Option Addr) : Sem (Option Addr) :=
  if run.isEmpty = true then pure main
  else
    match main with
    | none => do
      let r ← subDict run
      pure (some r)
    | some d => do
      let sub ← holding [Value.ref d] (subDict run)
      (holding [Value.ref d, Value.ref sub] (mergeMapping d (Value.ref sub) false)).onRaise fun x => do
          let _ ← holding [Value.ref d, x] (runValue (Code.builtin "proto.let_go" { }))
          pure ()
      pure (some d)

section
variable {w : World} {n₀ : Nat} {s s' s'' : Shared} {p p' p'' : Pos} {n m : Nat}
variable {f : (Option (Sem Value) × Sem Value) → (Option Addr × List SP) → Sem (ForInStep (Option Addr × List SP))}

theorem ev_gather (hA : ∀ (k v : Sem Value) (main : Option Addr) (run : List SP), ((run ++ [(k, v)]).length == 17) = false → f (some k, v) (main, run) = pure (.yield (main, run ++ [(k, v)])))
    (hB : ∀ (k v : Sem Value) (main : Option Addr) (run : List SP), ((run ++ [(k, v)]).length == 17) = true → f (some k, v) (main, run) = (do let m ← flushT (run ++ [(k, v)]) main; pure (.yield (m, []))))
    {main m' : Option Addr} {rest : List (Option (Sem Value) × Sem Value)} {r : Option Addr × List SP} (hrest : ev w n₀ (forIn rest (m', []) f) s' p' = some (r, s'', p'', m)) :
    ∀ (items run : List SP), items ≠ [] → run.length + items.length = 17 → ev w n₀ (flushT (run ++ items) main) s p = some (m', s', p', n) →
      ev w n₀ (forIn (items.map (fun x => (some x.1, x.2)) ++ rest) (main, run) f) s p = some (r, s'', p'', n + m)
  | [], _, h, _, _ => absurd rfl h
  | [x], run, _, hl, hf => by
    rw [List.map_cons, List.map_nil, List.cons_append, List.nil_append, List.forIn_cons, hB _ _ _ _ (by simp at hl ⊢; omega)]
    exact ev_bind (n := n) (m := m) (a := ForInStep.yield (m', [])) (ev_bind (n := n) (m := 0) hf rfl) hrest
  | x :: y :: items, run, _, hl, hf => by
    rw [List.map_cons, List.cons_append, List.forIn_cons, hA _ _ _ _ (by simp at hl ⊢; omega)]
    rw [show n + m = 0 + (n + m) by omega]
    refine ev_bind (n := 0) (m := n + m) (a := ForInStep.yield (main, run ++ [(x.1, x.2)])) rfl ?_
    exact ev_gather hA hB hrest (y :: items) (run ++ [(x.1, x.2)]) (by simp) (by simp at hl ⊢; omega) (by simpa using hf)

theorem ev_leftover (hA : ∀ (k v : Sem Value) (main : Option Addr) (run : List SP), ((run ++ [(k, v)]).length == 17) = false → f (some k, v) (main, run) = pure (.yield (main, run ++ [(k, v)]))) {main : Option Addr} :
    ∀ (items run : List SP), run.length + items.length < 17 → ev w n₀ (forIn (items.map (fun x => (some x.1, x.2))) (main, run) f) s p = some ((main, run ++ items), s, p, 0)
  | [], run, _ => by simp [ev_pure]
  | x :: items, run, hl => by
    rw [List.map_cons, List.forIn_cons, hA _ _ _ _ (by simp at hl ⊢; omega)]
    refine ev_bind (n := 0) (m := 0) (a := ForInStep.yield (main, run ++ [(x.1, x.2)])) rfl ?_
    have := ev_leftover hA (main := main) items (run ++ [(x.1, x.2)]) (by simp at hl ⊢; omega)
    simpa using this

theorem entL_keys (t : Nat) (l : List (Int × Str)) : intKeys (entL t l) := by
  induction l generalizing t with
  | nil => intro e h; cases h
  | cons a r ih =>
    intro e h
    cases h with
    | head => exact ⟨_, _, rfl⟩
    | tail _ h => exact ih _ e h
theorem entS_keys (t : Nat) (l : List (Int × Str)) : intKeys (entS t l) := by
  induction l generalizing t with
  | nil => intro e h; cases h
  | cons a r ih =>
    intro e h
    cases h with
    | head => exact ⟨_, _, rfl⟩
    | tail _ h => exact ih _ e h
theorem entL_apart {t : Nat} {l : List (Int × Str)} (h : keysApart l) : (entL t l).Pairwise (fun a b => a.hash ≠ b.hash) := by
  induction l generalizing t with
  | nil => exact .nil
  | cons a r ih =>
    have h' := List.pairwise_cons.mp h
    refine List.pairwise_cons.mpr ⟨fun e he => ?_, ih h'.2⟩
    obtain ⟨kv, h1, h2⟩ := entL_hash he
    rw [h2]; exact h'.1 kv h1
theorem entS_apart {t : Nat} {l : List (Int × Str)} (h : keysApart l) : (entS t l).Pairwise (fun a b => a.hash ≠ b.hash) := by
  induction l generalizing t with
  | nil => exact .nil
  | cons a r ih =>
    have h' := List.pairwise_cons.mp h
    refine List.pairwise_cons.mpr ⟨fun e he => ?_, ih h'.2⟩
    obtain ⟨kv, h1, h2⟩ := entS_hash he
    rw [h2]; exact h'.1 kv h1

/-- a full run onto the main dict -/
theorem ev_flush_long {h : Heap} {rest : List Obj} {pos : Pos} {os : OsState} {gens : Array GenState} {drawn : Drawn} {t : Nat} {es : List DictEntry} {e : Nat} {kvs : List (Int × Str)} (hl : kvs.length = 17) (hn : n₀ ≤ h.objs.size) (hsm : sysModules < h.objs.size)
    (hap : keysApart kvs) (hne : es ≠ []) (hsz : es.length ≤ 9000) (hf : ∀ x ∈ es, ∀ kv ∈ kvs, x.hash ≠ hashInt kv.1) :
    ev w n₀ (flushT (kvs.map (pairT pos)) (some h.objs.size)) ⟨onto h (dObj es.toArray e :: rest), gens, drawn, t, os⟩ pos =
      some (some h.objs.size, ⟨onto h (dObj (es ++ entL t kvs).toArray (e + 17) :: (rest ++ [dObj (entL t kvs).toArray 17])), gens, drawn, t + 51, os⟩, pos, 330) := by
  unfold flushT
  rw [if_neg (by rw [List.isEmpty_iff, List.map_eq_nil_iff]; intro q; rw [q] at hl; cases hl)]
  dsimp only
  have e1 := ev_subDict_long (w := w) (n₀ := n₀) (h := h) (l := dObj es.toArray e :: rest) (pos := pos) (os := os) (gens := gens) (drawn := drawn) (t := t) (kvs := kvs) (by omega) (by omega) hn hap
  rw [hl] at e1
  refine ev_bind (n := 223) (m := 107) (ev_holding e1) ?_
  have hj : (rest ++ [dObj (entL t kvs).toArray 17])[rest.length]? = some (dObj (entL t kvs).toArray 17) := by simp
  have e2 := ev_merge (w := w) (n₀ := n₀) (h := h) (l := rest ++ [dObj (entL t kvs).toArray 17]) (j := rest.length) (fs := entL t kvs) (f := 17) (pos := pos) (os := os) (gens := gens) (drawn := drawn) (t := t + 51) (es := es.toArray) (e := e) hj hn (entL_keys t kvs) hsm
    (by cases es with | nil => exact absurd rfl hne | cons => rfl) (by rw [entL_length, hl, List.size_toArray]; omega) (fun x hx y hy => by
      obtain ⟨kv, h1, h2⟩ := entL_hash hy
      rw [h2]; exact hf x (by simpa using hx) kv h1) (entL_apart hap)
  rw [entL_length, hl] at e2
  refine ev_bind (n := 107) (m := 0) (ev_onRaise (ev_holding e2)) ?_
  simp [ev_pure]
theorem ev_flush_short {h : Heap} {rest : List Obj} {pos : Pos} {os : OsState} {gens : Array GenState} {drawn : Drawn} {t : Nat} {es : List DictEntry} {e : Nat} {kvs : List (Int × Str)} (hl : kvs.length = 4) (hn : n₀ ≤ h.objs.size) (hsm : sysModules < h.objs.size)
    (hap : keysApart kvs) (hne : es ≠ []) (hsz : es.length ≤ 9000) (hf : ∀ x ∈ es, ∀ kv ∈ kvs, x.hash ≠ hashInt kv.1) :
    ev w n₀ (flushT (kvs.map (pairT pos)) (some h.objs.size)) ⟨onto h (dObj es.toArray e :: rest), gens, drawn, t, os⟩ pos =
      some (some h.objs.size, ⟨onto h (dObj (es ++ entS t kvs).toArray (e + 4) :: (rest ++ [dObj (entS t kvs).toArray 4])), gens, drawn, t + 12, os⟩, pos, 82) := by
  unfold flushT
  rw [if_neg (by rw [List.isEmpty_iff, List.map_eq_nil_iff]; intro q; rw [q] at hl; cases hl)]
  dsimp only
  have e1 := ev_subDict_short (w := w) (n₀ := n₀) (h := h) (l := dObj es.toArray e :: rest) (pos := pos) (os := os) (gens := gens) (drawn := drawn) (t := t) (kvs := kvs) (by omega) hn hap
  rw [hl] at e1
  refine ev_bind (n := 53) (m := 29) (ev_holding e1) ?_
  have hj : (rest ++ [dObj (entS t kvs).toArray 4])[rest.length]? = some (dObj (entS t kvs).toArray 4) := by simp
  have e2 := ev_merge (w := w) (n₀ := n₀) (h := h) (l := rest ++ [dObj (entS t kvs).toArray 4]) (j := rest.length) (fs := entS t kvs) (f := 4) (pos := pos) (os := os) (gens := gens) (drawn := drawn) (t := t + 12) (es := es.toArray) (e := e) hj hn (entS_keys t kvs) hsm
    (by cases es with | nil => exact absurd rfl hne | cons => rfl) (by rw [entS_length, hl, List.size_toArray]; omega) (fun x hx y hy => by
      obtain ⟨kv, h1, h2⟩ := entS_hash hy
      rw [h2]; exact hf x (by simpa using hx) kv h1) (entS_apart hap)
  rw [entS_length, hl] at e2
  refine ev_bind (n := 29) (m := 0) (ev_onRaise (ev_holding e2)) ?_
  simp [ev_pure]
end
end Mine
end
-- part Hd8
section
open PySem PySem.W PyProof.Rows PySem.Calls
namespace Mine
def effA : Nat → List (Int × Str) → Nat → List DictEntry → List Obj → List (Int × Str) × Nat × List DictEntry × List Obj
  | 0, kvs, t, es, rest => (kvs, t, es, rest)
  | n + 1, kvs, t, es, rest => effA n (kvs.drop 17) (t + 51) (es ++ entL t (kvs.take 17)) (rest ++ [dObj (entL t (kvs.take 17)).toArray 17])
theorem effA_len (n : Nat) : ∀ (kvs : List (Int × Str)) (t : Nat) (es : List DictEntry) (rest : List Obj), (effA n kvs t es rest).1 = kvs.drop (17 * n) := by
  induction n with
  | zero => intro kvs t es rest; rfl
  | succ n ih => intro kvs t es rest; rw [effA, ih, List.drop_drop]; congr 1; omega
theorem effA_ne (n : Nat) : ∀ (kvs : List (Int × Str)) (t : Nat) (es : List DictEntry) (rest : List Obj), es ≠ [] → (effA n kvs t es rest).2.2.1 ≠ [] := by
  induction n with
  | zero => intro kvs t es rest h; exact h
  | succ n ih => intro kvs t es rest h; rw [effA]; exact ih _ _ _ _ (by simp [h])
theorem effA_length (n : Nat) : ∀ (kvs : List (Int × Str)) (t : Nat) (es : List DictEntry) (rest : List Obj), 17 * n ≤ kvs.length → (effA n kvs t es rest).2.2.1.length = es.length + 17 * n := by
  induction n with
  | zero => intro kvs t es rest _; rfl
  | succ n ih =>
    intro kvs t es rest h
    rw [effA, ih _ _ _ _ (by rw [List.length_drop]; omega), List.length_append, entL_length, List.length_take]
    omega
theorem effA_hash (n : Nat) : ∀ (kvs : List (Int × Str)) (t : Nat) (es : List DictEntry) (rest : List Obj) (x : DictEntry), x ∈ (effA n kvs t es rest).2.2.1 → x ∈ es ∨ ∃ kv ∈ kvs.take (17 * n), x.hash = hashInt kv.1 := by
  induction n with
  | zero => intro kvs t es rest x hx; exact .inl hx
  | succ n ih =>
    intro kvs t es rest x hx
    rw [effA] at hx
    have ht : kvs.take (17 * (n + 1)) = kvs.take 17 ++ (kvs.drop 17).take (17 * n) := by
      rw [show 17 * (n + 1) = 17 + 17 * n by omega, List.take_add]
    rcases ih _ _ _ _ x hx with h | ⟨kv, h1, h2⟩
    · rcases List.mem_append.mp h with h | h
      · exact .inl h
      · obtain ⟨kv, h1, h2⟩ := entL_hash h
        exact .inr ⟨kv, by rw [ht]; exact List.mem_append_left _ h1, h2⟩
    · exact .inr ⟨kv, by rw [ht]; exact List.mem_append_right _ h1, h2⟩

section
variable {w : World} {n₀ : Nat} {s s' s'' : Shared} {p p' p'' : Pos}
variable {f : (Option (Sem Value) × Sem Value) → (Option Addr × List SP) → Sem (ForInStep (Option Addr × List SP))}
abbrev itemT (pos : Pos) (kv : Int × Str) : Option (Sem Value) × Sem Value := (some (mkInt kv.1), vT pos kv.2)
theorem items_eq (pos : Pos) (kvs : List (Int × Str)) : (kvs.map (pairT pos)).map (fun x => ((some x.1, x.2) : Option (Sem Value) × Sem Value)) = kvs.map (itemT pos) := by
  rw [List.map_map]; rfl

theorem ev_chunks (hA : ∀ (k v : Sem Value) (main : Option Addr) (run : List SP), ((run ++ [(k, v)]).length == 17) = false → f (some k, v) (main, run) = pure (.yield (main, run ++ [(k, v)])))
    (hB : ∀ (k v : Sem Value) (main : Option Addr) (run : List SP), ((run ++ [(k, v)]).length == 17) = true → f (some k, v) (main, run) = (do let m ← flushT (run ++ [(k, v)]) main; pure (.yield (m, []))))
    {h : Heap} {pos : Pos} {os : OsState} {gens : Array GenState} {drawn : Drawn} (hn : n₀ ≤ h.objs.size) (hsm : sysModules < h.objs.size) :
    ∀ (n : Nat) (kvs : List (Int × Str)) (t : Nat) (es : List DictEntry) (e : Nat) (rest : List Obj), kvs.length = 17 * n + 4 → keysApart kvs → es ≠ [] → es.length + kvs.length ≤ 9000 → (∀ x ∈ es, ∀ kv ∈ kvs, x.hash ≠ hashInt kv.1) →
      ev w n₀ (forIn (kvs.map (itemT pos)) (some h.objs.size, []) f) ⟨onto h (dObj es.toArray e :: rest), gens, drawn, t, os⟩ pos =
        some ((some h.objs.size, (effA n kvs t es rest).1.map (pairT pos)), ⟨onto h (dObj (effA n kvs t es rest).2.2.1.toArray (e + 17 * n) :: (effA n kvs t es rest).2.2.2), gens, drawn, (effA n kvs t es rest).2.1, os⟩, pos, 330 * n)
  | 0, kvs, t, es, e, rest, hl, _, _, _, _ => by
    rw [← items_eq]
    have := ev_leftover (w := w) (n₀ := n₀) (s := ⟨onto h (dObj es.toArray e :: rest), gens, drawn, t, os⟩) (p := pos) hA (main := some h.objs.size) (kvs.map (pairT pos)) [] (by simp; omega)
    rw [this]
    rfl
  | n + 1, kvs, t, es, e, rest, hl, hap, hne, hsz, hf => by
    have hk : kvs = kvs.take 17 ++ kvs.drop 17 := (List.take_append_drop 17 kvs).symm
    have hap' : keysApart (kvs.take 17) ∧ keysApart (kvs.drop 17) ∧ _ := List.pairwise_append.mp (by rw [← hk]; exact hap : (kvs.take 17 ++ kvs.drop 17).Pairwise fun a b => hashInt a.1 ≠ hashInt b.1)
    have h17 : (kvs.take 17).length = 17 := by rw [List.length_take]; omega
    have ih := ev_chunks hA hB (pos := pos) (os := os) (gens := gens) (drawn := drawn) hn hsm n (kvs.drop 17) (t + 51) (es ++ entL t (kvs.take 17)) (e + 17) (rest ++ [dObj (entL t (kvs.take 17)).toArray 17]) (by rw [List.length_drop]; omega) hap'.2.1 (by simp [hne])
      (by rw [List.length_append, entL_length, h17, List.length_drop]; omega) (fun x hx kv hkv => by
        rcases List.mem_append.mp hx with hx | hx
        · exact hf x hx kv (List.mem_of_mem_drop hkv)
        · obtain ⟨kv', h1, h2⟩ := entL_hash hx
          rw [h2]; exact hap'.2.2 kv' h1 kv hkv)
    have fl := ev_flush_long (w := w) (n₀ := n₀) (h := h) (rest := rest) (pos := pos) (os := os) (gens := gens) (drawn := drawn) (t := t) (es := es) (e := e) (kvs := kvs.take 17) h17 hn hsm hap'.1 hne (by omega) (fun x hx kv hkv => hf x hx kv (List.mem_of_mem_take hkv))
    have g := ev_gather (w := w) (n₀ := n₀) hA hB (main := some h.objs.size) ih ((kvs.take 17).map (pairT pos)) [] (by intro q; rw [List.map_eq_nil_iff] at q; rw [q] at h17; cases h17) (by rw [List.length_nil, List.length_map, h17]) fl
    rw [items_eq, ← List.map_append, ← hk] at g
    rw [g, show 330 + 330 * n = 330 * (n + 1) by omega, show e + 17 + 17 * n = e + 17 * (n + 1) by omega]
    rfl

/-- what a display of 17 (n + 1) + 4 pairs makes -/
def dispEs (n : Nat) (kvs : List (Int × Str)) (t : Nat) : List DictEntry := (effA n (kvs.drop 17) (t + 51) (entL t (kvs.take 17)) []).2.2.1 ++ entS (effA n (kvs.drop 17) (t + 51) (entL t (kvs.take 17)) []).2.1 (kvs.drop (17 * (n + 1)))
def dispSubs (n : Nat) (kvs : List (Int × Str)) (t : Nat) : List Obj := (effA n (kvs.drop 17) (t + 51) (entL t (kvs.take 17)) []).2.2.2 ++ [dObj (entS (effA n (kvs.drop 17) (t + 51) (entL t (kvs.take 17)) []).2.1 (kvs.drop (17 * (n + 1)))).toArray 4]
def dispTok (n : Nat) (kvs : List (Int × Str)) (t : Nat) : Nat := (effA n (kvs.drop 17) (t + 51) (entL t (kvs.take 17)) []).2.1 + 12

theorem ev_display {h : Heap} {pos : Pos} {os : OsState} {gens : Array GenState} {drawn : Drawn} (hn : n₀ ≤ h.objs.size) (hsm : sysModules < h.objs.size) (n : Nat) (kvs : List (Int × Str)) (t : Nat) (hl : kvs.length = 17 * (n + 1) + 4) (hap : keysApart kvs) (hsz : kvs.length ≤ 9000) :
    ev w n₀ (dictDisplay (kvs.map (itemT pos))) ⟨h, gens, drawn, t, os⟩ pos =
      some (.ref h.objs.size, ⟨onto h (dObj (dispEs n kvs t).toArray (17 + 17 * n + 4) :: dispSubs n kvs t), gens, drawn, dispTok n kvs t, os⟩, pos, 223 + 330 * n + 82) := by
  have hk : kvs = kvs.take 17 ++ kvs.drop 17 := (List.take_append_drop 17 kvs).symm
  have hap' : keysApart (kvs.take 17) ∧ keysApart (kvs.drop 17) ∧ _ := List.pairwise_append.mp (by rw [← hk]; exact hap : (kvs.take 17 ++ kvs.drop 17).Pairwise fun a b => hashInt a.1 ≠ hashInt b.1)
  have h17 : (kvs.take 17).length = 17 := by rw [List.length_take]; omega
  have hdl : (kvs.drop 17).length = 17 * n + 4 := by rw [List.length_drop]; omega
  have hne : entL t (kvs.take 17) ≠ [] := fun q => by have := entL_length t (kvs.take 17); rw [q, h17] at this; cases this
  have hf0 : ∀ x ∈ entL t (kvs.take 17), ∀ kv ∈ kvs.drop 17, x.hash ≠ hashInt kv.1 := fun x hx kv hkv => by
    obtain ⟨kv', h1, h2⟩ := entL_hash hx
    rw [h2]; exact hap'.2.2 kv' h1 kv hkv
  unfold dictDisplay
  dsimp only
  -- the loop
  refine ev_bind (n := 223 + 330 * n) (m := 82) (a := (some h.objs.size, (kvs.drop (17 * (n + 1))).map (pairT pos))) (s' := ⟨onto h (dObj (effA n (kvs.drop 17) (t + 51) (entL t (kvs.take 17)) []).2.2.1.toArray (17 + 17 * n) :: (effA n (kvs.drop 17) (t + 51) (entL t (kvs.take 17)) []).2.2.2), gens, drawn, (effA n (kvs.drop 17) (t + 51) (entL t (kvs.take 17)) []).2.1, os⟩) (p' := pos) ?_ ?_
  · generalize hfe : (fun (x : Option (Sem Value) × Sem Value) (st : Option Addr × List SP) => _ : (Option (Sem Value) × Sem Value) → (Option Addr × List SP) → Sem (ForInStep (Option Addr × List SP))) = f
    have hA : ∀ (k v : Sem Value) (main : Option Addr) (run : List SP), ((run ++ [(k, v)]).length == 17) = false → f (some k, v) (main, run) = pure (.yield (main, run ++ [(k, v)])) := by
      intro k v main run hq
      rw [← hfe]
      dsimp only
      rw [if_neg (by rw [hq]; exact Bool.false_ne_true)]
    have hB : ∀ (k v : Sem Value) (main : Option Addr) (run : List SP), ((run ++ [(k, v)]).length == 17) = true → f (some k, v) (main, run) = (do let m ← flushT (run ++ [(k, v)]) main; pure (.yield (m, []))) := by
      intro k v main run hq
      rw [← hfe]
      dsimp only
      rw [if_pos hq]
      rfl
    have ih := ev_chunks (w := w) (n₀ := n₀) hA hB (pos := pos) (os := os) (gens := gens) (drawn := drawn) hn hsm n (kvs.drop 17) (t + 51) (entL t (kvs.take 17)) 17 [] hdl hap'.2.1 hne (by rw [entL_length, h17, hdl]; omega) hf0
    have fl : ev w n₀ (flushT ((kvs.take 17).map (pairT pos)) none) ⟨h, gens, drawn, t, os⟩ pos = some (some h.objs.size, ⟨onto h [dObj (entL t (kvs.take 17)).toArray 17], gens, drawn, t + 51, os⟩, pos, 223) := by
      unfold flushT
      rw [if_neg (by rw [List.isEmpty_iff, List.map_eq_nil_iff]; intro q; rw [q] at h17; cases h17)]
      dsimp only
      have e1 := ev_subDict_long (w := w) (n₀ := n₀) (h := h) (l := []) (pos := pos) (os := os) (gens := gens) (drawn := drawn) (t := t) (kvs := kvs.take 17) (by omega) (by omega) hn hap'.1
      rw [h17, onto_nil] at e1
      exact ev_bind (n := 223) (m := 0) e1 rfl
    have g := ev_gather (w := w) (n₀ := n₀) hA hB (main := none) ih ((kvs.take 17).map (pairT pos)) [] (by intro q; rw [List.map_eq_nil_iff] at q; rw [q] at h17; cases h17) (by rw [List.length_nil, List.length_map, h17]) fl
    rw [items_eq, ← List.map_append, ← hk, effA_len, List.drop_drop, show 17 + 17 * n = 17 * (n + 1) by omega] at g
    rw [g, show 17 + 17 * n = 17 * (n + 1) by omega]
  · have h4 : (kvs.drop (17 * (n + 1))).length = 4 := by rw [List.length_drop]; omega
    have hd2 : kvs.drop (17 * (n + 1)) = (kvs.drop 17).drop (17 * n) := by rw [List.drop_drop]; congr 1; omega
    have ht : keysApart ((kvs.drop 17).take (17 * n)) ∧ keysApart ((kvs.drop 17).drop (17 * n)) ∧ _ := List.pairwise_append.mp (by rw [List.take_append_drop]; exact hap'.2.1 : ((kvs.drop 17).take (17 * n) ++ (kvs.drop 17).drop (17 * n)).Pairwise fun a b => hashInt a.1 ≠ hashInt b.1)
    have fl := ev_flush_short (w := w) (n₀ := n₀) (h := h) (rest := (effA n (kvs.drop 17) (t + 51) (entL t (kvs.take 17)) []).2.2.2) (pos := pos) (os := os) (gens := gens) (drawn := drawn) (t := (effA n (kvs.drop 17) (t + 51) (entL t (kvs.take 17)) []).2.1)
      (es := (effA n (kvs.drop 17) (t + 51) (entL t (kvs.take 17)) []).2.2.1) (e := 17 + 17 * n) (kvs := kvs.drop (17 * (n + 1))) h4 hn hsm (by rw [hd2]; exact ht.2.1) (effA_ne _ _ _ _ _ hne)
      (by rw [effA_length _ _ _ _ _ (by omega), entL_length, h17]; omega) (fun x hx kv hkv => by
        rw [hd2] at hkv
        rcases effA_hash _ _ _ _ _ x hx with hx | ⟨kv', h1, h2⟩
        · exact hf0 x hx kv (List.mem_of_mem_drop hkv)
        · rw [h2]; exact ht.2.2 kv' h1 kv hkv)
    exact ev_bind (n := 82) (m := 0) fl rfl
end
end Mine
end
-- part Hd9
section
open PySem PySem.W PyProof.Rows PySem.Calls
namespace Mine
def isDef : Stmt → Bool
  | .FunctionDef .. => true
  | _ => false
/-- the view: the defs -/
def qq : Program := { pp with main := { pp.main with body := pp.main.body.filter isDef } }
def looseQ : List Str := ["_sre", "IPV4_RE", "b1_set", "b3_exceptions"]
def bodyT : List Stmt := behindTheImports pp
def stmD : Stmt := (bodyT.drop 7).headD (.Pass default)
def envT : Env := { scope := pp.main.scope, locals := mainNs, globals := mainNs, cells := [], code := .ref 30, frame := some 31 }
def cT : Code := .body bodyT envT
def pos0 : Pos := ⟨0, 0, 0, 0⟩
def posB : Pos := ⟨22, 0, 23, 30⟩
def posD : Pos := ⟨24, 0, 24, 13⟩
def posE : Pos := ⟨63, 0, 86, 76⟩
def annT : Option Value := some (.ref 6)
def BT0 : List Frame := [topFrame pos0]

/-- the display's parts -/
def dKeys : List (Option Expr) := match stmD with | .Assign _ (.Dict ks _ _) _ => ks | _ => []
def dVals : List Expr := match stmD with | .Assign _ (.Dict _ vs _) _ => vs | _ => []
def dPos : Pos := match stmD with | .Assign _ (.Dict _ _ p) _ => p | _ => pos0
def sPos : Pos := match stmD with | .Assign _ _ p => p | _ => pos0
def nPos : Pos := match stmD with | .Assign [.Name _ p] _ _ => p | _ => pos0
def kOf : Option Expr → Int
  | some (.Constant (.int k) _ _) => k
  | _ => 0
def vOf : Expr → Str
  | .Constant (.str v) _ _ => v
  | _ => ""
def kvs : List (Int × Str) := (dKeys.map kOf).zip (dVals.map vOf)

theorem stmD_eq : stmD = .Assign [.Name "b3_exceptions" nPos] (.Dict dKeys dVals dPos) sPos := by kernel_rfl!
theorem kvs_length : kvs.length = 17 * (37 + 1) + 4 := by kernel_rfl!
theorem body_eq : bodyT = bodyT.take 7 ++ ([stmD] ++ bodyT.drop 8) := by kernel_rfl!

theorem each_opt (env : Env) : ∀ ks : List (Option Expr), (ks.all fun k => match k with | some (.Constant (.int _) _ _) => true | _ => false) = true → evalEachOpt ks env = ks.map fun k => some (mkInt (kOf k))
  | [], _ => rfl
  | k :: r, h => by
    rw [List.all_cons, Bool.and_eq_true] at h
    have ih := each_opt env r h.2
    have h1 := h.1
    split at h1
    · show some (mkInt _) :: evalEachOpt r env = _
      rw [ih]; rfl
    · cases h1
theorem each_val (env : Env) : ∀ vs : List Expr, (vs.all fun v => match v with | .Constant (.str _) _ _ => true | _ => false) = true → evalEach vs env = vs.map fun v => mkText (vOf v)
  | [], _ => rfl
  | k :: r, h => by
    rw [List.all_cons, Bool.and_eq_true] at h
    have ih := each_val env r h.2
    have h1 := h.1
    split at h1
    · show mkText _ :: evalEach r env = _
      rw [ih]; rfl
    · cases h1
theorem dKeys_ok : (dKeys.all fun k => match k with | some (.Constant (.int _) _ _) => true | _ => false) = true := by kernel_rfl!
theorem dVals_ok : (dVals.all fun v => match v with | .Constant (.str _) _ _ => true | _ => false) = true := by kernel_rfl!

theorem items_are (env : Env) : (evalEachOpt dKeys env).zip ((evalEach dVals env).map fun v => do let x ← v; standAt dPos; pure x) = kvs.map (itemT dPos) := by
  rw [each_opt env dKeys dKeys_ok, each_val env dVals dVals_ok, List.map_map]
  unfold kvs
  generalize dKeys = ks
  generalize dVals = vs
  induction ks generalizing vs with
  | nil => simp
  | cons k r ih =>
    cases vs with
    | nil => simp
    | cons v vs => simp only [List.map_cons, List.zip_cons_cons, ih]; rfl

def keysRise : List (Int × Str) → Bool
  | a :: b :: r => decide (a.1 < b.1) && keysRise (b :: r)
  | _ => true
theorem rise_lt : ∀ {l : List (Int × Str)} {a : Int × Str}, keysRise (a :: l) = true → ∀ b ∈ l, a.1 < b.1
  | [], _, _, b, hb => by cases hb
  | c :: r, a, h, b, hb => by
    rw [keysRise, Bool.and_eq_true, decide_eq_true_eq] at h
    cases hb with
    | head => exact h.1
    | tail _ hb => exact Int.lt_trans h.1 (rise_lt h.2 b hb)
theorem rise_pair : ∀ {l : List (Int × Str)}, keysRise l = true → l.Pairwise fun a b => a.1 < b.1
  | [], _ => .nil
  | [a], _ => List.pairwise_singleton _ _
  | a :: b :: r, h => by
    refine List.pairwise_cons.mpr ⟨rise_lt h, rise_pair ?_⟩
    rw [keysRise, Bool.and_eq_true] at h
    exact h.2
theorem kvs_rise : keysRise kvs = true := by kernel_rfl!
theorem kvs_bound : (kvs.all fun a => decide (0 ≤ a.1) && decide (a.1 < 200000)) = true := by kernel_rfl!
theorem hashInt_small {k : Int} (h0 : 0 ≤ k) (h1 : k < 200000) : hashInt k = k := by
  have e : ((k.natAbs : Int) % ((2 ^ 61 - 1 : Nat) : Int)) = k := by
    have : (k.natAbs : Int) = k := by omega
    rw [this]
    exact Int.emod_eq_of_lt h0 (by omega)
  have r : rawHash k = k := by
    unfold rawHash
    simp only
    rw [if_neg (c := k < 0) (by omega), e, if_neg (by rw [beq_iff_eq]; omega)]
  unfold hashInt
  rw [r, if_neg (by rw [beq_iff_eq]; omega)]
theorem kvs_apart : keysApart kvs := by
  refine (rise_pair kvs_rise).imp_of_mem ?_
  intro a b ha hb h
  have xa := List.all_eq_true.mp kvs_bound a ha
  have xb := List.all_eq_true.mp kvs_bound b hb
  rw [Bool.and_eq_true, decide_eq_true_eq, decide_eq_true_eq] at xa xb
  rw [hashInt_small xa.1 xa.2, hashInt_small xb.1 xb.2]
  omega

/-- the state behind the display -/
def dictPart (s : Shared) : Shared := ⟨onto s.heap (dObj (dispEs 37 kvs s.toks).toArray 650 :: dispSubs 37 kvs s.toks), s.gens, s.drawn, dispTok 37 kvs s.toks, s.os⟩
def tailT (v : Value) : Sem Flow := do
  standAt nPos
  bindName envT "b3_exceptions" v
  pure .next
theorem ev_assignDict {w : World} {n₀ : Nat} {s s₁ s' : Shared} {p p' : Pos} {n m : Nat} {f : Flow} {v : Value} {x : Str} {np dp sp : Pos} {env : Env} {ks : List (Option Expr)} {vs : List Expr} {items : List (Option (Sem Value) × Sem Value)}
    (hs : swapsWith (.Dict ks vs dp) (some (.Name x np)) sp.line env = pure false) (hi : (evalEachOpt ks env).zip ((evalEach vs env).map fun v => do let x ← v; standAt dp; pure x) = items)
    (hd : ev w n₀ (dictDisplay items) s dp = some (v, s₁, dp, m))
    (h : ev w n₀ (do standAt np; bindName env x v; pure .next) s₁ dp = some (f, s', p', n)) :
    ev w n₀ (exec (.Assign [.Name x np] (.Dict ks vs dp) sp) env) s p = some (f, s', p', 1 + ((1 + m) + n)) := by
  rw [exec_Assign_Name (env := env) x np (.Dict ks vs dp) sp hs]
  refine ev_bind (n := 1) (a := ()) (s' := s) (p' := sp) rfl ?_
  refine ev_bind (n := 1 + m) (a := v) (s' := s₁) (p' := dp) ?_ h
  rw [arm_eval_Dict, hi]
  exact ev_bind (n := 1) (a := ()) (s' := s) (p' := dp) rfl hd
theorem swaps_ok : swapsWith (.Dict dKeys dVals dPos) (some (.Name "b3_exceptions" nPos)) sPos.line envT = pure false := by kernel_rfl!
theorem ev_dict {w : World} {n₀ : Nat} {s s' : Shared} {p p' : Pos} {n : Nat} {f : Flow} (hn : n₀ ≤ s.heap.objs.size) (hsm : sysModules < s.heap.objs.size) (h : ev w n₀ (tailT (.ref s.heap.objs.size)) (dictPart s) dPos = some (f, s', p', n)) :
    ev w n₀ (exec stmD envT) s p = some (f, s', p', 1 + ((1 + 12515) + n)) := by
  have hd : ev w n₀ (dictDisplay (kvs.map (itemT dPos))) s dPos = some (.ref s.heap.objs.size, dictPart s, dPos, 12515) := by
    obtain ⟨heap, gens, drawn, toks, os⟩ := s
    exact ev_display hn hsm 37 kvs toks kvs_length kvs_apart (by rw [kvs_length]; omega)
  have he : exec stmD envT = exec (.Assign [.Name "b3_exceptions" nPos] (.Dict dKeys dVals dPos) sPos) envT := congrArg (fun x => exec x envT) stmD_eq
  rw [he]
  exact ev_assignDict swaps_ok (items_are envT) hd h
end Mine
end
-- part Hd10
section
open PySem PySem.W PyProof.Rows PySem.Calls
namespace Mine
def reObj : Obj := { cls := .type "re.Pattern", data := .fields #[.str "\\.\\d+$" 285, .int 256 312, .int 0 0, .none, .none, .ref 35, .int 0 0] }
def reCode : List Int := [14, 8, 1, 2, 4294967295, 1, 1, 46, 0, 16, 46, 24, 9, 1, 4294967295, 13, 4, 8, 0, 0, 1, 6, 5, 1]
def codeObj : Obj := { cls := .type "tuple", data := .seq (reCode.map fun i => Value.int i 0).toArray }
def b1L : List (Int × Tok) := [(65024, 348), (65025, 349), (65026, 350), (65027, 351), (65028, 352), (65029, 353), (6150, 334), (65030, 354), (65031, 355), (65032, 356), (65033, 357), (6155, 335), (6156, 336), (6157, 337), (8203, 338), (8204, 339), (8205, 340), (65034, 358), (65035, 359), (65036, 360), (65037, 361), (65038, 362), (65039, 363), (173, 332), (847, 333), (8288, 341), (65279, 342)]
def setObj (P : Params) : Obj := { cls := .type "set", data := .set (b1L.map fun x => (x.1, Value.int x.1 x.2)).toArray 29 ({ mask := 127, place := #[0, 1, 2, 3, 4, 5, 6, 7, 8, 9, 10, 11, 12, 13, 14, 15, 16, 17, 18, 19, 20, 21, 22, 45, 79, 96, 127], dummies := #[], finger := 0, led := !P.followText "set-order", moves := 2, plain := true } : SetTable) }
def b3Obj : Obj := dObj (dispEs 37 kvs 399).toArray 650

abbrev Obs := Option Value × Option Value × Option Value × Option Obj × Option Obj × Option Obj × Option Obj
def obsF (s : Shared) : Obs := (s.heap.nsMap mainGlobals "IPV4_RE", s.heap.nsMap mainGlobals "b1_set", s.heap.nsMap mainGlobals "b3_exceptions", s.heap.get? 36, s.heap.get? 35, s.heap.get? 58, s.heap.get? 69)
def obsA (w : World) : Obs := (some (.ref 36), some (.ref 58), some (.ref 69), some reObj, some codeObj, some (setObj w.params), some b3Obj)

def tA : Thread := ⟨denote treeTable (.body bodyT envT), .body bodyT envT, pos0, [topFrame pos0]⟩
def looksL (s0 s : Shared) : Bool := staticsOk (importedModules pp.main.body) s0.heap s.heap && namesBound pp s.heap && gensDone s && laidKept s0.heap s.heap
def chain (w : World) :=
  ((importEnds treeTable (opening pp) w 20000 (start (opening pp)).1 (start (opening pp)).2).bind (fenceModules? pp)).bind fun s0 =>
  (topGo treeTable pp w 28 annT 12 s0 (topStub pp)).bind fun ra =>
  (segRun treeTable pp w 28 annT 1 1 ra.1 ⟨(blockStart bodyT envT).wrap (fun _ => doneF .next) deadEnd id id, cT, pos0, [topFrame pos0]⟩).bind fun rb =>
  (segRun treeTable pp w 28 annT 1 1300 rb.2.1 ⟨(execs (bodyT.take 7) envT).wrap doneF deadEnd id id, cT, pos0, [topFrame pos0]⟩).bind fun rc =>
  (ev w 28 (tailT (.ref rc.2.1.heap.objs.size)) (dictPart rc.2.1) dPos).bind fun rd =>
  (segRun treeTable pp w 28 annT 1 400 rd.2.1 ⟨(execs (bodyT.drop 8) envT).wrap doneF deadEnd id id, cT, posD, [topFrame pos0]⟩).map fun re =>
    ((s0.heap.isNs mainGlobals && s0.gens.size == 0, s0.heap.objs.size, s0.heap.nsMap mainGlobals "__annotations__"), ra.2, (rb.1, rb.2.2.1, rb.2.2.2), (rc.1, rc.2.2.1, rc.2.2.2, rc.2.1.heap.objs.size), (rd.1, rd.2.2.1, rd.2.2.2), (re.1, re.2.2.1, re.2.2.2),
     looksL s0 re.2.1, openSeen qq looseQ (importedModules pp.main.body) (fun _ => true) true re.2.1, obsF re.2.1)
end Mine
end
-- part Hd11
section
open PySem PySem.W PyProof.Rows PySem.Calls
namespace Mine
abbrev chainR (w : World) := some ((true, 28, annT), tA, ((.next, cT, pos0) : Flow × Code × Pos), ((.next, cT, posB, 69) : Flow × Code × Pos × Nat), ((.next, posD, 7) : Flow × Pos × Nat), ((.next, cT, posE) : Flow × Code × Pos), true, openGood qq looseQ, obsA w)
set_option maxRecDepth 100000 in
set_option maxHeartbeats 0 in
theorem chain_f (w : World) : chain (w.withFollow "special-get-raises" false) = chainR (w.withFollow "special-get-raises" false) := by
  unfold chain chainR tA
  rw [PySem.W.Fast.te10274390034422433532, PySem.W.Fast.te14289696077712309145, PySem.W.Fast.te1435165496053646825, PySem.W.Fast.te15667345088766844465, PySem.W.Fast.te14374325043358763698, PySem.W.Fast.te12563942051412417395, PySem.W.Fast.te14364793385576792824, PySem.W.Fast.te11892475500146522536, PySem.W.Fast.te4187177175401517315]
  kernel_rfl
set_option maxRecDepth 100000 in
set_option maxHeartbeats 0 in
theorem chain_t (w : World) : chain (w.withFollow "special-get-raises" true) = chainR (w.withFollow "special-get-raises" true) := by
  unfold chain chainR tA
  rw [PySem.W.Fast.te10274390034422433532, PySem.W.Fast.te14289696077712309145, PySem.W.Fast.te1435165496053646825, PySem.W.Fast.te15667345088766844465, PySem.W.Fast.te14374325043358763698, PySem.W.Fast.te12563942051412417395, PySem.W.Fast.te14364793385576792824, PySem.W.Fast.te11892475500146522536, PySem.W.Fast.te4187177175401517315]
  kernel_rfl
theorem chain_eq (w : World) : chain w = chainR w :=
  byRow2 "special-get-raises" (P := fun w => chain w = chainR w) chain_f chain_t w
end Mine
end
-- part Hd12
section
open PySem PySem.W PyProof.Rows PySem.Calls
namespace Mine
theorem through_end {w : World} {s : Shared} {c : Code} {p q : Pos} : topRun treeTable pp w 28 annT 2 s ⟨doneF .next, c, p, [topFrame q]⟩ = some s := by
  obtain ⟨heap, gens, drawn, toks, os⟩ := s
  rfl
theorem left_of (hc : ∀ w, chain w = chainR w) : LeftO pp qq looseQ (fun _ => true) obsF obsA 20000 := by
  intro w
  have h := hc w
  unfold chain at h
  obtain ⟨s0, h0, h⟩ := Option.bind_eq_some_iff.mp h
  obtain ⟨⟨sa, ta⟩, h1, h⟩ := Option.bind_eq_some_iff.mp h
  obtain ⟨⟨fb, sb, cb, pb⟩, h2, h⟩ := Option.bind_eq_some_iff.mp h
  obtain ⟨⟨fc, sc, cc, pc⟩, h3, h⟩ := Option.bind_eq_some_iff.mp h
  obtain ⟨⟨fd, sd, pd, nd⟩, h4, h⟩ := Option.bind_eq_some_iff.mp h
  obtain ⟨⟨fe, se, ce, pe⟩, h5, h⟩ := Option.map_eq_some_iff.mp h
  simp only [Prod.mk.injEq] at h
  obtain ⟨⟨k1, k2, k3⟩, k4, ⟨k5, k6, k7⟩, ⟨k8, k9, k10, k11⟩, ⟨k12, k13, k14⟩, ⟨k15, k16, k17⟩, k18, k19, k20⟩ := h
  dsimp only at h1 h2 h3 h4 h5 k11 k18 k19 k20
  subst k4 k5 k6 k7 k8 k9 k10 k12 k13 k14 k15 k16 k17
  have d1 := ev_dict (w := w) (n₀ := 28) (s := sc) (p := posB) (by rw [k11]; decide) (by rw [k11]; decide) h4
  have d2 := ev_piece (ann := annT) (c := cT) (q := pos0) d1
  -- the run
  have r5 : topRun treeTable pp w 28 annT (400 + 2) sd (restOf (bodyT.drop 8 ++ []) envT cT posD [topFrame pos0]) = some se := piece_app h5 through_end
  rw [List.append_nil] at r5
  have r4 := piece_cons d2 r5
  have r3 := piece_app h3 r4
  rw [show bodyT.take 7 ++ stmD :: bodyT.drop 8 = bodyT from body_eq.symm] at r3
  have r2 := piece_block h2 r3
  have r1 := go_top h1 r2
  have rM := topRun_mono (20000 - (12 + (1 + (1300 + (1 + (1 + 12515 + 7) + 1 + (400 + 2)))))) _ _ _ _ r1
  have t : topFrom treeTable pp w 20000 s0 = some se := by
    unfold topFrom
    rw [k1, k2, k3]
    dsimp only
    rw [show (20000 : Nat) = 12 + (1 + (1300 + (1 + (1 + 12515 + 7) + 1 + (400 + 2)))) + (20000 - (12 + (1 + (1300 + (1 + (1 + 12515 + 7) + 1 + (400 + 2)))))) from rfl, rM]
    show (match looksL s0 se with | true => some se | false => none) = some se
    rw [k18]
  show (openEnds treeTable pp w 20000).map _ = _
  unfold openEnds fencedOpening
  rw [h0]
  show (topFrom treeTable pp w 20000 s0).map _ = _
  rw [t]
  exact congrArg some (Prod.ext k19 k20)
end Mine
end
-- part Hd13
section
open PySem PySem.W PyProof.Rows PySem.Calls
namespace Mine
structure Says (w : World) (h : Heap) : Prop where
  gre : h.nsMap mainGlobals "IPV4_RE" = some (.ref 36)
  gb1 : h.nsMap mainGlobals "b1_set" = some (.ref 58)
  gb3 : h.nsMap mainGlobals "b3_exceptions" = some (.ref 69)
  re : h.get? 36 = some reObj
  code : h.get? 35 = some codeObj
  b1 : h.get? 58 = some (setObj w.params)
  b3 : h.get? 69 = some b3Obj
theorem says_of (w : World) (s : Shared) (e : obsF s = obsA w) : Says w s.heap := by
  unfold obsF obsA at e
  simp only [Prod.mk.injEq] at e
  obtain ⟨e1, e2, e3, e4, e5, e6, e7⟩ := e
  exact ⟨e1, e2, e3, e4, e5, e6, e7⟩
theorem nsMap_keeps {h h' : Heap} {a : Addr} {x : Str} {v : Value} (k : ∀ b o, h.get? b = some o → h'.get? b = some o) (e : h.nsMap a x = some v) : h'.nsMap a x = some v := by
  unfold Heap.nsMap at e ⊢
  cases q : h.get? a with
  | none => rw [q] at e; cases e
  | some o => rw [q] at e; rw [k _ _ q]; exact e
theorem Says.keeps {w : World} {h h' : Heap} (s : Says w h) (k : ∀ b o, h.get? b = some o → h'.get? b = some o) : Says w h' :=
  ⟨nsMap_keeps k s.gre, nsMap_keeps k s.gb1, nsMap_keeps k s.gb3, k _ _ s.re, k _ _ s.code, k _ _ s.b1, k _ _ s.b3⟩

abbrev rwL : OpenLaw := PySem.Challenge.rw_re0115_01
def lawRec : DefRec := match defOf qq "law" with | some (d, _) => d | none => ⟨"", default, [], default, default⟩
theorem law_def : defOf qq "law" = some (lawRec, []) := by kernel_rfl
set_option maxRecDepth 100000 in
theorem row_of (left : LeftO pp qq looseQ (fun _ => true) obsF obsA 20000)
    (call : WalkO qq looseQ (fun _ _ => True) Says rwL.row.toRowW lawRec [] fun f vs => PySem.call f vs) (said : rwL.row.wellSaid = true) : rwL.row.Holds := by
  refine holds_open (r := rwL.row) (q := qq) (loose := looseQ) (Xt := fun _ => true) (XP := fun _ _ => True) (Yf := obsF) (Ya := obsA) (YP := Says) (d := lawRec) (kwd := []) (N := 20000) left says_of (fun w h h' s k => s.keeps k)
    (fun _ _ => trivial) (fun _ _ _ _ _ => trivial) law_def (by kernel_rfl) (by kernel_rfl) (fun s _ => recFacts_nil rfl) rfl said (by decide +kernel) ⟨rfl, rfl, rfl, rfl, rfl, by decide +kernel⟩ ?_ call
  w_witness2
theorem law_holds (left : LeftO pp qq looseQ (fun _ => true) obsF obsA 20000)
    (call : WalkO qq looseQ (fun _ _ => True) Says rwL.row.toRowW lawRec [] fun f vs => PySem.call f vs) : rwL.Holds := by
  w_on
  o_law
  exact row_of left call (by assumption)
end Mine
end
-- part W1
section
open PySem PySem.W PyProof.Rows PySem.Calls
namespace Mine
abbrev Ext (h h' : Heap) : Prop := ∀ b o, h.get? b = some o → h'.get? b = some o
theorem Ext.refl (h : Heap) : Ext h h := fun _ _ e => e
theorem Ext.trans {a b c : Heap} (x : Ext a b) (y : Ext b c) : Ext a c := fun _ _ e => y _ _ (x _ _ e)
theorem Ext.push (h : Heap) (o : Obj) : Ext h (h.push o) := fun _ _ e => Heap.get?_push_of_some _ e

structure Gd (w : World) (mean : ExcName → Option Value) (mg mb : Str → Option Value) (h : Heap) : Prop where
  T : Top qq (looseW qq looseQ) mean mg mb h
  S : Says w h
theorem Gd.keeps {w : World} {mean : ExcName → Option Value} {mg mb : Str → Option Value} {h h' : Heap} (g : Gd w mean mg mb h) (k : Ext h h') : Gd w mean mg mb h' := ⟨g.T.keeps k, g.S.keeps k⟩

def rc (i : Nat) : DefRec := (recsOf qq).getD i ⟨"", default, [], default, default⟩
theorem rc_mem (i : Nat) (h : i < (recsOf qq).length) : rc i ∈ recsOf qq := by
  unfold rc
  rw [List.getD_eq_getElem?_getD, List.getElem?_eq_getElem h]
  exact List.getElem_mem h
theorem recs_len : (recsOf qq).length = 10 := by kernel_rfl
theorem nm0 : (rc 0).name = "is_HDN" := by kernel_rfl
theorem nm1 : (rc 1).name = "reach" := by kernel_rfl
theorem nm2 : (rc 2).name = "in_table_b1" := by kernel_rfl
theorem nm3 : (rc 3).name = "map_table_b3" := by kernel_rfl
theorem nm4 : (rc 4).name = "_law_unseen" := by kernel_rfl
theorem nm5 : (rc 5).name = "_law_label" := by kernel_rfl
theorem nm6 : (rc 6).name = "_law_fold" := by kernel_rfl
theorem nm7 : (rc 7).name = "_law_moves" := by kernel_rfl
theorem nm8 : (rc 8).name = "_law_ends" := by kernel_rfl
theorem nm9 : (rc 9).name = "law" := by kernel_rfl

def freeB (x : Str) : Bool := !startupNames.contains x && !(looseW qq looseQ).contains x && !((recsOf qq).map (·.name)).contains x && !((litsOf qq).map (·.1)).contains x && !((clssOf qq (looseW qq looseQ)).map (·.name)).contains x

section
variable {w : World} {mean : ExcName → Option Value} {mg mb : Str → Option Value} {A : Around} {E : Value → Shared → Prop} {s : Shared} {Q : Value → Shared → Prop}
theorem Gd.b1g {h : Heap} (g : Gd w mean mg mb h) : mg "b1_set" = some (.ref 58) := by rw [g.T.g.eq_nsMap]; exact g.S.gb1
theorem Gd.b3g {h : Heap} (g : Gd w mean mg mb h) : mg "b3_exceptions" = some (.ref 69) := by rw [g.T.g.eq_nsMap]; exact g.S.gb3
theorem Gd.reg {h : Heap} (g : Gd w mean mg mb h) : mg "IPV4_RE" = some (.ref 36) := by rw [g.T.g.eq_nsMap]; exact g.S.gre
theorem Gd.fn {h : Heap} (g : Gd w mean mg mb h) {i : Nat} (hi : i < 10) {x : Str} (hx : (rc i).name = x) : ∃ f o pm cd doc, mg x = some (.ref f) ∧ h.get? f = some o ∧ o.data = .func (docDef (rc i).name (rc i).params (rc i).body (rc i).scope pm cd doc) := by
  obtain ⟨a, o, pm, cd, doc, h1, h2, h3, _⟩ := g.T.fn (rc i) (rc_mem i (by rw [recs_len]; exact hi))
  exact ⟨a, o, pm, cd, doc, hx ▸ h1, h2, h3⟩
theorem Gd.none {h : Heap} (g : Gd w mean mg mb h) {x : Str} (hx : freeB x = true) : mg x = none := by
  unfold freeB at hx
  simp only [Bool.and_eq_true, Bool.not_eq_true', List.contains_eq_mem, decide_eq_false_iff_not] at hx
  obtain ⟨⟨⟨⟨h1, h2⟩, h3⟩, h4⟩, h5⟩ := hx
  exact g.T.free x h1 h2 h3 h4 h5

theorem enter {i : Nat} {f : Addr} {args : List Value} {binds : List (Str × Value)} (hi : i < 10) (g : Gd w mean mg mb s.heap) (hf : mg (rc i).name = some (.ref f)) (hroom : A.depth < recursionLimit)
    (hbind : ∀ pm cd doc, bindArgs (docDef (rc i).name (rc i).params (rc i).body (rc i).scope pm cd doc) ⟨args, []⟩ = pure binds) (hloc : (binds.all fun x => decide ((rc i).scope.names.lookup x.1 = some .local)) = true)
    (hco : (rc i).scope.isCoroutine = false) (hgen : (rc i).scope.isGenerator = false) (hk : (rc i).scope.kind = .function) (hcell : ∀ x ∈ (rc i).scope.names, x.2 ≠ .cell)
    (h : ∀ cd h₁ L, Fr s.heap L h₁ (fun x => binds.reverse.lookup x) → Gd w mean mg mb h₁ →
      wpAny (model pp w) (A.deeper (envOf (rc i).name (rc i).scope L f cd)) (execs (rc i).body (envOf (rc i).name (rc i).scope L f cd))
        (fun fl s' => Q (match fl with | .ret v => v | _ => .none) s') (fun _ _ => False) { s with heap := h₁, toks := s.toks + binds.length }) :
    wpAny (model pp w) A (call (.ref f) args) Q E s := by
  obtain ⟨a, o, pm, cd, doc, h1, h2, h3, h4⟩ := g.T.fn (rc i) (rc_mem i (by rw [recs_len]; exact hi))
  obtain rfl : a = f := by rw [hf] at h1; exact (Value.ref.inj (Option.some.inj h1)).symm
  refine wpAny_call (call_plain_ret hroom h2 h3 g.T.nolimit h4 (hbind pm cd doc) (locs hloc) (fun h₁ F => ?_) hco hgen hk hcell)
  exact h cd h₁ _ F (g.keeps F.keep)

variable {nm : Str} {sc : Scope} {L f : Addr} {cd : Value}
theorem glb {x : Str} {pos : Pos} {v : Value} (g : Gd w mean mg mb s.heap) (hv : mg x = some v) (hk : sc.kind = .function) (hx : (envOf nm sc L f cd).kindOf x = some .globalImplicit) (hd : (x == ("__debug__" : Str)) = false) (h : Q v s) :
    wpAny (model pp w) A (eval (.Name x pos) (envOf nm sc L f cd)) Q E s := Name_function_global hk hx (loadGlobal_global (env := envOf nm sc L f cd) g.T.g hv h) hd
theorem blt {x : Str} {pos : Pos} {v : Value} (g : Gd w mean mg mb s.heap) (hv : bootBuiltins x = some v) (hf : freeB x = true) (hn : (x == ("__name__" : Str)) = false) (hk : sc.kind = .function) (hx : (envOf nm sc L f cd).kindOf x = some .globalImplicit) (hd : (x == ("__debug__" : Str)) = false) (h : Q v s) :
    wpAny (model pp w) A (eval (.Name x pos) (envOf nm sc L f cd)) Q E s :=
  Name_function_global hk hx (loadGlobal_builtin (env := envOf nm sc L f cd) g.T.g (g.none hf) g.T.b ((g.T.builtins x (by simpa using hn)).trans hv) h) hd
end

theorem bb_ord : bootBuiltins "ord" = some (.builtin "ord") := by kernel_rfl
theorem bb_chr : bootBuiltins "chr" = some (.builtin "chr") := by kernel_rfl
theorem bb_len : bootBuiltins "len" = some (.builtin "len") := by kernel_rfl
theorem bb_sum : bootBuiltins "sum" = some (.builtin "sum") := by kernel_rfl
theorem bb_sorted : bootBuiltins "sorted" = some (.builtin "sorted") := by kernel_rfl
theorem bb_range : bootBuiltins "range" = some (.type "range") := by kernel_rfl
theorem bb_list : bootBuiltins "list" = some (.type "list") := by kernel_rfl
theorem bb_str : bootBuiltins "str" = some (.type "str") := by kernel_rfl
-- steps of the walk
local macro_rules | `(tactic| walk_at "L") => `(tactic| (refine' ld ?fF ?fH ?_ (by kernel_rfl) (by kernel_rfl) (by kernel_rfl); (case fF => assumption); (case fH => exact rfl)))
local macro_rules | `(tactic| walk_at "B") => `(tactic| (refine' blt ?fF ?fH (by kernel_rfl) (by kernel_rfl) (by kernel_rfl) (by kernel_rfl) (by kernel_rfl) ?_; (case fF => assumption); (case fH => first | exact bb_ord | exact bb_chr | exact bb_len | exact bb_sum | exact bb_sorted | exact bb_range | exact bb_list | exact bb_str)))
local macro_rules | `(tactic| walk_at "C1") => `(tactic| (refine Call_ ?_ (by kernel_rfl)))
local macro_rules | `(tactic| walk_at "CB") => `(tactic| (refine callWith_builtin1 ?_ (by kernel_rfl) (by kernel_rfl)))
local macro_rules | `(tactic| walk_at "A") => `(tactic| (refine args_cons ?_ (by kernel_rfl)))
local macro_rules | `(tactic| walk_at "body") => `(tactic| conv in execs _ _ => arg 1; whnf)

def b1P (c : Nat) : Bool := (b1L.map (·.1)).contains (c : Int)
theorem b1_set {w : World} {h : Heap} (S : Says w h) : h.SetOf (intKind pp w) 58 (fun k => (b1L.map (·.1)).contains k) 27 := by
  refine ⟨_, _, _, _, S.b1, ⟨rfl, rfl, rfl⟩, rfl, ?_, ?_, by decide, ?_, rfl⟩
  · intro e he
    rw [List.toList_toArray] at he
    obtain ⟨x, hx, rfl⟩ := List.mem_map.mp he
    refine ⟨⟨x.1, intKind_is pp w _ _, ?_⟩, rfl⟩
    have hb : (b1L.all fun x => decide (0 ≤ x.1) && decide (x.1 < 200000)) = true := by decide
    have xa := List.all_eq_true.mp hb x hx
    rw [Bool.and_eq_true, decide_eq_true_eq, decide_eq_true_eq] at xa
    exact (hashInt_small xa.1 xa.2).symm
  · intro k
    rw [List.toList_toArray, List.contains_iff_mem, List.mem_map]
    constructor
    · rintro ⟨x, hx, rfl⟩
      exact ⟨_, List.mem_map.mpr ⟨x, hx, rfl⟩, intKind_is pp w _ _⟩
    · rintro ⟨e, he, hk⟩
      obtain ⟨x, hx, rfl⟩ := List.mem_map.mp he
      refine ⟨x, hx, ?_⟩
      simpa [intKind, Value.isInt] using hk
  · show (_ && _) = true
    rfl
section
variable {w : World} {mean : ExcName → Option Value} {mg mb : Str → Option Value} {A : Around} {E : Value → Shared → Prop} {s : Shared} {Q : Value → Shared → Prop}
set_option maxRecDepth 100000 in
theorem spec_b1 {f : Addr} {c : Nat} {t : Tok} (g : Gd w mean mg mb s.heap) (hf : mg "in_table_b1" = some (.ref f)) (hroom : A.depth < recursionLimit)
    (h : ∀ h' tk, Ext s.heap h' → Q (.bool (b1P c)) { s with heap := h', toks := tk }) : wpAny (model pp w) A (call (.ref f) [.str ⟨#[c]⟩ t]) Q E s := by
  refine enter (i := 2) (binds := [("code", .str ⟨#[c]⟩ t)]) (by decide) g (by rw [nm2]; exact hf) hroom (fun _ _ _ => by kernel_rfl) (by kernel_rfl) (by kernel_rfl) (by kernel_rfl) (by kernel_rfl) (by decide +kernel) ?_
  intro cd h₁ L F g₁
  walk_at "body"
  refine wpAny_execs_cons (wpAny_Return_some (wpAny_Compare1 ?_ (by kernel_rfl)))
  walk_at "C1"
  walk_at "B"
  walk_at "CB"
  walk_at "A"
  walk_at "L"
  refine args_nil (P.ord_of_char ?_)
  refine glb g₁ g₁.b1g (by kernel_rfl) (by kernel_rfl) (by kernel_rfl) ?_
  refine wpAny_inSet_of (knd := intKind pp w) (k := (c : Int)) (intKind_is pp w _ _) rfl (b1_set g₁.S) ?_
  exact h _ _ F.keep
end
end Mine
end
-- part W2
section
open PySem PySem.W PyProof.Rows PySem.Calls
namespace Mine
local macro_rules | `(tactic| walk_at "L") => `(tactic| (refine' ld ?fF ?fH ?_ (by kernel_rfl) (by kernel_rfl) (by kernel_rfl); (case fF => assumption); (case fH => exact rfl)))
local macro_rules | `(tactic| walk_at "B") => `(tactic| (refine' blt ?fF ?fH (by kernel_rfl) (by kernel_rfl) (by kernel_rfl) (by kernel_rfl) (by kernel_rfl) ?_; (case fF => assumption); (case fH => first | exact bb_ord | exact bb_chr | exact bb_len | exact bb_sum | exact bb_sorted | exact bb_range | exact bb_list | exact bb_str)))
local macro_rules | `(tactic| walk_at "C1") => `(tactic| (refine Call_ ?_ (by kernel_rfl)))
local macro_rules | `(tactic| walk_at "CB") => `(tactic| (refine callWith_builtin1 ?_ (by kernel_rfl) (by kernel_rfl)))
local macro_rules | `(tactic| walk_at "A") => `(tactic| (refine args_cons ?_ (by kernel_rfl)))
local macro_rules | `(tactic| walk_at "body") => `(tactic| conv in execs _ _ => arg 1; whnf)
local macro_rules | `(tactic| walk_at "enter") => `(tactic| refine enter (by decide) (by assumption) ?hf (by assumption) (fun _ _ _ => by kernel_rfl) (by kernel_rfl) (by kernel_rfl) (by kernel_rfl) (by kernel_rfl) (by decide +kernel) ?_)

/-- entries that bear the pairs -/
inductive EntsOf : List DictEntry → List (Int × Str) → Prop
  | nil : EntsOf [] []
  | cons {e : DictEntry} {kv : Int × Str} {es : List DictEntry} {l : List (Int × Str)} (h : ∃ t t', e = ⟨hashInt kv.1, .int kv.1 t, .str kv.2 t'⟩) (r : EntsOf es l) : EntsOf (e :: es) (kv :: l)
theorem entsL (t : Nat) (l : List (Int × Str)) : EntsOf (entL t l) l := by
  induction l generalizing t with
  | nil => exact .nil
  | cons a r ih => exact .cons ⟨_, _, rfl⟩ (ih _)
theorem entsS (t : Nat) (l : List (Int × Str)) : EntsOf (entS t l) l := by
  induction l generalizing t with
  | nil => exact .nil
  | cons a r ih => exact .cons ⟨_, _, rfl⟩ (ih _)
theorem EntsOf.append {a b : List DictEntry} {l m : List (Int × Str)} (x : EntsOf a l) (y : EntsOf b m) : EntsOf (a ++ b) (l ++ m) := by
  induction x with
  | nil => exact y
  | cons h _ ih => exact .cons h ih
theorem entsA (n : Nat) : ∀ (l : List (Int × Str)) (t : Nat) (es : List DictEntry) (rest : List Obj) (pre : List (Int × Str)), EntsOf es pre → EntsOf (effA n l t es rest).2.2.1 (pre ++ l.take (17 * n)) := by
  induction n with
  | zero => intro l t es rest pre h; simpa [effA] using h
  | succ n ih =>
    intro l t es rest pre h
    rw [effA]
    have := ih (l.drop 17) (t + 51) (es ++ entL t (l.take 17)) (rest ++ [dObj (entL t (l.take 17)).toArray 17]) (pre ++ l.take 17) (h.append (entsL _ _))
    rw [List.append_assoc, ← List.take_add, show 17 + 17 * n = 17 * (n + 1) by omega] at this
    exact this
theorem ents_disp (n : Nat) (l : List (Int × Str)) (t : Nat) : EntsOf (dispEs n l t) l := by
  have h := (entsA n (l.drop 17) (t + 51) (entL t (l.take 17)) [] (l.take 17) (entsL _ _)).append (entsS (effA n (l.drop 17) (t + 51) (entL t (l.take 17)) []).2.1 (l.drop (17 * (n + 1))))
  rw [← List.take_add, show 17 + 17 * n = 17 * (n + 1) by omega, List.take_append_drop] at h
  exact h
theorem ents_find {es : List DictEntry} {l : List (Int × Str)} (h : EntsOf es l) (k : Int) :
    (es.find? (fun e => Value.isInt k e.key) = none ∧ l.lookup k = none) ∨ ∃ e v t, es.find? (fun e => Value.isInt k e.key) = some e ∧ l.lookup k = some v ∧ e.val = .str v t := by
  induction h with
  | nil => exact .inl ⟨rfl, rfl⟩
  | @cons e kv es l h _ ih =>
    obtain ⟨t, t', rfl⟩ := h
    rw [List.find?_cons, List.lookup_cons]
    by_cases hk : k = kv.1
    · subst hk
      right
      refine ⟨_, kv.2, t', by rw [show Value.isInt kv.1 (.int kv.1 t) = true by simp [Value.isInt]], by simp, rfl⟩
    · have h1 : Value.isInt k (.int kv.1 t) = false := by simp [Value.isInt]; exact fun e => hk e.symm
      have h2 : (k == kv.1) = false := by simpa using hk
      rw [h1, h2]
      exact ih
theorem b3_map {w : World} {h : Heap} (S : Says w h) : ∃ f, h.MapOf (intKind pp w) 69 f ∧ ∀ k, (f k = none ∧ kvs.lookup k = none) ∨ ∃ v t, kvs.lookup k = some v ∧ f k = some (.str v t) := by
  have he := ents_disp 37 kvs 399
  refine ⟨fun k => findBy Value.isInt (dispEs 37 kvs 399).toArray k, ⟨_, _, _, S.b3, ⟨rfl, rfl, rfl⟩, rfl, ?_, fun _ => rfl⟩, ?_⟩
  · intro e hm
    have hm : e ∈ dispEs 37 kvs 399 := by simpa using hm
    clear S
    generalize dispEs 37 kvs 399 = es at he hm
    generalize kvs = l at he
    induction he with
    | nil => cases hm
    | cons h _ ih =>
      cases hm with
      | head => obtain ⟨t, t', rfl⟩ := h; exact ⟨_, intKind_is pp w _ _, rfl⟩
      | tail _ hm => exact ih hm
  · intro k
    unfold findBy
    dsimp only
    rw [List.find?_toArray]
    rcases ents_find he k with ⟨h1, h2⟩ | ⟨e, v, t, h1, h2, h3⟩
    · exact .inl ⟨by rw [h1]; rfl, h2⟩
    · exact .inr ⟨v, t, h2, by rw [h1]; exact congrArg some h3⟩

def b3F (c : Nat) : Str := match kvs.lookup (c : Int) with
  | some v => v
  | none => Txt.lower ⟨#[c]⟩

section
variable {w : World} {mean : ExcName → Option Value} {mg mb : Str → Option Value} {A : Around} {E : Value → Shared → Prop} {s : Shared} {Q : Value → Shared → Prop}
set_option maxRecDepth 100000 in
theorem spec_b3 {f : Addr} {c : Nat} {t : Tok} (g : Gd w mean mg mb s.heap) (hf : mg "map_table_b3" = some (.ref f)) (hroom : A.depth < recursionLimit)
    (h : ∀ h' tk u, Ext s.heap h' → Q (.str (b3F c) u) { s with heap := h', toks := tk }) : wpAny (model pp w) A (call (.ref f) [.str ⟨#[c]⟩ t]) Q E s := by
  refine enter (i := 3) (binds := [("code", .str ⟨#[c]⟩ t)]) (by decide) g (by rw [nm3]; exact hf) hroom (fun _ _ _ => by kernel_rfl) (by kernel_rfl) (by kernel_rfl) (by kernel_rfl) (by kernel_rfl) (by decide +kernel) ?_
  intro cd h₁ L FR g₁
  walk_at "body"
  refine wpAny_execs_cons (wpAny_Assign_Name (MethodCall_ ?_) (by kernel_rfl))
  refine glb g₁ g₁.b3g (by kernel_rfl) (by kernel_rfl) (by kernel_rfl) ?_
  obtain ⟨fm, hm, hfm⟩ := b3_map g₁.S
  refine getMethod_builtin hm.typeIs PySem.F.plainAttrs_dict PySem.F.slot_dict_get PySem.F.type_dict_get hm.noDict ?_
  refine callWith_method1 ?_ (by kernel_rfl) (by kernel_rfl)
  walk_at "A"
  walk_at "C1"
  walk_at "B"
  walk_at "CB"
  walk_at "A"
  walk_at "L"
  refine args_nil (P.ord_of_char (args_nil ?_))
  refine call_meetsIn PySem.F.slot_dict_get hm.typeIs PySem.F.entry_dict_get (PySem.F.args_dict_get_2 _ _) (meets_dict_get (intKind pp w) 69 (intKind_is pp w (c : Int) _) (by decide)) ⟨_, hm, ?_⟩
  rcases hfm (c : Int) with ⟨e1, e2⟩ | ⟨v, t', e2, e1⟩
  · have hb : b3F c = Txt.lower ⟨#[c]⟩ := by unfold b3F; rw [e2]
    rw [e1]
    refine st FR (fun h₂ F₂ => ?_) (by kernel_rfl) (by kernel_rfl)
    refine wpAny_execs_cons (wpAny_If (wpAny_isTrue_Compare1 ?_ (by kernel_rfl)))
    walk_at "L"
    refine wpAny_Constant_none (isNot_none (wpAny_truthy_bool ?_))
    show wpAny _ _ (execs [] _) _ _ _
    refine wpAny_execs_nil ?_
    refine wpAny_execs_cons (wpAny_Return_some (MethodCall_ ?_))
    walk_at "L"
    refine GM.lower (callWith_method0 (SC.lower (fit_lower (show 1 ≤ 5592405 by decide)) ?_))
    rw [← hb]
    exact h _ _ _ F₂.keep
  · have hb : b3F c = v := by unfold b3F; rw [e2]
    rw [e1]
    refine st FR (fun h₂ F₂ => ?_) (by kernel_rfl) (by kernel_rfl)
    refine wpAny_execs_cons (wpAny_If (wpAny_isTrue_Compare1 ?_ (by kernel_rfl)))
    walk_at "L"
    refine wpAny_Constant_none (isNot_none (wpAny_truthy_bool ?_))
    show wpAny _ _ (execs (_ :: _) _) _ _ _
    refine wpAny_execs_cons (wpAny_Return_some ?_)
    walk_at "L"
    rw [← hb]
    exact h _ _ _ F₂.keep
end
end Mine
end
-- part W3
section
open PySem PySem.W PyProof.Rows PySem.Calls
namespace Mine
local macro_rules | `(tactic| walk_at "L") => `(tactic| (refine' ld ?fF ?fH ?_ (by kernel_rfl) (by kernel_rfl) (by kernel_rfl); (case fF => assumption); (case fH => exact rfl)))
local macro_rules | `(tactic| walk_at "B") => `(tactic| (refine' blt ?fF ?fH (by kernel_rfl) (by kernel_rfl) (by kernel_rfl) (by kernel_rfl) (by kernel_rfl) ?_; (case fF => assumption); (case fH => first | exact bb_ord | exact bb_chr | exact bb_len | exact bb_sum | exact bb_sorted | exact bb_range | exact bb_list | exact bb_str)))
local macro_rules | `(tactic| walk_at "C1") => `(tactic| (refine Call_ ?_ (by kernel_rfl)))
local macro_rules | `(tactic| walk_at "CB") => `(tactic| (refine callWith_builtin1 ?_ (by kernel_rfl) (by kernel_rfl)))
local macro_rules | `(tactic| walk_at "A") => `(tactic| (refine args_cons ?_ (by kernel_rfl)))
local macro_rules | `(tactic| walk_at "body") => `(tactic| conv in execs _ _ => arg 1; whnf)

section
variable {w : World} {mean : ExcName → Option Value} {mg mb : Str → Option Value} {A : Around} {E : Value → Shared → Prop} {s : Shared} {Q : Value → Shared → Prop}
variable {nm : Str} {sc : Scope} {L fa : Addr} {cd : Value}
/-- a call of a def of the text by its name -/
theorem callD {i : Nat} {x : Str} {px pos : Pos} {e : Expr} {rest : List Expr} (hi : i < 10) (hx : (rc i).name = x) (g : Gd w mean mg mb s.heap) (hk : sc.kind = .function) (hxk : (envOf nm sc L fa cd).kindOf x = some .globalImplicit) (hd : (x == ("__debug__" : Str)) = false)
    (he : starEach (e :: rest) (envOf nm sc L fa cd) = (false, eval e (envOf nm sc L fa cd)) :: starEach rest (envOf nm sc L fa cd))
    (h : ∀ f, mg x = some (.ref f) → wpAny (model pp w) A (spliced (backTo pos (starEach (e :: rest) (envOf nm sc L fa cd)))) (fun vs s₁ => Ext s.heap s₁.heap ∧ wpAny (model pp w) A (call (.ref f) vs) Q E s₁) E s) :
    wpAny (model pp w) A (eval (.Call (.Name x px) (e :: rest) [] pos) (envOf nm sc L fa cd)) Q E s := by
  obtain ⟨f, o, pm, cdv, doc, h1, h2, h3⟩ := g.fn hi hx
  refine Call_ (glb g h1 hk hxk hd ?_) (by rfl)
  exact callWith_def h3 (wpAny_mono (h f h1) (fun vs s₁ q => ⟨q.1 _ _ h2, q.2⟩) (fun _ _ q => q)) he
end

def foldS (c : Nat) : Str := if b1P c then ⟨#[]⟩ else b3F c
section
variable {w : World} {mean : ExcName → Option Value} {mg mb : Str → Option Value} {A : Around} {E : Value → Shared → Prop} {s : Shared} {Q : Value → Shared → Prop}
set_option maxRecDepth 100000 in
theorem spec_fold {f : Addr} {c : Nat} {t : Tok} (g : Gd w mean mg mb s.heap) (hf : mg "_law_fold" = some (.ref f)) (hroom : A.depth + 1 < recursionLimit)
    (h : ∀ h' tk u, Ext s.heap h' → Q (.str (foldS c) u) { s with heap := h', toks := tk }) : wpAny (model pp w) A (call (.ref f) [.str ⟨#[c]⟩ t]) Q E s := by
  refine enter (i := 6) (binds := [("sign", .str ⟨#[c]⟩ t)]) (by decide) g (by rw [nm6]; exact hf) (by omega) (fun _ _ _ => by kernel_rfl) (by kernel_rfl) (by kernel_rfl) (by kernel_rfl) (by kernel_rfl) (by decide +kernel) ?_
  intro cd h₁ L FR g₁
  walk_at "body"
  refine wpAny_execs_cons (wpAny_Assign_Name ?_ (by kernel_rfl))
  refine callD (i := 2) (by decide) nm2 g₁ (by kernel_rfl) (by kernel_rfl) (by kernel_rfl) (by kernel_rfl) (fun f2 hf2 => ?_)
  walk_at "A"
  walk_at "L"
  refine args_nil ⟨Ext.refl _, ?_⟩
  refine spec_b1 g₁ hf2 hroom (fun h₂ tk₂ x₂ => ?_)
  have F₂ : Fr s.heap L h₂ _ := ⟨FR.ns.keeps x₂, Ext.trans FR.keep x₂, FR.above⟩
  refine st F₂ (fun h₃ F₃ => ?_) (by kernel_rfl) (by kernel_rfl)
  have g₃ : Gd w mean mg mb h₃ := g.keeps F₃.keep
  refine wpAny_execs_cons (wpAny_Return_some (IfExp_ (wpAny_isTrue_Compare1 ?_ (by kernel_rfl))))
  walk_at "L"
  refine wpAny_Constant_bool (is_bool (wpAny_truthy_bool ?_))
  cases hb : b1P c with
  | true =>
    show wpAny _ _ (eval _ _) _ _ _
    refine wpAny_Constant_str ?_
    have e : foldS c = Str.ofString "" := by unfold foldS; rw [hb]; rfl
    rw [← e]
    exact h _ _ _ F₃.keep
  | false =>
    show wpAny _ _ (eval _ _) _ _ _
    refine IfExp_ (wpAny_isTrue_Compare1 ?_ (by kernel_rfl))
    walk_at "L"
    refine wpAny_Constant_bool (is_bool (wpAny_truthy_bool ?_))
    rw [hb]
    show wpAny _ _ (eval _ _) _ _ _
    refine callD (i := 3) (by decide) nm3 g₃ (by kernel_rfl) (by kernel_rfl) (by kernel_rfl) (by kernel_rfl) (fun f3 hf3 => ?_)
    walk_at "A"
    walk_at "L"
    refine args_nil ⟨Ext.refl _, ?_⟩
    refine spec_b3 g₃ hf3 hroom (fun h₄ tk₄ u x₄ => ?_)
    have e : foldS c = b3F c := by unfold foldS; rw [hb]; rfl
    rw [← e]
    exact h _ _ _ (Ext.trans F₃.keep x₄)
end
end Mine
end
-- part R1
section
namespace Mine
open PySem PySem.Sre
def rC : Array Nat := #[14, 8, 1, 2, 4294967295, 1, 1, 46, 0, 16, 46, 24, 9, 1, 4294967295, 13, 4, 8, 0, 0, 1, 6, 5, 1]

/-- how many figures stand from p on, n at the most -/
def figs (T : Array Nat) : Nat → Nat → Nat
  | 0, _ => 0
  | n + 1, p => if isDigit (T.getD p 0) then figs T n (p + 1) + 1 else 0

theorem acc_fig (c : Nat) (sn : Seen) : ∃ sn', accepts rC 15 c sn = .ok (isDigit c, sn') := by
  have e : accepts rC 15 c sn = inSet rC c 24 17 true sn := rfl
  rw [e]
  unfold inSet
  have e2 : category (rC.getD (17 + 1) 0) c = .ok (isDigit c) := by
    show (Except.ok (isDigit c != false) : Except String Bool) = _
    rw [Bool.bne_false]
  show ∃ sn', (do if ← category (rC.getD (17 + 1) 0) c then pure (true, _) else inSet rC c 23 (17 + 2) true _ : Except String (Bool × Seen)) = _
  rw [e2]
  cases hd : isDigit c with
  | true => exact ⟨_, rfl⟩
  | false => exact ⟨_, rfl⟩

theorem run_figs (T : Array Nat) : ∀ (n p f : Nat) (sn : Seen), ∃ sn', Sre.run rC T 15 n p f sn = .ok (f + figs T n p, sn')
  | 0, p, f, sn => ⟨sn, rfl⟩
  | n + 1, p, f, sn => by
    obtain ⟨sn', h⟩ := acc_fig (T.getD p 0) sn
    unfold Sre.run
    rw [h]
    show ∃ x, (if isDigit (T.getD p 0) = true then Sre.run rC T 15 n (p + 1) (f + 1) sn' else pure (f, sn')) = _
    unfold figs
    cases hd : isDigit (T.getD p 0) with
    | true =>
      obtain ⟨sn2, h2⟩ := run_figs T n (p + 1) (f + 1) sn'
      exact ⟨sn2, by rw [if_pos rfl, if_pos rfl, h2]; congr 2; omega⟩
    | false => exact ⟨sn', by rw [if_neg Bool.false_ne_true, if_neg Bool.false_ne_true]; rfl⟩

def mk (T : Array Nat) (st pc pos hh : Nat) (ob : Bool) (fr : List Sre.Frame) (wt : Nat) (ans : Option Bool) (sn : Seen) (oc : Option Sre.Outcome) : M :=
  { code := rC, text := T, lim := T.size, start := st, lastStart := T.size, wholeText := false, mustAdvance := false, pc := pc, pos := pos, handed := hh, outermost := ob, marks := #[], lastmark := -1, lastindex := -1, loops := #[], inner := none, frames := fr, weight := wt, answer := ans, seen := sn, outcome := oc }
def f0 (s : Nat) (b : Bool) : Sre.Frame := { wait := .nextStart, pc := 9, pos := s, outermost := b }
def f1 (p : Nat) (b : Bool) (c : Int) : Sre.Frame := { wait := .giveBack, pc := 11, pos := p, outermost := b, count := c }
/-- the machine at a start -/
def mS (T : Array Nat) (s : Nat) (b : Bool) (hd : Nat) (sn : Seen) : M := mk T s 9 s hd b [f0 s b] 1 none sn none

/-- m comes in some steps, n at the most, to a machine for which P holds -/
def Comes (n : Nat) (m : M) (P : M → Prop) : Prop := ∃ k, k ≤ n ∧ P (Nat.repeat M.step k m)
theorem repeat_step (k : Nat) (m : M) : Nat.repeat M.step k m.step = (Nat.repeat M.step k m).step := by
  induction k with
  | zero => rfl
  | succ k ih => show (Nat.repeat M.step k m.step).step = _; rw [ih]; rfl
theorem Comes.step {n : Nat} {m m' : M} {P : M → Prop} (e : m.step = m') (h : Comes n m' P) : Comes (n + 1) m P := by
  obtain ⟨k, hk, hp⟩ := h
  refine ⟨k + 1, by omega, ?_⟩
  subst e
  show P (Nat.repeat M.step k m).step
  rw [← repeat_step]; exact hp
theorem Comes.here {n : Nat} {m : M} {P : M → Prop} (h : P m) : Comes n m P := ⟨0, Nat.zero_le _, h⟩
theorem Comes.mono {n n' : Nat} {m : M} {P : M → Prop} (hn : n ≤ n') (h : Comes n m P) : Comes n' m P := let ⟨k, hk, hp⟩ := h; ⟨k, by omega, hp⟩

def Ends (b : Bool) (m : M) : Prop := m.outcome = some (if b then .matched else .failed)

/-- the failing of a start: the next one, or the end -/
theorem fail_start {T : Array Nat} {s : Nat} {b : Bool} {st : Nat} {sn : Seen} {pc pos hh : Nat} {ob : Bool} {N : Nat} {P : M → Prop}
    (h : if s < T.size then ∀ sn, Comes N (mS T (s + 1) false (s + 1) sn) P else ∀ m, Ends false m → P m) :
    Comes (N + 3) (mk T st pc pos hh ob [f0 s b] 1 (some false) sn none) P := by
  by_cases hs : s < T.size
  · rw [if_pos hs] at h
    refine Comes.mono (n := N + 1) (by omega) (Comes.step (m' := mS T (s + 1) false (s + 1) sn) ?_ (h sn))
    show M.resume (mk T st 9 s hh b [] 0 none sn none) (f0 s b) false = _
    show (if s < T.size then _ else _) = _
    rw [if_pos hs]
    rfl
  · rw [if_neg hs] at h
    refine Comes.mono (n := 2) (by omega) (Comes.step (m' := mk T st 9 s hh b [] 0 (some false) sn none) ?_ (Comes.step (m' := mk T st 9 s hh b [] 0 (some false) sn (some .failed)) rfl (Comes.here (h _ rfl))))
    show (if s < T.size then _ else _) = _
    rw [if_neg hs]
    rfl
/-- a start that is no dot -/
theorem no_dot {T : Array Nat} {s : Nat} {b : Bool} {hd : Nat} {sn : Seen} {N : Nat} {P : M → Prop} (hc : ¬ (s < T.size ∧ T.getD s 0 = 46))
    (h : if s < T.size then ∀ sn, Comes N (mS T (s + 1) false (s + 1) sn) P else ∀ m, Ends false m → P m) : Comes (N + 4) (mS T s b hd sn) P := by
  refine Comes.step (m' := mk T s 9 s hd b [f0 s b] 1 (some false) (sn.add 16) none) ?_ (fail_start h)
  show (if s ≥ T.size then _ else _) = _
  by_cases hs : s < T.size
  · rw [if_neg (by omega)]
    show (match (Except.ok (T.getD s 0 == 46, sn.add 16) : Except String (Bool × Seen)) with | .error why => _ | .ok (false, seen) => _ | .ok (true, seen) => _) = _
    have : (T.getD s 0 == 46) = false := by simpa using fun e => hc ⟨hs, e⟩
    rw [this]
    rfl
  · rw [if_pos (by omega)]
    rfl
end Mine
end
-- part R2
section
namespace Mine
open PySem PySem.Sre
def endOk (T : Array Nat) (q : Nat) : Bool := q == T.size || (q + 1 == T.size && T.getD q 0 == 10)
def hit (T : Array Nat) (s : Nat) : Bool := decide (s < T.size) && T.getD s 0 == 46 && decide (1 ≤ figs T (T.size - (s + 1)) (s + 1)) && endOk T (s + 1 + figs T (T.size - (s + 1)) (s + 1))

theorem figs_le (T : Array Nat) : ∀ n p, figs T n p ≤ n
  | 0, _ => Nat.le_refl _
  | n + 1, p => by
    unfold figs
    split
    · have := figs_le T n (p + 1); omega
    · omega
theorem figs_digit (T : Array Nat) : ∀ n p j, j < figs T n p → isDigit (T.getD (p + j) 0) = true
  | 0, p, j, h => by simp [figs] at h
  | n + 1, p, j, h => by
    unfold figs at h
    split at h
    · rename_i hd
      cases j with
      | zero => exact hd
      | succ j =>
        have := figs_digit T n (p + 1) j (by omega)
        rw [show p + (j + 1) = p + 1 + j by omega]; exact this
    · omega

section
variable {T : Array Nat} {s : Nat} {b : Bool} {sn : Seen} {N : Nat} {P : M → Prop}
/-- the end after c figures -/
def mG (T : Array Nat) (s : Nat) (b : Bool) (q : Nat) (c : Nat) (sn : Seen) : M := mk T s 21 q q b [f1 q b c, f0 s b] 2 none sn none
theorem at_end {q c : Nat} (he : endOk T q = true) (h : ∀ m, Ends true m → P m) : Comes 6 (mG T s b q c sn) P := by
  refine Comes.step (m' := mk T s 23 q q b [f1 q b c, f0 s b] 2 none ((sn.add 6).add 48) none) ?_ ?_
  · show (match (Except.ok (endOk T q) : Except String Bool) with | .error why => (mk T s 21 q q b [f1 q b c, f0 s b] 2 none (sn.add 6) none).stick why | .ok yes => if yes then mk T s 23 q q b [f1 q b c, f0 s b] 2 none ((sn.add 6).add 48) none else mk T s 21 q q b [f1 q b c, f0 s b] 2 (some false) ((sn.add 6).add 48) none) = _
    rw [he]
    rfl
  refine Comes.step (m' := mk T s 23 q q b [f1 q b c, f0 s b] 2 (some true) (((sn.add 6).add 48).add 1) none) ?_ ?_
  · show (if (b && ((false && _) || (false && _))) = true then _ else _) = _
    rw [if_neg (by cases b <;> simp)]
    rfl
  refine Comes.step (m' := mk T s 11 q q b [f0 s b] 1 (some true) (((sn.add 6).add 48).add 1) none) rfl ?_
  refine Comes.step (m' := mk T s 9 s q b [] 0 (some true) (((sn.add 6).add 48).add 1) none) rfl ?_
  exact Comes.step (m' := mk T s 9 s q b [] 0 (some true) (((sn.add 6).add 48).add 1) (some .matched)) rfl (Comes.here (h _ rfl))

theorem give_back {q : Nat} : ∀ (c : Nat) (sn : Seen), 1 ≤ c → (∀ j, 1 ≤ j → j ≤ c → endOk T (q + j) = false) → (if s < T.size then ∀ sn, Comes N (mS T (s + 1) false (s + 1) sn) P else ∀ m, Ends false m → P m) →
    Comes (N + 3 + 2 * c) (mG T s b (q + c) c sn) P
  | 0, _, h, _, _ => by omega
  | c + 1, sn, _, hne, h => by
    have he := hne (c + 1) (by omega) (Nat.le_refl _)
    have e1 : (mG T s b (q + (c + 1)) (c + 1) sn).step = mk T s 21 (q + (c + 1)) (q + (c + 1)) b [f1 (q + (c + 1)) b ((c + 1 : Nat) : Int), f0 s b] 2 (some false) ((sn.add 6).add 48) none := by
      show (match (Except.ok (endOk T (q + (c + 1))) : Except String Bool) with | .error why => (mk T s 21 (q + (c + 1)) (q + (c + 1)) b [f1 (q + (c + 1)) b ((c + 1 : Nat) : Int), f0 s b] 2 none (sn.add 6) none).stick why | .ok yes => if yes then mk T s 23 (q + (c + 1)) (q + (c + 1)) b [f1 (q + (c + 1)) b ((c + 1 : Nat) : Int), f0 s b] 2 none ((sn.add 6).add 48) none else mk T s 21 (q + (c + 1)) (q + (c + 1)) b [f1 (q + (c + 1)) b ((c + 1 : Nat) : Int), f0 s b] 2 (some false) ((sn.add 6).add 48) none) = _
      rw [he]
      rfl
    by_cases hc : c = 0
    · subst hc
      refine Comes.mono (n := N + 3 + 1 + 1) (by omega) (Comes.step e1 (Comes.step (m' := mk T s 11 (q + 1) (q + 1) b [f0 s b] 1 (some false) ((sn.add 6).add 48) none) rfl (fail_start h)))
    · have e2 : ((c + 1 : Nat) : Int) - 1 = (c : Int) := by omega
      have e3 : (mk T s 21 (q + (c + 1)) (q + (c + 1)) b [f1 (q + (c + 1)) b ((c + 1 : Nat) : Int), f0 s b] 2 (some false) ((sn.add 6).add 48) none).step = mk T s 21 (q + c) (q + c) b [f1 (q + c) b (((c + 1 : Nat) : Int) - 1), f0 s b] 2 none ((sn.add 6).add 48) none := by
        show (if (((c + 1 : Nat) : Int) - 1 < 1) then _ else _) = _
        rw [if_neg (by omega)]
        rfl
      rw [e2] at e3
      exact Comes.mono (n := N + 3 + 2 * c + 1 + 1) (by omega) (Comes.step e1 (Comes.step e3 (give_back c _ (by omega) (fun j h1 h2 => hne j h1 (by omega)) h)))

theorem end_false {q k : Nat} (hk : q + k ≤ T.size) (hd : ∀ j, j < k → isDigit (T.getD (q + j) 0) = true) (he : endOk T (q + k) = false) : ∀ j, 1 ≤ j → j ≤ k → endOk T (q + j) = false := by
  intro j h1 h2
  by_cases e : j = k
  · subst e; exact he
  · have h3 := hd j (by omega)
    unfold endOk
    have a : (q + j == T.size) = false := by simp; omega
    have c : (T.getD (q + j) 0 == 10) = false := by
      cases hc : (T.getD (q + j) 0 == 10) with
      | false => rfl
      | true =>
        rw [beq_iff_eq] at hc
        rw [hc] at h3
        cases h3
    rw [a, c]; simp

/-- a start at a dot -/
theorem at_dot (hs : s < T.size) (hd : T.getD s 0 = 46) {hh : Nat} (hz : T.size < 4294967295)
    (h : hit T s = false → if s < T.size then ∀ sn, Comes N (mS T (s + 1) false (s + 1) sn) P else ∀ m, Ends false m → P m) (hm : hit T s = true → ∀ m, Ends true m → P m)  :
    Comes (N + 2 * T.size + 12) (mS T s b hh sn) P := by
  have e1 : (mS T s b hh sn).step = mk T s 11 (s + 1) hh b [f0 s b] 1 none (sn.add 16) none := by
    show (if s ≥ T.size then _ else match (Except.ok (T.getD s 0 == 46, sn.add 16) : Except String (Bool × Seen)) with | .error why => (mk T s 9 s hh b [f0 s b] 1 none (sn.add 16) none).stick why | .ok (false, seen) => mk T s 9 s hh b [f0 s b] 1 (some false) seen none | .ok (true, seen) => mk T s 11 (s + 1) hh b [f0 s b] 1 none seen none) = _
    rw [if_neg (by omega), hd]
    rfl
  refine Comes.mono (n := N + 2 * T.size + 11 + 1) (by omega) (Comes.step e1 ?_)
  have hit_eq : hit T s = (decide (1 ≤ figs T (T.size - (s + 1)) (s + 1)) && endOk T (s + 1 + figs T (T.size - (s + 1)) (s + 1))) := by
    unfold hit
    rw [hd, decide_eq_true hs]; rfl
  by_cases hr : s + 1 < T.size
  · obtain ⟨sn', hrun⟩ := run_figs T (min 4294967295 ((T.size : Int) - ((s + 1 : Nat) : Int)).toNat) (s + 1) 0 ((((sn.add 16).add 24)).add 13)
    have hmin : min 4294967295 ((T.size : Int) - ((s + 1 : Nat) : Int)).toNat = T.size - (s + 1) := by omega
    rw [Nat.zero_add] at hrun
    generalize hk : figs T (T.size - (s + 1)) (s + 1) = k at hit_eq
    have hkl := figs_le T (T.size - (s + 1)) (s + 1)
    have hdg := figs_digit T (T.size - (s + 1)) (s + 1)
    rw [hk] at hkl hdg
    have e2 : (mk T s 11 (s + 1) hh b [f0 s b] 1 none (sn.add 16) none).step = if k < 1 then mk T s 11 (s + 1) hh b [f0 s b] 1 (some false) sn' none else mG T s b (s + 1 + k) k sn' := by
      show (if ((1 : Nat) : Int) > (T.size : Int) - ((s + 1 : Nat) : Int) then _ else match Sre.run rC T 15 (min 4294967295 ((T.size : Int) - ((s + 1 : Nat) : Int)).toNat) (s + 1) 0 ((((sn.add 16).add 24)).add 13) with | .error why => _ | .ok (n, seen) => if n < 1 then mk T s 11 (s + 1) hh b [f0 s b] 1 (some false) seen none else mG T s b (s + 1 + n) n seen) = _
      rw [if_neg (by omega), hrun, hmin, hk]
    by_cases k1 : k < 1
    · rw [if_pos k1] at e2
      have hf : hit T s = false := by rw [hit_eq, decide_eq_false (by omega)]; rfl
      exact Comes.mono (n := N + 3 + 1) (by omega) (Comes.step e2 (fail_start (h hf)))
    · rw [if_neg k1] at e2
      cases he : endOk T (s + 1 + k) with
      | true =>
        have hf : hit T s = true := by rw [hit_eq, decide_eq_true (by omega), he]; rfl
        exact Comes.mono (n := 6 + 1) (by omega) (Comes.step e2 (at_end he (hm hf)))
      | false =>
        have hf : hit T s = false := by rw [hit_eq, he]; simp
        exact Comes.mono (n := N + 3 + 2 * k + 1) (by omega) (Comes.step e2 (give_back k sn' (by omega) (end_false (by omega) hdg he) (h hf)))
  · have e2 : (mk T s 11 (s + 1) hh b [f0 s b] 1 none (sn.add 16) none).step = mk T s 11 (s + 1) hh b [f0 s b] 1 (some false) ((sn.add 16).add 24) none := by
      show (if ((1 : Nat) : Int) > (T.size : Int) - ((s + 1 : Nat) : Int) then _ else _) = _
      rw [if_pos (by omega)]
      rfl
    have hf : hit T s = false := by
      rw [hit_eq, show T.size - (s + 1) = 0 by omega]; rfl
    exact Comes.mono (n := N + 3 + 1) (by omega) (Comes.step e2 (fail_start (h hf)))
end

/-- some start from s on hits -/
def anyHit (T : Array Nat) : Nat → Nat → Bool
  | 0, s => hit T s
  | n + 1, s => hit T s || anyHit T n (s + 1)
theorem hit_out {T : Array Nat} {s : Nat} (h : ¬ (s < T.size ∧ T.getD s 0 = 46)) : hit T s = false := by
  unfold hit
  by_cases hs : s < T.size
  · have : (T.getD s 0 == 46) = false := by simpa using fun e => h ⟨hs, e⟩
    rw [this]; simp
  · rw [decide_eq_false hs]; rfl
theorem search_ends {T : Array Nat} (hz : T.size < 4294967295) : ∀ (n s : Nat) (b : Bool) (hh : Nat) (sn : Seen), s + n = T.size → Comes ((n + 1) * (2 * T.size + 20)) (mS T s b hh sn) (Ends (anyHit T n s))
  | 0, s, b, hh, sn, e => by
    refine Comes.mono (n := 0 + 4) (by omega) (no_dot (by omega) ?_)
    rw [if_neg (by omega)]
    intro m hm
    unfold anyHit
    rw [hit_out (by omega)]; exact hm
  | n + 1, s, b, hh, sn, e => by
    have ih := fun sn => search_ends hz n (s + 1) false (s + 1) sn (by omega)
    have hN : (n + 1 + 1) * (2 * T.size + 20) = (n + 1) * (2 * T.size + 20) + (2 * T.size + 20) := by rw [Nat.succ_mul]
    by_cases hd : T.getD s 0 = 46
    · refine Comes.mono (n := (n + 1) * (2 * T.size + 20) + 2 * T.size + 12) (by omega) (at_dot (by omega) hd hz (fun hf => ?_) (fun hf m hm => ?_))
      · rw [if_pos (by omega)]
        unfold anyHit
        rw [hf, Bool.false_or]
        exact ih
      · unfold anyHit
        rw [hf, Bool.true_or]; exact hm
    · refine Comes.mono (n := (n + 1) * (2 * T.size + 20) + 4) (by omega) (no_dot (fun x => hd x.2) ?_)
      rw [if_pos (by omega)]
      unfold anyHit
      rw [hit_out (fun x => hd x.2), Bool.false_or]
      exact ih
end Mine
end
-- part R3
section
open PySem PySem.W PyProof.Rows PySem.Calls
namespace Mine
set_option maxRecDepth 100000
theorem plainAttrs_pat : PlainAttrs "re.Pattern" :=
  ⟨⟨"object.__getattribute__", by rw [typeLookup_type, builtinLookup_eq_fast]; kernel_rfl, by decide +kernel⟩, by rw [typeLookup_type, builtinLookup_eq_fast]; kernel_rfl⟩
theorem slot_pat_search : Slot "re.Pattern" "search" "re.Pattern.search" :=
  .of (owner := "re.Pattern") (n := "search") (by rw [typeLookup_type, builtinLookup_eq_fast]; kernel_rfl) (by decide +kernel) (by decide +kernel) (by decide +kernel)
    (by first | exact .inl (by decide +kernel) | exact .inr (by decide +kernel)) (by rw [isSubtype_type]; kernel_rfl)
theorem type_pat_search : typeOf (.builtin "re.Pattern.search") = pure (.type "method_descriptor") := by show builtinType _ = _; rw [builtinType_eq_fast]; kernel_rfl
theorem entry_pat_search : entryFor table "re.Pattern.search" = some Builtin.«re.Pattern.search» := entryFor_of_tree (by kernel_rfl)
theorem args_pat_search (a b : Value) : argsOk "re.Pattern.search" ⟨[a, b], []⟩ := by
  unfold argsOk; kernel_rfl

open Builtin.Re in
section
variable {M : Model} {A : Around} {E : Value → Shared → Prop} {s : Shared}
theorem runFor_some {m : Sre.M} (h : m.outcome.isSome = true) : ∀ n, Sre.M.runFor n m = m
  | 0 => rfl
  | n + 1 => by unfold Sre.M.runFor; rw [if_pos h]
theorem step_some {m : Sre.M} (h : m.outcome.isSome = true) : m.step = m := by unfold Sre.M.step; rw [if_pos h]
theorem runFor_eq : ∀ (n : Nat) (m : Sre.M), Sre.M.runFor n m = Nat.repeat Sre.M.step n m
  | 0, _ => rfl
  | n + 1, m => by
    unfold Sre.M.runFor
    show _ = (Nat.repeat Sre.M.step n m).step
    rw [← repeat_step]
    by_cases h : m.outcome.isSome = true
    · rw [if_pos h, step_some h]
      have : ∀ k, Nat.repeat Sre.M.step k m = m := fun k => by
        induction k with
        | zero => rfl
        | succ k ih => show (Nat.repeat Sre.M.step k m).step = m; rw [ih, step_some h]
      exact (this n).symm
    · rw [if_neg h, runFor_eq n m.step]
theorem drive {P : Sre.M → Prop} (hP : ∀ m, P m → m.outcome.isSome = true) : ∀ (turns : Nat) (m : Sre.M) (N : Nat), Comes N m P → N < turns → ∀ {Q : Sre.M → Shared → Prop}, (∀ m', P m' → Q m' s) → wpAny M A (reDrive turns m) Q E s
  | 0, m, N, _, h, Q, _ => absurd h (Nat.not_lt_zero _)
  | turns + 1, m, N, hc, hN, Q, h => by
    obtain ⟨k, hk, hp⟩ := hc
    unfold reDrive
    dsimp only
    have e : Sre.M.runFor reTurnSteps m = Nat.repeat Sre.M.step 4 m := runFor_eq 4 m
    rw [e]
    have stay : ∀ j, ∀ m : Sre.M, m.outcome.isSome = true → Nat.repeat Sre.M.step j m = m := fun j m hm => by
      induction j with
      | zero => rfl
      | succ j ih => show (Nat.repeat Sre.M.step j m).step = m; rw [ih, step_some hm]
    have add : ∀ a b (m : Sre.M), Nat.repeat Sre.M.step (a + b) m = Nat.repeat Sre.M.step a (Nat.repeat Sre.M.step b m) := fun a b m => by
      induction a with
      | zero => rw [Nat.zero_add]; rfl
      | succ a ih => rw [show a + 1 + b = (a + b) + 1 by omega]; show (Nat.repeat Sre.M.step (a + b) m).step = (Nat.repeat Sre.M.step a _).step; rw [ih]
    by_cases hs : (Nat.repeat Sre.M.step 4 m).outcome.isSome = true
    · rw [if_pos hs]
      refine wpAny_pure (h _ ?_)
      by_cases h4 : k ≤ 4
      · have := stay (4 - k) _ (hP _ hp)
        rw [← add, show 4 - k + k = 4 by omega] at this
        rw [this]; exact hp
      · have := stay (k - 4) _ hs
        rw [← add, show k - 4 + 4 = k by omega] at this
        rw [← this]; exact hp
    · rw [if_neg hs]
      have h4 : 4 < k := by
        apply Decidable.byContradiction
        intro h4
        have := stay (4 - k) _ (hP _ hp)
        rw [← add, show 4 - k + k = 4 by omega] at this
        rw [this] at hs
        exact hs (hP _ hp)
      refine wpAny_bind (wpAny_rule ?_)
      refine drive hP turns _ (k - 4) ⟨k - 4, Nat.le_refl _, ?_⟩ (by omega) h
      rw [← add, show k - 4 + 4 = k by omega]; exact hp

theorem runToEnd {m : Sre.M} {N : Nat} {b : Bool} (hc : Comes N m (Ends b)) (hN : N < 2 ^ 64) {Q : Option Sre.M → Shared → Prop} (h0 : b = false → Q none s) (h1 : b = true → ∀ m', Q (some m') s) : wpAny M A (reRunToEnd m) Q E s := by
  unfold reRunToEnd
  refine wpAny_bind (drive (P := Ends b) (fun m hm => by rw [hm]; rfl) (2 ^ 64) m N hc hN (fun m' hm' => ?_))
  refine wpAny_bind (wpAny_forIn_list _ (fun _ _ s' => s' = s) _ (fun x rest u s' hs => ?_) (fun u s' hs => ?_) _ _ rfl)
  · subst hs
    split
    · exact wpAny_bind (wpAny_rule (wpAny_pure rfl))
    · exact wpAny_pure rfl
  · subst hs
    have e : m'.outcome = some (if b = true then .matched else .failed) := hm'
    rw [e]
    cases b with
    | true => exact wpAny_pure (h1 rfl m')
    | false => exact wpAny_pure (h0 rfl)
end

def matchObj (x : Value) (q : Value) (n : Nat) (i : Int) (a : Addr) : Obj := { cls := .type "re.Match", data := .fields #[x, q, rawInt 0, rawInt n, rawInt i, .ref a] }
theorem hit_small {T : Array Nat} (h : T.size < 2) : ∀ n s, anyHit T n s = false := by
  have hh : ∀ s, hit T s = false := fun s => by
    by_cases hs : s < T.size
    · unfold hit
      rw [show T.size - (s + 1) = 0 by omega]
      simp [figs]
    · exact hit_out (fun x => hs x.1)
  intro n
  induction n with
  | zero => intro s; exact hh s
  | succ n ih => intro s; unfold anyHit; rw [hh s, ih]; rfl
/-- does the pattern of IPv4 numbers find something -/
def ipv4 (x : Str) : Bool := anyHit x.cps x.cps.size 0

section
variable {w : World} {A : Around} {E : Value → Shared → Prop} {s : Shared} {Q : Value → Shared → Prop}
theorem named_eq (x : Str) (t : Tok) : Builtin.Re.reNamed "re.Pattern.search" "search" ["string", "pos", "endpos"] 1 [.str x t] [] = pure [some (.str x t), none, none] := by rfl
theorem code_items : (((reCode.map fun i => Value.int i 0).toArray.map Builtin.Re.reRawOf).map (·.toNat)) = rC := by decide +kernel
theorem start_comes (x : Str) (hx : x.cps.size < 4294967295) : ∃ N, N ≤ (x.cps.size + 1) * (2 * x.cps.size + 20) + 1 ∧ Comes N (Sre.forSearch rC x.cps 0 0 x.cps.size false) (Ends (ipv4 x)) := by
  unfold Sre.forSearch
  dsimp only
  by_cases h2 : x.cps.size < 2
  · rw [if_pos (by show (decide (0 > x.cps.size) || decide (x.cps.size - 0 < 2)) = true; simp; omega)]
    refine ⟨1, by omega, Comes.step rfl (Comes.here ?_)⟩
    unfold ipv4
    rw [hit_small h2]
    rfl
  · rw [if_neg (by show ¬ ((decide (0 > x.cps.size) || decide (x.cps.size - 0 < 2)) = true); simp; omega)]
    exact ⟨_, Nat.le_succ _, search_ends hx x.cps.size 0 true 0 _ (by omega)⟩

theorem wp_search {x : Str} {t : Tok} (S : Says w s.heap) (hx : x.length ≤ 1000000) (h0 : ipv4 x = false → Q .none s)
    (h1 : ipv4 x = true → ∀ a h' o, Ext s.heap h' → h'.get? a = some o → o.cls = .type "re.Match" → Q (.ref a) { s with heap := h' }) :
    wpAny (model pp w) A (call (.builtin "re.Pattern.search") [.ref 36, .str x t]) Q E s := by
  refine wpAny_call_entry slot_pat_search ⟨_, S.re, rfl⟩ entry_pat_search ?_ (args_pat_search _ _)
  unfold Builtin.«re.Pattern.search»
  refine wpAny_bind ?_
  unfold Builtin.Re.reTarget
  dsimp only
  rw [named_eq]
  refine wpAny_bind (wpAny_pure ?_)
  dsimp only
  refine wpAny_bind (wpAny_pure (wpAny_bind (wpAny_pure ?_)))
  refine wpAny_bind (wpAny_fieldsOf S.re rfl ?_)
  refine wpAny_bind (m := Builtin.Re.reTextOf (.str x t)) (wpAny_of_eq (a := (x.cps, 0)) rfl ?_)
  rw [if_neg (c := (_ == 0 && _ == 1) = true)]
  rotate_left
  · exact Bool.false_ne_true
  rw [if_neg (c := (_ == 1 && _ == 0) = true)]
  rotate_left
  · exact Bool.false_ne_true
  refine wpAny_bind (m := Builtin.Re.reNoCollectionInside (.str x t) 0) (wpAny_of_eq (a := ()) rfl ?_)
  refine wpAny_bind ?_
  show wpAny _ _ (Builtin.Re.reRawItems (.ref 35)) _ _ _
  unfold Builtin.Re.reRawItems
  refine wpAny_bind (wpAny_seqItems S.code rfl (wpAny_pure (wpAny_pure ?_)))
  dsimp only [Option.getD_some]
  rw [code_items]
  have hl : min (2 ^ 63 - 1 : Int).toNat x.cps.size = x.cps.size := by
    have : x.cps.size ≤ 1000000 := hx
    omega
  have hz : min (0 : Int).toNat x.cps.size = 0 := by omega
  rw [hl, hz]
  unfold Builtin.Re.reAnswer
  obtain ⟨N, hN, hc⟩ := start_comes x (by have : x.cps.size ≤ 1000000 := hx; omega)
  have hN2 : N < 2 ^ 64 := by
    have h3 : x.cps.size ≤ 1000000 := hx
    have h4 : (x.cps.size + 1) * (2 * x.cps.size + 20) ≤ 1000001 * 2000020 := Nat.mul_le_mul (by omega) (by omega)
    omega
  refine wpAny_bind (runToEnd (N := N) hc hN2 (fun e => ?_) (fun e m' => ?_))
  · exact wpAny_pure ⟨_, rfl, h0 e⟩
  · show wpAny _ _ (Builtin.Re.reNewMatch (.ref 36) (.str x t) 0 0 x.cps.size m' >>= fun v => ret v) _ _ _
    refine wpAny_bind ?_
    unfold Builtin.Re.reNewMatch
    dsimp only
    rw [if_neg (by simp)]
    simp only [List.range_zero, List.flatMap_nil]
    unfold newTuple newFields
    refine wpAny_bind (wpAny_newObj_type ?_ (by size_fits))
    refine wpAny_newObj_type ?_ (by size_fits)
    refine wpAny_pure ⟨_, rfl, h1 e _ _ _ (Ext.trans (Ext.push _ _) (Ext.push _ _)) (Heap.get?_push_size _ rfl) rfl⟩
end

/-- a match is true -/
theorem truthy_match {M : Model} {A : Around} {E : Value → Shared → Prop} {s : Shared} {a : Addr} {o : Obj} {Q : Bool → Shared → Prop} (ho : s.heap.get? a = some o) (hc : o.cls = .type "re.Match") (h : Q true s) : wpAny M A (truthy (.ref a)) Q E s := by
  have hb : typeLookup (.type "re.Match") "__bool__" = pure none := by rw [typeLookup_type, builtinLookup_eq_fast]; kernel_rfl
  have hl : typeLookup (.type "re.Match") "__len__" = pure none := by rw [typeLookup_type, builtinLookup_eq_fast]; kernel_rfl
  have hT : s.TypeIs (.ref a) "re.Match" := ⟨o, ho, hc⟩
  unfold truthy
  dsimp only
  refine wpAny_bind ?_
  unfold callSpecial?
  refine wpAny_bind (wpAny_specialOf hT hb (wpAny_pure ?_))
  refine wpAny_bind (wpAny_specialOf hT hl ?_)
  exact wpAny_pure h
end Mine
end
-- part W4
section
open PySem PySem.W PyProof.Rows PySem.Calls
namespace Mine
local macro_rules | `(tactic| walk_at "L") => `(tactic| (refine' ld ?fF ?fH ?_ (by kernel_rfl) (by kernel_rfl) (by kernel_rfl); (case fF => assumption); (case fH => exact rfl); (try dsimp only)))
local macro_rules | `(tactic| walk_at "B") => `(tactic| (refine' blt ?fF ?fH (by kernel_rfl) (by kernel_rfl) (by kernel_rfl) (by kernel_rfl) (by kernel_rfl) ?_; (case fF => assumption); (case fH => first | exact bb_ord | exact bb_chr | exact bb_len | exact bb_sum | exact bb_sorted | exact bb_range | exact bb_list | exact bb_str); (try dsimp only)))
local macro_rules | `(tactic| walk_at "C1") => `(tactic| (refine Call_ ?_ (by kernel_rfl)))
local macro_rules | `(tactic| walk_at "CB") => `(tactic| (refine callWith_builtin1 ?_ (by kernel_rfl) (by kernel_rfl)))
local macro_rules | `(tactic| walk_at "A") => `(tactic| (refine args_cons ?_ (by kernel_rfl)))
local macro_rules | `(tactic| walk_at "body") => `(tactic| conv in execs _ _ => arg 1; whnf)

section
variable {w : World} {A : Around} {E : Value → Shared → Prop} {s : Shared} {Q : Value → Shared → Prop} {env : Env} {x : Str} {t : Tok}
theorem keptExt (h₀ : Heap) : KeptH (Ext h₀) := fun h ob e => Ext.trans e (Ext.push h ob)
/-- x[i:] -/
theorem cutFrom {value e : Expr} {p : Pos} {i : Int} {ui : Tok} (h : ∀ h' t' k, Ext s.heap h' → Q (.str (Txt.slice x (some i) none) t') { s with heap := h', toks := k }) (hsz : x.length ≤ sizeLine)
    (hs : subscripted (.Slice (some e) none none p) false (.str x t) (.ref s.heap.objs.size) = operate [.ref s.heap.objs.size, .str x t] (getItem (.str x t) (.ref s.heap.objs.size)) := by with_unfolding_all rfl)
    (ht : ∀ r, letTemporaryGo value (.str x t) r = pure () := by intro _; with_unfolding_all rfl) :
    wpAny (model pp w) A (subscriptTail value (.Slice (some e) none none p) (.str x t) (.ref s.heap.objs.size)) Q E { s with heap := s.heap.push { cls := .type "slice", data := .fields #[.int i ui, .none, .none] } } :=
  tail_of_ItemOn (SBH.sliceItem_sn (P := Ext s.heap) (keptExt _) (Ext.refl _) h hsz) hs ht
theorem cutTo {value e : Expr} {p : Pos} {i : Int} {ui : Tok} (h : ∀ h' t' k, Ext s.heap h' → Q (.str (Txt.slice x none (some i)) t') { s with heap := h', toks := k }) (hsz : x.length ≤ sizeLine)
    (hs : subscripted (.Slice none (some e) none p) false (.str x t) (.ref s.heap.objs.size) = operate [.ref s.heap.objs.size, .str x t] (getItem (.str x t) (.ref s.heap.objs.size)) := by with_unfolding_all rfl)
    (ht : ∀ r, letTemporaryGo value (.str x t) r = pure () := by intro _; with_unfolding_all rfl) :
    wpAny (model pp w) A (subscriptTail value (.Slice none (some e) none p) (.str x t) (.ref s.heap.objs.size)) Q E { s with heap := s.heap.push { cls := .type "slice", data := .fields #[.none, .int i ui, .none] } } :=
  tail_of_ItemOn (SBH.sliceItem_ns (P := Ext s.heap) (keptExt _) (Ext.refl _) h hsz) hs ht
end

/-- is_HDN -/
def hdn (x : Str) : Bool := !ipv4 x && !(x == "") && !(Txt.item x 0 == "." || Txt.item x (-1) == ".")
section
variable {w : World} {mean : ExcName → Option Value} {mg mb : Str → Option Value} {A : Around} {E : Value → Shared → Prop} {s : Shared} {Q : Value → Shared → Prop}
set_option maxRecDepth 100000 in
set_option maxHeartbeats 1000000 in
theorem spec_hdn {f : Addr} {x : Str} {t : Tok} (g : Gd w mean mg mb s.heap) (hx : x.length ≤ 1000000) (hf : mg "is_HDN" = some (.ref f)) (hroom : A.depth < recursionLimit)
    (h : ∀ h' tk, Ext s.heap h' → Q (.bool (hdn x)) { s with heap := h', toks := tk }) : wpAny (model pp w) A (call (.ref f) [.str x t]) Q E s := by
  refine enter (i := 0) (binds := [("text", .str x t)]) (by decide) g (by rw [nm0]; exact hf) hroom (fun _ _ _ => by kernel_rfl) (by kernel_rfl) (by kernel_rfl) (by kernel_rfl) (by kernel_rfl) (by decide +kernel) ?_
  intro cd h₁ L FR g₁
  walk_at "body"
  refine wpAny_execs_cons (wpAny_If (isTrue_plain (MethodCall_ ?_)))
  refine glb g₁ g₁.reg (by kernel_rfl) (by kernel_rfl) (by kernel_rfl) ?_
  refine getMethod_builtin ⟨_, g₁.S.re, rfl⟩ plainAttrs_pat slot_pat_search type_pat_search (fun a e => ⟨_, (Value.ref.inj e) ▸ g₁.S.re, rfl⟩) ?_
  refine callWith_method1 ?_ (by kernel_rfl) (by kernel_rfl)
  walk_at "A"
  walk_at "L"
  refine args_nil (wp_search g₁.S hx (fun e => ?_) (fun e a h' o k ho hc => ?_))
  · refine truthy_none ?_
    show wpAny _ _ (execs [] _) _ _ _
    refine wpAny_execs_nil ?_
    refine wpAny_execs_cons (wpAny_If (wpAny_isTrue_Compare1 ?_ (by kernel_rfl)))
    walk_at "L"
    refine wpAny_Constant_str (eq_str (wpAny_truthy_bool ?_))
    cases he : (x == Str.ofString "") with
    | true =>
      show wpAny _ _ (execs (_ :: _) _) _ _ _
      refine wpAny_execs_cons (wpAny_Return_some (wpAny_Constant_bool ?_))
      have hq : hdn x = false := by unfold hdn; rw [he]; simp
      rw [← hq]; exact h _ _ FR.keep
    | false =>
      show wpAny _ _ (execs [] _) _ _ _
      refine wpAny_execs_nil ?_
      have hlen : 0 < x.length := by
        apply Nat.pos_of_ne_zero
        intro h0
        have : x = Str.ofString "" := by
          obtain ⟨c⟩ := x
          have : c = #[] := Array.eq_empty_of_size_eq_zero h0
          rw [this]; rfl
        rw [this] at he
        simp at he
      refine wpAny_execs_cons (wpAny_If (isTrue_or ?_))
      refine wpAny_isTrue_Compare1 (Subscript_ ?_) (by kernel_rfl)
      walk_at "L"
      refine wpAny_Constant_int (item_str (by decide) (by omega) (by omega) (fun _ => ?_) (by kernel_rfl) (by intro _; kernel_rfl))
      refine wpAny_Constant_str (eq_str (wpAny_truthy_bool ?_))
      cases h1 : (Txt.item x 0 == Str.ofString ".") with
      | true =>
        show wpAny _ _ (execs (_ :: _) _) _ _ _
        refine wpAny_execs_cons (wpAny_Return_some (wpAny_Constant_bool ?_))
        have hq : hdn x = false := by unfold hdn; rw [h1]; simp
        rw [← hq]; exact h _ _ FR.keep
      | false =>
        show wpAny _ _ (isTrue _ _ _) _ _ _
        refine isTrue_or (wpAny_isTrue_Compare1 (Subscript_ ?_) (by kernel_rfl))
        walk_at "L"
        refine wpAny_UnaryOp (wpAny_Constant_int (neg_int ?_))
        refine item_str (by decide) (by omega) (by omega) (fun _ => ?_) (by kernel_rfl) (by intro _; kernel_rfl)
        refine wpAny_Constant_str (eq_str (wpAny_truthy_bool ?_))
        cases h2 : (Txt.item x (-1) == Str.ofString ".") with
        | true =>
          show wpAny _ _ (execs (_ :: _) _) _ _ _
          refine wpAny_execs_cons (wpAny_Return_some (wpAny_Constant_bool ?_))
          have hq : hdn x = false := by unfold hdn; rw [h2]; simp
          rw [← hq]; exact h _ _ FR.keep
        | false =>
          show wpAny _ _ (isTrue _ _ _) _ _ _
          refine isTrue_or_nil ?_
          show wpAny _ _ (execs [] _) _ _ _
          refine wpAny_execs_nil ?_
          refine wpAny_execs_cons (wpAny_Return_some (wpAny_Constant_bool ?_))
          have hq : hdn x = true := by unfold hdn; rw [e, he, h1, h2]; rfl
          rw [← hq]; exact h _ _ FR.keep
  · refine truthy_match ho hc ?_
    show wpAny _ _ (execs (_ :: _) _) _ _ _
    refine wpAny_execs_cons (wpAny_Return_some (wpAny_Constant_bool ?_))
    have hq : hdn x = false := by unfold hdn; rw [e]; rfl
    rw [← hq]; exact h _ _ (Ext.trans FR.keep k)
end
end Mine
end
-- part W5
section
open PySem PySem.W PyProof.Rows PySem.Calls
namespace Mine
local macro_rules | `(tactic| walk_at "L") => `(tactic| (refine' ld ?fF ?fH ?_ (by kernel_rfl) (by kernel_rfl) (by kernel_rfl); (case fF => assumption); (case fH => exact rfl); (try dsimp only)))
local macro_rules | `(tactic| walk_at "B") => `(tactic| (refine' blt ?fF ?fH (by kernel_rfl) (by kernel_rfl) (by kernel_rfl) (by kernel_rfl) (by kernel_rfl) ?_; (case fF => assumption); (case fH => first | exact bb_ord | exact bb_chr | exact bb_len | exact bb_sum | exact bb_sorted | exact bb_range | exact bb_list | exact bb_str); (try dsimp only)))
local macro_rules | `(tactic| walk_at "C1") => `(tactic| (refine Call_ ?_ (by kernel_rfl)))
local macro_rules | `(tactic| walk_at "CB") => `(tactic| (refine callWith_builtin1 ?_ (by kernel_rfl) (by kernel_rfl)))
local macro_rules | `(tactic| walk_at "A") => `(tactic| (refine args_cons ?_ (by kernel_rfl)))
local macro_rules | `(tactic| walk_at "body") => `(tactic| conv in execs _ _ => arg 1; whnf)
def dotS : Str := "."
def reachB (x : Str) : Str := Txt.slice x (some (Txt.find x dotS + 1)) none
def reachS (x : Str) : Str := if 0 ≤ Txt.find x dotS ∧ hdn x = true ∧ (0 ≤ Txt.find (reachB x) dotS ∨ (reachB x == "local") = true) then dotS ++ reachB x else x
section
variable {w : World} {mean : ExcName → Option Value} {mg mb : Str → Option Value} {A : Around} {E : Value → Shared → Prop} {s : Shared} {Q : Value → Shared → Prop}
theorem frOn {h₀ h h' : Heap} {L : Addr} {m : Str → Option Value} (F : Fr h₀ L h m) (x : Ext h h') : Fr h₀ L h' m := ⟨F.ns.keeps x, Ext.trans F.keep x, F.above⟩
set_option maxRecDepth 100000 in
set_option maxHeartbeats 1000000 in
theorem spec_reach {f : Addr} {x : Str} {t : Tok} (g : Gd w mean mg mb s.heap) (hx : x.length ≤ 1000000) (hf : mg "reach" = some (.ref f)) (hroom : A.depth + 1 < recursionLimit)
    (h : ∀ h' tk u, Ext s.heap h' → Q (.str (reachS x) u) { s with heap := h', toks := tk }) : wpAny (model pp w) A (call (.ref f) [.str x t]) Q E s := by
  refine enter (i := 1) (binds := [("h", .str x t)]) (by decide) g (by rw [nm1]; exact hf) (by omega) (fun _ _ _ => by kernel_rfl) (by kernel_rfl) (by kernel_rfl) (by kernel_rfl) (by kernel_rfl) (by decide +kernel) ?_
  intro cd h₁ L FR g₁
  walk_at "body"
  refine wpAny_execs_cons (wpAny_Assign_Name (MethodCall_ ?_) (by kernel_rfl))
  walk_at "L"
  refine GM.find (callWith_method1 ?_ (by kernel_rfl) (by kernel_rfl))
  walk_at "A"
  refine wpAny_Constant_str (args_nil (SC.find ?_))
  refine st FR (fun h₂ F₂ => ?_) (by kernel_rfl) (by kernel_rfl)
  dsimp only at F₂ ⊢
  have g₂ : Gd w mean mg mb h₂ := g.keeps F₂.keep
  refine wpAny_execs_cons (wpAny_If (wpAny_isTrue_Compare1 ?_ (by kernel_rfl)))
  walk_at "L"
  refine wpAny_Constant_int (ge_int (wpAny_truthy_bool ?_))
  -- at the end: return h
  have fin : ∀ (p₁ : Pos) (h₅ : Heap) (m₅ : Str → Option Value) (tk : Nat), Fr s.heap L h₅ m₅ → m₅ "h" = some (.str x t) → reachS x = x → 
      wpAny (model pp w) (A.deeper (envOf (rc 1).name (rc 1).scope L f cd)) (eval (.Name "h" p₁) (envOf (rc 1).name (rc 1).scope L f cd)) (fun v s' => Q v s') (fun _ _ => False) { s with heap := h₅, toks := tk } := by
    intro p₁ h₅ m₅ tk F₅ hm e
    refine ld F₅ hm ?_ (by kernel_rfl) (by kernel_rfl) (by kernel_rfl)
    have := h h₅ tk t F₅.keep
    rw [e] at this; exact this
  cases hi : decide (0 ≤ Txt.find x dotS) with
  | false =>
    have hi' : ¬ 0 ≤ Txt.find x dotS := of_decide_eq_false hi
    show (if decide (0 ≤ Txt.find x dotS) = true then _ else _)
    rw [if_neg (by rw [hi]; exact Bool.false_ne_true)]
    refine wpAny_execs_nil (wpAny_execs_cons (wpAny_Return_some ?_))
    exact fin _ h₂ _ _ F₂ rfl (by unfold reachS; rw [if_neg (fun q => hi' q.1)])
  | true =>
    have hi' : 0 ≤ Txt.find x dotS := of_decide_eq_true hi
    show (if decide (0 ≤ Txt.find x dotS) = true then _ else _)
    rw [if_pos hi]
    refine wpAny_execs_cons (wpAny_Assign_Name (Subscript_ ?_) (by kernel_rfl))
    walk_at "L"
    refine wpAny_Slice ?_
    rw [evalPart_some, evalPart_none]
    refine wpAny_BinOp ?_
    walk_at "L"
    refine wpAny_Constant_int (add_int ?_)
    dsimp only
    refine wpAny_pure (wpAny_pure ?_)
    refine cutFrom (fun h₃ t₃ k₃ x₃ => ?_) (by rw [sizeLine_eq]; omega) (by kernel_rfl) (by intro _; kernel_rfl)
    have F₃ := frOn F₂ x₃
    refine st F₃ (fun h₄ F₄ => ?_) (by kernel_rfl) (by kernel_rfl)
    dsimp only at F₄ ⊢
    refine wpAny_execs_cons (wpAny_Assign_Name (MethodCall_ ?_) (by kernel_rfl))
    walk_at "L"
    refine GM.find (callWith_method1 ?_ (by kernel_rfl) (by kernel_rfl))
    walk_at "A"
    refine wpAny_Constant_str (args_nil (SC.find ?_))
    refine st F₄ (fun h₅ F₅ => ?_) (by kernel_rfl) (by kernel_rfl)
    dsimp only at F₅ ⊢
    have g₅ : Gd w mean mg mb h₅ := g.keeps F₅.keep
    refine wpAny_execs_cons (wpAny_If (isTrue_and (isTrue_plain ?_)))
    refine callD (i := 0) (by decide) nm0 g₅ (by kernel_rfl) (by kernel_rfl) (by kernel_rfl) (by kernel_rfl) (fun f0 hf0 => ?_)
    walk_at "A"
    walk_at "L"
    refine args_nil ⟨Ext.refl _, ?_⟩
    refine spec_hdn g₅ hx hf0 hroom (fun h₆ tk₆ x₆ => wpAny_truthy_bool ?_)
    have F₆ := frOn F₅ x₆
    cases hh : hdn x with
    | false =>
      show wpAny _ _ (execs [] _) _ _ _
      refine wpAny_execs_nil (wpAny_execs_nil (wpAny_execs_cons (wpAny_Return_some ?_)))
      exact fin _ h₆ _ _ F₆ rfl (by unfold reachS; rw [if_neg (fun q => by rw [hh] at q; exact Bool.false_ne_true q.2.1)])
    | true =>
      show wpAny _ _ (isTrue _ _ _) _ _ _
      refine isTrue_and (isTrue_or (wpAny_isTrue_Compare1 ?_ (by kernel_rfl)))
      walk_at "L"
      refine wpAny_Constant_int (ge_int (wpAny_truthy_bool ?_))
      have yes : ∀ (k₁ : Nat) (p₁ p₂ p₃ : Pos) (tk : Nat), (0 ≤ Txt.find (reachB x) dotS ∨ (reachB x == "local") = true) → wpAny (model pp w) (A.deeper (envOf (rc 1).name (rc 1).scope L f cd))
          (eval (.BinOp (.Constant (.str ".") k₁ p₁) .Add (.Name "b" p₂) p₃) (envOf (rc 1).name (rc 1).scope L f cd)) (fun v s' => Q v s') (fun _ _ => False) { s with heap := h₆, toks := tk } := by
        intro k₁ p₁ p₂ p₃ tk hc
        refine wpAny_BinOp (wpAny_Constant_str ?_)
        walk_at "L"
        refine add_str (fun t' tk' => ?_) ?_
        · have e : reachS x = Str.ofString "." ++ reachB x := by unfold reachS; rw [if_pos ⟨hi', hh, hc⟩]; rfl
          have := h h₆ tk' t' F₆.keep
          rw [e] at this; exact this
        · have : (Txt.slice x (some (Txt.find x (Str.ofString ".") + 1)) none).length ≤ x.length := Txt.slice_le x _ _
          rw [sizeLine_eq]
          show 1 + (Txt.slice x (some (Txt.find x (Str.ofString ".") + 1)) none).length ≤ _
          omega
      cases hj : decide (0 ≤ Txt.find (reachB x) dotS) with
      | true =>
        show (if decide (0 ≤ Txt.find (reachB x) dotS) = true then _ else _)
        rw [if_pos hj, if_pos rfl]
        refine isTrue_and_nil ?_
        rw [if_pos rfl]
        refine wpAny_execs_cons (wpAny_Return_some ?_)
        exact yes _ _ _ _ _ (.inl (of_decide_eq_true hj))
      | false =>
        show (if decide (0 ≤ Txt.find (reachB x) dotS) = true then _ else _)
        rw [if_neg (by rw [hj]; exact Bool.false_ne_true)]
        refine isTrue_or (wpAny_isTrue_Compare1 ?_ (by kernel_rfl))
        walk_at "L"
        refine wpAny_Constant_str (eq_str (wpAny_truthy_bool ?_))
        cases hl : (reachB x == Str.ofString "local") with
        | true =>
          show (if (reachB x == Str.ofString "local") = true then _ else _)
          rw [if_pos hl, if_pos rfl]
          refine isTrue_and_nil ?_
          rw [if_pos rfl]
          refine wpAny_execs_cons (wpAny_Return_some ?_)
          exact yes _ _ _ _ _ (.inr hl)
        | false =>
          show (if (reachB x == Str.ofString "local") = true then _ else _)
          rw [if_neg (by rw [hl]; exact Bool.false_ne_true)]
          refine isTrue_or_nil ?_
          rw [if_neg Bool.false_ne_true, if_neg Bool.false_ne_true]
          refine wpAny_execs_nil (wpAny_execs_nil (wpAny_execs_cons (wpAny_Return_some ?_)))
          refine fin _ h₆ _ _ F₆ rfl ?_
          unfold reachS
          rw [if_neg (fun q => q.2.2.elim (of_decide_eq_false hj) (fun q => by rw [hl] at q; exact Bool.false_ne_true q))]
end
end Mine
end
-- part W6
section
open PySem PySem.W PyProof.Rows PySem.Calls
namespace Mine
local macro_rules | `(tactic| walk_at "L") => `(tactic| (refine' ld ?fF ?fH ?_ (by kernel_rfl) (by kernel_rfl) (by kernel_rfl); (case fF => assumption); (case fH => exact rfl); (try dsimp only)))
local macro_rules | `(tactic| walk_at "B") => `(tactic| (refine' blt ?fF ?fH (by kernel_rfl) (by kernel_rfl) (by kernel_rfl) (by kernel_rfl) (by kernel_rfl) ?_; (case fF => assumption); (case fH => first | exact bb_ord | exact bb_chr | exact bb_len | exact bb_sum | exact bb_sorted | exact bb_range | exact bb_list | exact bb_str); (try dsimp only)))
local macro_rules | `(tactic| walk_at "C1") => `(tactic| (refine Call_ ?_ (by kernel_rfl)))
local macro_rules | `(tactic| walk_at "CB") => `(tactic| (refine callWith_builtin1 ?_ (by kernel_rfl) (by kernel_rfl)))
local macro_rules | `(tactic| walk_at "CT") => `(tactic| (refine Pv.callWith_type1 ?_ (by kernel_rfl) (by kernel_rfl)))
local macro_rules | `(tactic| walk_at "A") => `(tactic| (refine args_cons ?_ (by kernel_rfl)))
local macro_rules | `(tactic| walk_at "I") => `(tactic| (refine wpAny_Constant_int ?_; dsimp only))
local macro_rules | `(tactic| walk_at "body") => `(tactic| conv in execs _ _ => arg 1; whnf)

theorem isListOn {h h' : Heap} {a : Addr} {vs : Array Value} (x : h.IsList a vs) (k : Ext h h') : h'.IsList a vs := let ⟨o, h1, h2⟩ := x; ⟨o, k _ _ h1, h2⟩
theorem isListNew {h : Heap} {a : Addr} {vs : Array Value} (e : h.get? a = some { cls := .type "list", data := .seq vs }) : h.IsList a vs := ⟨_, e, rfl, _, rfl⟩

section
variable {w : World} {A : Around} {E : Value → Shared → Prop} {s : Shared} {Q : Value → Shared → Prop} {env : Env}
theorem addL {l b : Addr} {vs ws : List Value} (hl : s.heap.IsList l vs.toArray) (hb : s.heap.IsList b ws.toArray) (hsz : vs.length + ws.length ≤ 1000000)
    (h : ∀ h', Ext s.heap h' → h'.get? s.heap.objs.size = some { cls := .type "list", data := .seq (vs ++ ws).toArray } → Q (.ref s.heap.objs.size) { s with heap := h' }) :
    wpAny (model pp w) A (binaryOp .Add (.ref l) (.ref b)) Q E s := by
  obtain ⟨⟨cls, dd, data, sl⟩, ho, hc, n, hd⟩ := id hl
  obtain ⟨⟨cls2, dd2, data2, sl2⟩, ho2, hc2, n2, hd2⟩ := id hb
  simp only at hc hd hc2 hd2
  subst hc hd hc2 hd2
  refine concat_meets ⟨_, ho, rfl⟩ ⟨_, ho2, rfl⟩ noFill_list_add seq_list_add PySem.F.slot_list_add PySem.F.entry_list_add (PySem.F.args_list_add_2 _ _) (list_addW l b vs.toArray ws.toArray n n2 dd dd2 sl sl2 (by rw [sizeLine_eq]; simp; omega)) ⟨ho, ho2, ?_⟩
  rw [show vs.toArray ++ ws.toArray = (vs ++ ws).toArray by simp]
  exact h _ (Ext.push _ _) (Heap.get?_push_size _ rfl)
theorem newL {vs : List Value} (hsz : vs.length ≤ 1000000) (h : ∀ h', Ext s.heap h' → h'.get? s.heap.objs.size = some { cls := .type "list", data := .seq vs.toArray } → Q (.ref s.heap.objs.size) { s with heap := h' }) : wpAny (model pp w) A (newList vs) Q E s :=
  wpAny_newObj_type (h _ (Ext.push _ _) (Heap.get?_push_size _ rfl)) (by show vs.toArray.size ≤ sizeLine; rw [List.size_toArray, sizeLine_eq]; omega)
end

/-- what a store into the frame keeps -/
abbrev But (L : Addr) (h h' : Heap) : Prop := ∀ b o, b ≠ L → h.get? b = some o → h'.get? b = some o
section
variable {M : Model} {A : Around} {E : Value → Shared → Prop} {s : Shared} {name : Str} {scope : Scope} {L a : Addr} {cd : Value} {h₀ : Heap} {m : Str → Option Value}
theorem stX {x : Str} {v : Value} {Q : Unit → Shared → Prop} (F : Fr h₀ L s.heap m)
    (h : ∀ h', Fr h₀ L h' (fun y => if y = x then some v else m y) → But L s.heap h' → Q () { s with heap := h', toks := s.toks + 1 })
    (hk : scope.kind = .function) (hl : (envOf name scope L a cd).kindOf x = some .local) :
    wpAny M A (storeName (envOf name scope L a cd) x v) Q E s :=
  wpAny_storeName_local hl F.ns (fun h' hn hs => h h' (F.set hn hs) (fun b o hb e => (hs.2 b hb).trans e))
    (by show (scope.kind == .class || (scope.kind == .module && L != mainGlobals)) = false; rw [hk]; rfl)
theorem list_ne {h : Heap} {l : Addr} {vs : Array Value} {m : Str → Option Value} (hl : h.IsList l vs) (hn : h.Ns L m) : l ≠ L := by
  rintro rfl
  obtain ⟨o, h1, h2, n, h3⟩ := hl
  obtain ⟨o', es, ep, h4, h5, _⟩ := hn
  rw [h1] at h4
  cases h4
  rw [h3] at h5
  cases h5
theorem listBut {h h' : Heap} {l : Addr} {vs : Array Value} {m : Str → Option Value} (hl : h.IsList l vs) (hn : h.Ns L m) (b : But L h h') : h'.IsList l vs := by
  have ne := list_ne hl hn
  obtain ⟨o, h1, h2⟩ := hl
  exact ⟨o, b _ _ ne h1, h2⟩
end

def unseenL : List Int := [173, 847, 6150] ++ rangeInts 6155 1 3 ++ rangeInts 8203 1 3 ++ [8288] ++ rangeInts 65024 1 16 ++ [65279]
def unseenC (n : Int) : Nat := (unseenL.getD (n.fmod 27).toNat 0).toNat

section
variable {w : World} {mean : ExcName → Option Value} {mg mb : Str → Option Value} {A : Around} {E : Value → Shared → Prop} {s : Shared} {Q : Value → Shared → Prop}
variable {nm : Str} {sc : Scope} {L fa : Addr} {cd : Value}
/-- list(range(a, b)) of written numbers -/
theorem listRange {a b : Int} {n : Nat} {k1 k2 : Nat} {p1 p2 p3 p4 p5 p6 : Pos} {m : Str → Option Value} {h₀ : Heap} (hh : A.handled = none) (g : Gd w mean mg mb s.heap) (FR : Fr h₀ L s.heap m) (hk : sc.kind = .function) (hl : (envOf nm sc L fa cd).kindOf "list" = some .globalImplicit) (hr : (envOf nm sc L fa cd).kindOf "range" = some .globalImplicit)
    (hsmall : Builtin.Range.small a b 1 = true) (hn : Builtin.Range.rangeSize a b 1 = (n : Int)) (hlen : n ≤ 2 ^ 24)
    (h : ∀ h' tk l vs, Ext s.heap h' → h'.IsList l vs.toArray → IntsAre vs (rangeInts a 1 n) → s.heap.get? l = none → Q (.ref l) { s with heap := h', toks := tk }) :
    wpAny (model pp w) A (eval (.Call (.Name "list" p1) [.Call (.Name "range" p2) [.Constant (.int a) k1 p3, .Constant (.int b) k2 p4] [] p5] [] p6) (envOf nm sc L fa cd)) Q E s := by
  refine Call_ (blt g bb_list (by kernel_rfl) (by kernel_rfl) hk hl (by kernel_rfl) ?_) rfl
  refine Pv.callWith_type1 (args_cons ?_ rfl) rfl rfl
  refine Call_ (blt g bb_range (by kernel_rfl) (by kernel_rfl) hk hr (by kernel_rfl) ?_) rfl
  refine Pv.callWith_type1 (args_cons (wpAny_Constant_int (args_cons (wpAny_Constant_int (args_nil ?_)) rfl)) rfl) rfl rfl
  dsimp only
  refine range2_rows (news := []) FR News.nil (fun h₁ tk₁ t₁ u₁ v₁ R F₁ N₁ x₁ => args_nil ?_)
  refine list_rangeD (news := []) hh F₁ N₁ R hsmall hn hlen (fun h₂ tk₂ ys F₂ N₂ x₂ _ hL _ hC => ?_)
  refine h h₂ tk₂ _ ys (Ext.trans x₁ x₂) hL (IntsAre.ofCarried hC) ?_
  cases q : s.heap.get? h₁.objs.size with
  | none => rfl
  | some o => exact absurd (Heap.lt_size (x₁ _ _ q)) (Nat.lt_irrefl _)
theorem addI {l b : Addr} {vs ws : List Value} {ns ms : List Int} (hl : s.heap.IsList l vs.toArray) (hi : IntsAre vs ns) (hb : s.heap.IsList b ws.toArray) (hj : IntsAre ws ms) (hsz : ns.length + ms.length ≤ 1000000)
    (h : ∀ h' l', Ext s.heap h' → h'.IsList l' (vs ++ ws).toArray → IntsAre (vs ++ ws) (ns ++ ms) → Q (.ref l') { s with heap := h' }) : wpAny (model pp w) A (binaryOp .Add (.ref l) (.ref b)) Q E s :=
  addL hl hb (by rw [hi.length, hj.length]; exact hsz) (fun h' x e => h h' _ x (isListNew e) (hi.append hj))
theorem newI {vs : List Value} {ns : List Int} (hi : IntsAre vs ns) (hsz : ns.length ≤ 1000000) (h : ∀ h' l, Ext s.heap h' → h'.IsList l vs.toArray → Q (.ref l) { s with heap := h' }) : wpAny (model pp w) A (newList vs) Q E s :=
  newL (by rw [hi.length]; exact hsz) (fun h' x e => h h' _ x (isListNew e))
set_option maxRecDepth 100000 in
set_option maxHeartbeats 1000000 in
theorem spec_unseen {f : Addr} {n : Int} {t : Tok} (g : Gd w mean mg mb s.heap) (hf : mg "_law_unseen" = some (.ref f)) (hroom : A.depth < recursionLimit) (hh : A.handled = none)
    (h : ∀ h' tk u, Ext s.heap h' → Q (.str ⟨#[unseenC n]⟩ u) { s with heap := h', toks := tk }) : wpAny (model pp w) A (call (.ref f) [.int n t]) Q E s := by
  refine enter (i := 4) (binds := [("number", .int n t)]) (by decide) g (by rw [nm4]; exact hf) hroom (fun _ _ _ => by kernel_rfl) (by kernel_rfl) (by kernel_rfl) (by kernel_rfl) (by kernel_rfl) (by decide +kernel) ?_
  intro cd h₁ L FR g₁
  walk_at "body"
  refine wpAny_execs_cons (wpAny_Assign_Name (wpAny_BinOp (wpAny_BinOp (wpAny_BinOp (wpAny_BinOp (List_ ?_))))) (by kernel_rfl))
  walk_at "A"
  walk_at "I"
  walk_at "A"
  walk_at "I"
  walk_at "A"
  walk_at "I"
  refine args_nil (newI (.cons 173 _ (.cons 847 _ (.cons 6150 _ .nil))) (by decide) (fun h₂ l₂ x₂ hL₂ => ?_))
  dsimp only at x₂ hL₂ ⊢
  have hI₂ : IntsAre [Value.int 173 (s.toks + [(Str.ofString "number", Value.int n t)].length), Value.int 847 (s.toks + [(Str.ofString "number", Value.int n t)].length + 1), Value.int 6150 (s.toks + [(Str.ofString "number", Value.int n t)].length + 1 + 1)] [173, 847, 6150] := .cons 173 _ (.cons 847 _ (.cons 6150 _ .nil))
  have F₂ := frOn FR x₂
  refine listRange (n := 3) hh (g₁.keeps x₂) F₂ (by kernel_rfl) (by kernel_rfl) (by kernel_rfl) (by kernel_rfl) (by kernel_rfl) (by decide) (fun h₃ tk₃ l₃ vs₃ x₃ hL₃ hI₃ _ => ?_)
  refine addI (isListOn hL₂ x₃) hI₂ hL₃ hI₃ (by decide) (fun h₄ l₄ x₄ hL₄ hI₄ => ?_)
  dsimp only at x₃ x₄ hL₄ hI₄ ⊢
  have y₄ := Ext.trans x₂ (Ext.trans x₃ x₄)
  have F₄ := frOn FR y₄
  refine listRange (n := 3) hh (g₁.keeps y₄) F₄ (by kernel_rfl) (by kernel_rfl) (by kernel_rfl) (by kernel_rfl) (by kernel_rfl) (by decide) (fun h₅ tk₅ l₅ vs₅ x₅ hL₅ hI₅ _ => ?_)
  refine addI (isListOn hL₄ x₅) hI₄ hL₅ hI₅ (by decide) (fun h₆ l₆ x₆ hL₆ hI₆ => ?_)
  dsimp only at x₅ x₆ hL₆ hI₆ ⊢
  have y₆ := Ext.trans y₄ (Ext.trans x₅ x₆)
  refine List_ ?_
  walk_at "A"
  walk_at "I"
  refine args_nil (newI (.cons 8288 _ .nil) (by decide) (fun h₇ l₇ x₇ hL₇ => ?_))
  dsimp only at x₇ hL₇ ⊢
  refine addI (isListOn hL₆ x₇) hI₆ hL₇ (.cons 8288 _ .nil) (by decide) (fun h₈ l₈ x₈ hL₈ hI₈ => ?_)
  dsimp only at x₈ hL₈ hI₈ ⊢
  have y₈ := Ext.trans y₆ (Ext.trans x₇ x₈)
  refine listRange (n := 16) hh (g₁.keeps y₈) (frOn FR y₈) (by kernel_rfl) (by kernel_rfl) (by kernel_rfl) (by kernel_rfl) (by kernel_rfl) (by decide) (fun h₉ tk₉ l₉ vs₉ x₉ hL₉ hI₉ _ => ?_)
  refine addI (isListOn hL₈ x₉) hI₈ hL₉ hI₉ (by decide) (fun h₁₀ l₁₀ x₁₀ hL₁₀ hI₁₀ => ?_)
  dsimp only at x₉ x₁₀ hL₁₀ hI₁₀ ⊢
  have y₁₀ := Ext.trans y₈ (Ext.trans x₉ x₁₀)
  refine stX (frOn FR y₁₀) (fun h₁₁ F₁₁ b₁₁ => ?_) (by kernel_rfl) (by kernel_rfl)
  have hL₁₁ := listBut hL₁₀ (frOn FR y₁₀).ns b₁₁
  dsimp only at F₁₁ hL₁₁ ⊢
  have g₁₁ : Gd w mean mg mb h₁₁ := g.keeps F₁₁.keep
  refine wpAny_execs_cons (wpAny_Return_some ?_)
  walk_at "C1"
  walk_at "B"
  walk_at "CB"
  walk_at "A"
  refine Subscript_ (wpAny_BinOp ?_)
  walk_at "L"
  refine List_ ?_
  walk_at "A"
  walk_at "I"
  refine args_nil (newI (.cons 65279 _ .nil) (by decide) (fun h₁₂ l₁₂ x₁₂ hL₁₂ => ?_))
  dsimp only at x₁₂ hL₁₂ ⊢
  refine addI (isListOn hL₁₁ x₁₂) hI₁₀ hL₁₂ (.cons 65279 _ .nil) (by decide) (fun h₁₃ l₁₃ x₁₃ hL₁₃ hI₁₃ => ?_)
  dsimp only at x₁₃ hL₁₃ hI₁₃ ⊢
  have F₁₃ := frOn F₁₁ (Ext.trans x₁₂ x₁₃)
  refine wpAny_BinOp ?_
  walk_at "L"
  walk_at "I"
  refine mod_int' (by decide) ?_
  dsimp only
  have m1 : 0 ≤ n.fmod 27 := Int.fmod_nonneg_of_pos n (by decide)
  have m2 : n.fmod 27 < 27 := Int.fmod_lt_of_pos n (by decide)
  refine kba_turn (value' := .Name "" ⟨0, 0, 0, 0⟩) (fun _ => rfl) ?_
  refine item_list_ints hL₁₃ hI₁₃ m1 (by show n.fmod 27 < 27; exact m2) (by omega) (fun u => ?_) (by kernel_rfl) (by intro _; kernel_rfl)
  have hb : ∀ k : Nat, k < 27 → 0 ≤ unseenL.getD k 0 ∧ unseenL.getD k 0 ≤ 1114111 := by decide +kernel
  have hb' := hb (n.fmod 27).toNat (by omega)
  refine args_nil (chr_of_range hb'.1 hb'.2 ?_)
  exact h _ _ _ F₁₃.keep
end
end Mine
end
-- part W7
section
open PySem PySem.W PyProof.Rows PySem.Calls
namespace Mine
local macro_rules | `(tactic| walk_at "L") => `(tactic| (refine' ld ?fF ?fH ?_ (by kernel_rfl) (by kernel_rfl) (by kernel_rfl); (case fF => assumption); (case fH => exact rfl); (try dsimp only)))
local macro_rules | `(tactic| walk_at "B") => `(tactic| (refine' blt ?fF ?fH (by kernel_rfl) (by kernel_rfl) (by kernel_rfl) (by kernel_rfl) (by kernel_rfl) ?_; (case fF => assumption); (case fH => first | exact bb_ord | exact bb_chr | exact bb_len | exact bb_sum | exact bb_sorted | exact bb_range | exact bb_list | exact bb_str); (try dsimp only)))
local macro_rules | `(tactic| walk_at "C1") => `(tactic| (refine Call_ ?_ (by kernel_rfl)))
local macro_rules | `(tactic| walk_at "CB") => `(tactic| (refine callWith_builtin1 ?_ (by kernel_rfl) (by kernel_rfl)))
local macro_rules | `(tactic| walk_at "A") => `(tactic| (refine args_cons ?_ (by kernel_rfl)))
local macro_rules | `(tactic| walk_at "I") => `(tactic| (refine wpAny_Constant_int ?_; dsimp only))
local macro_rules | `(tactic| walk_at "body") => `(tactic| conv in execs _ _ => arg 1; whnf)
def constInts : List Expr → Option (List Int)
  | [] => some []
  | .Constant (.int i) _ _ :: r => (constInts r).map (i :: ·)
  | _ => none
theorem splicedInts {M : Model} {A : Around} {E : Value → Shared → Prop} {env : Env} {pos : Pos} : ∀ (elts : List Expr) (ns : List Int) (s : Shared) (Q : List Value → Shared → Prop), constInts elts = some ns →
    (∀ vs tk, IntsAre vs ns → Q vs { s with toks := tk }) → wpAny M A (spliced (backTo pos (starEach elts env))) Q E s
  | [], ns, s, Q, he, h => by
    cases he
    exact args_nil (h [] s.toks .nil)
  | e :: r, ns, s, Q, he, h => by
    unfold constInts at he
    split at he
    · rename_i q; cases q
    · rename_i i k p r' q
      injection q with q1 q2
      subst q1 q2
      obtain ⟨ms, hm, rfl⟩ := Option.map_eq_some_iff.mp he
      refine args_cons (wpAny_Constant_int ?_) rfl
      exact splicedInts r ms _ _ hm (fun vs tk hI => h (.int i _ :: vs) tk (.cons i _ hI))
    · cases he
theorem dispI {w : World} {A : Around} {E : Value → Shared → Prop} {env : Env} {pos : Pos} {elts : List Expr} {ns : List Int} {s : Shared} {Q : Value → Shared → Prop} (he : constInts elts = some ns) (hsz : ns.length ≤ 1000000)
    (h : ∀ h' tk l vs, Ext s.heap h' → h'.IsList l vs.toArray → IntsAre vs ns → Q (.ref l) { s with heap := h', toks := tk }) : wpAny (model pp w) A (eval (.List elts pos) env) Q E s :=
  List_ (splicedInts elts ns s _ he (fun vs tk hI => newI hI hsz (fun h' l x hL => h h' tk l vs x hL hI)))
def fontsL : List Int := [65, 119860, 119912, 120016, 120172, 120224, 120276, 120328, 120380, 120432]
def letC (x : Int) : Nat := (97 + (x.fdiv 50).fmod 26).toNat
def greatC (x : Int) : Nat := (fontsL.getD ((x.fdiv 5).fmod 10).toNat 0 + (x.fdiv 50).fmod 26).toNat
def unsC (x : Int) : Nat := unseenC (x.fdiv 5)
def typedLs (x : Int) : List Str := [⟨#[letC x]⟩, ⟨#[greatC x]⟩, ⟨#[unsC x]⟩, Str.ofString "㏇" ++ ⟨#[letC x]⟩, (⟨#[letC x]⟩ : Str) ++ ⟨#[unsC x]⟩]
def meantLs (x : Int) : List (List Str) := [[⟨#[letC x]⟩], [⟨#[letC x]⟩], [Str.ofString ""], [Str.ofString "co", ⟨#[letC x]⟩], [⟨#[letC x]⟩]]
def typedS (x : Int) : Str := (typedLs x).getD (x.fmod 5).toNat Str.empty
def meantS (x : Int) : List Str := (meantLs x).getD (x.fmod 5).toNat []

theorem newT {w : World} {A : Around} {E : Value → Shared → Prop} {s : Shared} {Q : Value → Shared → Prop} {vs : List Value} (hsz : vs.length ≤ 1000000) (h : ∀ h' l, Ext s.heap h' → s.heap.get? l = none → h'.get? l = some { cls := .type "tuple", data := .seq vs.toArray } → Q (.ref l) { s with heap := h' }) : wpAny (model pp w) A (newTuple vs) Q E s :=
  wpAny_newObj_type (h _ _ (Ext.push _ _) (by cases q : s.heap.get? s.heap.objs.size with | none => rfl | some o => exact absurd (Heap.lt_size q) (Nat.lt_irrefl _)) (Heap.get?_push_size _ rfl)) (by show vs.toArray.size ≤ sizeLine; rw [List.size_toArray, sizeLine_eq]; omega)
theorem noneOf {h h' : Heap} {a : Addr} (x : Ext h h') (e : h'.get? a = none) : h.get? a = none := by
  cases q : h.get? a with
  | none => rfl
  | some o => rw [x _ _ q] at e; cases e
section
variable {w : World} {mean : ExcName → Option Value} {mg mb : Str → Option Value} {A : Around} {E : Value → Shared → Prop} {s : Shared} {Q : Value → Shared → Prop}
theorem enterR {i : Nat} {f : Addr} {args : List Value} {binds : List (Str × Value)} (hi : i < 10) (g : Gd w mean mg mb s.heap) (hf : mg (rc i).name = some (.ref f)) (hroom : A.depth < recursionLimit)
    (hbind : ∀ pm cd doc, bindArgs (docDef (rc i).name (rc i).params (rc i).body (rc i).scope pm cd doc) ⟨args, []⟩ = pure binds) (hloc : (binds.all fun x => decide ((rc i).scope.names.lookup x.1 = some .local)) = true)
    (hco : (rc i).scope.isCoroutine = false) (hgen : (rc i).scope.isGenerator = false) (hk : (rc i).scope.kind = .function) (hcell : ∀ x ∈ (rc i).scope.names, x.2 ≠ .cell)
    (h : ∀ (R : Flow → Shared → Prop) cd h₁ L, (∀ v s', Q v s' → R (.ret v) s') → Fr s.heap L h₁ (fun x => binds.reverse.lookup x) → Gd w mean mg mb h₁ →
      wpAny (model pp w) (A.deeper (envOf (rc i).name (rc i).scope L f cd)) (execs (rc i).body (envOf (rc i).name (rc i).scope L f cd)) R (fun _ _ => False) { s with heap := h₁, toks := s.toks + binds.length }) :
    wpAny (model pp w) A (call (.ref f) args) Q E s :=
  enter hi g hf hroom hbind hloc hco hgen hk hcell (fun cd h₁ L F g₁ => h _ cd h₁ L (fun _ _ q => q) F g₁)
theorem newS {vs : List Value} {ys : List Str} (hi : StrsAre vs ys) (hsz : ys.length ≤ 1000000) (h : ∀ h' l, Ext s.heap h' → s.heap.get? l = none → h'.IsList l vs.toArray → Q (.ref l) { s with heap := h' }) : wpAny (model pp w) A (newList vs) Q E s :=
  newL (by rw [hi.len_eq]; exact hsz) (fun h' x e => h h' _ x (by cases q : s.heap.get? s.heap.objs.size with | none => rfl | some o => exact absurd (Heap.lt_size q) (Nat.lt_irrefl _)) (isListNew e))
set_option maxRecDepth 100000 in
set_option maxHeartbeats 2000000 in
theorem spec_label {f : Addr} {x : Int} {t : Tok} (g : Gd w mean mg mb s.heap) (hf : mg "_law_label" = some (.ref f)) (hroom : A.depth + 1 < recursionLimit) (hh : A.handled = none)
    (h : ∀ h' tk a u l vs, Ext s.heap h' → h'.get? a = some { cls := .type "tuple", data := .seq #[.str (typedS x) u, .ref l] } → h'.IsList l vs.toArray → StrsAre vs (meantS x) → s.heap.get? l = none → Q (.ref a) { s with heap := h', toks := tk }) : wpAny (model pp w) A (call (.ref f) [.int x t]) Q E s := by
  refine enterR (i := 5) (binds := [("x", .int x t)]) (by decide) g (by rw [nm5]; exact hf) (by omega) (fun _ _ _ => by kernel_rfl) (by kernel_rfl) (by kernel_rfl) (by kernel_rfl) (by kernel_rfl) (by decide +kernel) ?_
  intro R cd h₁ L hR FR g₁
  walk_at "body"
  have m50 : 0 ≤ (x.fdiv 50).fmod 26 := Int.fmod_nonneg_of_pos _ (by decide)
  have m50' : (x.fdiv 50).fmod 26 < 26 := Int.fmod_lt_of_pos _ (by decide)
  have m10 : 0 ≤ (x.fdiv 5).fmod 10 := Int.fmod_nonneg_of_pos _ (by decide)
  have m10' : (x.fdiv 5).fmod 10 < 10 := Int.fmod_lt_of_pos _ (by decide)
  have m5 : 0 ≤ x.fmod 5 := Int.fmod_nonneg_of_pos _ (by decide)
  have m5' : x.fmod 5 < 5 := Int.fmod_lt_of_pos _ (by decide)
  -- fonts
  refine wpAny_execs_cons ?_
  refine wpAny_Assign_Name ?_
  refine dispI (ns := fontsL) rfl (by decide) ?_
  intro h₂ tk₂ l₂ vs₂ x₂ hL₂ hI₂
  dsimp only at x₂
  refine stX (frOn FR x₂) (fun h₃ F₃ b₃ => ?_) (by kernel_rfl) (by kernel_rfl)
  have hL₃ := listBut hL₂ (frOn FR x₂).ns b₃
  have g₃ : Gd w mean mg mb h₃ := g.keeps F₃.keep
  dsimp only at F₃ hL₃ ⊢
  -- letter
  refine wpAny_execs_cons ?_
  refine wpAny_Assign_Name ?_
  walk_at "C1"
  walk_at "B"
  walk_at "CB"
  walk_at "A"
  refine wpAny_BinOp ?_
  walk_at "I"
  refine wpAny_BinOp (wpAny_BinOp ?_)
  walk_at "L"
  walk_at "I"
  refine floordiv_int (by decide) ?_
  walk_at "I"
  refine mod_int' (by decide) (add_int (args_nil (chr_of_range (by omega) (by omega) ?_)))
  dsimp only
  refine stX F₃ (fun h₄ F₄ b₄ => ?_) (by kernel_rfl) (by kernel_rfl)
  have hL₄ := listBut hL₃ F₃.ns b₄
  have g₄ : Gd w mean mg mb h₄ := g.keeps F₄.keep
  dsimp only at F₄ hL₄ ⊢
  -- great
  refine wpAny_execs_cons ?_
  refine wpAny_Assign_Name ?_
  walk_at "C1"
  walk_at "B"
  walk_at "CB"
  walk_at "A"
  refine wpAny_BinOp ?_
  refine Subscript_ ?_
  walk_at "L"
  refine wpAny_BinOp (wpAny_BinOp ?_)
  walk_at "L"
  walk_at "I"
  refine floordiv_int (by decide) ?_
  walk_at "I"
  refine mod_int' (by decide) ?_
  dsimp only
  refine item_list_ints hL₄ hI₂ m10 (by show _ < ((10 : Nat) : Int); exact m10') (by omega) ?_ (by kernel_rfl) (by intro _; kernel_rfl)
  intro u₄
  refine wpAny_BinOp (wpAny_BinOp ?_)
  walk_at "L"
  walk_at "I"
  refine floordiv_int (by decide) ?_
  walk_at "I"
  have hb : ∀ k : Nat, k < 10 → 65 ≤ fontsL.getD k 0 ∧ fontsL.getD k 0 ≤ 120432 := by decide +kernel
  have hb' := hb ((x.fdiv 5).fmod 10).toNat (by omega)
  refine mod_int' (by decide) (add_int (args_nil (chr_of_range (by omega) (by omega) ?_)))
  dsimp only
  refine stX F₄ (fun h₅ F₅ b₅ => ?_) (by kernel_rfl) (by kernel_rfl)
  have g₅ : Gd w mean mg mb h₅ := g.keeps F₅.keep
  dsimp only at F₅ ⊢
  -- unseen
  refine wpAny_execs_cons ?_
  refine wpAny_Assign_Name ?_
  refine callD (i := 4) (by decide) nm4 g₅ (by kernel_rfl) (by kernel_rfl) (by kernel_rfl) (by kernel_rfl) ?_
  intro f4 hf4
  walk_at "A"
  refine wpAny_BinOp ?_
  walk_at "L"
  walk_at "I"
  refine floordiv_int (by decide) ?_
  refine args_nil ⟨Ext.refl _, ?_⟩
  dsimp only
  refine spec_unseen g₅ hf4 hroom hh ?_
  intro h₆ tk₆ u₆ x₆
  dsimp only at x₆ ⊢
  refine stX (frOn F₅ x₆) (fun h₇ F₇ b₇ => ?_) (by kernel_rfl) (by kernel_rfl)
  have g₇ : Gd w mean mg mb h₇ := g.keeps F₇.keep
  dsimp only at F₇ ⊢
  -- typed
  refine wpAny_execs_cons ?_
  refine wpAny_Assign_Name ?_
  refine Subscript_ (List_ ?_)
  walk_at "A"
  walk_at "L"
  walk_at "A"
  walk_at "L"
  walk_at "A"
  walk_at "L"
  walk_at "A"
  refine wpAny_BinOp (wpAny_Constant_str ?_)
  walk_at "L"
  refine add_str ?_ (by rw [sizeLine_eq]; show 1 + 1 ≤ 16777216; decide)
  intro t₈ tk₈
  dsimp only
  walk_at "A"
  refine wpAny_BinOp ?_
  walk_at "L"
  walk_at "L"
  refine add_str ?_ (by rw [sizeLine_eq]; show 1 + 1 ≤ 16777216; decide)
  intro t₉ tk₉
  dsimp only
  have hk : (x.fmod 5).toNat < 5 := by omega
  refine args_nil (newS (ys := typedLs x) (.cons _ _ (.cons _ _ (.cons _ _ (.cons _ _ (.cons _ _ .nil))))) (by show 5 ≤ 1000000; decide) ?_)
  intro h₁₀ l₁₀ x₁₀ _ hL₁₀
  dsimp only at x₁₀ hL₁₀ ⊢
  have F₁₀ := frOn F₇ x₁₀
  refine wpAny_BinOp ?_
  walk_at "L"
  walk_at "I"
  refine mod_int' (by decide) ?_
  dsimp only
  refine kba_turn (value' := .Name "" ⟨0, 0, 0, 0⟩) (fun _ => rfl) ?_
  refine item_strsA hL₁₀ (ys := typedLs x) (.cons _ _ (.cons _ _ (.cons _ _ (.cons _ _ (.cons _ _ .nil))))) m5 (by show _ < ((5 : Nat) : Int); exact m5') (by omega) ?_ (by kernel_rfl) (by intro _; kernel_rfl)
  intro t₁₁
  refine stX F₁₀ (fun h₁₁ F₁₁ b₁₁ => ?_) (by kernel_rfl) (by kernel_rfl)
  dsimp only at F₁₁ ⊢
  -- the pair
  refine wpAny_execs_cons (wpAny_Return_some (Tuple_ ?_))
  walk_at "A"
  walk_at "L"
  walk_at "A"
  refine Subscript_ (List_ ?_)
  walk_at "A"
  refine List_ ?_
  walk_at "A"
  walk_at "L"
  refine args_nil (newS (ys := [⟨#[letC x]⟩]) (.cons _ _ .nil) (by show 1 ≤ 1000000; decide) ?_)
  intro k1 a1 z1 w1 hM1
  dsimp only at z1 hM1 ⊢
  have G1 := frOn F₁₁ z1
  walk_at "A"
  refine List_ ?_
  walk_at "A"
  walk_at "L"
  refine args_nil (newS (ys := [⟨#[letC x]⟩]) (.cons _ _ .nil) (by show 1 ≤ 1000000; decide) ?_)
  intro k2 a2 z2 w2 hM2
  dsimp only at z2 hM2 ⊢
  have G2 := frOn G1 z2
  walk_at "A"
  refine List_ ?_
  walk_at "A"
  refine wpAny_Constant_str ?_
  dsimp only
  refine args_nil (newS (ys := [Str.ofString ""]) (.cons _ _ .nil) (by show 1 ≤ 1000000; decide) ?_)
  intro k3 a3 z3 w3 hM3
  dsimp only at z3 hM3 ⊢
  have G3 := frOn G2 z3
  walk_at "A"
  refine List_ ?_
  walk_at "A"
  refine wpAny_Constant_str ?_
  dsimp only
  walk_at "A"
  walk_at "L"
  refine args_nil (newS (ys := [Str.ofString "co", ⟨#[letC x]⟩]) (.cons _ _ (.cons _ _ .nil)) (by show 2 ≤ 1000000; decide) ?_)
  intro k4 a4 z4 w4 hM4
  dsimp only at z4 hM4 ⊢
  have G4 := frOn G3 z4
  walk_at "A"
  refine List_ ?_
  walk_at "A"
  walk_at "L"
  refine args_nil (newS (ys := [⟨#[letC x]⟩]) (.cons _ _ .nil) (by show 1 ≤ 1000000; decide) ?_)
  intro k5 a5 z5 w5 hM5
  dsimp only at z5 hM5 ⊢
  have G5 := frOn G4 z5
  refine args_nil (newL (by show 5 ≤ 1000000; decide) ?_)
  intro k6 z6 hg6
  dsimp only at z6 hg6 ⊢
  have G6 := frOn G5 z6
  have hL6 := isListNew hg6
  have y5 := Ext.trans z5 z6
  have y4 := Ext.trans z4 y5
  have y3 := Ext.trans z3 y4
  have y2 := Ext.trans z2 y3
  refine wpAny_BinOp ?_
  walk_at "L"
  walk_at "I"
  refine mod_int' (by decide) ?_
  dsimp only
  refine kba_turn (value' := .Name "" ⟨0, 0, 0, 0⟩) (fun _ => rfl) ?_
  have pick : ∃ a vs, [Value.ref a1, .ref a2, .ref a3, .ref a4, .ref a5][(x.fmod 5).toNat]? = some (.ref a) ∧ k6.IsList a vs.toArray ∧ StrsAre vs (meantS x) ∧ s.heap.get? a = none := by
    unfold meantS
    generalize (x.fmod 5).toNat = k at hk
    match k, hk with
    | 0, _ => exact ⟨a1, _, rfl, isListOn hM1 y2, .cons _ _ .nil, noneOf F₁₁.keep w1⟩
    | 1, _ => exact ⟨a2, _, rfl, isListOn hM2 y3, .cons _ _ .nil, noneOf G1.keep w2⟩
    | 2, _ => exact ⟨a3, _, rfl, isListOn hM3 y4, .cons _ _ .nil, noneOf G2.keep w3⟩
    | 3, _ => exact ⟨a4, _, rfl, isListOn hM4 y5, .cons _ _ (.cons _ _ .nil), noneOf G3.keep w4⟩
    | 4, _ => exact ⟨a5, _, rfl, isListOn hM5 z6, .cons _ _ .nil, noneOf G4.keep w5⟩
  obtain ⟨a, vs, hp, hpL, hpS, hpN⟩ := pick
  refine item_listL hL6 m5 (by omega) hp ?_ (by kernel_rfl) (by intro _; kernel_rfl)
  refine args_nil (newT (by show 2 ≤ 1000000; decide) ?_)
  intro k7 b7 z7 _ hg7
  dsimp only at z7 ⊢
  exact hR _ _ (h _ _ _ _ _ _ (frOn G6 z7).keep hg7 (isListOn hpL z7) hpS hpN)
end
end Mine
end
-- part W8
section
open PySem PySem.W PyProof.Rows PySem.Calls
namespace Mine
section
variable {w : World} {A : Around} {s : Shared} {env : Env} {h₀ : Heap}
/-- what one turn of a loop may do: of the objects made since the loop began, none is touched -/
def Turned (s₀ : Shared) (h₁ : Heap) (h₀ : Heap) (L : Addr) (J : Heap → (Str → Option Value) → Prop) (f : Flow) (s₂ : Shared) : Prop :=
  f = .next ∧ ∃ h' tk m', s₂ = { s₀ with heap := h', toks := tk } ∧ (∀ b o, s₀.heap.objs.size ≤ b → h₁.get? b = some o → h'.get? b = some o) ∧ Fr h₀ L h' m' ∧ J h' m'
theorem frBut {h h' : Heap} {L : Addr} {I : Addr} {m : Str → Option Value} (F : Fr h₀ L h m) (hL : L ≠ I) (hI : h₀.objs.size ≤ I) (k : ∀ b o, b ≠ I → h.get? b = some o → h'.get? b = some o) : Fr h₀ L h' m :=
  ⟨F.ns.at' (fun o e => k _ o hL e), fun b o e => k _ _ (Nat.ne_of_lt (Nat.lt_of_lt_of_le (Heap.lt_size e) hI)) (F.keep b o e), F.above⟩
theorem loopRange {R : Result → Shared → Prop} {x : Str} {px : Pos} {body : List Stmt} {n : Nat} {r : Addr} {t u v : Tok} {m : Str → Option Value} {E : Value → Shared → Prop}
    (Inv : Nat → Heap → (Str → Option Value) → Prop) (hh : A.handled = none) (hx : env.kindOf x = some .local) (hp : (env.scope.kind == .class || (env.scope.kind == .module && env.locals != env.globals)) = false)
    (hr : IsRange s.heap r 0 n 1 t u v) (hsmall : Builtin.Range.small 0 n 1 = true) (hrs : Builtin.Range.rangeSize 0 n 1 = n) (F : Fr h₀ env.locals s.heap m) (h0 : Inv 0 s.heap m)
    (hst : ∀ i h h' m, Inv i h m → (∀ b o, b < s.heap.objs.size → b ≠ env.locals → h.get? b = some o → h'.get? b = some o) → Inv i h' m)
    (step : ∀ i tk h₁ tk₁ m₁, i < n → Fr h₀ env.locals h₁ (fun y => if y = x then some (.int i tk) else m₁ y) → Inv i h₁ m₁ →
      wpAny (model pp w) A (execs body env) (Turned s h₁ h₀ env.locals (Inv (i + 1))) (fun _ _ => False) { s with heap := h₁, toks := tk₁ })
    (done : ∀ h' tk m', Fr h₀ env.locals h' m' → Inv n h' m' → R (.ok .next) { s with heap := h', toks := tk }) :
    wpAny (model pp w) A (pyIter (.ref r)) (fun it s₂ => codeAny (model pp w) A (.forLoop (.Name x px) it body [] env) R s₂) E s := by
  obtain ⟨oL, _, _, hoL, _⟩ := id F.ns
  have hLs : env.locals < s.heap.objs.size := Heap.lt_size hoL
  have h₀s : h₀.objs.size ≤ s.heap.objs.size := Nat.le_of_lt (Nat.lt_of_le_of_lt F.above hLs)
  have hLI : env.locals ≠ s.heap.objs.size := Nat.ne_of_lt hLs
  refine wpAny_pyIter_range hr hsmall ?_
  rw [hrs]
  refine codeAny_forLoop (fun k s' => ∃ h' tk m' i, s' = { s with heap := h', toks := tk } ∧ IsRangeIter h' s.heap.objs.size (i : Nat) ((n : Int) - (i : Nat)) 1 ∧ Fr h₀ env.locals h' m' ∧ Inv i h' m' ∧ i ≤ n ∧ k = n + 1 - i)
    ?_ (n + 1) ⟨_, s.toks, m, 0, rfl, by simpa using Heap.get?_push_size _ rfl, frBut F hLI h₀s (fun b o _ e => Ext.push _ _ b o e), hst _ _ _ _ h0 (fun b o _ _ e => Ext.push _ _ b o e), Nat.zero_le _, rfl⟩
  rintro k s' ⟨h', tk, m', i, rfl, hit, F', hI, hi, rfl⟩
  by_cases hlt : i < n
  · refine wpAny_pyNext_range_item hit (by omega) fun h₁ hit₁ hs₁ => ?_
    have F₁ := frBut F' hLI h₀s (fun b o hb e => (hs₁.2 b hb).trans e)
    refine wpAny_assign_Name (wpAny_storeName_local hx F₁.ns (fun h₂ hn₂ hs₂ => ?_) hp)
    have F₂ := F₁.set hn₂ hs₂
    have I₂ : Inv i h₂ m' := hst _ _ _ _ hI (fun b o hb hbL e => (hs₂.2 b hbL).trans ((hs₁.2 b (Nat.ne_of_lt hb)).trans e))
    refine wpAny_mono (step i _ h₂ _ m' hlt F₂ I₂) (fun f s₃ h₃ => ?_) fun _ _ e => e.elim
    obtain ⟨rfl, h₃', tk₃, m₃, rfl, kp, F₃, I₃⟩ := h₃
    refine ⟨n + 1 - (i + 1), by omega, h₃', tk₃, m₃, i + 1, rfl, ?_, F₃, I₃, hlt, rfl⟩
    have e1 : ((i + 1 : Nat) : Int) = (i : Int) + 1 := by push_cast; rfl
    have e2 : (n : Int) - ((i + 1 : Nat) : Int) = (n : Int) - (i : Int) - 1 := by push_cast; omega
    rw [e2, e1]
    exact kp _ _ (Nat.le_refl _) ((hs₂.2 _ (Ne.symm hLI)).trans hit₁)
  · have hin : i = n := by omega
    subst hin
    refine wpAny_pyNext_range_end hh hit (by omega) fun h₁ he₁ => wpAny_execs_nil ?_
    exact done h₁ tk m' (frBut F' hLI h₀s he₁) (hst _ _ _ _ hI (fun b o hb _ e => he₁ b o (Nat.ne_of_lt hb) e))
theorem loopList {R : Result → Shared → Prop} {x : Str} {px : Pos} {body : List Stmt} {l : Addr} {vs : List Value} {m : Str → Option Value} {E : Value → Shared → Prop}
    (Inv : Nat → Heap → (Str → Option Value) → Prop) (hh : A.handled = none) (hx : env.kindOf x = some .local) (hp : (env.scope.kind == .class || (env.scope.kind == .module && env.locals != env.globals)) = false)
    (hl : ∀ i h m, Inv i h m → h.IsList l vs.toArray) (F : Fr h₀ env.locals s.heap m) (h0 : Inv 0 s.heap m)
    (hst : ∀ i h h' m, Inv i h m → (∀ b o, b < s.heap.objs.size → b ≠ env.locals → h.get? b = some o → h'.get? b = some o) → Inv i h' m)
    (step : ∀ i v h₁ tk₁ m₁, vs[i]? = some v → Fr h₀ env.locals h₁ (fun y => if y = x then some v else m₁ y) → Inv i h₁ m₁ →
      wpAny (model pp w) A (execs body env) (Turned s h₁ h₀ env.locals (Inv (i + 1))) (fun _ _ => False) { s with heap := h₁, toks := tk₁ })
    (done : ∀ h' tk m', Fr h₀ env.locals h' m' → Inv vs.length h' m' → R (.ok .next) { s with heap := h', toks := tk }) :
    wpAny (model pp w) A (pyIter (.ref l)) (fun it s₂ => codeAny (model pp w) A (.forLoop (.Name x px) it body [] env) R s₂) E s := by
  obtain ⟨oL, _, _, hoL, _⟩ := id F.ns
  have hLs : env.locals < s.heap.objs.size := Heap.lt_size hoL
  have h₀s : h₀.objs.size ≤ s.heap.objs.size := Nat.le_of_lt (Nat.lt_of_le_of_lt F.above hLs)
  have hLI : env.locals ≠ s.heap.objs.size := Nat.ne_of_lt hLs
  refine wpAny_pyIter_list (hl _ _ _ h0) ?_
  refine codeAny_forLoop (fun k s' => ∃ h' tk m' i, s' = { s with heap := h', toks := tk } ∧ h'.IsListIter s.heap.objs.size l i ∧ Fr h₀ env.locals h' m' ∧ Inv i h' m' ∧ i ≤ vs.length ∧ k = vs.length + 1 - i)
    ?_ (vs.length + 1) ⟨_, s.toks, m, 0, rfl, ⟨_, Heap.get?_push_size _ rfl, rfl, rfl⟩, frBut F hLI h₀s (fun b o _ e => Ext.push _ _ b o e), hst _ _ _ _ h0 (fun b o _ _ e => Ext.push _ _ b o e), Nat.zero_le _, rfl⟩
  rintro k s' ⟨h', tk, m', i, rfl, hit, F', hI, hi, rfl⟩
  by_cases hlt : i < vs.length
  · refine wpAny_pyNext_list_item hit (hl _ _ _ hI) (x := vs[i]) (by simp [hlt]) fun h₁ hit₁ hs₁ => ?_
    have F₁ := frBut F' hLI h₀s (fun b o hb e => (hs₁.2 b hb).trans e)
    refine wpAny_assign_Name (wpAny_storeName_local hx F₁.ns (fun h₂ hn₂ hs₂ => ?_) hp)
    have F₂ := F₁.set hn₂ hs₂
    have I₂ : Inv i h₂ m' := hst _ _ _ _ hI (fun b o hb hbL e => (hs₂.2 b hbL).trans ((hs₁.2 b (Nat.ne_of_lt hb)).trans e))
    refine wpAny_mono (step i _ h₂ _ m' (List.getElem?_eq_getElem hlt) F₂ I₂) (fun f s₃ h₃ => ?_) fun _ _ e => e.elim
    obtain ⟨rfl, h₃', tk₃, m₃, rfl, kp, F₃, I₃⟩ := h₃
    refine ⟨vs.length + 1 - (i + 1), by omega, h₃', tk₃, m₃, i + 1, rfl, ?_, F₃, I₃, hlt, rfl⟩
    obtain ⟨o, ho, hc⟩ := hit₁
    exact ⟨o, kp _ _ (Nat.le_refl _) ((hs₂.2 _ (Ne.symm hLI)).trans ho), hc⟩
  · have hin : i = vs.length := by omega
    subst hin
    refine wpAny_pyNext_list_end hh hit (hl _ _ _ hI) (by simp) fun h₁ he₁ => wpAny_execs_nil ?_
    exact done h₁ tk m' (frBut F' hLI h₀s he₁) (hst _ _ _ _ hI (fun b o hb _ e => he₁ b o (Nat.ne_of_lt hb) e))
end
end Mine
end
-- part W9
section
open PySem PySem.W PyProof.Rows PySem.Calls
namespace Mine
local macro_rules | `(tactic| walk_at "L") => `(tactic| (refine' ld ?fF ?fH ?_ (by kernel_rfl) (by kernel_rfl) (by kernel_rfl); (case fF => assumption); (case fH => exact rfl); (try dsimp only)))
local macro_rules | `(tactic| walk_at "B") => `(tactic| (refine' blt ?fF ?fH (by kernel_rfl) (by kernel_rfl) (by kernel_rfl) (by kernel_rfl) (by kernel_rfl) ?_; (case fF => assumption); (case fH => first | exact bb_ord | exact bb_chr | exact bb_len | exact bb_sum | exact bb_sorted | exact bb_range | exact bb_list | exact bb_str); (try dsimp only)))
local macro_rules | `(tactic| walk_at "C1") => `(tactic| (refine Call_ ?_ (by kernel_rfl)))
local macro_rules | `(tactic| walk_at "CB") => `(tactic| (refine callWith_builtin1 ?_ (by kernel_rfl) (by kernel_rfl)))
local macro_rules | `(tactic| walk_at "A") => `(tactic| (refine args_cons ?_ (by kernel_rfl)))
local macro_rules | `(tactic| walk_at "I") => `(tactic| (refine wpAny_Constant_int ?_; dsimp only))
local macro_rules | `(tactic| walk_at "body") => `(tactic| conv in execs _ _ => arg 1; whnf)
def cAt (x : Str) (k : Nat) : Nat := (Txt.charAt x (k : Int)).getD 0
def foldMove (x : Str) (k : Nat) : List Str := if foldS (cAt x k) != ⟨#[cAt x k]⟩ then [Txt.slice x none (some (k : Int)) ++ foldS (cAt x k) ++ Txt.slice x (some ((k : Int) + 1)) none] else []
def foldMoves (x : Str) : Nat → List Str
  | 0 => []
  | n + 1 => foldMoves x n ++ foldMove x n
def climbS (x : Str) : List Str := if reachS x != x then [if Txt.slice (reachS x) none (some 1) == Str.ofString "." then Txt.slice (reachS x) (some 1) none else Str.ofString "?"] else []
def movesS (x : Str) : List Str := foldMoves x x.length ++ climbS x
theorem foldMove_len (x : Str) (k : Nat) : (foldMove x k).length ≤ 1 := by unfold foldMove; split <;> simp
theorem foldMoves_len (x : Str) : ∀ n, (foldMoves x n).length ≤ n
  | 0 => Nat.le_refl _
  | n + 1 => by
    have := foldMoves_len x n
    have := foldMove_len x n
    simp only [foldMoves, List.length_append]
    omega
theorem StrsAre.app : ∀ {vs ws : List Value} {ys zs : List Str}, StrsAre vs ys → StrsAre ws zs → StrsAre (vs ++ ws) (ys ++ zs)
  | _, _, _, _, .nil, h => h
  | _, _, _, _, .cons y t r, h => .cons y t (StrsAre.app r h)
theorem reachS_len {x : Str} (hx : x.length ≤ 1000) : (reachS x).length ≤ 2000 := by
  unfold reachS
  split
  · rw [Str.length_append]
    have := Txt.slice_le x (some (Txt.find x (Str.ofString ".") + 1)) none
    show 1 + (Txt.slice x (some (Txt.find x (Str.ofString ".") + 1)) none).length ≤ _
    omega
  · omega
theorem small_n (n : Nat) (h : n ≤ 1000000) : Builtin.Range.small 0 n 1 = true ∧ Builtin.Range.rangeSize 0 n 1 = n := by
  have e : Builtin.Range.rangeSize 0 n 1 = n := by
    unfold Builtin.Range.rangeSize
    simp only [gt_iff_lt, show (0 : Int) < 1 from by decide, if_true]
    split
    · omega
    · omega
  refine ⟨?_, e⟩
  unfold Builtin.Range.small
  rw [e]
  unfold Builtin.Range.rangeFitsLong
  simp only [gt_iff_lt, show (0 : Int) < 1 from by decide, if_true, Bool.and_eq_true, Bool.or_eq_true, decide_eq_true_eq]
  refine ⟨⟨⟨⟨by decide, by omega, by omega⟩, by decide⟩, by omega, by omega⟩, Or.inr ⟨by omega, by omega⟩⟩
local macro_rules | `(tactic| walk_at "M") => `(tactic| (refine' ld ?fF ?fH ?_ (by kernel_rfl) (by kernel_rfl) (by kernel_rfl); (case fF => assumption); (case fH => first | exact rfl | assumption); (try dsimp only)))
theorem plainBut {h h' : Heap} {l : Addr} {its : Array Value} (p : PlainL h l its) (k : ∀ o, h.get? l = some o → h'.get? l = some o) : PlainL h' l its :=
  let ⟨o, n, e, r⟩ := p; ⟨o, n, k o e, r⟩
theorem plainNew {h : Heap} {l : Addr} {vs : List Value} (e : h.get? l = some { cls := .type "list", data := .seq vs.toArray }) : PlainL h l vs.toArray := ⟨_, _, e, rfl, rfl, rfl⟩
theorem freshAbove {h₀ h : Heap} {L : Addr} {m : Str → Option Value} (F : Fr h₀ L h m) : h₀.get? h.objs.size = none := by
  obtain ⟨oL, _, _, hoL, _⟩ := id F.ns
  have := Nat.lt_of_le_of_lt F.above (Heap.lt_size hoL)
  cases q : h₀.get? h.objs.size with
  | none => rfl
  | some o => exact absurd (Nat.lt_trans (Heap.lt_size q) this) (Nat.lt_irrefl _)
section
variable {w : World} {mean : ExcName → Option Value} {mg mb : Str → Option Value} {A : Around} {E : Value → Shared → Prop} {s : Shared} {Q : Value → Shared → Prop}
set_option maxRecDepth 100000 in
set_option maxHeartbeats 2000000 in
theorem spec_moves {f : Addr} {x : Str} {t : Tok} (g : Gd w mean mg mb s.heap) (hx : x.length ≤ 1000) (hfl : ∀ k, k < x.length → (foldS (cAt x k)).length ≤ 1000) (hf : mg "_law_moves" = some (.ref f)) (hroom : A.depth + 3 < recursionLimit) (hh : A.handled = none)
    (h : ∀ h' tk l vs, Ext s.heap h' → s.heap.get? l = none → PlainL h' l vs.toArray → StrsAre vs (movesS x) → Q (.ref l) { s with heap := h', toks := tk }) : wpAny (model pp w) A (call (.ref f) [.str x t]) Q E s := by
  refine enterR (i := 7) (binds := [("host", .str x t)]) (by decide) g (by rw [nm7]; exact hf) (by omega) (fun _ _ _ => by kernel_rfl) (by kernel_rfl) (by kernel_rfl) (by kernel_rfl) (by kernel_rfl) (by decide +kernel) ?_
  intro R cd h₁ L hR FR g₁
  walk_at "body"
  -- moves = []
  refine wpAny_execs_cons ?_
  refine wpAny_Assign_Name ?_
  refine List_ (args_nil (newL (vs := []) (by decide) ?_))
  intro h₂ x₂ hg₂
  dsimp only at x₂ hg₂ ⊢
  refine stX (frOn FR x₂) (fun h₃ F₃ b₃ => ?_) (by kernel_rfl) (by kernel_rfl)
  have hlo : s.heap.objs.size ≤ h₁.objs.size := by obtain ⟨oL, _, _, hoL, _⟩ := id FR.ns; exact Nat.le_of_lt (Nat.lt_of_le_of_lt FR.above (Heap.lt_size hoL))
  generalize hlm : h₁.objs.size = lm at *
  have hne : lm ≠ L := list_ne (plainNew (vs := []) hg₂).isList (frOn FR x₂).ns
  have P₃ : PlainL h₃ lm ([] : List Value).toArray := plainBut (plainNew (vs := []) hg₂) (fun o e => b₃ _ _ hne e)
  have g₃ : Gd w mean mg mb h₃ := g.keeps F₃.keep
  dsimp only at F₃ ⊢
  -- the loop
  refine wpAny_execs_cons ?_
  refine wpAny_For ?_
  walk_at "C1"
  walk_at "B"
  refine Pv.callWith_type1 ?_ (by kernel_rfl) (by kernel_rfl)
  walk_at "A"
  walk_at "C1"
  walk_at "B"
  walk_at "CB"
  walk_at "A"
  walk_at "L"
  refine args_nil (len_str (by omega) ?_)
  dsimp only
  refine args_nil (range1_rows (news := []) F₃ News.nil ?_)
  intro h₄ tk₄ t₄ u₄ v₄ R₄ F₄ _ x₄
  dsimp only at R₄ F₄ x₄ ⊢
  have hsz₄ : lm < h₄.objs.size := (plainBut P₃ (fun o e => x₄ _ _ e)).lt
  refine loopRange (h₀ := s.heap) (n := x.length) (fun i h' m' => ∃ vs : List Value, PlainL h' lm vs.toArray ∧ StrsAre vs (foldMoves x i) ∧ m' "host" = some (.str x t) ∧ m' "moves" = some (.ref lm)) hh (by kernel_rfl) (by kernel_rfl) R₄ (small_n _ (by omega)).1 (small_n _ (by omega)).2 F₄ ⟨[], plainBut P₃ (fun o e => x₄ _ _ e), .nil, rfl, rfl⟩ ?st ?step ?done
  case st =>
    rintro i a b m' ⟨vs, p, q⟩ k
    exact ⟨vs, plainBut p (fun o e => k _ _ hsz₄ hne e), q⟩
  case step =>
    rintro i tk h₅ tk₅ m₅ hi F₅ ⟨vs₅, P₅, S₅, hmH, hmM⟩
    have g₅ : Gd w mean mg mb h₅ := g.keeps F₅.keep
    have h63 : fitsSsize (i : Int) = true := by unfold fitsSsize; simp; omega
    refine wpAny_execs_cons ?_
    refine wpAny_Assign_Name ?_
    refine callD (i := 6) (by decide) nm6 g₅ (by kernel_rfl) (by kernel_rfl) (by kernel_rfl) (by kernel_rfl) ?_
    intro f6 hf6
    walk_at "A"
    refine Subscript_ ?_
    walk_at "M"
    walk_at "M"
    refine item_str h63 (by omega) (by omega) (fun _ => ?_) (by kernel_rfl) (by intro _; kernel_rfl)
    dsimp only
    refine args_nil ⟨Ext.refl _, ?_⟩
    (try dsimp only)
    refine spec_fold g₅ hf6 (by show A.depth + 1 + 1 < _; omega) ?_
    intro h₆ tk₆ u₆ x₆
    dsimp only at x₆ ⊢
    refine stX (frOn F₅ x₆) (fun h₇ F₇ b₇ => ?_) (by kernel_rfl) (by kernel_rfl)
    have P₇ : PlainL h₇ lm vs₅.toArray := plainBut P₅ (fun o e => b₇ _ _ hne (x₆ _ _ e))
    have g₇ : Gd w mean mg mb h₇ := g.keeps F₇.keep
    dsimp only at F₇ b₇ ⊢
    refine wpAny_execs_cons ?_
    refine wpAny_If (wpAny_isTrue_Compare1 ?_ (by kernel_rfl))
    walk_at "M"
    refine Subscript_ ?_
    walk_at "M"
    walk_at "M"
    refine item_str h63 (by omega) (by omega) (fun _ => ?_) (by kernel_rfl) (by intro _; kernel_rfl)
    refine ne_str (wpAny_truthy_bool ?_)
    dsimp only
    have hL₄ : L < h₄.objs.size := by obtain ⟨oL, _, _, hoL, _⟩ := id F₄.ns; exact Heap.lt_size hoL
    have kp₇ : ∀ b o, h₄.objs.size ≤ b → h₅.get? b = some o → h₇.get? b = some o := fun b o hb e => b₇ b o (fun q => Nat.lt_irrefl _ (Nat.lt_of_lt_of_le hL₄ (q ▸ hb))) (x₆ _ _ e)
    cases hb : (foldS (cAt x i) != ⟨#[cAt x i]⟩) with
    | false =>
      have hb' : (foldS ((Txt.charAt x ↑i).getD 0) != Txt.item x ↑i) = false := hb
      rw [hb', if_neg Bool.false_ne_true]
      refine wpAny_execs_nil (wpAny_execs_nil ?_)
      refine ⟨rfl, h₇, _, _, rfl, kp₇, F₇, vs₅, P₇, ?_, hmH, hmM⟩
      have e : foldMoves x (i + 1) = foldMoves x i := by show foldMoves x i ++ foldMove x i = _; unfold foldMove; rw [hb, if_neg Bool.false_ne_true, List.append_nil]
      rw [e]; exact S₅
    | true =>
      have hb' : (foldS ((Txt.charAt x ↑i).getD 0) != Txt.item x ↑i) = true := hb
      rw [hb', if_pos rfl]
      refine wpAny_execs_cons ?_
      refine wpAny_Expr ?_
      refine wpAny_Call_append rfl rfl rfl rfl ?_
      walk_at "M"
      refine ⟨lm, vs₅.toArray, rfl, P₇, ?_⟩
      refine wpAny_BinOp (wpAny_BinOp (Subscript_ ?_))
      walk_at "M"
      refine wpAny_Slice ?_
      rw [evalPart_some, evalPart_none]
      refine wpAny_pure ?_
      walk_at "M"
      refine wpAny_pure ?_
      refine cutTo (fun h₈ t₈ k₈ x₈ => ?_) (by rw [sizeLine_eq]; omega) (by kernel_rfl) (by intro _; kernel_rfl)
      dsimp only at x₈ ⊢
      have F₈ := frOn F₇ x₈
      walk_at "M"
      have l1 := Txt.slice_le x none (some (i : Int))
      have l2 := Txt.slice_le x (some ((i : Int) + 1)) none
      have l3 := hfl i hi
      refine add_str (fun t₉ tk₉ => ?_) (by rw [sizeLine_eq]; show (Txt.slice x none (some (i : Int))).length + (foldS (cAt x i)).length ≤ _; omega)
      dsimp only
      refine Subscript_ ?_
      walk_at "M"
      refine wpAny_Slice ?_
      rw [evalPart_some, evalPart_none]
      refine wpAny_BinOp ?_
      walk_at "M"
      refine wpAny_Constant_int (add_int ?_)
      dsimp only
      refine wpAny_pure (wpAny_pure ?_)
      refine cutFrom (fun h₁₀ t₁₀ k₁₀ x₁₀ => ?_) (by rw [sizeLine_eq]; omega) (by kernel_rfl) (by intro _; kernel_rfl)
      dsimp only at x₁₀ ⊢
      have F₁₀ := frOn F₈ x₁₀
      refine add_str (fun t₁₁ tk₁₁ => ?_) (by rw [sizeLine_eq, Str.length_append]; show (Txt.slice x none (some (i : Int))).length + (foldS (cAt x i)).length + _ ≤ _; omega)
      dsimp only
      refine list_append_plainL (plainBut P₇ (fun o e => x₁₀ _ _ (x₈ _ _ e))) (fun h₁₁ P₁₁ sb₁₁ => ?_) ?_
      · dsimp only at sb₁₁ ⊢
        rw [List.push_toArray] at P₁₁
        refine wpAny_execs_nil (wpAny_execs_nil ?_)
        refine ⟨rfl, h₁₁, _, _, rfl, fun b o hb e => ?_, frBut F₁₀ (Ne.symm hne) hlo (fun b o hb e => (sb₁₁.2 b hb).trans e), _, P₁₁, ?_, hmH, hmM⟩
        · exact (sb₁₁.2 b (fun q => Nat.lt_irrefl _ (Nat.lt_of_lt_of_le hsz₄ (q ▸ hb)))).trans (x₁₀ _ _ (x₈ _ _ (kp₇ b o hb e)))
        · have e : foldMoves x (i + 1) = foldMoves x i ++ [Txt.slice x none (some (i : Int)) ++ foldS (cAt x i) ++ Txt.slice x (some ((i : Int) + 1)) none] := by
            show foldMoves x i ++ foldMove x i = _; unfold foldMove; rw [hb, if_pos rfl]
          rw [e]
          exact StrsAre.app S₅ (.cons _ _ .nil)
      · have := S₅.len_eq
        have := foldMoves_len x i
        rw [List.size_toArray, sizeLine_eq]; omega
  case done =>
    rintro h₅ tk₅ m₅ F₅ ⟨vs₅, P₅, S₅, hmH, hmM⟩
    have g₅ : Gd w mean mg mb h₅ := g.keeps F₅.keep
    dsimp only
    refine wpAny_execs_cons ?_
    refine wpAny_Assign_Name ?_
    refine callD (i := 1) (by decide) nm1 g₅ (by kernel_rfl) (by kernel_rfl) (by kernel_rfl) (by kernel_rfl) ?_
    intro f1 hf1
    walk_at "A"
    walk_at "M"
    refine args_nil ⟨Ext.refl _, ?_⟩
    refine spec_reach g₅ (by omega) hf1 (by show A.depth + 1 + 1 < _; omega) ?_
    intro h₆ tk₆ u₆ x₆
    dsimp only at x₆ ⊢
    refine stX (frOn F₅ x₆) (fun h₇ F₇ b₇ => ?_) (by kernel_rfl) (by kernel_rfl)
    have P₇ : PlainL h₇ lm vs₅.toArray := plainBut P₅ (fun o e => b₇ _ _ hne (x₆ _ _ e))
    dsimp only at F₇ ⊢
    refine wpAny_execs_cons (wpAny_Return_some (wpAny_BinOp ?_))
    walk_at "M"
    refine IfExp_ (wpAny_isTrue_Compare1 ?_ (by kernel_rfl))
    walk_at "M"
    walk_at "M"
    refine ne_str (wpAny_truthy_bool ?_)
    have clen : (climbS x).length ≤ 1 := by unfold climbS; split <;> simp
    have rlen : (reachS x).length ≤ 2000 := reachS_len hx
    have fin : ∀ h₈ tk ws lb, Ext h₇ h₈ → h₈.IsList lb ws.toArray → StrsAre ws (climbS x) → wpAny (model pp w) (A.deeper (envOf (rc 7).name (rc 7).scope L f cd)) (binaryOp .Add (.ref lm) (.ref lb)) (fun v s' => R (Flow.ret v) s') (fun _ _ => False) { s with heap := h₈, toks := tk } := by
      intro h₈ tk ws lb x₈ hb hS
      have F₈ := frOn F₇ x₈
      have P₈ := plainBut P₇ (fun o e => x₈ _ _ e)
      have e1 := S₅.len_eq
      have e2 := hS.len_eq
      have e3 := foldMoves_len x x.length
      refine addL P₈.isList hb (by omega) ?_
      intro h₉ x₉ hg₉
      dsimp only at x₉ hg₉ ⊢
      exact hR _ _ (h h₉ _ _ _ (frOn F₈ x₉).keep (freshAbove F₈) (plainNew hg₉) (StrsAre.app S₅ hS))
    cases hb : (reachS x != x) with
    | false =>
      rw [if_neg Bool.false_ne_true]
      refine List_ (args_nil (newS (vs := []) (ys := climbS x) ?_ (by omega) ?_))
      · unfold climbS; rw [hb, if_neg Bool.false_ne_true]; exact .nil
      · intro h₈ l₈ x₈ _ hL₈
        refine fin h₈ _ [] l₈ x₈ hL₈ ?_
        unfold climbS; rw [hb, if_neg Bool.false_ne_true]; exact .nil
    | true =>
      rw [if_pos rfl]
      refine List_ ?_
      walk_at "A"
      refine IfExp_ (wpAny_isTrue_Compare1 (Subscript_ ?_) (by kernel_rfl))
      walk_at "M"
      refine wpAny_Slice ?_
      rw [evalPart_some, evalPart_none]
      refine wpAny_pure ?_
      refine wpAny_Constant_int ?_
      dsimp only
      refine wpAny_pure ?_
      refine cutTo (fun h₈ t₈ k₈ x₈ => ?_) (by rw [sizeLine_eq]; omega) (by kernel_rfl) (by intro _; kernel_rfl)
      dsimp only at x₈ ⊢
      have F₈ := frOn F₇ x₈
      refine wpAny_Constant_str (eq_str (wpAny_truthy_bool ?_))
      cases hd : (Txt.slice (reachS x) none (some 1) == Str.ofString ".") with
      | true =>
        rw [if_pos rfl]
        refine Subscript_ ?_
        walk_at "M"
        refine wpAny_Slice ?_
        rw [evalPart_some, evalPart_none]
        refine wpAny_Constant_int ?_
        dsimp only
        refine wpAny_pure (wpAny_pure ?_)
        refine cutFrom (fun h₉ t₉ k₉ x₉ => ?_) (by rw [sizeLine_eq]; omega) (by kernel_rfl) (by intro _; kernel_rfl)
        dsimp only at x₉ ⊢
        have hc : climbS x = [Txt.slice (reachS x) (some 1) none] := by unfold climbS; rw [hb, hd]; rfl
        refine args_nil (newS (ys := climbS x) (by rw [hc]; exact .cons _ _ .nil) (by omega) ?_)
        intro h₁₀ l₁₀ x₁₀ _ hL₁₀
        exact fin h₁₀ _ _ l₁₀ (Ext.trans x₈ (Ext.trans x₉ x₁₀)) hL₁₀ (by rw [hc]; exact .cons _ _ .nil)
      | false =>
        rw [if_neg Bool.false_ne_true]
        refine wpAny_Constant_str ?_
        dsimp only
        have hc : climbS x = [Str.ofString "?"] := by unfold climbS; rw [hb, hd]; rfl
        refine args_nil (newS (ys := climbS x) (by rw [hc]; exact .cons _ _ .nil) (by omega) ?_)
        intro h₁₀ l₁₀ x₁₀ _ hL₁₀
        exact fin h₁₀ _ _ l₁₀ (Ext.trans x₈ x₁₀) hL₁₀ (by rw [hc]; exact .cons _ _ .nil)
end
end Mine
end
-- part B1
section
open PySem PySem.W PyProof.Rows PySem.Calls
namespace Mine
inductive Rch (a : Str) : Str → Prop
  | refl : Rch a a
  | step {x y : Str} : Rch a x → y ∈ movesS x → Rch a y
def add1 (ys : List Str) (m : Str) : List Str := if ys.contains m then ys else ys ++ [m]
def addAll (ys ms : List Str) : List Str := ms.foldl add1 ys
theorem mem_add1 {ys : List Str} {m z : Str} : z ∈ add1 ys m ↔ z ∈ ys ∨ z = m := by
  unfold add1
  split
  · rename_i h
    have hm : m ∈ ys := by simpa using h
    constructor
    · exact Or.inl
    · rintro (h | rfl) <;> assumption
  · simp
theorem mem_addAll : ∀ {ms ys : List Str} {z : Str}, z ∈ addAll ys ms ↔ z ∈ ys ∨ z ∈ ms
  | [], ys, z => by simp [addAll]
  | m :: r, ys, z => by
    show z ∈ addAll (add1 ys m) r ↔ _
    rw [mem_addAll, mem_add1]
    simp [or_assoc]
theorem nodup_add1 {ys : List Str} {m : Str} (h : ys.Nodup) : (add1 ys m).Nodup := by
  unfold add1
  split
  · exact h
  · rename_i q
    have hm : m ∉ ys := by simpa using q
    rw [List.nodup_append]
    refine ⟨h, by simp, ?_⟩
    intro a ha b hb
    simp at hb
    subst hb
    intro e
    exact hm (e ▸ ha)
theorem nodup_addAll : ∀ {ms ys : List Str}, ys.Nodup → (addAll ys ms).Nodup
  | [], _, h => h
  | _ :: r, _, h => nodup_addAll (ms := r) (nodup_add1 h)
theorem pre_add1 (ys : List Str) (m : Str) : ys <+: add1 ys m := by
  unfold add1; split
  · exact List.prefix_refl _
  · exact List.prefix_append _ _
theorem pre_addAll : ∀ (ms ys : List Str), ys <+: addAll ys ms
  | [], ys => List.prefix_refl _
  | m :: r, ys => (pre_add1 ys m).trans (pre_addAll r _)
structure Bfs (a : Str) (ys es : List Str) (k : Nat) : Prop where
  nd : ys.Nodup
  rch : ∀ y ∈ ys, Rch a y
  hd : a ∈ ys
  cl : ∀ i y, i < k → ys[i]? = some y → ∀ z ∈ movesS y, z ∈ ys
  es : es = (ys.take k).filter (fun y => (movesS y).isEmpty)
  le : k ≤ ys.length
theorem Bfs.start (a : Str) : Bfs a [a] [] 0 := ⟨by simp, fun y h => by simp at h; exact h ▸ .refl, by simp, fun i y h => absurd h (Nat.not_lt_zero _), rfl, Nat.zero_le _⟩
theorem Bfs.step {a y : Str} {ys es : List Str} {k : Nat} (b : Bfs a ys es k) (hy : ys[k]? = some y) : Bfs a (addAll ys (movesS y)) (if (movesS y).isEmpty then es ++ [y] else es) (k + 1) := by
  have hk : k < ys.length := by
    rcases Nat.lt_or_ge k ys.length with h | h
    · exact h
    · rw [List.getElem?_eq_none h] at hy; cases hy
  obtain ⟨t, ht⟩ := pre_addAll (movesS y) ys
  have hget : ∀ i, i < ys.length → (addAll ys (movesS y))[i]? = ys[i]? := fun i hi => by rw [← ht, List.getElem?_append_left hi]
  have hlen : ys.length ≤ (addAll ys (movesS y)).length := by rw [← ht]; simp
  refine ⟨nodup_addAll b.nd, ?_, mem_addAll.mpr (.inl b.hd), ?_, ?_, by omega⟩
  · intro z hz
    rcases mem_addAll.mp hz with h | h
    · exact b.rch z h
    · exact .step (b.rch y (List.mem_of_getElem? hy)) h
  · intro i u hi hu z hz
    rw [hget i (by omega)] at hu
    rcases Nat.lt_or_ge i k with h | h
    · exact mem_addAll.mpr (.inl (b.cl i u h hu z hz))
    · have : i = k := by omega
      subst this
      rw [hy] at hu; cases hu
      exact mem_addAll.mpr (.inr hz)
  · have : (addAll ys (movesS y)).take (k + 1) = ys.take k ++ [y] := by
      rw [← ht, List.take_append_of_le_length (by omega), List.take_add_one, hy]; rfl
    rw [this, List.filter_append, ← b.es]
    cases h : (movesS y).isEmpty <;> simp [h]
theorem Bfs.done {a : Str} {ys es : List Str} (b : Bfs a ys es ys.length) : es.Nodup ∧ ∀ x, x ∈ es ↔ Rch a x ∧ movesS x = [] := by
  have hall : ∀ x, Rch a x → x ∈ ys := by
    intro x h
    induction h with
    | refl => exact b.hd
    | step h1 h2 ih =>
      obtain ⟨i, hi, e⟩ := List.mem_iff_getElem.mp ih
      exact b.cl i _ hi (List.getElem?_eq_getElem hi) _ (e ▸ h2)
  rw [b.es, List.take_length]
  refine ⟨b.nd.filter _, fun x => ?_⟩
  rw [List.mem_filter, List.isEmpty_iff]
  exact ⟨fun h => ⟨b.rch x h.1, h.2⟩, fun h => ⟨hall x h.1, h.2⟩⟩
theorem len_le_of_sub : ∀ {ys R : List Str}, ys.Nodup → (∀ y ∈ ys, y ∈ R) → ys.length ≤ R.length
  | [], _, _, _ => Nat.zero_le _
  | y :: r, R, hn, hs => by
    have hy : y ∈ R := hs y (by simp)
    have := len_le_of_sub (ys := r) (R := R.erase y) (List.nodup_cons.mp hn).2 (fun z hz => by
      have : z ≠ y := fun e => (List.nodup_cons.mp hn).1 (e ▸ hz)
      exact (List.mem_erase_of_ne this).mpr (hs z (by simp [hz])))
    rw [List.length_erase_of_mem hy] at this
    have := List.length_pos_of_mem hy
    simp only [List.length_cons]
    omega
end Mine
end
-- part W10
section
open PySem PySem.W PyProof.Rows PySem.Calls
namespace Mine
local macro_rules | `(tactic| walk_at "L") => `(tactic| (refine' ld ?fF ?fH ?_ (by kernel_rfl) (by kernel_rfl) (by kernel_rfl); (case fF => assumption); (case fH => exact rfl); (try dsimp only)))
local macro_rules | `(tactic| walk_at "B") => `(tactic| (refine' blt ?fF ?fH (by kernel_rfl) (by kernel_rfl) (by kernel_rfl) (by kernel_rfl) (by kernel_rfl) ?_; (case fF => assumption); (case fH => first | exact bb_ord | exact bb_chr | exact bb_len | exact bb_sum | exact bb_sorted | exact bb_range | exact bb_list | exact bb_str); (try dsimp only)))
local macro_rules | `(tactic| walk_at "C1") => `(tactic| (refine Call_ ?_ (by kernel_rfl)))
local macro_rules | `(tactic| walk_at "CB") => `(tactic| (refine callWith_builtin1 ?_ (by kernel_rfl) (by kernel_rfl)))
local macro_rules | `(tactic| walk_at "A") => `(tactic| (refine args_cons ?_ (by kernel_rfl)))
local macro_rules | `(tactic| walk_at "I") => `(tactic| (refine wpAny_Constant_int ?_; dsimp only))
local macro_rules | `(tactic| walk_at "body") => `(tactic| conv in execs _ _ => arg 1; whnf)
local macro_rules | `(tactic| walk_at "M") => `(tactic| (refine' ld ?fF ?fH ?_ (by kernel_rfl) (by kernel_rfl) (by kernel_rfl); (case fF => assumption); (case fH => first | exact rfl | assumption); (try dsimp only)))
theorem any_strs : ∀ {vs : List Value} {ys : List Str}, StrsAre vs ys → ∀ z : Str, vs.toArray.any (fun v => strOf v == z) = ys.contains z
  | _, _, .nil, _ => by simp
  | _, _, .cons x t hr, z => by
    have ih := any_strs hr z
    simp only [List.any_toArray] at ih ⊢
    simp only [List.any_cons, List.contains_cons]
    rw [ih]
    congr 1
    show (x == z) = (z == x)
    exact Bool.eq_iff_iff.mpr ⟨fun h => by rw [beq_iff_eq] at h ⊢; exact h.symm, fun h => by rw [beq_iff_eq] at h ⊢; exact h.symm⟩
section
variable {w : World} {mean : ExcName → Option Value} {mg mb : Str → Option Value} {A : Around} {E : Value → Shared → Prop} {s : Shared} {Q : Value → Shared → Prop}
set_option maxRecDepth 100000 in
set_option maxHeartbeats 2000000 in
theorem spec_ends {f : Addr} {x : Str} {t : Tok} (g : Gd w mean mg mb s.heap) (hf : mg "_law_ends" = some (.ref f)) (hroom : A.depth + 4 < recursionLimit) (hh : A.handled = none) (hu : A.units + 20 < cLine)
    (Rs : List Str) (hRs : ∀ y, Rch x y → y ∈ Rs) (hRl : Rs.length ≤ 1000000) (hsz : ∀ y, Rch x y → y.length ≤ 1000 ∧ ∀ k, k < y.length → (foldS (cAt y k)).length ≤ 1000)
    (Ts : List Str) (hT : ∀ y, Rch x y → movesS y = [] → y ∈ Ts) (hTl : Ts.length < 64)
    (h : ∀ h' tk l vs ss, Ext s.heap h' → h'.IsList l vs.toArray → StrsAre vs ss → ss.Nodup → sortedS ss = true → (∀ y, y ∈ ss ↔ Rch x y ∧ movesS y = []) → Q (.ref l) { s with heap := h', toks := tk }) : wpAny (model pp w) A (call (.ref f) [.str x t]) Q E s := by
  refine enterR (i := 8) (binds := [("host", .str x t)]) (by decide) g (by rw [nm8]; exact hf) (by omega) (fun _ _ _ => by kernel_rfl) (by kernel_rfl) (by kernel_rfl) (by kernel_rfl) (by kernel_rfl) (by decide +kernel) ?_
  intro R cd h₁ L hR FR g₁
  walk_at "body"
  refine wpAny_execs_cons ?_
  refine Assign_Tuple_swapped (names := ["seen", "ends", "k"]) ?_ (by kernel_rfl) (by kernel_rfl)
  refine Tuple_ ?_
  walk_at "A"
  refine List_ ?_
  walk_at "A"
  walk_at "L"
  refine args_nil (newL (vs := [.str x t]) (by show 1 ≤ 1000000; decide) ?_)
  intro h₂ x₂ hg₂
  dsimp only at x₂ hg₂ ⊢
  have F₂ := frOn FR x₂
  have fr2 := freshAbove FR
  have hlo : s.heap.objs.size ≤ h₁.objs.size := by obtain ⟨oL, _, _, hoL, _⟩ := id FR.ns; exact Nat.le_of_lt (Nat.lt_of_le_of_lt FR.above (Heap.lt_size hoL))
  generalize hls : h₁.objs.size = ls at *
  walk_at "A"
  refine List_ (args_nil (newL (vs := []) (by decide) ?_))
  intro h₃ x₃ hg₃
  dsimp only at x₃ hg₃ ⊢
  have F₃ := frOn F₂ x₃
  have fr3 := freshAbove F₂
  have hse : ls ≠ h₂.objs.size := Nat.ne_of_lt (Heap.lt_size hg₂)
  have hlt2 : ls < h₂.objs.size := Heap.lt_size hg₂
  generalize hle : h₂.objs.size = le at *
  walk_at "A"
  walk_at "I"
  refine args_nil (newT (by show 3 ≤ 1000000; decide) ?_)
  intro h₄ a₄ x₄ _ hg₄
  dsimp only at x₄ ⊢
  have F₄ := frOn F₃ x₄
  refine unpackItems_tuple hh (t := a₄) (items := #[.ref ls, .ref le, _]) ⟨_, hg₄, rfl, _, rfl⟩ ?_
  intro h₅ e₅
  have x₅ : Ext h₄ h₅ := fun b o e => e₅ b o (Nat.ne_of_lt (Heap.lt_size e)) e
  dsimp only
  have F₅ := frOn F₄ x₅
  refine assignInOrder_cons (bindName_ ?_)
  refine stX F₅ (fun h₆ F₆ b₆ => ?_) (by kernel_rfl) (by kernel_rfl)
  dsimp only at F₆ b₆ ⊢
  refine assignInOrder_cons (bindName_ ?_)
  refine stX F₆ (fun h₇ F₇ b₇ => ?_) (by kernel_rfl) (by kernel_rfl)
  dsimp only at F₇ b₇ ⊢
  refine assignInOrder_cons (bindName_ ?_)
  refine stX F₇ (fun h₈ F₈ b₈ => ?_) (by kernel_rfl) (by kernel_rfl)
  dsimp only at F₈ b₈ ⊢
  refine assignInOrder_nil ?_
  have hlos : s.heap.objs.size ≤ ls := Nat.le_of_not_lt (fun q => by have := hlo; omega)
  have hloe : s.heap.objs.size ≤ le := by omega
  have hnes : ls ≠ L := list_ne (plainNew hg₂).isList F₂.ns
  have hnee : le ≠ L := list_ne (plainNew (vs := []) hg₃).isList F₃.ns
  have PS : PlainL h₈ ls [Value.str x t].toArray := plainBut (plainNew hg₂) (fun o e => b₈ _ _ hnes (b₇ _ _ hnes (b₆ _ _ hnes (x₅ _ _ (x₄ _ _ (x₃ _ _ e))))))
  have PE : PlainL h₈ le ([] : List Value).toArray := plainBut (plainNew (vs := []) hg₃) (fun o e => b₈ _ _ hnee (b₇ _ _ hnee (b₆ _ _ hnee (x₅ _ _ (x₄ _ _ e)))))
  refine wpAny_execs_cons ?_
  refine wpAny_While ?_
  refine codeAny_whileLoop (fun n s' => ∃ h' tk m' k ys es vs ws u, s' = { s with heap := h', toks := tk } ∧ Fr s.heap L h' m' ∧ PlainL h' ls (vs : List Value).toArray ∧ PlainL h' le (ws : List Value).toArray ∧ StrsAre vs ys ∧ StrsAre ws es ∧ m' "seen" = some (.ref ls) ∧ m' "ends" = some (.ref le) ∧ m' "k" = some (.int ((k : Nat) : Int) u) ∧ Bfs x ys es k ∧ n = Rs.length + 1 - k) ?_ (Rs.length + 1)
    ⟨h₈, _, _, 0, [x], [], [.str x t], [], _, rfl, F₈, PS, PE, .cons _ _ .nil, .nil, rfl, rfl, rfl, Bfs.start x, rfl⟩
  rintro n s' ⟨h', tk, m', k, ys, es, vs, ws, u, rfl, F', P₁, P₂, S₁, S₂, hm1, hm2, hm3, B, rfl⟩
  have hyl : ys.length ≤ Rs.length := len_le_of_sub B.nd (fun y hy => hRs y (B.rch y hy))
  have g' : Gd w mean mg mb h' := g.keeps F'.keep
  refine wpAny_isTrue_Compare1 ?_ (by kernel_rfl)
  walk_at "M"
  walk_at "C1"
  walk_at "B"
  walk_at "CB"
  walk_at "A"
  walk_at "M"
  refine args_nil (len_strsA P₁.isList S₁ (by omega) ?_)
  refine lt_int (wpAny_truthy_bool ?_)
  dsimp only
  by_cases hk : k < ys.length
  · rw [if_pos (by simp only [decide_eq_true_eq]; omega)]
    have hy : ys[k]? = some (ys.getD ((k : Nat) : Int).toNat Str.empty) := by simp [List.getD, hk]
    refine wpAny_execs_cons ?_
    refine wpAny_Assign_Name ?_
    refine callD (i := 7) (by decide) nm7 g' (by kernel_rfl) (by kernel_rfl) (by kernel_rfl) (by kernel_rfl) ?_
    intro f7 hf7
    walk_at "A"
    refine Subscript_ ?_
    walk_at "M"
    walk_at "M"
    refine item_strsA P₁.isList S₁ (by omega) (by omega) (by omega) (fun t₁ => ?_) (by kernel_rfl) (by intro _; kernel_rfl)
    generalize hyy : ys.getD ((k : Nat) : Int).toNat Str.empty = y at *
    have ry : Rch x y := B.rch y (List.mem_of_getElem? hy)
    refine args_nil ⟨Ext.refl _, ?_⟩
    refine spec_moves g' (hsz y ry).1 (hsz y ry).2 hf7 (by show A.depth + 1 + 3 < _; omega) hh ?_
    intro h₉ tk₉ lm ms x₉ fr₉ PM SM
    dsimp only at x₉ fr₉ ⊢
    have F₉ := frOn F' x₉
    refine stX F₉ (fun h₁₀ F₁₀ b₁₀ => ?_) (by kernel_rfl) (by kernel_rfl)
    dsimp only at F₁₀ b₁₀ ⊢
    have hnem : lm ≠ L := list_ne PM.isList F₉.ns
    have PM₁₀ := plainBut PM (fun o e => b₁₀ _ _ hnem e)
    have P₁₀ := plainBut P₁ (fun o e => b₁₀ _ _ hnes (x₉ _ _ e))
    have Q₁₀ := plainBut P₂ (fun o e => b₁₀ _ _ hnee (x₉ _ _ e))
    have hms : lm ≠ ls := by intro e; obtain ⟨o, _, q, _⟩ := P₁; rw [← e, fr₉] at q; cases q
    have hme : lm ≠ le := by intro e; obtain ⟨o, _, q, _⟩ := P₂; rw [← e, fr₉] at q; cases q
    refine wpAny_execs_cons ?_
    refine wpAny_For ?_
    walk_at "M"
    refine loopList (h₀ := s.heap) (vs := ms) (fun i h m => PlainL h lm ms.toArray ∧ PlainL h le ws.toArray ∧ (∃ vs1 : List Value, PlainL h ls vs1.toArray ∧ StrsAre vs1 (addAll ys ((movesS y).take i))) ∧ m "seen" = some (.ref ls) ∧ m "ends" = some (.ref le) ∧ m "k" = some (.int ((k : Nat) : Int) u) ∧ m "moves" = some (.ref lm)) hh (by kernel_rfl) (by kernel_rfl) (fun i h m q => q.1.isList) F₁₀ ⟨PM₁₀, Q₁₀, ⟨vs, P₁₀, S₁⟩, hm1, hm2, hm3, rfl⟩ ?st ?step ?done
    case st =>
      rintro i a b m ⟨q1, q2, ⟨vs1, q3, q4⟩, q5⟩ kp
      exact ⟨plainBut q1 (fun o e => kp _ _ PM₁₀.lt hnem e), plainBut q2 (fun o e => kp _ _ Q₁₀.lt hnee e), ⟨vs1, plainBut q3 (fun o e => kp _ _ P₁₀.lt hnes e), q4⟩, q5⟩
    case step =>
      rintro i v h₁₁ tk₁₁ m₁ hv F₁₁ ⟨PM₁, PE₁, ⟨vs1, PS₁, SS₁⟩, n1, n2, n3, n4⟩
      obtain ⟨z, tz, rfl, hz⟩ := StrsAre.item SM i v hv
      have e1 : addAll ys ((movesS y).take (i + 1)) = add1 (addAll ys ((movesS y).take i)) z := by rw [List.take_add_one, hz]; simp [addAll, List.foldl_append]
      have hl1 : vs1.length ≤ 1000000 := by
        rw [SS₁.len_eq]
        refine Nat.le_trans (len_le_of_sub (R := Rs) (nodup_addAll B.nd) (fun a ha => hRs a ?_)) hRl
        rcases mem_addAll.mp ha with q | q
        · exact B.rch a q
        · exact .step ry (List.mem_of_mem_take q)
      refine wpAny_execs_cons ?_
      refine wpAny_If (wpAny_isTrue_Compare1 ?_ (by kernel_rfl))
      walk_at "M"
      walk_at "M"
      refine SeqAt.notIn_listAt (fun v => strOf v == z) PS₁.isList (fun v hv => ?_) (wpAny_truthy_bool ?_)
      · obtain ⟨a, ta, rfl⟩ := SS₁.all v (by simpa using hv)
        exact SeqAt.EqAt.str_str a ta z tz
      rw [any_strs SS₁ z]
      cases hc : (addAll ys ((movesS y).take i)).contains z with
      | true =>
        rw [if_neg (by decide)]
        refine wpAny_execs_nil (wpAny_execs_nil ?_)
        refine ⟨rfl, h₁₁, _, _, rfl, fun b o hb e => e, F₁₁, PM₁, PE₁, ⟨vs1, PS₁, ?_⟩, n1, n2, n3, n4⟩
        rw [e1]; unfold add1; rw [hc]; exact SS₁
      | false =>
        rw [if_pos (by decide)]
        refine wpAny_execs_cons ?_
        refine wpAny_Expr ?_
        refine wpAny_Call_append rfl rfl rfl rfl ?_
        walk_at "M"
        refine ⟨ls, vs1.toArray, rfl, PS₁, ?_⟩
        walk_at "M"
        refine list_append_plainL PS₁ (fun h₁₂ P₁₂ sb₁₂ => ?_) (by rw [List.size_toArray, sizeLine_eq]; omega)
        dsimp only at sb₁₂ ⊢
        rw [List.push_toArray] at P₁₂
        refine wpAny_execs_nil (wpAny_execs_nil ?_)
        refine ⟨rfl, h₁₂, _, _, rfl, fun b o hb e => (sb₁₂.2 b (fun q => Nat.lt_irrefl _ (Nat.lt_of_lt_of_le P₁₀.lt (q ▸ hb)))).trans e, frBut F₁₁ (Ne.symm hnes) hlos (fun b o hb e => (sb₁₂.2 b hb).trans e), plainBut PM₁ (fun o e => (sb₁₂.2 _ hms).trans e), plainBut PE₁ (fun o e => (sb₁₂.2 _ (Ne.symm hse)).trans e), ⟨_, P₁₂, ?_⟩, n1, n2, n3, n4⟩
        rw [e1]; unfold add1; rw [hc]
        exact StrsAre.app SS₁ (.cons _ _ .nil)
    case done =>
      rintro h₁₁ tk₁₁ m₁ F₁₁ ⟨PM₁, PE₁, ⟨vs1, PS₁, SS₁⟩, n1, n2, n3, n4⟩
      have hml : ms.length = (movesS y).length := SM.len_eq
      rw [hml, List.take_length] at SS₁
      have B' := B.step hy
      obtain ⟨pt, hpt⟩ := pre_addAll (movesS y) ys
      have hgk : (addAll ys (movesS y)).getD ((k : Nat) : Int).toNat Str.empty = y := by
        rw [List.getD_eq_getElem?_getD, Int.toNat_natCast, ← hpt, List.getElem?_append_left hk, hy]; rfl
      have hal : ys.length ≤ (addAll ys (movesS y)).length := by rw [← hpt]; simp
      have hal2 : (addAll ys (movesS y)).length ≤ Rs.length := len_le_of_sub B'.nd (fun a ha => hRs a (B'.rch a ha))
      dsimp only
      refine wpAny_execs_cons ?_
      refine wpAny_If (wpAny_isTrue_Compare1 ?_ (by kernel_rfl))
      walk_at "M"
      refine List_ (args_nil (newS (vs := []) (ys := []) .nil (by decide) ?_))
      intro h₁₂ l₁₂ x₁₂ _ hL₁₂
      dsimp only at x₁₂ hL₁₂ ⊢
      have F₁₂ := frOn F₁₁ x₁₂
      have PM₂ := plainBut PM₁ (fun o e => x₁₂ _ _ e)
      have PE₂ := plainBut PE₁ (fun o e => x₁₂ _ _ e)
      have PS₂ := plainBut PS₁ (fun o e => x₁₂ _ _ e)
      cases hmv : (movesS y).isEmpty with
      | true =>
        have hm0 : ms.length = 0 := by rw [hml]; simpa using hmv
        have hms0 : ms = [] := List.eq_nil_of_length_eq_zero hm0
        rw [hmv, if_pos rfl] at B'
        subst hms0
        refine SeqAt.eq_listAt (e := fun _ => true) PM₂.isList hL₁₂ rfl (by show A.units + 3 < cLine; omega) (fun j h1 => absurd h1 (Nat.not_lt_zero _)) (wpAny_truthy_bool ?_)
        show if true = true then _ else _
        rw [if_pos rfl]
        refine wpAny_execs_cons ?_
        refine wpAny_Expr ?_
        refine wpAny_Call_append rfl rfl rfl rfl ?_
        walk_at "M"
        refine ⟨le, ws.toArray, rfl, PE₂, ?_⟩
        refine Subscript_ ?_
        walk_at "M"
        walk_at "M"
        refine item_strsA PS₂.isList SS₁ (by omega) (by omega) (by omega) (fun t₁₃ => ?_) (by kernel_rfl) (by intro _; kernel_rfl)
        rw [hgk]
        have hwl := S₂.len_eq
        have hel : es.length ≤ ys.length := by rw [B.es]; exact Nat.le_trans (List.length_filter_le _ _) (List.length_take_le' _ _)
        refine list_append_plainL PE₂ (fun h₁₃ P₁₃ sb₁₃ => ?_) (by rw [List.size_toArray, sizeLine_eq]; omega)
        dsimp only at sb₁₃ ⊢
        rw [List.push_toArray] at P₁₃
        have F₁₃ := frBut F₁₂ (Ne.symm hnee) hloe (fun b o hb e => (sb₁₃.2 b hb).trans e)
        have PS₃ := plainBut PS₂ (fun o e => (sb₁₃.2 _ hse).trans e)
        refine wpAny_execs_nil ?_
        dsimp only
        refine wpAny_execs_cons ?_
        refine wpAny_Assign_Name ?_
        refine wpAny_BinOp ?_
        walk_at "M"
        refine wpAny_Constant_int (add_int ?_)
        dsimp only
        refine stX F₁₃ (fun h₁₄ F₁₄ b₁₄ => ?_) (by kernel_rfl) (by kernel_rfl)
        dsimp only at F₁₄ b₁₄ ⊢
        refine wpAny_execs_nil ?_
        refine ⟨Rs.length + 1 - (k + 1), by omega, h₁₄, _, _, k + 1, _, _, vs1, _, _, rfl, F₁₄, plainBut PS₃ (fun o e => b₁₄ _ _ hnes e), plainBut P₁₃ (fun o e => b₁₄ _ _ hnee e), SS₁, StrsAre.app S₂ (.cons _ _ .nil), n1, n2, rfl, B', rfl⟩
      | false =>
        have hm0 : ms.length ≠ 0 := by rw [hml]; intro q; rw [List.eq_nil_of_length_eq_zero q] at hmv; cases hmv
        rw [hmv, if_neg Bool.false_ne_true] at B'
        refine SeqAt.eq_list_lengthsAt PM₂.isList hL₁₂ (by simpa using hm0) (by show A.units + 3 < cLine; omega) (wpAny_truthy_bool ?_)
        show if false = true then _ else _
        rw [if_neg Bool.false_ne_true]
        refine wpAny_execs_nil ?_
        dsimp only
        refine wpAny_execs_cons ?_
        refine wpAny_Assign_Name ?_
        refine wpAny_BinOp ?_
        walk_at "M"
        refine wpAny_Constant_int (add_int ?_)
        dsimp only
        refine stX F₁₂ (fun h₁₄ F₁₄ b₁₄ => ?_) (by kernel_rfl) (by kernel_rfl)
        dsimp only at F₁₄ b₁₄ ⊢
        refine wpAny_execs_nil ?_
        refine ⟨Rs.length + 1 - (k + 1), by omega, h₁₄, _, _, k + 1, _, _, vs1, ws, _, rfl, F₁₄, plainBut PS₂ (fun o e => b₁₄ _ _ hnes e), plainBut PE₂ (fun o e => b₁₄ _ _ hnee e), SS₁, S₂, n1, n2, rfl, B', rfl⟩
  · rw [if_neg (by simp only [decide_eq_true_eq]; omega)]
    have hke : k = ys.length := Nat.le_antisymm B.le (Nat.le_of_not_lt hk)
    subst hke
    obtain ⟨d1, d2⟩ := B.done
    have hel : es.length ≤ Ts.length := len_le_of_sub d1 (fun a ha => hT a ((d2 a).mp ha).1 ((d2 a).mp ha).2)
    refine wpAny_execs_nil ?_
    dsimp only
    refine wpAny_execs_cons (wpAny_Return_some ?_)
    walk_at "C1"
    walk_at "B"
    walk_at "CB"
    walk_at "A"
    walk_at "M"
    refine args_nil (sorted_N_str (news := []) F' News.nil P₂.isList S₂ (by rw [S₂.len_eq]; omega) ?_)
    intro h₉ vs₉ ss₉ e₉ F₉ N₉ S₉ p₉ o₉
    have hg₉ := (N₉ _ (List.mem_cons_self ..)).1
    refine hR _ _ (h h₉ _ _ vs₉ ss₉ F₉.keep ⟨_, hg₉, rfl, _, rfl⟩ S₉ (p₉.nodup_iff.mpr d1) o₉ (fun a => ?_))
    rw [p₉.mem_iff]
    exact d2 a
end
end Mine
end
-- part P1
section
open PySem PySem.W PyProof.Rows PySem.Calls
namespace Mine
/-- the signs of a text -/
def toL (x : Str) : List Nat := x.cps.toList
theorem toL_inj {x y : Str} (h : toL x = toL y) : x = y := by
  obtain ⟨⟨a⟩⟩ := x
  obtain ⟨⟨b⟩⟩ := y
  simp only [toL] at h
  rw [h]
theorem toL_app (x y : Str) : toL (x ++ y) = toL x ++ toL y := by
  show (x ++ y).cps.toList = _
  rw [Str.cps_append]; simp [toL]
theorem toL_len (x : Str) : (toL x).length = x.length := by simp [toL, Str.length]
theorem toL_to {x : Str} {k : Nat} (h : k ≤ x.length) : toL (Txt.slice x none (some (k : Int))) = (toL x).take k := by
  have e := slice_closes_toL (x := x) (j := (k : Int)) (by omega) (by omega)
  rw [beq_iff_eq] at e
  rw [e]
  simp [toL]
theorem toL_from {x : Str} {k : Nat} (h : k ≤ x.length) : toL (Txt.slice x (some (k : Int)) none) = (toL x).drop k := by
  rw [slice_from_eq (x := x) (i := (k : Int)) (b := x.length) (by omega) (by omega) rfl]
  simp only [toL, Int.toNat_natCast]
  rw [List.take_of_length_le]
  rw [List.length_drop]
  have : x.cps.toList.length = x.length := toL_len x
  omega
theorem cAt_eq {x : Str} {k : Nat} (h : k < x.length) : (toL x)[k]? = some (cAt x k) := by
  unfold cAt Txt.charAt seqIndex?
  have h1 : ¬ ((k : Int) < 0) := by omega
  have h2 : (0 ≤ (k : Int) && (k : Int) < (x.length : Int)) = true := by simp; omega
  simp only [if_neg h1, h2, if_true, Option.bind_some, Int.toNat_natCast]
  have h3 : k < x.cps.size := h
  simp [toL, h3]
end Mine
end
-- part P2
section
open PySem PySem.W PyProof.Rows PySem.Calls
namespace Mine
theorem atDot {x : Str} {i : Nat} : StrLaws.At x dotS x.length i ↔ (toL x)[i]? = some 46 := by
  have hd : dotS.cps = #[46] := by decide +kernel
  have hl : dotS.length = 1 := by unfold Str.length; rw [hd]; rfl
  unfold StrLaws.At Builtin.Str.subAt
  rw [hl, hd, beq_iff_eq]
  constructor
  · rintro ⟨h1, h2⟩
    have h3 : i < x.cps.size := h1
    have := congrArg (·[0]?) h2
    simp only [toL]
    rw [Array.getElem?_extract] at this
    simpa [h3, show i + 1 ≤ x.cps.size from h3] using this
  · intro h
    have h3 : i < x.cps.size := by
      rcases Nat.lt_or_ge i x.cps.size with q | q
      · exact q
      · simp only [toL] at h; rw [List.getElem?_eq_none (by simpa using q)] at h; cases h
    refine ⟨h3, ?_⟩
    simp only [toL] at h
    apply Array.ext
    · simp; omega
    · intro j h1 h2
      have hj : j = 0 := by simp at h2; omega
      subst hj
      simpa [h3] using h
theorem find_none {x : Str} (h : ¬ 0 ≤ Txt.find x dotS) : 46 ∉ toL x := by
  rcases find_whole x dotS with ⟨_, h2⟩ | ⟨i, h1, _⟩
  · intro hm
    obtain ⟨i, hi⟩ := List.mem_iff_getElem?.mp hm
    exact h2 i (atDot.mpr hi)
  · omega
theorem find_some {x : Str} (h : 0 ≤ Txt.find x dotS) : ∃ u b, toL x = u ++ 46 :: b ∧ 46 ∉ u ∧ Txt.find x dotS = u.length ∧ toL (reachB x) = b := by
  rcases find_whole x dotS with ⟨h1, _⟩ | ⟨i, h1, h2, h3⟩
  · omega
  · have hi := atDot.mp h2
    have hlt : i < (toL x).length := by
      rcases Nat.lt_or_ge i (toL x).length with q | q
      · exact q
      · rw [List.getElem?_eq_none q] at hi; cases hi
    have e : toL x = (toL x).take i ++ 46 :: (toL x).drop (i + 1) := by
      conv => lhs; rw [← List.take_append_drop i (toL x)]
      rw [List.drop_eq_getElem_cons hlt]
      rw [List.getElem?_eq_getElem hlt] at hi
      rw [Option.some.inj hi]
    refine ⟨(toL x).take i, (toL x).drop (i + 1), e, ?_, ?_, ?_⟩
    · intro hm
      obtain ⟨j, hj⟩ := List.mem_iff_getElem?.mp hm
      have hji : j < i := by
        rcases Nat.lt_or_ge j i with q | q
        · exact q
        · rw [List.getElem?_eq_none (by rw [List.length_take]; omega)] at hj; cases hj
      rw [List.getElem?_take_of_lt hji] at hj
      exact h3 j hji (atDot.mpr hj)
    · rw [h1, List.length_take]; omega
    · unfold reachB
      rw [h1]
      have := toL_from (x := x) (k := i + 1) (by have := toL_len x; omega)
      push_cast at this
      exact this
end Mine
end
-- part P3
section
open PySem PySem.W PyProof.Rows PySem.Calls
namespace Mine
def foldC (c : Nat) : List Nat := toL (foldS c)
def localL : List Nat := [108, 111, 99, 97, 108]
def FoldStep (l m : List Nat) : Prop := ∃ a c b, l = a ++ c :: b ∧ foldC c ≠ [c] ∧ m = a ++ foldC c ++ b
theorem mem_foldMoves {x y : Str} : ∀ {n : Nat}, y ∈ foldMoves x n ↔ ∃ k, k < n ∧ y ∈ foldMove x k
  | 0 => by simp [foldMoves]
  | n + 1 => by
    simp only [foldMoves, List.mem_append, mem_foldMoves]
    constructor
    · rintro (⟨k, h1, h2⟩ | h)
      · exact ⟨k, by omega, h2⟩
      · exact ⟨n, by omega, h⟩
    · rintro ⟨k, h1, h2⟩
      rcases Nat.lt_or_ge k n with h | h
      · exact .inl ⟨k, h, h2⟩
      · exact .inr ((show k = n by omega) ▸ h2)
theorem one_toL (c : Nat) : toL ⟨#[c]⟩ = [c] := rfl
theorem fold_bne (c : Nat) : (foldS c != (⟨#[c]⟩ : Str)) = true ↔ foldC c ≠ [c] := by
  rw [bne_iff_ne]
  constructor
  · intro h e; exact h (toL_inj e)
  · intro h e; exact h (by unfold foldC; rw [e]; rfl)
theorem folds_iff {x y : Str} : y ∈ foldMoves x x.length ↔ FoldStep (toL x) (toL y) := by
  rw [mem_foldMoves]
  constructor
  · rintro ⟨k, hk, hy⟩
    unfold foldMove at hy
    split at hy
    · rename_i hb
      simp only [List.mem_singleton] at hy
      have hk' : k < (toL x).length := by rw [toL_len]; exact hk
      refine ⟨(toL x).take k, cAt x k, (toL x).drop (k + 1), ?_, (fold_bne _).mp hb, ?_⟩
      · conv => lhs; rw [← List.take_append_drop k (toL x)]
        rw [List.drop_eq_getElem_cons hk']
        have := cAt_eq hk
        rw [List.getElem?_eq_getElem hk'] at this
        rw [Option.some.inj this]
      · rw [hy, toL_app, toL_app, toL_to (by omega)]
        have := toL_from (x := x) (k := k + 1) (by omega)
        push_cast at this
        rw [this]; rfl
    · cases hy
  · rintro ⟨a, c, b, h1, h2, h3⟩
    have hl : a.length < x.length := by rw [← toL_len, h1]; simp
    have hc : cAt x a.length = c := by
      have := cAt_eq hl
      rw [h1] at this
      simpa using this.symm
    refine ⟨a.length, hl, ?_⟩
    unfold foldMove
    rw [hc, if_pos ((fold_bne c).mpr h2), List.mem_singleton]
    apply toL_inj
    rw [toL_app, toL_app, toL_to (by omega)]
    have := toL_from (x := x) (k := a.length + 1) (by omega)
    push_cast at this
    rw [this, h3, h1]
    simp [foldC]
end Mine
end
-- part P4
section
open PySem PySem.W PyProof.Rows PySem.Calls
namespace Mine
def ClimbStep (x : Str) (m : List Nat) : Prop := ∃ u, toL x = u ++ 46 :: m ∧ 46 ∉ u ∧ hdn x = true ∧ (46 ∈ m ∨ m = localL)
theorem first_split {u u' b b' : List Nat} (h : u ++ 46 :: b = u' ++ 46 :: b') (h1 : 46 ∉ u) (h2 : 46 ∉ u') : u = u' ∧ b = b' := by
  induction u generalizing u' with
  | nil =>
    cases u' with
    | nil => simpa using h
    | cons c r => simp at h; exact absurd h.1 (by intro q; subst q; simp at h2)
  | cons c r ih =>
    cases u' with
    | nil => simp at h; exact absurd h.1.symm (by intro q; subst q; simp at h1)
    | cons c' r' =>
      simp only [List.cons_append, List.cons.injEq] at h
      obtain ⟨q1, q2⟩ := ih (u' := r') h.2 (by intro q; exact h1 (by simp [q])) (by intro q; exact h2 (by simp [q]))
      exact ⟨by rw [h.1, q1], q2⟩
theorem find_iff {x : Str} : 0 ≤ Txt.find x dotS ↔ 46 ∈ toL x := by
  constructor
  · intro h
    obtain ⟨u, b, e, _⟩ := find_some h
    rw [e]; simp
  · intro h
    by_cases q : 0 ≤ Txt.find x dotS
    · exact q
    · exact absurd h (find_none q)
theorem local_toL : toL (Str.ofString "local") = localL := by decide +kernel
theorem dot_toL : toL dotS = [46] := by decide +kernel
theorem hdn_first {x : Str} (h : hdn x = true) : ∃ c r, toL x = c :: r ∧ c ≠ 46 := by
  unfold hdn at h
  simp only [Bool.and_eq_true, Bool.not_eq_true', Bool.or_eq_false_iff] at h
  obtain ⟨⟨_, h2⟩, h3, _⟩ := h
  cases e : toL x with
  | nil =>
    have : x = Str.ofString "" := toL_inj (by rw [e]; rfl)
    rw [this] at h2
    simp at h2
  | cons c r =>
    refine ⟨c, r, rfl, ?_⟩
    intro hc
    subst hc
    have hl : 0 < x.length := by rw [← toL_len, e]; simp
    have h4 := cAt_eq hl
    rw [e] at h4
    have h5 : Txt.item x 0 = Str.ofString "." := toL_inj (by show [cAt x 0] = _; rw [← Option.some.inj h4]; rfl)
    rw [h5] at h3
    simp at h3
theorem climbs_iff {x y : Str} : y ∈ climbS x ↔ ClimbStep x (toL y) := by
  by_cases hc : 0 ≤ Txt.find x dotS ∧ hdn x = true ∧ (0 ≤ Txt.find (reachB x) dotS ∨ (reachB x == Str.ofString "local") = true)
  · obtain ⟨c1, c2, c3⟩ := id hc
    obtain ⟨u, b, e1, e2, e3, e4⟩ := find_some c1
    have hr : reachS x = dotS ++ reachB x := by unfold reachS; exact if_pos hc
    have hrl : toL (reachS x) = 46 :: b := by rw [hr, toL_app, dot_toL, e4]; rfl
    have hne : (reachS x != x) = true := by
      rw [bne_iff_ne]
      intro q
      obtain ⟨c, r, q1, q2⟩ := hdn_first c2
      rw [q, q1] at hrl
      cases hrl
      exact q2 rfl
    have hlen : 1 ≤ (reachS x).length := by rw [← toL_len, hrl]; simp
    have h1 : Txt.slice (reachS x) none (some 1) = Str.ofString "." := toL_inj (by
      have := toL_to (x := reachS x) (k := 1) hlen
      push_cast at this
      rw [this, hrl]; rfl)
    have h2 : toL (Txt.slice (reachS x) (some 1) none) = b := by
      have := toL_from (x := reachS x) (k := 1) hlen
      push_cast at this
      rw [this, hrl]; rfl
    have hcl : climbS x = [Txt.slice (reachS x) (some 1) none] := by unfold climbS; rw [hne, h1]; simp
    rw [hcl, List.mem_singleton]
    constructor
    · rintro rfl
      refine ⟨u, by rw [h2]; exact e1, e2, c2, ?_⟩
      rw [h2]
      rcases c3 with q | q
      · left; rw [find_iff, e4] at q; exact q
      · right; rw [beq_iff_eq] at q; rw [← e4, q, local_toL]
    · rintro ⟨u', q1, q2, _, _⟩
      rw [e1] at q1
      obtain ⟨_, q3⟩ := first_split q1 e2 q2
      exact toL_inj (by rw [h2]; exact q3.symm)
  · have hr : reachS x = x := by unfold reachS; exact if_neg hc
    have hcl : climbS x = [] := by unfold climbS; rw [hr]; simp
    rw [hcl]
    constructor
    · intro q; cases q
    · rintro ⟨u, q1, q2, q3, q4⟩
      exfalso
      apply hc
      have f1 : 0 ≤ Txt.find x dotS := find_iff.mpr (by rw [q1]; simp)
      obtain ⟨u', b, e1, e2, e3, e4⟩ := find_some f1
      rw [q1] at e1
      obtain ⟨_, q5⟩ := first_split e1 q2 e2
      refine ⟨f1, q3, ?_⟩
      rcases q4 with q | q
      · left; rw [find_iff, e4, ← q5]; exact q
      · right; rw [beq_iff_eq]; exact toL_inj (by rw [e4, ← q5, q, local_toL])
theorem moves_iff {x y : Str} : y ∈ movesS x ↔ FoldStep (toL x) (toL y) ∨ ClimbStep x (toL y) := by
  unfold movesS
  rw [List.mem_append, folds_iff, climbs_iff]
end Mine
end
-- part P5
section
open PySem PySem.W PyProof.Rows PySem.Calls
namespace Mine
def DigEnd (l : List Nat) : Prop := ∃ u ds, l = u ++ 46 :: ds ∧ ds ≠ [] ∧ ∀ d ∈ ds, Sre.isDigit d = true
theorem figs_all (T : Array Nat) : ∀ n p, figs T n p = n ↔ ∀ i, i < n → Sre.isDigit (T.getD (p + i) 0) = true
  | 0, p => by simp [figs]
  | n + 1, p => by
    unfold figs
    have ih := figs_all T n (p + 1)
    constructor
    · intro h i hi
      split at h
      · rename_i hd
        have h' := ih.mp (by omega)
        cases i with
        | zero => exact hd
        | succ i => have := h' i (by omega); rw [show p + (i + 1) = p + 1 + i by omega]; exact this
      · omega
    · intro h
      have h0 : Sre.isDigit (T.getD p 0) = true := h 0 (by omega)
      rw [if_pos h0]
      have := ih.mpr (fun i hi => by have := h (i + 1) (by omega); rw [show p + 1 + i = p + (i + 1) by omega]; exact this)
      omega
theorem anyHit_iff (T : Array Nat) : ∀ n s, anyHit T n s = true ↔ ∃ i, s ≤ i ∧ i ≤ s + n ∧ hit T i = true
  | 0, s => by
    unfold anyHit
    exact ⟨fun h => ⟨s, by omega, by omega, h⟩, fun ⟨i, h1, h2, h3⟩ => by rwa [show i = s by omega] at h3⟩
  | n + 1, s => by
    unfold anyHit
    rw [Bool.or_eq_true, anyHit_iff T n (s + 1)]
    constructor
    · rintro (h | ⟨i, h1, h2, h3⟩)
      · exact ⟨s, by omega, by omega, h⟩
      · exact ⟨i, by omega, by omega, h3⟩
    · rintro ⟨i, h1, h2, h3⟩
      rcases Nat.eq_or_lt_of_le h1 with e | e
      · left; rw [e]; exact h3
      · exact .inr ⟨i, by omega, by omega, h3⟩
theorem ipv4_iff {x : Str} (hn : 10 ∉ toL x) : ipv4 x = true ↔ DigEnd (toL x) := by
  have hget : ∀ i, i < x.cps.size → (toL x)[i]? = some (x.cps.getD i 0) := fun i hi => by simp [toL, hi]
  have hsz : (toL x).length = x.cps.size := toL_len x
  unfold ipv4
  rw [anyHit_iff]
  constructor
  · rintro ⟨i, _, _, h⟩
    unfold hit endOk at h
    simp only [Bool.and_eq_true, decide_eq_true_eq, beq_iff_eq, Bool.or_eq_true] at h
    obtain ⟨⟨⟨h1, h2⟩, h3⟩, h4⟩ := h
    have hle := figs_le x.cps (x.cps.size - (i + 1)) (i + 1)
    have hfull : figs x.cps (x.cps.size - (i + 1)) (i + 1) = x.cps.size - (i + 1) := by
      rcases h4 with h4 | ⟨h4, h5⟩
      · omega
      · exfalso
        apply hn
        have := hget (i + 1 + figs x.cps (x.cps.size - (i + 1)) (i + 1)) (by omega)
        rw [h5] at this
        exact List.mem_of_getElem? this
    have hall := (figs_all _ _ _).mp hfull
    have hi' : i < (toL x).length := by omega
    refine ⟨(toL x).take i, (toL x).drop (i + 1), ?_, ?_, ?_⟩
    · conv => lhs; rw [← List.take_append_drop i (toL x)]
      rw [List.drop_eq_getElem_cons hi']
      have := hget i h1
      rw [List.getElem?_eq_getElem hi', h2] at this
      rw [Option.some.inj this]
    · intro e
      have := congrArg List.length e
      simp only [List.length_drop, List.length_nil] at this
      omega
    · intro d hd
      obtain ⟨j, hj⟩ := List.mem_iff_getElem?.mp hd
      rw [List.getElem?_drop] at hj
      have hjl : i + 1 + j < x.cps.size := by
        rcases Nat.lt_or_ge (i + 1 + j) x.cps.size with q | q
        · exact q
        · rw [List.getElem?_eq_none (by omega)] at hj; cases hj
      rw [hget _ hjl] at hj
      rw [← Option.some.inj hj]
      exact hall j (by omega)
  · rintro ⟨u, ds, e, h1, h2⟩
    have hl : u.length + 1 + ds.length = x.cps.size := by rw [← hsz, e]; simp; omega
    have hd : 1 ≤ ds.length := by cases ds with | nil => exact absurd rfl h1 | cons => simp
    refine ⟨u.length, by omega, by omega, ?_⟩
    have hfull : figs x.cps (x.cps.size - (u.length + 1)) (u.length + 1) = x.cps.size - (u.length + 1) := by
      rw [figs_all]
      intro j hj
      have := hget (u.length + 1 + j) (by omega)
      rw [e, List.getElem?_append_right (by omega), show u.length + 1 + j - u.length = j + 1 by omega, List.getElem?_cons_succ] at this
      exact h2 _ (List.mem_of_getElem? this)
    unfold hit endOk
    rw [hfull]
    have h46 : x.cps.getD u.length 0 = 46 := by
      have := hget u.length (by omega)
      rw [e] at this
      simpa using this.symm
    rw [h46]
    simp only [Bool.and_eq_true, decide_eq_true_eq, beq_iff_eq, Bool.or_eq_true]
    refine ⟨⟨⟨by omega, trivial⟩, by omega⟩, .inl (by omega)⟩
end Mine
end
-- part P6
section
open PySem PySem.W PyProof.Rows PySem.Calls
namespace Mine
def Hdn (l : List Nat) : Prop := ¬ DigEnd l ∧ (∃ c r, l = c :: r ∧ c ≠ 46) ∧ ∃ r c, l = r ++ [c] ∧ c ≠ 46
theorem item_last {x : Str} {r : List Nat} {c : Nat} (h : toL x = r ++ [c]) : Txt.item x (-1) = ⟨#[c]⟩ := by
  have hl : x.length = r.length + 1 := by rw [← toL_len, h]; simp
  have hs : x.cps[r.length]? = some c := by
    have : (toL x)[r.length]? = some c := by rw [h]; simp
    simpa [toL] using this
  unfold Txt.item Txt.charAt seqIndex?
  have h1 : ((-1 : Int) < 0) := by omega
  have h2 : (0 ≤ (-1 : Int) + (x.length : Int) && (-1 : Int) + (x.length : Int) < (x.length : Int)) = true := by simp; omega
  simp only [if_pos h1, h2, if_true, Option.bind_some]
  rw [show ((-1 : Int) + (x.length : Int)).toNat = r.length by omega, hs]
  rfl
theorem item_first {x : Str} {r : List Nat} {c : Nat} (h : toL x = c :: r) : Txt.item x 0 = ⟨#[c]⟩ := by
  have hl : 0 < x.length := by rw [← toL_len, h]; simp
  have h4 := cAt_eq hl
  rw [h] at h4
  exact toL_inj (by show [cAt x 0] = _; rw [← Option.some.inj h4]; rfl)
theorem hdn_iff {x : Str} (hn : 10 ∉ toL x) : hdn x = true ↔ Hdn (toL x) := by
  have hdot : ∀ c : Nat, ((⟨#[c]⟩ : Str) == Str.ofString ".") = false ↔ c ≠ 46 := fun c => by
    rw [beq_eq_false_iff_ne]
    constructor
    · intro h e; subst e; exact h rfl
    · intro h e
      have : [c] = [46] := congrArg toL e
      simp at this
      exact h this
  unfold hdn Hdn
  simp only [Bool.and_eq_true, Bool.not_eq_true', Bool.or_eq_false_iff]
  rw [← Bool.not_eq_true, ipv4_iff hn]
  cases e : toL x with
  | nil =>
    have : x = Str.ofString "" := toL_inj (by rw [e]; rfl)
    subst this
    constructor
    · rintro ⟨⟨_, h⟩, _⟩; simp at h
    · rintro ⟨_, ⟨c, r, h, _⟩, _⟩; cases h
  | cons c r =>
    have h0 : (x == Str.ofString "") = false := by
      rw [beq_eq_false_iff_ne]; intro q; rw [q] at e; cases e
    obtain ⟨r', c', e'⟩ : ∃ r' c', c :: r = r' ++ [c'] := ⟨(c :: r).dropLast, (c :: r).getLast (by simp), (List.dropLast_concat_getLast (by simp)).symm⟩
    rw [item_first e, item_last (e.trans e'), hdot, hdot, h0]
    constructor
    · rintro ⟨⟨h1, _⟩, h2, h3⟩
      exact ⟨h1, ⟨c, r, rfl, h2⟩, r', c', e', h3⟩
    · rintro ⟨h1, ⟨c1, r1, q1, h2⟩, r2, c2, q2, h3⟩
      cases q1
      rw [e'] at q2
      have := List.append_inj' q2 rfl
      simp at this
      exact ⟨⟨h1, rfl⟩, h2, this.2 ▸ h3⟩
end Mine
end
-- part P7
section
open PySem PySem.W PyProof.Rows PySem.Calls
namespace Mine
def foldAll (l : List Nat) : List Nat := l.flatMap foldC
def Fixed (c : Nat) : Prop := foldC c = [c]
def Good (c : Nat) : Prop := c ≠ 10 ∧ ∀ d ∈ foldC c, d ≠ 10 ∧ Fixed d
def AllGood (l : List Nat) : Prop := ∀ c ∈ l, Good c
def Climb (l m : List Nat) : Prop := ∃ u, l = u ++ 46 :: m ∧ 46 ∉ u ∧ Hdn l ∧ (46 ∈ m ∨ m = localL)
def Step (l m : List Nat) : Prop := FoldStep l m ∨ Climb l m
theorem foldAll_app (a b : List Nat) : foldAll (a ++ b) = foldAll a ++ foldAll b := by simp [foldAll]
theorem foldAll_cons (c : Nat) (b : List Nat) : foldAll (c :: b) = foldC c ++ foldAll b := by simp [foldAll]
theorem foldAll_fixed : ∀ {l : List Nat}, (∀ c ∈ l, Fixed c) → foldAll l = l
  | [], _ => rfl
  | c :: r, h => by
    rw [foldAll_cons, show foldC c = [c] from h c (by simp), foldAll_fixed (fun d hd => h d (by simp [hd]))]; rfl
theorem good_fixed {d : Nat} (h : d ≠ 10) (f : Fixed d) : Good d := ⟨h, fun e he => by rw [show foldC d = [d] from f] at he; simp at he; subst he; exact ⟨h, f⟩⟩
theorem good_fold {c : Nat} (h : Good c) : AllGood (foldC c) := fun d hd => good_fixed (h.2 d hd).1 (h.2 d hd).2
theorem step_good {l m : List Nat} (h : Step l m) (g : AllGood l) : AllGood m := by
  rcases h with ⟨a, c, b, rfl, _, rfl⟩ | ⟨u, rfl, _⟩
  · intro d hd
    simp only [List.mem_append] at hd
    rcases hd with (hd | hd) | hd
    · exact g d (by simp [hd])
    · exact good_fold (g c (by simp)) d hd
    · exact g d (by simp [hd])
  · intro d hd; exact g d (by simp [hd])
theorem foldAll_step {l m : List Nat} (h : FoldStep l m) (g : AllGood l) : foldAll m = foldAll l := by
  obtain ⟨a, c, b, rfl, _, rfl⟩ := h
  rw [foldAll_app, foldAll_app, foldAll_app, foldAll_cons, foldAll_fixed (l := foldC c) (fun d hd => ((g c (by simp)).2 d hd).2), List.append_assoc]
theorem no10 {l : List Nat} (g : AllGood l) : 10 ∉ l := fun h => (g 10 h).1 rfl
theorem moves_step {x y : Str} (g : AllGood (toL x)) : y ∈ movesS x ↔ Step (toL x) (toL y) := by
  rw [moves_iff]
  unfold Step ClimbStep Climb
  rw [hdn_iff (no10 g)]
end Mine
end
-- part P8
section
open PySem PySem.W PyProof.Rows PySem.Calls
namespace Mine
def variants : List Nat → List (List Nat)
  | [] => [[]]
  | c :: t => if foldC c = [c] then (variants t).map (c :: ·) else (variants t).map (c :: ·) ++ (variants t).map (foldC c ++ ·)
def movable : List Nat → Nat
  | [] => 0
  | c :: t => (if foldC c = [c] then 0 else 1) + movable t
theorem variants_len : ∀ t, (variants t).length = 2 ^ movable t
  | [] => rfl
  | c :: t => by
    unfold variants movable
    split
    · rw [List.length_map, variants_len t, Nat.zero_add]
    · rw [List.length_append, List.length_map, List.length_map, variants_len t, Nat.pow_add]; omega
theorem var_self : ∀ t, t ∈ variants t
  | [] => by simp [variants]
  | c :: t => by
    unfold variants
    have := var_self t
    split <;> simp [this]
theorem var_step : ∀ {t a b : List Nat} {c : Nat}, AllGood t → foldC c ≠ [c] → a ++ c :: b ∈ variants t → a ++ foldC c ++ b ∈ variants t
  | [], a, b, c, _, _, h => by simp [variants] at h
  | d :: t, a, b, c, g, hc, h => by
    have gt : AllGood t := fun e he => g e (by simp [he])
    unfold variants at h ⊢
    split at h
    · rename_i hd
      rw [if_pos hd]
      obtain ⟨z, hz, e⟩ := List.mem_map.mp h
      cases a with
      | nil => simp at e; exact absurd (e.1 ▸ hd) hc
      | cons a0 a' =>
        simp only [List.cons_append, List.cons.injEq] at e
        obtain ⟨rfl, rfl⟩ := e
        exact List.mem_map.mpr ⟨_, var_step gt hc hz, by simp⟩
    · rename_i hd
      rw [if_neg hd]
      rcases List.mem_append.mp h with h | h
      · obtain ⟨z, hz, e⟩ := List.mem_map.mp h
        cases a with
        | nil =>
          simp only [List.nil_append, List.cons.injEq] at e
          obtain ⟨rfl, rfl⟩ := e
          exact List.mem_append_right _ (List.mem_map.mpr ⟨_, hz, by simp⟩)
        | cons a0 a' =>
          simp only [List.cons_append, List.cons.injEq] at e
          obtain ⟨rfl, rfl⟩ := e
          exact List.mem_append_left _ (List.mem_map.mpr ⟨_, var_step gt hc hz, by simp⟩)
      · obtain ⟨z, hz, e⟩ := List.mem_map.mp h
        rcases List.append_eq_append_iff.mp e with ⟨a', h1, h2⟩ | ⟨c', h1, h2⟩
        · subst h1
          subst h2
          exact List.mem_append_right _ (List.mem_map.mpr ⟨_, var_step gt hc hz, by simp⟩)
        · cases c' with
          | nil =>
            simp only [List.append_nil] at h1
            simp only [List.nil_append] at h2
            subst h2
            have := var_step (a := []) gt hc hz
            exact List.mem_append_right _ (List.mem_map.mpr ⟨_, this, by simp [h1]⟩)
          | cons c0 c' =>
            simp only [List.cons_append, List.cons.injEq] at h2
            obtain ⟨rfl, _⟩ := h2
            exact absurd ((g d (by simp)).2 c (by rw [h1]; simp)).2 hc
inductive RL (h : List Nat) : List Nat → Prop
  | refl : RL h h
  | step {l m : List Nat} : RL h l → Step l m → RL h m
theorem RL.good {h y : List Nat} (r : RL h y) (g : AllGood h) : AllGood y := by
  induction r with
  | refl => exact g
  | step _ s ih => exact step_good s ih
theorem RL.var {h y : List Nat} (r : RL h y) (g : AllGood h) : ∃ p, p ++ y ∈ variants h := by
  induction r with
  | refl => exact ⟨[], var_self h⟩
  | step _ s ih =>
    obtain ⟨p, hp⟩ := ih
    rcases s with ⟨a, c, b, rfl, hc, rfl⟩ | ⟨u, rfl, _⟩
    · exact ⟨p, by have := var_step (a := p ++ a) g hc (by simpa using hp); simpa using this⟩
    · exact ⟨p ++ (u ++ [46]), by simpa using hp⟩
end Mine
end
-- part P9
section
open PySem PySem.W PyProof.Rows PySem.Calls
namespace Mine
def ofL (l : List Nat) : Str := ⟨l.toArray⟩
theorem toL_ofL (l : List Nat) : toL (ofL l) = l := rfl
theorem ofL_toL (x : Str) : ofL (toL x) = x := toL_inj rfl
theorem rch_rl {a y : Str} (g : AllGood (toL a)) (h : Rch a y) : RL (toL a) (toL y) := by
  induction h with
  | refl => exact .refl
  | step _ h2 ih => exact .step ih ((moves_step (ih.good g)).mp h2)
theorem rl_rch {a : Str} {y : List Nat} (g : AllGood (toL a)) (h : RL (toL a) y) : Rch a (ofL y) := by
  induction h with
  | refl => rw [ofL_toL]; exact .refl
  | step h1 h2 ih => exact .step ih ((moves_step (x := ofL _) (by rw [toL_ofL]; exact h1.good g)).mpr (by rw [toL_ofL, toL_ofL]; exact h2))
def Ended (l : List Nat) : Prop := ∀ m, ¬ Step l m
theorem ended_iff {x : Str} (g : AllGood (toL x)) : movesS x = [] ↔ Ended (toL x) := by
  constructor
  · intro h m hm
    have : ofL m ∈ movesS x := (moves_step g).mpr (by rw [toL_ofL]; exact hm)
    rw [h] at this; cases this
  · intro h
    cases e : movesS x with
    | nil => rfl
    | cons y r => exact absurd ((moves_step g).mp (by rw [e]; simp : y ∈ movesS x)) (h _)
theorem ended_fixed {l : List Nat} (h : Ended l) : ∀ c ∈ l, Fixed c := by
  intro c hc
  obtain ⟨a, b, rfl⟩ := List.append_of_mem hc
  by_cases q : foldC c = [c]
  · exact q
  · exact absurd (.inl ⟨a, c, b, rfl, q, rfl⟩) (h _)
end Mine
end
-- part P10
section
open PySem PySem.W PyProof.Rows PySem.Calls
namespace Mine
def joinD : List (List Nat) → List Nat
  | [] => []
  | [a] => a
  | a :: b :: r => a ++ 46 :: joinD (b :: r)
def NoDot (ls : List (List Nat)) : Prop := ∀ a ∈ ls, 46 ∉ a
theorem join_cut : ∀ {ls : List (List Nat)} {p q : List Nat}, NoDot ls → joinD ls = p ++ 46 :: q → ∃ j, 0 < j ∧ j < ls.length ∧ q = joinD (ls.drop j)
  | [], p, q, _, h => by simp [joinD] at h
  | [a], p, q, nd, h => by
    simp only [joinD] at h
    exact absurd (by rw [h]; simp) (nd a (by simp))
  | a :: b :: r, p, q, nd, h => by
    simp only [joinD] at h
    have na := nd a (by simp)
    have nr : NoDot (b :: r) := fun c hc => nd c (by simp only [List.mem_cons] at hc ⊢; exact .inr hc)
    rcases List.append_eq_append_iff.mp h with ⟨a', h1, h2⟩ | ⟨c', h1, h2⟩
    · cases a' with
      | nil =>
        simp only [List.nil_append, List.cons.injEq, true_and] at h2
        exact ⟨1, by omega, by simp, by rw [← h2]; rfl⟩
      | cons a0 a' =>
        simp only [List.cons_append, List.cons.injEq] at h2
        obtain ⟨j, j1, j2, j3⟩ := join_cut nr h2.2
        exact ⟨j + 1, by omega, by simpa using j2, by simpa using j3⟩
    · cases c' with
      | nil =>
        simp only [List.nil_append, List.cons.injEq, true_and] at h2
        exact ⟨1, by omega, by simp, by rw [h2]; rfl⟩
      | cons c0 c' =>
        simp only [List.cons_append, List.cons.injEq] at h2
        exact absurd (by rw [h1, ← h2.1]; simp) na
theorem fixed46 : Fixed 46 := by unfold Fixed; decide +kernel
theorem fixed_local : ∀ c ∈ localL, Fixed c := by unfold Fixed; decide +kernel
theorem dot_foldAll {l : List Nat} (h : 46 ∈ l) : 46 ∈ foldAll l := by
  unfold foldAll
  rw [List.mem_flatMap]
  exact ⟨46, h, by rw [show foldC 46 = [46] from fixed46]; simp⟩
/-- what a reachable host folds to -/
theorem RL.place {h y : List Nat} {ls : List (List Nat)} (r : RL h y) (g : AllGood h) (nd : NoDot ls) (hF : foldAll h = joinD ls) (h2 : 2 ≤ ls.length) :
    ∃ k, k < ls.length ∧ foldAll y = joinD (ls.drop k) ∧ (k + 1 = ls.length → ls.drop k = [localL]) := by
  induction r with
  | refl => exact ⟨0, by omega, by simpa using hF, fun q => by omega⟩
  | @step l m r s ih =>
    obtain ⟨k, k1, k2, k3⟩ := ih
    rcases s with s | ⟨u, rfl, _, _, s⟩
    · exact ⟨k, k1, by rw [foldAll_step s (r.good g), k2], k3⟩
    · rw [foldAll_app, foldAll_cons, show foldC 46 = [46] from fixed46] at k2
      obtain ⟨j, j1, j2, j3⟩ := join_cut (ls := ls.drop k) (fun a ha => nd a (List.mem_of_mem_drop ha)) k2.symm
      rw [List.length_drop] at j2
      rw [List.drop_drop] at j3
      refine ⟨k + j, by omega, j3, fun q => ?_⟩
      have hl : (ls.drop (k + j)).length = 1 := by rw [List.length_drop]; omega
      obtain ⟨a, ha⟩ := List.length_eq_one_iff.mp hl
      rw [ha] at j3 ⊢
      simp only [joinD] at j3
      have na : 46 ∉ a := nd a (List.mem_of_mem_drop (by rw [ha]; simp))
      rcases s with s | s
      · exact absurd (j3 ▸ dot_foldAll s) na
      · subst s
        rw [← j3, foldAll_fixed fixed_local]; rfl
end Mine
end
-- part P11
section
open PySem PySem.W PyProof.Rows PySem.Calls
namespace Mine
theorem last_split {u u' b b' : List Nat} (h : u ++ 46 :: b = u' ++ 46 :: b') (h1 : 46 ∉ b) (h2 : 46 ∉ b') : u = u' ∧ b = b' := by
  rcases List.append_eq_append_iff.mp h with ⟨a, e1, e2⟩ | ⟨a, e1, e2⟩
  · cases a with
    | nil => simp at e1 e2; exact ⟨e1.symm, e2⟩
    | cons a0 a => simp at e2; exact absurd (by rw [e2.2]; simp) h1
  · cases a with
    | nil => simp at e1 e2; exact ⟨e1, e2.symm⟩
    | cons a0 a => simp at e2; exact absurd (by rw [e2.2]; simp) h2
def lastL (ls : List (List Nat)) : List Nat := ls.getLastD []
theorem lastL_cons (a b : List Nat) (r : List (List Nat)) : lastL (a :: b :: r) = lastL (b :: r) := by simp [lastL]
theorem join_last : ∀ (a b : List Nat) (r : List (List Nat)), ∃ w, joinD (a :: b :: r) = w ++ 46 :: lastL (a :: b :: r)
  | a, b, [] => ⟨a, by simp [joinD, lastL]⟩
  | a, b, c :: r => by
    obtain ⟨w, hw⟩ := join_last b c r
    refine ⟨a ++ 46 :: w, ?_⟩
    rw [lastL_cons]
    show a ++ 46 :: joinD (b :: c :: r) = _
    rw [hw]; simp
theorem lastL_mem (a : List Nat) (r : List (List Nat)) : lastL (a :: r) ∈ a :: r := by
  unfold lastL
  rw [List.getLastD_cons]
  exact List.getLastD_mem_cons
def AllDig (l : List Nat) : Prop := ∀ d ∈ l, Sre.isDigit d = true
theorem dig46 : Sre.isDigit 46 = false := by decide
theorem digEnd_join {a b : List Nat} {r : List (List Nat)} (nd : NoDot (a :: b :: r)) : DigEnd (joinD (a :: b :: r)) ↔ lastL (a :: b :: r) ≠ [] ∧ AllDig (lastL (a :: b :: r)) := by
  obtain ⟨w, hw⟩ := join_last a b r
  have nl : 46 ∉ lastL (a :: b :: r) := nd _ (lastL_mem _ _)
  constructor
  · rintro ⟨u, ds, e, h1, h2⟩
    rw [hw] at e
    have nds : 46 ∉ ds := fun q => by have := h2 46 q; rw [dig46] at this; cases this
    obtain ⟨_, e2⟩ := last_split e nl nds
    rw [e2]; exact ⟨h1, h2⟩
  · rintro ⟨h1, h2⟩
    exact ⟨w, _, hw, h1, h2⟩
theorem hdn_join {a b : List Nat} {r : List (List Nat)} (nd : NoDot (a :: b :: r)) : Hdn (joinD (a :: b :: r)) ↔ a ≠ [] ∧ lastL (a :: b :: r) ≠ [] ∧ ¬ AllDig (lastL (a :: b :: r)) := by
  unfold Hdn
  rw [digEnd_join nd]
  obtain ⟨w, hw⟩ := join_last a b r
  have nl : 46 ∉ lastL (a :: b :: r) := nd _ (lastL_mem _ _)
  constructor
  · rintro ⟨h1, ⟨c, t, e1, c1⟩, t', c', e2, c2⟩
    have ha : a ≠ [] := by rintro rfl; simp only [joinD, List.nil_append, List.cons.injEq] at e1; exact c1 e1.1.symm
    have hl : lastL (a :: b :: r) ≠ [] := by
      intro q
      rw [hw, q] at e2
      have := List.append_inj' e2 rfl
      simp at this
      exact c2 this.2.symm
    exact ⟨ha, hl, fun q => h1 ⟨hl, q⟩⟩
  · rintro ⟨ha, hl, hd⟩
    refine ⟨fun q => hd q.2, ?_, ?_⟩
    · cases a with
      | nil => exact absurd rfl ha
      | cons c t => exact ⟨c, t ++ 46 :: joinD (b :: r), by simp [joinD], fun q => nd (c :: t) (by simp) (by rw [q]; simp)⟩
    · refine ⟨w ++ 46 :: (lastL (a :: b :: r)).dropLast, (lastL (a :: b :: r)).getLast hl, ?_, ?_⟩
      · rw [hw, List.append_assoc, List.cons_append, List.dropLast_concat_getLast]
      · intro q; exact nl (q ▸ List.getLast_mem hl)
end Mine
end
-- part P12
section
open PySem PySem.W PyProof.Rows PySem.Calls
namespace Mine
/-- each sign kept or folded -/
theorem RL.flat {h : List Nat} (g : Nat → List Nat) (hg : ∀ c, g c = [c] ∨ g c = foldC c) : ∀ (l a : List Nat), RL h (a ++ l) → RL h (a ++ l.flatMap g)
  | [], a, r => by simpa using r
  | c :: l, a, r => by
    have r1 : RL h ((a ++ g c) ++ l) := by
      rcases hg c with e | e
      · rw [e]; simpa using r
      · by_cases q : foldC c = [c]
        · rw [e, q]; simpa using r
        · rw [e]; exact .step r (.inl ⟨a, c, l, rfl, q, rfl⟩)
    have := RL.flat g hg l (a ++ g c) r1
    simpa using this
theorem RL.all {h y : List Nat} (r : RL h y) : RL h (foldAll y) := by
  have := RL.flat foldC (fun c => .inr rfl) y [] (by simpa using r)
  simpa [foldAll] using this
/-- each sign kept or folded, the unseen ones kept -/
def keepNE (c : Nat) : List Nat := if foldC c = [] then [c] else foldC c
theorem RL.ne {h y : List Nat} (r : RL h y) : RL h (y.flatMap keepNE) := by
  have := RL.flat keepNE (fun c => by unfold keepNE; split <;> simp) y [] (by simpa using r)
  simpa using this
theorem dot_join {b c : List Nat} {r : List (List Nat)} : 46 ∈ joinD (b :: c :: r) := by simp [joinD]
theorem nodot_one {a : List Nat} (nd : NoDot [a]) : 46 ∉ joinD [a] := by simpa [joinD] using nd a (by simp)
theorem NoDot.tail {a : List Nat} {r : List (List Nat)} (nd : NoDot (a :: r)) : NoDot r := fun c hc => nd c (by simp [hc])
theorem NoDot.drop {ls : List (List Nat)} (nd : NoDot ls) (k : Nat) : NoDot (ls.drop k) := fun c hc => nd c (List.mem_of_mem_drop hc)
theorem climb_iff {a b : List Nat} {r : List (List Nat)} (nd : NoDot (a :: b :: r)) : (∃ m, Climb (joinD (a :: b :: r)) m) ↔ a ≠ [] ∧ lastL (a :: b :: r) ≠ [] ∧ ¬ AllDig (lastL (a :: b :: r)) ∧ (r ≠ [] ∨ b = localL) := by
  constructor
  · rintro ⟨m, u, e, hu, hh, hm⟩
    obtain ⟨_, e2⟩ := first_split (u := a) (b := joinD (b :: r)) e (nd a (by simp)) hu
    obtain ⟨h1, h2, h3⟩ := (hdn_join nd).mp hh
    refine ⟨h1, h2, h3, ?_⟩
    cases r with
    | nil =>
      right
      rcases hm with hm | hm
      · exact absurd (e2 ▸ hm) (nodot_one nd.tail)
      · rw [← e2] at hm; exact hm
    | cons c r => left; simp
  · rintro ⟨h1, h2, h3, h4⟩
    refine ⟨joinD (b :: r), a, rfl, nd a (by simp), (hdn_join nd).mpr ⟨h1, h2, h3⟩, ?_⟩
    cases r with
    | nil =>
      rcases h4 with h4 | h4
      · exact absurd rfl h4
      · right; exact h4
    | cons c r => left; exact dot_join
theorem climb_to {h a b : List Nat} {r : List (List Nat)} (nd : NoDot (a :: b :: r)) (hr : RL h (joinD (a :: b :: r))) (h1 : a ≠ []) (h2 : lastL (a :: b :: r) ≠ []) (h3 : ¬ AllDig (lastL (a :: b :: r))) (h4 : r ≠ [] ∨ b = localL) : RL h (joinD (b :: r)) := by
  refine .step hr (.inr ⟨a, rfl, nd a (by simp), (hdn_join nd).mpr ⟨h1, h2, h3⟩, ?_⟩)
  cases r with
  | nil =>
    rcases h4 with h4 | h4
    · exact absurd rfl h4
    · right; exact h4
  | cons c r => left; exact dot_join
theorem no_climb_one {a m : List Nat} (nd : NoDot [a]) : ¬ Climb (joinD [a]) m := by
  rintro ⟨u, e, _⟩
  exact nodot_one nd (by rw [e]; simp)
theorem lastL_drop {ls : List (List Nat)} {k : Nat} (h : k < ls.length) : lastL (ls.drop k) = lastL ls := by
  unfold lastL
  rw [List.getLastD_eq_getLast?, List.getLastD_eq_getLast?, List.getLast?_drop, if_neg (by omega)]
theorem drop_two {ls : List (List Nat)} {k : Nat} (h : k + 1 < ls.length) : ∃ b r, ls.drop k = ls[k] :: b :: r ∧ ls.drop (k + 1) = b :: r ∧ r.length + k + 2 = ls.length := by
  have e := List.drop_eq_getElem_cons (show k < ls.length by omega)
  have e2 := List.drop_eq_getElem_cons (show k + 1 < ls.length by omega)
  refine ⟨ls[k + 1], ls.drop (k + 1 + 1), by rw [e, e2], e2, by rw [List.length_drop]; omega⟩
theorem RL.climbs {h : List Nat} {rs : List (List Nat)} (nd : NoDot rs) (ne : ∀ a ∈ rs, a ≠ []) (hl : lastL rs ≠ []) (hd : ¬ AllDig (lastL rs)) (hr : RL h (joinD rs)) : ∀ k, k + 1 < rs.length → RL h (joinD (rs.drop k))
  | 0, _ => by simpa using hr
  | k + 1, hk => by
    have ih := RL.climbs nd ne hl hd hr k (by omega)
    obtain ⟨b, r, e1, e2, e3⟩ := drop_two (ls := rs) (k := k) (by omega)
    have el := lastL_drop (ls := rs) (k := k) (by omega)
    rw [e1] at ih el
    rw [e2]
    refine climb_to (e1 ▸ nd.drop k) ih (ne _ (List.getElem_mem _)) (by rw [el]; exact hl) (by rw [el]; exact hd) (.inl ?_)
    rintro rfl
    simp at e3; omega
theorem RL.climbs_last {h : List Nat} {rs : List (List Nat)} (nd : NoDot rs) (ne : ∀ a ∈ rs, a ≠ []) (hl : lastL rs = localL) (hd : ¬ AllDig (lastL rs)) (hr : RL h (joinD rs)) (h2 : 2 ≤ rs.length) : RL h localL := by
  have hl' : lastL rs ≠ [] := by rw [hl]; simp [localL]
  have ih := RL.climbs nd ne hl' hd hr (rs.length - 2) (by omega)
  obtain ⟨b, r, e1, e2, e3⟩ := drop_two (ls := rs) (k := rs.length - 2) (by omega)
  have hr0 : r = [] := List.eq_nil_of_length_eq_zero (by omega)
  subst hr0
  have el := lastL_drop (ls := rs) (k := rs.length - 2) (by omega)
  rw [e1] at ih el
  have hb : b = localL := by rw [← hl, ← el]; simp [lastL]
  have := climb_to (e1 ▸ nd.drop _) ih (ne _ (List.getElem_mem _)) (by rw [el]; exact hl') (by rw [el]; exact hd) (.inr hb)
  rw [hb] at this
  exact this
theorem foldAll_join : ∀ (rs : List (List Nat)), foldAll (joinD rs) = joinD (rs.map foldAll)
  | [] => rfl
  | [a] => rfl
  | a :: b :: r => by
    have ih := foldAll_join (b :: r)
    show foldAll (a ++ 46 :: joinD (b :: r)) = _
    rw [foldAll_app, foldAll_cons, ih, show foldC 46 = [46] from fixed46]
    rfl
end Mine
end
-- part P13
section
open PySem PySem.W PyProof.Rows PySem.Calls
namespace Mine
/-- a host of signs h, its labels once the seen signs are folded (rs), and once all are (ls) -/
structure Host (h : List Nat) (rs ls : List (List Nat)) : Prop where
  good : AllGood h
  nd : NoDot ls
  rnd : NoDot rs
  ne : ∀ a ∈ rs, a ≠ []
  fold : rs.map foldAll = ls
  F : foldAll h = joinD ls
  two : 2 ≤ ls.length
  hr : RL h (joinD rs)
  fx : ∀ c ∈ joinD ls, Fixed c
/-- at the k-th label nothing more can be done -/
def Stop (ls : List (List Nat)) (k : Nat) : Prop :=
  if k + 1 = ls.length then lastL ls = localL else ls[k]? = some [] ∨ lastL ls = [] ∨ AllDig (lastL ls) ∨ (k + 2 = ls.length ∧ lastL ls ≠ localL)
theorem mem_join_drop : ∀ {ls : List (List Nat)} {k : Nat} {c : Nat}, c ∈ joinD (ls.drop k) → c ∈ joinD ls
  | [], k, c, h => by simp [joinD] at h
  | a :: r, 0, c, h => h
  | [a], k + 1, c, h => by simp [joinD] at h
  | a :: b :: r, k + 1, c, h => by
    have : c ∈ joinD (b :: r) := mem_join_drop (ls := b :: r) (k := k) h
    simp [joinD, this]
theorem ended_of {y : List Nat} (hf : ∀ c ∈ y, Fixed c) (hc : ∀ m, ¬ Climb y m) : Ended y := by
  rintro m (⟨a, c, b, rfl, q, _⟩ | s)
  · exact q (hf c (by simp))
  · exact hc m s
theorem Host.stop_iff {h : List Nat} {rs ls : List (List Nat)} (H : Host h rs ls) {k : Nat} (hk : k < ls.length) (hl : k + 1 = ls.length → lastL ls = localL) : (∀ m, ¬ Climb (joinD (ls.drop k)) m) ↔ Stop ls k := by
  unfold Stop
  by_cases q : k + 1 = ls.length
  · rw [if_pos q]
    have : (ls.drop k).length = 1 := by rw [List.length_drop]; omega
    obtain ⟨a, ha⟩ := List.length_eq_one_iff.mp this
    exact ⟨fun _ => hl q, fun _ m => by rw [ha]; exact no_climb_one (ha ▸ H.nd.drop k)⟩
  · rw [if_neg q]
    obtain ⟨b, r, e1, e2, e3⟩ := drop_two (ls := ls) (k := k) (by omega)
    have el := lastL_drop hk
    have nd := H.nd.drop k
    rw [e1] at el nd
    rw [e1]
    have ci := climb_iff nd
    rw [el] at ci
    have hg : ls[k]? = some ls[k] := List.getElem?_eq_getElem hk
    rw [hg]
    simp only [Option.some.injEq]
    have hb : r = [] → b = lastL ls := by rintro rfl; rw [← el]; simp [lastL]
    constructor
    · intro hn
      have hn' : ¬ (ls[k] ≠ [] ∧ lastL ls ≠ [] ∧ ¬ AllDig (lastL ls) ∧ (r ≠ [] ∨ b = localL)) := fun x => by
        obtain ⟨m, hm⟩ := ci.mpr x
        exact hn m hm
      by_cases c1 : ls[k] = []
      · exact .inl c1
      by_cases c2 : lastL ls = []
      · exact .inr (.inl c2)
      by_cases c3 : AllDig (lastL ls)
      · exact .inr (.inr (.inl c3))
      have c4 : r = [] := Decidable.byContradiction fun c => hn' ⟨c1, c2, c3, .inl c⟩
      refine .inr (.inr (.inr ⟨by subst c4; simpa using e3, fun c => hn' ⟨c1, c2, c3, .inr ((hb c4).trans c)⟩⟩))
    · rintro hs m hm
      obtain ⟨h1, h2, h3, h4⟩ := ci.mp ⟨m, hm⟩
      rcases hs with hs | hs | hs | ⟨hs, hs'⟩
      · exact h1 hs
      · exact h2 hs
      · exact h3 hs
      · have hr0 : r = [] := List.eq_nil_of_length_eq_zero (by omega)
        rcases h4 with h4 | h4
        · exact h4 hr0
        · exact hs' ((hb hr0).symm.trans h4)
theorem lastL_map {rs : List (List Nat)} (h : rs ≠ []) : lastL (rs.map foldAll) = foldAll (lastL rs) := by
  cases rs with
  | nil => exact absurd rfl h
  | cons a r =>
    unfold lastL
    rw [List.getLastD_eq_getLast?, List.getLastD_eq_getLast?, List.getLast?_map]
    cases e : (a :: r).getLast? with
    | none => simp at e
    | some z => rfl
/-- the hosts at which nothing more can be done, where the climbing is free -/
theorem Host.ends {h : List Nat} {rs ls : List (List Nat)} (H : Host h rs ls) (hd : ¬ AllDig (lastL rs)) (hloc : lastL ls = localL → lastL rs = localL) (y : List Nat) :
    (RL h y ∧ Ended y) ↔ ∃ k, k < ls.length ∧ Stop ls k ∧ y = joinD (ls.drop k) := by
  have hlen : rs.length = ls.length := by rw [← H.fold]; simp
  have two := H.two
  constructor
  · rintro ⟨r, e⟩
    have fy := ended_fixed e
    obtain ⟨k, k1, k2, k3⟩ := r.place H.good H.nd H.F H.two
    rw [foldAll_fixed fy] at k2
    have hl : k + 1 = ls.length → lastL ls = localL := fun q => by rw [← lastL_drop k1, k3 q]; rfl
    exact ⟨k, k1, (H.stop_iff k1 hl).mp (fun m hm => e m (.inr (k2 ▸ hm))), k2⟩
  · rintro ⟨k, k1, hs, rfl⟩
    have hl : k + 1 = ls.length → lastL ls = localL := fun q => by unfold Stop at hs; rwa [if_pos q] at hs
    refine ⟨?_, ended_of (fun c hc => H.fx c (mem_join_drop hc)) ((H.stop_iff k1 hl).mpr hs)⟩
    have hne : lastL rs ≠ [] := by
      intro q
      exact hd (by rw [q]; intro d hd; cases hd)
    by_cases q : k + 1 = ls.length
    · have := RL.climbs_last H.rnd H.ne (hloc (hl q)) hd H.hr (by omega)
      have hlen1 : (ls.drop k).length = 1 := by rw [List.length_drop]; omega
      obtain ⟨a, ha⟩ := List.length_eq_one_iff.mp hlen1
      have : a = localL := by rw [← hl q, ← lastL_drop k1, ha]; rfl
      rw [ha, this]
      assumption
    · have := (RL.climbs H.rnd H.ne hne hd H.hr k (by omega)).all
      rw [foldAll_join, List.map_drop, H.fold] at this
      exact this
/-- where figures are the last label -/
def Fig (y : List Nat) : Prop := ∃ u ds, y = u ++ 46 :: ds ∧ ds ≠ [] ∧ ∀ d ∈ ds, Sre.isDigit d = true ∧ Fixed d
theorem Fig.step {l m : List Nat} (f : Fig l) (s : Step l m) : Fig m ∧ FoldStep l m := by
  obtain ⟨u, ds, rfl, h1, h2⟩ := f
  rcases s with s | ⟨_, _, _, ⟨q, _⟩, _⟩
  · refine ⟨?_, s⟩
    obtain ⟨a, c, b, e, hc, rfl⟩ := s
    rcases List.append_eq_append_iff.mp e with ⟨a', e1, e2⟩ | ⟨c', e1, e2⟩
    · cases a' with
      | nil =>
        simp only [List.nil_append, List.cons.injEq] at e2
        exact absurd (e2.1 ▸ fixed46) hc
      | cons a0 a' =>
        simp only [List.cons_append, List.cons.injEq] at e2
        obtain ⟨rfl, rfl⟩ := e2
        exact absurd (h2 c (by simp)).2 hc
    · cases c' with
      | nil =>
        simp only [List.nil_append, List.cons.injEq] at e2
        exact absurd (e2.1 ▸ fixed46) hc
      | cons c0 c' =>
        simp only [List.cons_append, List.cons.injEq] at e2
        obtain ⟨rfl, rfl⟩ := e2
        exact ⟨a ++ foldC c ++ c', ds, by simp, h1, h2⟩
  · exact absurd ⟨u, ds, rfl, h1, fun d hd => (h2 d hd).1⟩ q
theorem Fig.rl {h y : List Nat} (f : Fig h) (g : AllGood h) (r : RL h y) : Fig y ∧ foldAll y = foldAll h := by
  induction r with
  | refl => exact ⟨f, rfl⟩
  | step r s ih =>
    obtain ⟨f1, e⟩ := ih
    obtain ⟨f2, s2⟩ := f1.step s
    exact ⟨f2, (foldAll_step s2 (r.good g)).trans e⟩
theorem Fig.ends {h : List Nat} {ls : List (List Nat)} (f : Fig h) (g : AllGood h) (hF : foldAll h = joinD ls) (fx : ∀ c ∈ joinD ls, Fixed c) (y : List Nat) : (RL h y ∧ Ended y) ↔ y = joinD ls := by
  constructor
  · rintro ⟨r, e⟩
    rw [← hF, ← (f.rl g r).2, foldAll_fixed (ended_fixed e)]
  · rintro rfl
    have r : RL h (joinD ls) := hF ▸ (RL.refl (h := h)).all
    refine ⟨r, ended_of fx fun m hm => ?_⟩
    have := (f.rl g r).1.step (.inr hm)
    obtain ⟨a, c, b, e, q, _⟩ := this.2
    exact q (fx c (by rw [e]; simp))
end Mine
end
-- part P14
section
open PySem PySem.W PyProof.Rows PySem.Calls
namespace Mine
/-- one typed part: its signs, its labels once the seen signs are folded, its labels -/
structure Pc where
  t : List Nat
  ms : List (List Nat)
  ls : List (List Nat)
structure Pc.Ok (p : Pc) : Prop where
  good : AllGood p.t
  keep : p.t.flatMap keepNE = joinD p.ms
  fold : p.ms.map foldAll = p.ls
  some : p.ms ≠ []
  ne : ∀ a ∈ p.ms, a ≠ []
  rnd : NoDot p.ms
  nd : NoDot p.ls
  fx : ∀ a ∈ p.ls, ∀ c ∈ a, Fixed c
  len : p.t.length ≤ 5
  mov : movable p.t ≤ 1
  sh : ∀ c ∈ p.t, (foldC c).length ≤ 3
  two : p.ls.length ≤ 2
theorem keep46 : keepNE 46 = [46] := by unfold keepNE; rw [show foldC 46 = [46] from fixed46]; rfl
theorem flat_join (g : Nat → List Nat) (hg : g 46 = [46]) : ∀ (rs : List (List Nat)), (joinD rs).flatMap g = joinD (rs.map (·.flatMap g))
  | [] => rfl
  | [a] => rfl
  | a :: b :: r => by
    have ih := flat_join g hg (b :: r)
    show (a ++ 46 :: joinD (b :: r)).flatMap g = _
    rw [List.flatMap_append, List.flatMap_cons, ih, hg]
    rfl
theorem join_app : ∀ {as bs : List (List Nat)}, as ≠ [] → bs ≠ [] → joinD (as ++ bs) = joinD as ++ 46 :: joinD bs
  | [], _, h, _ => absurd rfl h
  | [a], [], _, h => absurd rfl h
  | [a], b :: r, _, _ => rfl
  | a :: b :: r, bs, _, h => by
    have ih := join_app (as := b :: r) (bs := bs) (by simp) h
    show a ++ 46 :: joinD ((b :: r) ++ bs) = (a ++ 46 :: joinD (b :: r)) ++ 46 :: joinD bs
    rw [ih]; simp
theorem join_flat : ∀ {mss : List (List (List Nat))}, (∀ ms ∈ mss, ms ≠ []) → joinD mss.flatten = joinD (mss.map joinD)
  | [], _ => rfl
  | [ms], _ => by simp [joinD]
  | ms :: ns :: r, h => by
    have ih := join_flat (mss := ns :: r) (fun q hq => h q (by simp [hq]))
    have hn : (ns :: r).flatten ≠ [] := by
      have := h ns (by simp)
      simp only [List.flatten_cons, ne_eq, List.append_eq_nil_iff, not_and]
      intro q; exact absurd q this
    rw [List.flatten_cons, join_app (h ms (by simp)) hn, ih]
    rfl
theorem keep_fold {c : Nat} (g : Good c) : foldAll (keepNE c) = foldC c := by
  unfold keepNE
  split
  · simp [foldAll]
  · exact foldAll_fixed fun d hd => (g.2 d hd).2
theorem foldAll_keep : ∀ {l : List Nat}, AllGood l → foldAll (l.flatMap keepNE) = foldAll l
  | [], _ => rfl
  | c :: l, g => by
    rw [List.flatMap_cons, foldAll_app, keep_fold (g c (by simp)), foldAll_keep (fun d hd => g d (by simp [hd])), foldAll_cons]
theorem good46 : Good 46 := good_fixed (by decide) fixed46
theorem mem_join : ∀ {ls : List (List Nat)} {c : Nat}, c ∈ joinD ls → c = 46 ∨ ∃ a ∈ ls, c ∈ a
  | [], c, h => by simp [joinD] at h
  | [a], c, h => .inr ⟨a, by simp, h⟩
  | a :: b :: r, c, h => by
    have h' : c ∈ a ++ 46 :: joinD (b :: r) := h
    simp only [List.mem_append, List.mem_cons] at h'
    rcases h' with h | h | h
    · exact .inr ⟨a, by simp, h⟩
    · exact .inl h
    · rcases mem_join h with q | ⟨x, hx, q⟩
      · exact .inl q
      · exact .inr ⟨x, by simp only [List.mem_cons] at hx ⊢; exact .inr hx, q⟩
def hostOf (ps : List Pc) : List Nat := joinD (ps.map (·.t))
def msOf (ps : List Pc) : List (List Nat) := (ps.map (·.ms)).flatten
def lsOf (ps : List Pc) : List (List Nat) := (ps.map (·.ls)).flatten
theorem Pc.Ok.lsne {p : Pc} (h : p.Ok) : p.ls ≠ [] := by rw [← h.fold]; simpa using h.some
theorem host_of {ps : List Pc} (h : ∀ p ∈ ps, p.Ok) (h2 : 2 ≤ ps.length) : Host (hostOf ps) (msOf ps) (lsOf ps) := by
  have good : AllGood (hostOf ps) := by
    intro c hc
    rcases mem_join hc with q | ⟨a, ha, q⟩
    · exact q ▸ good46
    · obtain ⟨p, hp, rfl⟩ := List.mem_map.mp ha
      exact (h p hp).good c q
  have memM : ∀ a ∈ msOf ps, ∃ p ∈ ps, a ∈ p.ms := by
    intro a ha
    unfold msOf at ha
    simp only [List.mem_flatten, List.mem_map] at ha
    obtain ⟨_, ⟨p, hp, rfl⟩, q⟩ := ha
    exact ⟨p, hp, q⟩
  have memL : ∀ a ∈ lsOf ps, ∃ p ∈ ps, a ∈ p.ls := by
    intro a ha
    unfold lsOf at ha
    simp only [List.mem_flatten, List.mem_map] at ha
    obtain ⟨_, ⟨p, hp, rfl⟩, q⟩ := ha
    exact ⟨p, hp, q⟩
  have fold : (msOf ps).map foldAll = lsOf ps := by
    unfold msOf lsOf
    rw [List.map_flatten, List.map_map]
    congr 1
    exact List.map_congr_left fun p hp => (h p hp).fold
  have keep : (hostOf ps).flatMap keepNE = joinD (msOf ps) := by
    unfold hostOf msOf
    rw [flat_join keepNE keep46, join_flat (by intro ms hm; obtain ⟨p, hp, rfl⟩ := List.mem_map.mp hm; exact (h p hp).some), List.map_map, List.map_map]
    congr 1
    exact List.map_congr_left fun p hp => (h p hp).keep
  have hlen : ps.length ≤ (lsOf ps).length := by
    unfold lsOf
    clear good memM memL fold keep h2
    induction ps with
    | nil => simp
    | cons p r ih =>
      have := ih (fun q hq => h q (by simp [hq]))
      have := List.length_pos_iff.mpr (h p (by simp)).lsne
      simp only [List.map_cons, List.flatten_cons, List.length_append, List.length_cons]
      omega
  refine ⟨good, ?_, ?_, ?_, fold, ?_, by omega, ?_, ?_⟩
  · intro a ha
    obtain ⟨p, hp, q⟩ := memL a ha
    exact (h p hp).nd a q
  · intro a ha
    obtain ⟨p, hp, q⟩ := memM a ha
    exact (h p hp).rnd a q
  · intro a ha
    obtain ⟨p, hp, q⟩ := memM a ha
    exact (h p hp).ne a q
  · rw [← foldAll_keep good, keep, foldAll_join, fold]
  · rw [← keep]; exact (RL.refl (h := hostOf ps)).ne
  · intro c hc
    rcases mem_join hc with q | ⟨a, ha, q⟩
    · exact q ▸ fixed46
    · obtain ⟨p, hp, q'⟩ := memL a ha
      exact (h p hp).fx a q' c q
-- sizes
theorem movable_app (a b : List Nat) : movable (a ++ b) = movable a + movable b := by
  induction a with
  | nil => simp [movable]
  | cons c r ih => simp only [List.cons_append, movable, ih]; omega
theorem join_len : ∀ {ls : List (List Nat)} {n : Nat}, (∀ a ∈ ls, a.length ≤ n) → (joinD ls).length ≤ ls.length * (n + 1)
  | [], n, _ => by simp [joinD]
  | [a], n, h => by have := h a (by simp); simp only [joinD, List.length_cons, List.length_nil]; omega
  | a :: b :: r, n, h => by
    have ih := join_len (ls := b :: r) (n := n) (fun c hc => h c (by simp only [List.mem_cons] at hc ⊢; exact .inr hc))
    have := h a (by simp)
    show (a ++ 46 :: joinD (b :: r)).length ≤ (r.length + 1 + 1) * (n + 1)
    simp only [List.length_append, List.length_cons] at ih ⊢
    rw [Nat.add_mul]
    omega
theorem join_mov : ∀ {ls : List (List Nat)} {n : Nat}, (∀ a ∈ ls, movable a ≤ n) → movable (joinD ls) ≤ ls.length * n
  | [], n, _ => by simp [joinD, movable]
  | [a], n, h => by have := h a (by simp); simpa [joinD] using this
  | a :: b :: r, n, h => by
    have ih := join_mov (ls := b :: r) (n := n) (fun c hc => h c (by simp only [List.mem_cons] at hc ⊢; exact .inr hc))
    have := h a (by simp)
    show movable (a ++ 46 :: joinD (b :: r)) ≤ (r.length + 1 + 1) * n
    rw [movable_app]
    have e : movable (46 :: joinD (b :: r)) = movable (joinD (b :: r)) := by
      show (if foldC 46 = [46] then 0 else 1) + _ = _
      rw [if_pos (show foldC 46 = [46] from fixed46)]; omega
    rw [e]
    simp only [List.length_cons] at ih
    rw [Nat.add_mul]
    omega
def Short (l : List Nat) : Prop := ∀ c ∈ l, (foldC c).length ≤ 3
theorem fixed_short {d : Nat} (f : Fixed d) : (foldC d).length ≤ 3 := by rw [show foldC d = [d] from f]; simp
theorem Short.step {l m : List Nat} (h : Short l) (g : AllGood l) (s : Step l m) : Short m := by
  rcases s with ⟨a, c, b, rfl, _, rfl⟩ | ⟨u, rfl, _⟩
  · intro d hd
    simp only [List.mem_append] at hd
    rcases hd with (hd | hd) | hd
    · exact h d (by simp [hd])
    · exact fixed_short ((g c (by simp)).2 d hd).2
    · exact h d (by simp [hd])
  · intro d hd; exact h d (by simp [hd])
theorem RL.short {h y : List Nat} (r : RL h y) (s : Short h) (g : AllGood h) : Short y := by
  induction r with
  | refl => exact s
  | step r q ih => exact ih.step (r.good g) q
theorem var_len : ∀ {t v : List Nat}, Short t → v ∈ variants t → v.length ≤ 3 * t.length
  | [], v, _, h => by simp [variants] at h; simp [h]
  | c :: t, v, s, h => by
    have st : Short t := fun d hd => s d (by simp [hd])
    have sc := s c (by simp)
    have key : ∀ z ∈ variants t, z.length ≤ 3 * t.length := fun z hz => var_len st hz
    unfold variants at h
    simp only [List.length_cons]
    split at h
    · obtain ⟨z, hz, rfl⟩ := List.mem_map.mp h
      have := key z hz
      simp only [List.length_cons]; omega
    · rcases List.mem_append.mp h with h | h
      · obtain ⟨z, hz, rfl⟩ := List.mem_map.mp h
        have := key z hz
        simp only [List.length_cons]; omega
      · obtain ⟨z, hz, rfl⟩ := List.mem_map.mp h
        have := key z hz
        simp only [List.length_append]; omega
def ends (v : List Nat) : List (List Nat) := (List.range (v.length + 1)).map v.drop
theorem mem_ends {p y v : List Nat} (h : p ++ y = v) : y ∈ ends v := by
  subst h
  exact List.mem_map.mpr ⟨p.length, List.mem_range.mpr (by simp; omega), by simp⟩
theorem flat_len {α β : Type} {f : α → List β} {n : Nat} : ∀ {l : List α}, (∀ a ∈ l, (f a).length ≤ n) → (l.flatMap f).length ≤ l.length * n
  | [], _ => by simp
  | a :: r, h => by
    have := h a (by simp)
    have ih := flat_len (f := f) (n := n) (l := r) (fun b hb => h b (by simp [hb]))
    rw [List.flatMap_cons, List.length_append, List.length_cons, Nat.add_mul]
    omega
/-- all hosts that may be reached lie here -/
def roomOf (h : List Nat) : List Str := ((variants h).flatMap ends).map ofL
theorem room_mem {h : List Nat} {x y : Str} (hx : toL x = h) (g : AllGood h) (r : Rch x y) : y ∈ roomOf h := by
  subst hx
  obtain ⟨p, hp⟩ := (rch_rl g r).var g
  exact List.mem_map.mpr ⟨toL y, List.mem_flatMap.mpr ⟨_, hp, mem_ends rfl⟩, ofL_toL y⟩
theorem room_len {h : List Nat} (s : Short h) : (roomOf h).length ≤ 2 ^ movable h * (3 * h.length + 1) := by
  unfold roomOf
  rw [List.length_map, ← variants_len]
  refine flat_len fun v hv => ?_
  have := var_len s hv
  simp [ends]; omega
theorem hsz_of {h : List Nat} {x : Str} (hx : toL x = h) (g : AllGood h) (s : Short h) (hl : h.length ≤ 300) : ∀ y, Rch x y → y.length ≤ 1000 ∧ ∀ k, k < y.length → (foldS (cAt y k)).length ≤ 1000 := by
  subst hx
  intro y r
  have rl := rch_rl g r
  obtain ⟨p, hp⟩ := rl.var g
  have hv := var_len s hp
  rw [List.length_append] at hv
  refine ⟨by rw [← toL_len]; omega, fun k hk => ?_⟩
  have := cAt_eq hk
  have hs := rl.short s g _ (List.mem_of_getElem? this)
  unfold foldC at hs
  rw [toL_len] at hs
  omega
theorem ts_of {h : List Nat} {rs ls : List (List Nat)} (H : Host h rs ls) {x : Str} (hx : toL x = h) : ∀ y, Rch x y → movesS y = [] → y ∈ (List.range ls.length).map (fun k => ofL (joinD (ls.drop k))) := by
  subst hx
  intro y r e
  have rl := rch_rl H.good r
  have fy := ended_fixed ((ended_iff (rl.good H.good)).mp e)
  obtain ⟨k, k1, k2, _⟩ := rl.place H.good H.nd H.F H.two
  rw [foldAll_fixed fy] at k2
  exact List.mem_map.mpr ⟨k, List.mem_range.mpr k1, by rw [← k2, ofL_toL]⟩
end Mine
end
-- part P15
section
open PySem PySem.W PyProof.Rows PySem.Calls
namespace Mine
theorem low_fix : ∀ i, i < 26 → foldC (97 + i) = [97 + i] := by decide +kernel
theorem dig_fix : ∀ i, i < 10 → foldC (48 + i) = [48 + i] ∧ Sre.isDigit (48 + i) = true := by decide +kernel
theorem uns_fold : ∀ k, k < 27 → foldC (unseenL.getD k 0).toNat = [] ∧ Sre.isDigit (unseenL.getD k 0).toNat = false ∧ (unseenL.getD k 0).toNat ≠ 46 ∧ (unseenL.getD k 0).toNat ≠ 10 := by decide +kernel
theorem co_fold : foldC 13255 = [99, 111, 46] := by decide +kernel
theorem L_fold : foldC 119819 = [108] := by decide +kernel
theorem lookup_of : ∀ {l : List (Int × Str)} {k : Int} {v : Str}, keysApart l → (k, v) ∈ l → l.lookup k = some v
  | a :: l, k, v, h, hm => by
    have h' := List.pairwise_cons.mp h
    rw [List.lookup_cons]
    by_cases q : k = a.1
    · have e : (k, v) = a := by
        rcases List.mem_cons.mp hm with e | hm
        · exact e
        · exact absurd (by rw [← q]) (h'.1 _ hm)
      rw [show (k == a.1) = true by simpa using q, ← e]
    · rw [show (k == a.1) = false by simpa using q]
      rcases List.mem_cons.mp hm with e | hm
      · exact absurd (by rw [← e]) q
      · exact lookup_of h'.2 hm
/-- the great letters of the nine mathematical alphabets, as the table has them -/
def greats : List (Int × Str) := (List.range 234).map fun n => (fontsL.getD (n / 26 + 1) 0 + ((n % 26 : Nat) : Int), ⟨#[97 + n % 26]⟩)
theorem greats_in : greats.isSublist kvs = true := by decide +kernel
theorem great_seen : ∀ j, j < 10 → ∀ i, i < 26 → b1P (fontsL.getD j 0 + (i : Nat)).toNat = false ∧ 0 ≤ fontsL.getD j 0 := by decide +kernel
theorem ascii_fold : ∀ i, i < 26 → foldC (fontsL.getD 0 0 + (i : Nat)).toNat = [97 + i] := by decide +kernel
theorem great_fold (j : Nat) (hj : j < 10) (i : Nat) (hi : i < 26) : foldC (fontsL.getD j 0 + (i : Nat)).toNat = [97 + i] := by
  cases j with
  | zero => exact ascii_fold i hi
  | succ j =>
    obtain ⟨h1, h2⟩ := great_seen (j + 1) hj i hi
    have hm : ((fontsL.getD (j + 1) 0 + (i : Nat), ⟨#[97 + i]⟩) : Int × Str) ∈ kvs := by
      refine (List.isSublist_iff_sublist.mp greats_in).subset (List.mem_map.mpr ⟨j * 26 + i, List.mem_range.mpr (by omega), ?_⟩)
      rw [show (j * 26 + i) / 26 = j by omega, show (j * 26 + i) % 26 = i by omega]
    have hl := lookup_of kvs_apart hm
    unfold foldC foldS
    rw [h1]
    unfold b3F
    rw [Int.toNat_of_nonneg (by omega), hl]
    rfl
theorem great_not : ∀ j, j < 10 → ∀ i, i < 26 → (fontsL.getD j 0 + (i : Nat)).toNat ≠ 46 ∧ (fontsL.getD j 0 + (i : Nat)).toNat ≠ 10 := by decide +kernel
theorem figs_dec : ∀ n, n < 1000 → ((toL (Str.ofString (toString (Int.ofNat n)))).isEmpty = false ∧ (toL (Str.ofString (toString (Int.ofNat n)))).length ≤ 3 ∧ (toL (Str.ofString (toString (Int.ofNat n)))).all (fun d => decide (48 ≤ d) && decide (d < 58)) = true) := by decide +kernel
-- kinds of signs
/-- a sign that stays -/
def Plain (c : Nat) : Prop := Fixed c ∧ c ≠ 46 ∧ c ≠ 10
/-- a sign that is left out -/
def Unseen (c : Nat) : Prop := foldC c = [] ∧ Sre.isDigit c = false ∧ c ≠ 46 ∧ c ≠ 10
theorem Plain.good {c : Nat} (h : Plain c) : Good c := good_fixed h.2.2 h.1
theorem Unseen.good {c : Nat} (h : Unseen c) : Good c := ⟨h.2.2.2, fun d hd => by rw [h.1] at hd; cases hd⟩
theorem Plain.keep {c : Nat} (h : Plain c) : keepNE c = [c] := by unfold keepNE; rw [show foldC c = [c] from h.1]; rfl
theorem Unseen.keep {c : Nat} (h : Unseen c) : keepNE c = [c] := by unfold keepNE; rw [h.1]; rfl
theorem plain_low {i : Nat} (h : i < 26) : Plain (97 + i) := ⟨low_fix i h, by omega, by omega⟩
theorem plain_dig {d : Nat} (h1 : 48 ≤ d) (h2 : d < 58) : Plain d ∧ Sre.isDigit d = true := by
  have := dig_fix (d - 48) (by omega)
  rw [show 48 + (d - 48) = d by omega] at this
  exact ⟨⟨this.1, by omega, by omega⟩, this.2⟩
theorem let_is (x : Int) : ∃ i, i < 26 ∧ letC x = 97 + i ∧ ∃ j, j < 10 ∧ greatC x = (fontsL.getD j 0 + (i : Nat)).toNat := by
  have m50 : 0 ≤ (x.fdiv 50).fmod 26 := Int.fmod_nonneg_of_pos _ (by decide)
  have m50' : (x.fdiv 50).fmod 26 < 26 := Int.fmod_lt_of_pos _ (by decide)
  have m10 : 0 ≤ (x.fdiv 5).fmod 10 := Int.fmod_nonneg_of_pos _ (by decide)
  have m10' : (x.fdiv 5).fmod 10 < 10 := Int.fmod_lt_of_pos _ (by decide)
  refine ⟨((x.fdiv 50).fmod 26).toNat, by omega, by unfold letC; omega, ((x.fdiv 5).fmod 10).toNat, by omega, ?_⟩
  unfold greatC
  rw [Int.toNat_of_nonneg m50]
theorem uns_is (n : Int) : Unseen (unseenC n) := by
  have m1 : 0 ≤ n.fmod 27 := Int.fmod_nonneg_of_pos n (by decide)
  have m2 : n.fmod 27 < 27 := Int.fmod_lt_of_pos n (by decide)
  exact uns_fold (n.fmod 27).toNat (by omega)
theorem figs_is {a : Int} (h0 : 0 ≤ a) (h1 : a < 1000) : toL (Str.ofString (toString a)) ≠ [] ∧ (toL (Str.ofString (toString a))).length ≤ 3 ∧ ∀ d ∈ toL (Str.ofString (toString a)), Plain d ∧ Sre.isDigit d = true := by
  have := figs_dec a.toNat (by omega)
  rw [show Int.ofNat a.toNat = a from Int.toNat_of_nonneg h0] at this
  obtain ⟨t1, t2, t3⟩ := this
  refine ⟨fun e => (by rw [e] at t1; cases t1), t2, fun d hd => ?_⟩
  have := List.all_eq_true.mp t3 d hd
  simp only [Bool.and_eq_true, decide_eq_true_eq] at this
  exact plain_dig this.1 this.2
end Mine
end
-- part P16
section
open PySem PySem.W PyProof.Rows PySem.Calls
namespace Mine
-- pieces
theorem Pc.one {t m l : List Nat} (good : AllGood t) (keep : t.flatMap keepNE = m) (fold : foldAll m = l) (ne : m ≠ []) (rnd : 46 ∉ m) (nd : 46 ∉ l) (fx : ∀ c ∈ l, Fixed c) (len : t.length ≤ 5) (mov : movable t ≤ 1) (sh : ∀ c ∈ t, (foldC c).length ≤ 3) : (Pc.mk t [m] [l]).Ok :=
  ⟨good, keep, by simp [fold], by simp, by simpa using ne, by simpa [NoDot] using rnd, by simpa [NoDot] using nd, by simpa using fx, len, mov, sh, by simp⟩
theorem plains {t : List Nat} (h : ∀ c ∈ t, Plain c) : AllGood t ∧ t.flatMap keepNE = t ∧ foldAll t = t ∧ 46 ∉ t ∧ (∀ c ∈ t, Fixed c) ∧ movable t = 0 ∧ ∀ c ∈ t, (foldC c).length ≤ 3 := by
  refine ⟨fun c hc => (h c hc).good, ?_, foldAll_fixed fun c hc => (h c hc).1, fun q => (h 46 q).2.1 rfl, fun c hc => (h c hc).1, ?_, fun c hc => fixed_short (h c hc).1⟩
  · induction t with
    | nil => rfl
    | cons c r ih => rw [List.flatMap_cons, (h c (by simp)).keep, ih (fun d hd => h d (by simp [hd]))]; rfl
  · induction t with
    | nil => rfl
    | cons c r ih =>
      show (if foldC c = [c] then 0 else 1) + _ = 0
      rw [if_pos (show foldC c = [c] from (h c (by simp)).1), ih (fun d hd => h d (by simp [hd]))]
theorem Pc.plain {t : List Nat} (h : ∀ c ∈ t, Plain c) (h0 : t ≠ []) (hl : t.length ≤ 5) : (Pc.mk t [t] [t]).Ok := by
  obtain ⟨a, b, c, d, e, f, g⟩ := plains h
  exact Pc.one a b c h0 d d e hl (by omega) g
/-- plain signs, one left out at the end -/
theorem Pc.hid {t : List Nat} {u : Nat} (h : ∀ c ∈ t, Plain c) (hu : Unseen u) (hl : t.length ≤ 4) : (Pc.mk (t ++ [u]) [t ++ [u]] [t]).Ok := by
  obtain ⟨a, b, c, d, e, f, g⟩ := plains h
  refine Pc.one ?_ ?_ ?_ (by simp) ?_ d e (by simpa using hl) ?_ ?_
  · intro x hx
    rcases List.mem_append.mp hx with q | q
    · exact a x q
    · simp at q; exact q ▸ hu.good
  · rw [List.flatMap_append, b]; simp [hu.keep]
  · rw [foldAll_app, c]; simp [foldAll, hu.1]
  · simp only [List.mem_append, List.mem_singleton, not_or]; exact ⟨d, fun q => hu.2.2.1 q.symm⟩
  · rw [movable_app, f]
    show 0 + ((if foldC u = [u] then 0 else 1) + 0) ≤ 1
    split <;> omega
  · intro x hx
    rcases List.mem_append.mp hx with q | q
    · exact g x q
    · simp at q; rw [q, hu.1]; simp
/-- plain signs, one folded to a plain one at the end -/
theorem Pc.big {t : List Nat} {g c : Nat} (h : ∀ c ∈ t, Plain c) (hg : foldC g = [c]) (h10 : g ≠ 10) (hc : Plain c) (hl : t.length ≤ 4) : (Pc.mk (t ++ [g]) [t ++ [c]] [t ++ [c]]).Ok := by
  obtain ⟨p1, p2, p3, p4, p5, p6, p7⟩ := plains h
  have hall : ∀ d ∈ t ++ [c], Plain d := by
    intro d hd
    rcases List.mem_append.mp hd with q | q
    · exact h d q
    · simp at q; exact q ▸ hc
  obtain ⟨r1, r2, r3, r4, r5, r6, r7⟩ := plains hall
  refine Pc.one ?_ ?_ r3 (by simp) r4 r4 r5 (by simpa using hl) ?_ ?_
  · intro x hx
    rcases List.mem_append.mp hx with q | q
    · exact p1 x q
    · simp at q; subst q; exact ⟨h10, fun d hd => by rw [hg] at hd; simp at hd; subst hd; exact ⟨hc.2.2, hc.1⟩⟩
  · rw [List.flatMap_append, p2]
    show t ++ (keepNE g ++ []) = _
    unfold keepNE
    rw [hg]; simp
  · rw [movable_app, p6]
    show 0 + ((if foldC g = [g] then 0 else 1) + 0) ≤ 1
    split <;> omega
  · intro x hx
    rcases List.mem_append.mp hx with q | q
    · exact p7 x q
    · simp at q; rw [q, hg]; simp
theorem plain_c : Plain 99 := plain_low (i := 2) (by omega)
theorem plain_o : Plain 111 := plain_low (i := 14) (by omega)
theorem Pc.co {a : Nat} (h : Plain a) : (Pc.mk [13255, a] [[99, 111], [a]] [[99, 111], [a]]).Ok := by
  have hco : ∀ c ∈ [99, 111], Plain c := by simpa using ⟨plain_c, plain_o⟩
  obtain ⟨p1, p2, p3, p4, p5, p6, p7⟩ := plains hco
  have ha : foldC a = [a] := h.1
  refine ⟨?_, ?_, ?_, by simp, by simp, ?_, ?_, ?_, by simp, ?_, ?_, by simp⟩
  · intro x hx
    simp at hx
    rcases hx with rfl | rfl
    · refine ⟨by decide, fun d hd => ?_⟩
      rw [co_fold] at hd
      simp at hd
      rcases hd with rfl | rfl | rfl
      · exact ⟨by decide, plain_c.1⟩
      · exact ⟨by decide, plain_o.1⟩
      · exact ⟨by decide, fixed46⟩
    · exact h.good
  · show keepNE 13255 ++ (keepNE a ++ []) = _
    rw [h.keep]; unfold keepNE; rw [co_fold]; rfl
  · simp only [List.map_cons, List.map_nil, p3]
    rw [show foldAll [a] = [a] from by simp [foldAll, ha]]
  · intro l hl
    simp at hl
    rcases hl with rfl | rfl
    · exact p4
    · simp; exact fun q => h.2.1 q.symm
  · intro l hl
    simp at hl
    rcases hl with rfl | rfl
    · exact p4
    · simp; exact fun q => h.2.1 q.symm
  · intro l hl
    simp at hl
    rcases hl with rfl | rfl
    · exact p5
    · intro c hc; simp at hc; exact hc ▸ h.1
  · show (if foldC 13255 = [13255] then 0 else 1) + ((if foldC a = [a] then 0 else 1) + 0) ≤ 1
    rw [if_pos ha]; split <;> omega
  · intro x hx
    simp at hx
    rcases hx with rfl | rfl
    · rw [co_fold]; simp
    · rw [ha]; simp
/-- the labels of a number once the seen signs are folded -/
def midLs (x : Int) : List (List (List Nat)) := [[[letC x]], [[letC x]], [[unsC x]], [[99, 111], [letC x]], [[letC x, unsC x]]]
def labelPc (x : Int) : Pc := ⟨toL (typedS x), (midLs x).getD (x.fmod 5).toNat [], (meantS x).map toL⟩
theorem co_toL (c : Nat) : toL (Str.ofString "㏇" ++ ⟨#[c]⟩) = [13255, c] := by
  rw [toL_app, show toL (Str.ofString "㏇") = [13255] by decide +kernel]; rfl
theorem label_ok (x : Int) : (labelPc x).Ok := by
  have m5 : 0 ≤ x.fmod 5 := Int.fmod_nonneg_of_pos _ (by decide)
  have m5' : x.fmod 5 < 5 := Int.fmod_lt_of_pos _ (by decide)
  obtain ⟨i, hi, e1, j, hj, e2⟩ := let_is x
  have hp : Plain (letC x) := e1 ▸ plain_low hi
  have hg : foldC (greatC x) = [letC x] := by rw [e1, e2]; exact great_fold j hj i hi
  have hg10 : greatC x ≠ 10 := by rw [e2]; exact (great_not j hj i hi).2
  have hu : Unseen (unsC x) := uns_is _
  unfold labelPc typedS meantS
  have hk : (x.fmod 5).toNat < 5 := by omega
  generalize (x.fmod 5).toNat = k at hk
  match k, hk with
  | 0, _ => exact Pc.plain (t := [letC x]) (by simpa using hp) (by simp) (by simp)
  | 1, _ => exact Pc.big (t := []) (by simp) hg hg10 hp (by simp)
  | 2, _ => exact Pc.hid (t := []) (by simp) hu (by simp)
  | 3, _ =>
    show (Pc.mk (toL (Str.ofString "㏇" ++ ⟨#[letC x]⟩)) [[99, 111], [letC x]] [toL (Str.ofString "co"), [letC x]]).Ok
    rw [co_toL, show toL (Str.ofString "co") = [99, 111] by decide +kernel]
    exact Pc.co hp
  | 4, _ =>
    show (Pc.mk (toL ((⟨#[letC x]⟩ : Str) ++ ⟨#[unsC x]⟩)) [[letC x, unsC x]] [[letC x]]).Ok
    rw [toL_app]
    exact Pc.hid (t := [letC x]) (by simpa using hp) hu (by simp)
-- the last label
def figS (T : Int) : Str := Str.ofString (toString ((T.fdiv 5).fmod 1000))
def hidS (T : Int) : Str := [figS T, Str.ofString ""].getD ((T.fdiv 135).fmod 2).toNat Str.empty
def lastTyped (T : Int) : List Str := [Str.ofString "c" ++ figS T, Str.ofString "local", Str.ofString "loca" ++ ⟨#[119819]⟩, figS T, hidS T ++ ⟨#[unsC T]⟩]
def lastMeant (T : Int) : List Str := [Str.ofString "c" ++ figS T, Str.ofString "local", Str.ofString "local", figS T, hidS T]
def lastMid (T : Int) : List (List Nat) := [99 :: toL (figS T), localL, localL, toL (figS T), toL (hidS T) ++ [unsC T]]
def lastTypedS (T : Int) : Str := (lastTyped T).getD (T.fmod 5).toNat Str.empty
def lastMeantS (T : Int) : Str := (lastMeant T).getD (T.fmod 5).toNat Str.empty
def lastMidL (T : Int) : List Nat := (lastMid T).getD (T.fmod 5).toNat []
def lastPc (T : Int) : Pc := ⟨toL (lastTypedS T), [lastMidL T], [toL (lastMeantS T)]⟩
theorem fig_is (T : Int) : toL (figS T) ≠ [] ∧ (toL (figS T)).length ≤ 3 ∧ ∀ d ∈ toL (figS T), Plain d ∧ Sre.isDigit d = true :=
  figs_is (Int.fmod_nonneg_of_pos _ (by decide)) (Int.fmod_lt_of_pos _ (by decide))
theorem hid_is (T : Int) : (toL (hidS T)).length ≤ 3 ∧ ∀ d ∈ toL (hidS T), Plain d ∧ Sre.isDigit d = true := by
  have m2 : 0 ≤ (T.fdiv 135).fmod 2 := Int.fmod_nonneg_of_pos _ (by decide)
  have m2' : (T.fdiv 135).fmod 2 < 2 := Int.fmod_lt_of_pos _ (by decide)
  unfold hidS
  have hk : ((T.fdiv 135).fmod 2).toNat < 2 := by omega
  generalize ((T.fdiv 135).fmod 2).toNat = k at hk
  match k, hk with
  | 0, _ => exact ⟨(fig_is T).2.1, (fig_is T).2.2⟩
  | 1, _ => exact ⟨Nat.zero_le 3, fun d hd => by cases hd⟩
theorem c_toL (x : Str) : toL (Str.ofString "c" ++ x) = 99 :: toL x := by rw [toL_app]; rfl
theorem loca_toL : toL (Str.ofString "loca") = [108, 111, 99, 97] := by decide +kernel
theorem plain_loca : ∀ c ∈ [108, 111, 99, 97], Plain c := by
  intro c hc
  simp at hc
  rcases hc with rfl | rfl | rfl | rfl
  · exact plain_low (i := 11) (by omega)
  · exact plain_low (i := 14) (by omega)
  · exact plain_low (i := 2) (by omega)
  · exact plain_low (i := 0) (by omega)
theorem plain_l : Plain 108 := plain_low (i := 11) (by omega)
theorem last_ok (T : Int) : (lastPc T).Ok := by
  have m5 : 0 ≤ T.fmod 5 := Int.fmod_nonneg_of_pos _ (by decide)
  have m5' : T.fmod 5 < 5 := Int.fmod_lt_of_pos _ (by decide)
  obtain ⟨f1, f2, f3⟩ := fig_is T
  obtain ⟨g2, g3⟩ := hid_is T
  have hu : Unseen (unsC T) := uns_is _
  have hloc : ∀ c ∈ localL, Plain c := by
    intro c hc
    rcases List.mem_append.mp (show c ∈ [108, 111, 99, 97] ++ [108] from hc) with q | q
    · exact plain_loca c q
    · simp at q; exact q ▸ plain_l
  unfold lastPc lastTypedS lastMeantS lastMidL
  have hk : (T.fmod 5).toNat < 5 := by omega
  generalize (T.fmod 5).toNat = k at hk
  match k, hk with
  | 0, _ =>
    show (Pc.mk (toL (Str.ofString "c" ++ figS T)) [99 :: toL (figS T)] [toL (Str.ofString "c" ++ figS T)]).Ok
    rw [c_toL]
    refine Pc.plain ?_ (by simp) (by simp; omega)
    intro c hc
    simp only [List.mem_cons] at hc
    rcases hc with rfl | hc
    · exact plain_c
    · exact (f3 c hc).1
  | 1, _ =>
    show (Pc.mk (toL (Str.ofString "local")) [localL] [toL (Str.ofString "local")]).Ok
    rw [local_toL]
    exact Pc.plain hloc (by simp [localL]) (by simp [localL])
  | 2, _ =>
    show (Pc.mk (toL (Str.ofString "loca" ++ ⟨#[119819]⟩)) [localL] [toL (Str.ofString "local")]).Ok
    rw [local_toL, toL_app, loca_toL]
    exact Pc.big (t := [108, 111, 99, 97]) plain_loca L_fold (by decide) plain_l (by simp)
  | 3, _ =>
    show (Pc.mk (toL (figS T)) [toL (figS T)] [toL (figS T)]).Ok
    exact Pc.plain (fun c hc => (f3 c hc).1) f1 (by omega)
  | 4, _ =>
    show (Pc.mk (toL (hidS T ++ ⟨#[unsC T]⟩)) [toL (hidS T) ++ [unsC T]] [toL (hidS T)]).Ok
    rw [toL_app]
    exact Pc.hid (fun c hc => (g3 c hc).1) hu (by omega)
end Mine
end
-- part P17
section
open PySem PySem.W PyProof.Rows PySem.Calls
namespace Mine
theorem txtJoin (sep : Str) (ys : List Str) : Txt.join sep ys = Str.join sep ys := by
  have := join_closes (sep := sep) (sep' := sep) (ys := ys) rfl
  rwa [beq_iff_eq] at this
theorem toL_join : ∀ (ys : List Str), toL (Str.join dotS ys) = joinD (ys.map toL)
  | [] => rfl
  | [x] => rfl
  | x :: y :: r => by
    show toL (x ++ dotS ++ Str.join dotS (y :: r)) = _
    rw [toL_app, toL_app, toL_join (y :: r), dot_toL]
    simp [joinD]
theorem toL_cat : ∀ (ys : List Str), toL (Str.join (Str.ofString "") ys) = (ys.map toL).flatten
  | [] => rfl
  | [x] => by simp [Str.join]
  | x :: y :: r => by
    show toL (x ++ Str.ofString "" ++ Str.join (Str.ofString "") (y :: r)) = _
    rw [toL_app, toL_app, toL_cat (y :: r), show toL (Str.ofString "") = [] from rfl]
    simp
/-- ''.join of the folds -/
theorem toL_folds (x : Str) : toL (Str.join (Str.ofString "") ((toL x).map foldS)) = foldAll (toL x) := by
  rw [toL_cat, List.map_map]
  unfold foldAll
  rw [List.flatMap_def]
  rfl
def typedAll (ns : List Int) (T : Int) : List Str := ns.map typedS ++ [lastTypedS T]
def labelsAll (ns : List Int) (T : Int) : List Str := ns.flatMap meantS ++ [lastMeantS T]
def partsOf (ns : List Int) (T : Int) : List Pc := ns.map labelPc ++ [lastPc T]
theorem parts_ok {ns : List Int} {T : Int} : ∀ p ∈ partsOf ns T, p.Ok := by
  intro p hp
  rcases List.mem_append.mp hp with q | q
  · obtain ⟨x, _, rfl⟩ := List.mem_map.mp q
    exact label_ok x
  · simp at q; exact q ▸ last_ok T
theorem host_parts (ns : List Int) (T : Int) : hostOf (partsOf ns T) = toL (Str.join dotS (typedAll ns T)) := by
  rw [toL_join]
  unfold hostOf partsOf typedAll
  simp only [List.map_append, List.map_map, List.map_cons, List.map_nil]
  rfl
theorem ls_parts (ns : List Int) (T : Int) : lsOf (partsOf ns T) = (labelsAll ns T).map toL := by
  unfold lsOf partsOf labelsAll
  simp only [List.map_append, List.map_map, List.map_cons, List.map_nil, List.flatten_append, List.flatMap_def, List.map_flatten]
  rfl
theorem ms_parts (ns : List Int) (T : Int) : ∃ r, msOf (partsOf ns T) = r ++ [lastMidL T] := by
  unfold msOf partsOf
  exact ⟨((ns.map labelPc).map (·.ms)).flatten, by simp [lastPc]⟩
theorem lastL_snoc (r : List (List Nat)) (a : List Nat) : lastL (r ++ [a]) = a := by unfold lastL; simp
theorem lastL_ls (ns : List Int) (T : Int) : lastL (lsOf (partsOf ns T)) = toL (lastMeantS T) := by
  rw [ls_parts]; unfold labelsAll
  rw [List.map_append]; exact lastL_snoc _ _
theorem lastL_ms (ns : List Int) (T : Int) : lastL (msOf (partsOf ns T)) = lastMidL T := by
  obtain ⟨r, e⟩ := ms_parts ns T
  rw [e]; exact lastL_snoc _ _
/-- the law's list of starts -/
def startsN (κ : Nat) (ls : List Str) : List Nat :=
  let last := ls.length - 1
  let s0 := (List.range last).filter (fun k => ls.getD k Str.empty == Str.ofString "")
  let s1 := if κ = 0 ∧ last - 1 ∉ s0 then s0 ++ [last - 1] else s0
  let s2 := if κ = 1 ∨ κ = 2 then s1 ++ [last] else s1
  if 2 < κ then (if κ = 3 then [0] else List.range last) else s2
theorem empty_iff {ls : List Str} {k : Nat} (h : k < ls.length) : (ls.getD k Str.empty == Str.ofString "") = true ↔ (ls.map toL)[k]? = some [] := by
  rw [List.getElem?_map, List.getElem?_eq_getElem h, List.getD_eq_getElem?_getD, List.getElem?_eq_getElem h, beq_iff_eq]
  simp only [Option.getD_some, Option.map_some, Option.some.injEq]
  constructor
  · intro e; rw [e]; rfl
  · intro e; exact toL_inj (by rw [e]; rfl)
theorem starts_nodup (κ : Nat) (ls : List Str) : (startsN κ ls).Nodup := by
  have h0 : ((List.range (ls.length - 1)).filter (fun k => ls.getD k Str.empty == Str.ofString "")).Nodup := List.nodup_range.filter _
  have hlt : ∀ k ∈ (List.range (ls.length - 1)).filter (fun k => ls.getD k Str.empty == Str.ofString ""), k < ls.length - 1 := fun k hk => List.mem_range.mp (List.mem_filter.mp hk).1
  have snoc : ∀ {s : List Nat} {a : Nat}, s.Nodup → a ∉ s → (s ++ [a]).Nodup := by
    intro s a hs ha
    rw [List.nodup_append]
    exact ⟨hs, by simp, fun x hx y hy e => by simp at hy; subst hy; exact ha (e ▸ hx)⟩
  unfold startsN
  dsimp only
  split
  · split
    · simp
    · exact List.nodup_range
  · rename_i h2
    split
    · rename_i h1
      rw [if_neg (fun q => by omega)]
      exact snoc h0 (fun q => Nat.lt_irrefl _ (hlt _ q))
    · split
      · rename_i h3
        exact snoc h0 h3.2
      · exact h0
theorem figs_not_local {l : List Nat} (h : AllDig l) : l ≠ localL := by
  rintro rfl
  have := h 108 (by simp [localL])
  revert this; decide
theorem not_dig_c {l : List Nat} : ¬ AllDig (99 :: l) := fun h => by
  have := h 99 (by simp)
  revert this; decide
theorem not_dig_local : ¬ AllDig localL := fun h => figs_not_local h rfl
theorem starts_iff (ns : List Int) (T : Int) (hns : 1 ≤ ns.length) (k : Nat) (hk3 : (T.fmod 5).toNat ≠ 3) : k ∈ startsN (T.fmod 5).toNat (labelsAll ns T) ↔ k < (lsOf (partsOf ns T)).length ∧ Stop (lsOf (partsOf ns T)) k := by
  have m5 : 0 ≤ T.fmod 5 := Int.fmod_nonneg_of_pos _ (by decide)
  have m5' : T.fmod 5 < 5 := Int.fmod_lt_of_pos _ (by decide)
  have two : 2 ≤ (lsOf (partsOf ns T)).length := (host_of (parts_ok (ns := ns) (T := T)) (by simp [partsOf]; omega)).two
  have hlen : (labelsAll ns T).length = (lsOf (partsOf ns T)).length := by rw [ls_parts]; simp
  have hl := lastL_ls ns T
  obtain ⟨f1, f2, f3⟩ := fig_is T
  obtain ⟨g2, g3⟩ := hid_is T
  have he : ∀ k, k < (lsOf (partsOf ns T)).length → (((labelsAll ns T).getD k Str.empty == Str.ofString "") = true ↔ (lsOf (partsOf ns T))[k]? = some []) := by
    intro k hk; rw [ls_parts]; exact empty_iff (by omega)
  unfold Stop
  rw [hl]
  generalize hL : lsOf (partsOf ns T) = L at *
  generalize hA : labelsAll ns T = Ls at *
  have hkk : (T.fmod 5).toNat < 5 := by omega
  unfold lastMeantS
  unfold startsN
  generalize (T.fmod 5).toNat = κ at hkk hk3
  dsimp only
  rw [hlen]
  have mem0 : ∀ k, k ∈ (List.range (L.length - 1)).filter (fun k => Ls.getD k Str.empty == Str.ofString "") ↔ k < L.length - 1 ∧ L[k]? = some [] := by
    intro k
    rw [List.mem_filter, List.mem_range]
    constructor
    · rintro ⟨h1, h2⟩; exact ⟨h1, (he k (by omega)).mp h2⟩
    · rintro ⟨h1, h2⟩; exact ⟨h1, (he k (by omega)).mpr h2⟩
  match κ, hkk with
  | 0, _ =>
    rw [if_neg (by omega), if_neg (by omega)]
    show _ ↔ k < L.length ∧ (if k + 1 = L.length then toL (Str.ofString "c" ++ figS T) = localL else L[k]? = some [] ∨ toL (Str.ofString "c" ++ figS T) = [] ∨ AllDig (toL (Str.ofString "c" ++ figS T)) ∨ (k + 2 = L.length ∧ toL (Str.ofString "c" ++ figS T) ≠ localL))
    rw [c_toL]
    have hnl : 99 :: toL (figS T) ≠ localL := by intro q; simp [localL] at q
    have key : k ∈ (if (0 : Nat) = 0 ∧ L.length - 1 - 1 ∉ (List.range (L.length - 1)).filter (fun k => Ls.getD k Str.empty == Str.ofString "") then (List.range (L.length - 1)).filter (fun k => Ls.getD k Str.empty == Str.ofString "") ++ [L.length - 1 - 1] else (List.range (L.length - 1)).filter (fun k => Ls.getD k Str.empty == Str.ofString "")) ↔ (k < L.length - 1 ∧ L[k]? = some []) ∨ k = L.length - 1 - 1 := by
      split
      · rw [List.mem_append, mem0, List.mem_singleton]
      · rename_i q
        rw [mem0]
        constructor
        · exact .inl
        · rintro (h | rfl)
          · exact h
          · exact (mem0 _).mp (Decidable.byContradiction fun c => q ⟨rfl, c⟩)
    rw [key]
    constructor
    · rintro (⟨h1, h2⟩ | rfl)
      · exact ⟨by omega, by rw [if_neg (by omega)]; exact .inl h2⟩
      · exact ⟨by omega, by rw [if_neg (by omega)]; exact .inr (.inr (.inr ⟨by omega, hnl⟩))⟩
    · rintro ⟨h1, h2⟩
      split at h2
      · exact absurd h2 hnl
      · rcases h2 with h | h | h | h
        · exact .inl ⟨by omega, h⟩
        · cases h
        · exact absurd h not_dig_c
        · exact .inr (by omega)
  | 1, _ =>
    rw [if_neg (by omega), if_pos (by omega), if_neg (fun q => by omega)]
    show _ ↔ k < L.length ∧ (if k + 1 = L.length then toL (Str.ofString "local") = localL else L[k]? = some [] ∨ toL (Str.ofString "local") = [] ∨ AllDig (toL (Str.ofString "local")) ∨ (k + 2 = L.length ∧ toL (Str.ofString "local") ≠ localL))
    rw [local_toL, List.mem_append, mem0, List.mem_singleton]
    constructor
    · rintro (⟨h1, h2⟩ | rfl)
      · exact ⟨by omega, by rw [if_neg (by omega)]; exact .inl h2⟩
      · exact ⟨by omega, by rw [if_pos (by omega)]⟩
    · rintro ⟨h1, h2⟩
      split at h2
      · exact .inr (by omega)
      · rcases h2 with h | h | h | h
        · exact .inl ⟨by omega, h⟩
        · cases h
        · exact absurd h not_dig_local
        · exact absurd rfl h.2
  | 2, _ =>
    rw [if_neg (by omega), if_pos (by omega), if_neg (fun q => by omega)]
    show _ ↔ k < L.length ∧ (if k + 1 = L.length then toL (Str.ofString "local") = localL else L[k]? = some [] ∨ toL (Str.ofString "local") = [] ∨ AllDig (toL (Str.ofString "local")) ∨ (k + 2 = L.length ∧ toL (Str.ofString "local") ≠ localL))
    rw [local_toL, List.mem_append, mem0, List.mem_singleton]
    constructor
    · rintro (⟨h1, h2⟩ | rfl)
      · exact ⟨by omega, by rw [if_neg (by omega)]; exact .inl h2⟩
      · exact ⟨by omega, by rw [if_pos (by omega)]⟩
    · rintro ⟨h1, h2⟩
      split at h2
      · exact .inr (by omega)
      · rcases h2 with h | h | h | h
        · exact .inl ⟨by omega, h⟩
        · cases h
        · exact absurd h not_dig_local
        · exact absurd rfl h.2
  | 3, _ => exact absurd rfl hk3
  | 4, _ =>
    rw [if_pos (by omega), if_neg (by omega)]
    show _ ↔ k < L.length ∧ (if k + 1 = L.length then toL (hidS T) = localL else L[k]? = some [] ∨ toL (hidS T) = [] ∨ AllDig (toL (hidS T)) ∨ (k + 2 = L.length ∧ toL (hidS T) ≠ localL))
    have hd : AllDig (toL (hidS T)) := fun d hd => (g3 d hd).2
    rw [List.mem_range]
    constructor
    · intro h; exact ⟨by omega, by rw [if_neg (by omega)]; exact .inr (.inr (.inl hd))⟩
    · rintro ⟨h1, h2⟩
      split at h2
      · exact absurd h2 (figs_not_local hd)
      · omega
end Mine
end
-- part P18
section
open PySem PySem.W PyProof.Rows PySem.Calls
namespace Mine
theorem rising_pw : ∀ (l : List Str) (p : Str), risingS p l = true → (p :: l).Pairwise (fun a b => toL a ≤ toL b)
  | [], p, _ => by simp
  | x :: r, p, h => by
    unfold risingS at h
    rw [Bool.and_eq_true, Bool.not_eq_true', ltCps_eq, decide_eq_false_iff_not] at h
    have ih := rising_pw r x h.2
    have px : toL p ≤ toL x := List.not_lt.mp h.1
    refine List.pairwise_cons.mpr ⟨fun y hy => ?_, ih⟩
    rcases List.mem_cons.mp hy with rfl | hy
    · exact px
    · exact List.le_trans px ((List.pairwise_cons.mp ih).1 y hy)
theorem sorted_pw {l : List Str} (h : sortedS l = true) : l.Pairwise (fun a b => toL a ≤ toL b) := by
  cases l with
  | nil => simp
  | cons x r => exact rising_pw r x h
theorem perm_of_mem {α : Type} [BEq α] [LawfulBEq α] : ∀ {a b : List α}, a.Nodup → b.Nodup → (∀ x, x ∈ a ↔ x ∈ b) → a.Perm b
  | [], b, _, _, h => by
    cases b with
    | nil => exact .nil
    | cons y r => exact absurd ((h y).mpr (by simp)) (by simp)
  | x :: r, b, ha, hb, h => by
    have hx : x ∈ b := (h x).mp (by simp)
    have ha' := List.nodup_cons.mp ha
    refine (List.Perm.cons x (perm_of_mem ha'.2 (hb.erase x) fun y => ?_)).trans (List.perm_cons_erase hx).symm
    constructor
    · intro hy
      have : y ≠ x := fun e => ha'.1 (e ▸ hy)
      exact (List.mem_erase_of_ne this).mpr ((h y).mp (by simp [hy]))
    · intro hy
      have hyb := List.mem_of_mem_erase hy
      have hn : y ≠ x := fun e => (List.Nodup.not_mem_erase hb) (e ▸ hy)
      have := (h y).mpr hyb
      simp only [List.mem_cons] at this
      exact this.resolve_left hn
theorem sorted_eq {a b : List Str} (ha : sortedS a = true) (hb : sortedS b = true) (p : a.Perm b) : a = b :=
  List.Perm.eq_of_pairwise (le := fun a b => toL a ≤ toL b) (fun x y _ _ h1 h2 => toL_inj (List.le_antisymm h1 h2)) (sorted_pw ha) (sorted_pw hb) p
theorem drop_len {ls : List (List Nat)} : ∀ (d k : Nat), k + d + 1 < ls.length → (joinD (ls.drop (k + d + 1))).length < (joinD (ls.drop k)).length
  | 0, k, h => by
    obtain ⟨b, r, e1, e2, _⟩ := drop_two (ls := ls) (k := k) (by omega)
    show (joinD (ls.drop (k + 1))).length < _
    rw [e1, e2]
    show _ < (ls[k] ++ 46 :: joinD (b :: r)).length
    rw [List.length_append, List.length_cons]; omega
  | d + 1, k, h => by
    have h1 := drop_len (ls := ls) 0 k (by omega)
    have h2 := drop_len (ls := ls) d (k + 1) (by omega)
    rw [show k + 1 + d + 1 = k + (d + 1) + 1 by omega] at h2
    have h1' : (joinD (ls.drop (k + 1))).length < (joinD (ls.drop k)).length := h1
    omega
theorem drop_inj {ls : List (List Nat)} {j k : Nat} (hj : j < ls.length) (hk : k < ls.length) (e : joinD (ls.drop j) = joinD (ls.drop k)) : j = k := by
  rcases Nat.lt_trichotomy j k with h | h | h
  · have := drop_len (ls := ls) (k - j - 1) j (by omega)
    rw [show j + (k - j - 1) + 1 = k by omega, e] at this
    exact absurd this (Nat.lt_irrefl _)
  · exact h
  · have := drop_len (ls := ls) (j - k - 1) k (by omega)
    rw [show k + (j - k - 1) + 1 = j by omega, e] at this
    exact absurd this (Nat.lt_irrefl _)
def fromL (ls : List Str) (k : Nat) : Str := Str.join dotS (ls.drop k)
theorem from_toL (ls : List Str) (k : Nat) : toL (fromL ls k) = joinD ((ls.map toL).drop k) := by
  unfold fromL; rw [toL_join, List.map_drop]
theorem nodup_map {α β : Type} {f : α → β} : ∀ {l : List α}, l.Nodup → (∀ a ∈ l, ∀ b ∈ l, f a = f b → a = b) → (l.map f).Nodup
  | [], _, _ => by simp
  | x :: r, h, hf => by
    have h' := List.nodup_cons.mp h
    rw [List.map_cons, List.nodup_cons]
    refine ⟨fun q => ?_, nodup_map h'.2 (fun a ha b hb => hf a (by simp [ha]) b (by simp [hb]))⟩
    obtain ⟨y, hy, e⟩ := List.mem_map.mp q
    have := hf y (by simp [hy]) x (by simp) e
    exact h'.1 (this ▸ hy)
section
variable (ns : List Int) (T : Int)
def hostS : Str := Str.join dotS (typedAll ns T)
theorem theHost (hns : 1 ≤ ns.length) : Host (toL (hostS ns T)) (msOf (partsOf ns T)) (lsOf (partsOf ns T)) := by
  unfold hostS
  rw [← host_parts]
  exact host_of parts_ok (by simp [partsOf]; omega)
theorem plain_first (hns : 1 ≤ ns.length) : Str.join (Str.ofString "") ((toL (hostS ns T)).map foldS) = Str.join dotS (labelsAll ns T) := by
  apply toL_inj
  rw [toL_folds, (theHost ns T hns).F, toL_join, ls_parts]
theorem not_dig_mid (h3 : (T.fmod 5).toNat ≠ 3) : ¬ AllDig (lastMidL T) ∧ (toL (lastMeantS T) = localL → lastMidL T = localL) := by
  have m5 : 0 ≤ T.fmod 5 := Int.fmod_nonneg_of_pos _ (by decide)
  have m5' : T.fmod 5 < 5 := Int.fmod_lt_of_pos _ (by decide)
  obtain ⟨g2, g3⟩ := hid_is T
  have hu : Unseen (unsC T) := uns_is _
  unfold lastMidL lastMeantS
  have hk : (T.fmod 5).toNat < 5 := by omega
  generalize (T.fmod 5).toNat = k at hk h3
  match k, hk with
  | 0, _ =>
    refine ⟨not_dig_c, fun q => ?_⟩
    have q' : toL (Str.ofString "c" ++ figS T) = localL := q
    rw [c_toL] at q'
    simp [localL] at q'
  | 1, _ => exact ⟨not_dig_local, fun _ => rfl⟩
  | 2, _ => exact ⟨not_dig_local, fun _ => rfl⟩
  | 3, _ => exact absurd rfl h3
  | 4, _ =>
    refine ⟨fun q => ?_, fun q => absurd q (figs_not_local fun d hd => (g3 d hd).2)⟩
    have := q (unsC T) (List.mem_append_right _ (by simp))
    rw [hu.2.1] at this
    cases this
theorem fig_host (h3 : (T.fmod 5).toNat = 3) (hns : 1 ≤ ns.length) : Fig (toL (hostS ns T)) := by
  obtain ⟨f1, f2, f3⟩ := fig_is T
  have e : lastTypedS T = figS T := by unfold lastTypedS; rw [h3]; rfl
  unfold hostS
  rw [toL_join]
  unfold typedAll
  rw [List.map_append, join_app (by intro q; simp at q; subst q; simp at hns) (by simp)]
  refine ⟨_, toL (figS T), by rw [e]; rfl, f1, fun d hd => ⟨(f3 d hd).2, (f3 d hd).1.1⟩⟩
theorem starts_lt (hns : 1 ≤ ns.length) : ∀ k ∈ startsN (T.fmod 5).toNat (labelsAll ns T), k < (lsOf (partsOf ns T)).length := by
  intro k hk
  by_cases h3 : (T.fmod 5).toNat = 3
  · rw [h3] at hk
    have two := (theHost ns T hns).two
    have : k = 0 := by simpa [startsN] using hk
    omega
  · exact ((starts_iff ns T hns k h3).mp hk).1
/-- the plain law -/
theorem plain_ends (hns : 1 ≤ ns.length) (y : Str) : (Rch (hostS ns T) y ∧ movesS y = []) ↔ y ∈ (startsN (T.fmod 5).toNat (labelsAll ns T)).map (fromL (labelsAll ns T)) := by
  have H := theHost ns T hns
  have e0 : (Rch (hostS ns T) y ∧ movesS y = []) ↔ (RL (toL (hostS ns T)) (toL y) ∧ Ended (toL y)) := by
    constructor
    · rintro ⟨r, e⟩
      have rl := rch_rl H.good r
      exact ⟨rl, (ended_iff (rl.good H.good)).mp e⟩
    · rintro ⟨rl, e⟩
      have := rl_rch H.good rl
      rw [ofL_toL] at this
      exact ⟨this, (ended_iff (rl.good H.good)).mpr e⟩
  have e1 : ∀ k, (y = fromL (labelsAll ns T) k ↔ toL y = joinD ((lsOf (partsOf ns T)).drop k)) := by
    intro k
    rw [ls_parts, ← from_toL]
    exact ⟨fun q => by rw [q], fun q => toL_inj q⟩
  rw [e0, List.mem_map]
  by_cases h3 : (T.fmod 5).toNat = 3
  · rw [(fig_host ns T h3 hns).ends H.good H.F H.fx, h3]
    have hs : startsN 3 (labelsAll ns T) = [0] := rfl
    rw [hs]
    constructor
    · intro q; exact ⟨0, by simp, ((e1 0).mpr q).symm⟩
    · rintro ⟨k, hk, q⟩
      simp at hk
      subst hk
      exact (e1 0).mp q.symm
  · obtain ⟨d1, d2⟩ := not_dig_mid T h3
    rw [H.ends (by rw [lastL_ms]; exact d1) (by rw [lastL_ms, lastL_ls]; exact d2)]
    constructor
    · rintro ⟨k, h1, h2, q⟩
      exact ⟨k, (starts_iff ns T hns k h3).mpr ⟨h1, h2⟩, ((e1 k).mpr q).symm⟩
    · rintro ⟨k, hk, q⟩
      obtain ⟨h1, h2⟩ := (starts_iff ns T hns k h3).mp hk
      exact ⟨k, h1, h2, (e1 k).mp q.symm⟩
theorem starts_map_nodup (hns : 1 ≤ ns.length) : ((startsN (T.fmod 5).toNat (labelsAll ns T)).map (fromL (labelsAll ns T))).Nodup := by
  refine nodup_map (starts_nodup _ _) fun a ha b hb e => ?_
  have e' := congrArg toL e
  rw [from_toL, from_toL, ← ls_parts] at e'
  exact drop_inj (starts_lt ns T hns a ha) (starts_lt ns T hns b hb) e'
/-- the two sorted lists are one -/
theorem plain_law (hns : 1 ≤ ns.length) {ss ss' : List Str} (h1 : ss.Nodup) (h2 : sortedS ss = true) (h3 : ∀ y, y ∈ ss ↔ Rch (hostS ns T) y ∧ movesS y = [])
    (h4 : ss'.Perm ((startsN (T.fmod 5).toNat (labelsAll ns T)).map (fromL (labelsAll ns T)))) (h5 : sortedS ss' = true) : ss = ss' := by
  refine sorted_eq h2 h5 (List.Perm.trans ?_ h4.symm)
  exact perm_of_mem h1 (starts_map_nodup ns T hns) fun y => (h3 y).trans (plain_ends ns T hns y)
-- sizes
theorem parts_short : Short (toL (hostS ns T)) := by
  unfold hostS
  rw [← host_parts]
  intro c hc
  rcases mem_join hc with q | ⟨a, ha, q⟩
  · rw [q]; exact fixed_short fixed46
  · obtain ⟨p, hp, rfl⟩ := List.mem_map.mp ha
    exact (parts_ok p hp).sh c q
theorem host_len : (toL (hostS ns T)).length ≤ (ns.length + 1) * 6 ∧ movable (toL (hostS ns T)) ≤ ns.length + 1 := by
  unfold hostS
  rw [← host_parts]
  have hl : ((partsOf ns T).map (·.t)).length = ns.length + 1 := by simp [partsOf]
  constructor
  · have := join_len (ls := (partsOf ns T).map (·.t)) (n := 5) (by intro a ha; obtain ⟨p, hp, rfl⟩ := List.mem_map.mp ha; exact (parts_ok p hp).len)
    rw [hl] at this
    exact this
  · have := join_mov (ls := (partsOf ns T).map (·.t)) (n := 1) (by intro a ha; obtain ⟨p, hp, rfl⟩ := List.mem_map.mp ha; exact (parts_ok p hp).mov)
    rw [hl] at this
    simpa [hostOf] using this
theorem ls_len : (labelsAll ns T).length ≤ 2 * ns.length + 1 := by
  unfold labelsAll
  rw [List.length_append, List.length_singleton]
  have := flat_len (f := meantS) (n := 2) (l := ns) (fun x _ => by
    have := (label_ok x).two
    simpa [labelPc] using this)
  omega
theorem room_small (hns : ns.length ≤ 4) : (roomOf (toL (hostS ns T))).length ≤ 1000000 := by
  obtain ⟨a, b⟩ := host_len ns T
  have h := room_len (parts_short ns T)
  have h1 : 2 ^ movable (toL (hostS ns T)) ≤ 2 ^ 5 := Nat.pow_le_pow_right (by decide) (by omega)
  have h2 : 3 * (toL (hostS ns T)).length + 1 ≤ 91 := by omega
  have := Nat.mul_le_mul h1 h2
  omega
end
end Mine
end
-- part W11
section
open PySem PySem.W PyProof.Rows PySem.Calls
namespace Mine
section
variable {w : World} {mean : ExcName → Option Value} {mg mb : Str → Option Value} {A : Around} {E : Value → Shared → Prop} {s : Shared} {Q : Value → Shared → Prop} {env : Env}
theorem glbE {x : Str} {pos : Pos} {v : Value} (g : Gd w mean mg mb s.heap) (hv : mg x = some v) (hg : env.globals = mainGlobals) (hk : env.scope.kind = .function) (hx : env.kindOf x = some .globalImplicit) (hd : (x == ("__debug__" : Str)) = false) (h : Q v s) :
    wpAny (model pp w) A (eval (.Name x pos) env) Q E s := Name_function_global hk hx (loadGlobal_global (env := env) (hg ▸ g.T.g) hv h) hd
theorem bltE {x : Str} {pos : Pos} {v : Value} (g : Gd w mean mg mb s.heap) (hv : bootBuiltins x = some v) (hf : freeB x = true) (hn : (x == ("__name__" : Str)) = false) (hg : env.globals = mainGlobals) (hb : env.builtins = builtinsNs) (hk : env.scope.kind = .function) (hx : env.kindOf x = some .globalImplicit) (hd : (x == ("__debug__" : Str)) = false) (h : Q v s) :
    wpAny (model pp w) A (eval (.Name x pos) env) Q E s :=
  Name_function_global hk hx (loadGlobal_builtin (env := env) (hg ▸ g.T.g) (g.none hf) (hb ▸ g.T.b) ((g.T.builtins x (by simpa using hn)).trans hv) h) hd
/-- a call of a def of the text by its name, in any frame -/
theorem callDE {i : Nat} {x : Str} {px pos : Pos} {e : Expr} {rest : List Expr} (hi : i < 10) (hx : (rc i).name = x) (g : Gd w mean mg mb s.heap) (hg : env.globals = mainGlobals) (hk : env.scope.kind = .function) (hxk : env.kindOf x = some .globalImplicit) (hd : (x == ("__debug__" : Str)) = false)
    (he : starEach (e :: rest) env = (false, eval e env) :: starEach rest env)
    (h : ∀ f, mg x = some (.ref f) → wpAny (model pp w) A (spliced (backTo pos (starEach (e :: rest) env))) (fun vs s₁ => Ext s.heap s₁.heap ∧ wpAny (model pp w) A (call (.ref f) vs) Q E s₁) E s) :
    wpAny (model pp w) A (eval (.Call (.Name x px) (e :: rest) [] pos) env) Q E s := by
  obtain ⟨f, o, pm, cdv, doc, h1, h2, h3⟩ := g.fn hi hx
  refine Call_ (glbE g h1 hg hk hxk hd ?_) (by rfl)
  exact callWith_def h3 (wpAny_mono (h f h1) (fun vs s₁ q => ⟨q.1 _ _ h2, q.2⟩) (fun _ _ q => q)) he
/-- entering law: its frame at L, its one cell at L + 1 -/
theorem enterC {i : Nat} {f : Addr} {args : List Value} {binds : List (Str × Value)} (hi : i < 10) (g : Gd w mean mg mb s.heap) (hf : mg (rc i).name = some (.ref f)) (hroom : A.depth < recursionLimit)
    (hbind : ∀ pm cd doc, bindArgs (docDef (rc i).name (rc i).params (rc i).body (rc i).scope pm cd doc) ⟨args, []⟩ = pure binds) (hloc : ∀ x ∈ binds, (rc i).scope.names.lookup x.1 = some .local)
    (hco : (rc i).scope.isCoroutine = false) (hgen : (rc i).scope.isGenerator = false) (hk : (rc i).scope.kind = .function)
    (h : ∀ (R : Flow → Shared → Prop) cd h₁ L tk, (∀ v s', Q v s' → R (.ret v) s') → Fr s.heap L h₁ (bindL (envOfC (rc i).name (rc i).scope L f cd).kindOf binds fun _ => none) → 
      Cl L (cellsFrom (L + 1) (rc i).scope.names []) h₁ (bindC (envOfC (rc i).name (rc i).scope L f cd).kindOf binds fun _ => none) → Gd w mean mg mb h₁ →
      wpAny (model pp w) (A.deeper (envOfC (rc i).name (rc i).scope L f cd)) (execs (rc i).body (envOfC (rc i).name (rc i).scope L f cd)) R (fun _ _ => False) { s with heap := h₁, toks := tk }) :
    wpAny (model pp w) A (call (.ref f) args) Q E s := by
  obtain ⟨a, o, pm, cd, doc, h1, h2, h3, h4⟩ := g.T.fn (rc i) (rc_mem i (by rw [recs_len]; exact hi))
  obtain rfl : a = f := by rw [hf] at h1; exact (Value.ref.inj (Option.some.inj h1)).symm
  refine wpAny_call (call_cells_ret hroom h2 h3 g.T.nolimit h4 (hbind pm cd doc) (fun x hx => .inl (hloc x hx)) (fun h₁ tk F X => ?_) hco hgen hk)
  exact h _ cd h₁ _ tk (fun _ _ q => q) F X (g.keeps F.keep)
end
end Mine
end
-- part W12
section
open PySem PySem.W PyProof.Rows PySem.Calls
namespace Mine
abbrev cs (L : Addr) : List (Str × Addr) := cellsFrom (L + 1) (rc 9).scope.names []
theorem cs_eq (L : Addr) : cs L = [((Str.ofString "labels" : Str), L + 1)] := by kernel_rfl
abbrev lawEnv (L f : Addr) (cd : Value) : Env := envOfC (rc 9).name (rc 9).scope L f cd
theorem lawK : (rc 9).scope.kind = .function := by kernel_rfl
section
variable {w : World} {A : Around} {E : Value → Shared → Prop} {s : Shared} {L f : Addr} {cd : Value} {h₀ : Heap} {m cm : Str → Option Value}
theorem ldL {x : Str} {pos : Pos} {v : Value} {Q : Value → Shared → Prop} (F : Fr h₀ L s.heap m) (hv : m x = some v) (h : Q v s) (hl : (lawEnv L f cd).kindOf x = some .local) (hd : (x == ("__debug__" : Str)) = false) :
    wpAny (model pp w) A (eval (.Name x pos) (lawEnv L f cd)) Q E s := ldLoc F hv h lawK hl hd
theorem lab_cell (L : Addr) : (cs L).lookup (Str.ofString "labels") = some (L + 1) := by rw [cs_eq]; rfl
theorem ldLab {pos : Pos} {v : Value} {Q : Value → Shared → Prop} (X : Cl L (cs L) s.heap cm) (hv : cm "labels" = some v) (h : Q v s) :
    wpAny (model pp w) A (eval (.Name "labels" pos) (lawEnv L f cd)) Q E s := ldC X (lab_cell L) hv h lawK (by kernel_rfl) (by kernel_rfl)
theorem stL {x : Str} {v : Value} {Q : Unit → Shared → Prop} (F : Fr h₀ L s.heap m) (X : Cl L (cs L) s.heap cm)
    (h : ∀ h', Fr h₀ L h' (fun y => if y = x then some v else m y) → Cl L (cs L) h' cm → But L s.heap h' → Q () { s with heap := h', toks := s.toks + 1 }) (hl : (lawEnv L f cd).kindOf x = some .local) :
    wpAny (model pp w) A (storeName (lawEnv L f cd) x v) Q E s :=
  wpAny_storeName_local hl F.ns (fun h' hn hs => h h' (F.set hn hs) (X.sameBut hs (Nat.le_refl _)) (fun b o hb e => (hs.2 b hb).trans e))
    (by show ((rc 9).scope.kind == .class || ((rc 9).scope.kind == .module && L != mainGlobals)) = false; rw [lawK]; rfl)
theorem stLab {v : Value} {Q : Unit → Shared → Prop} (F : Fr h₀ L s.heap m) (X : Cl L (cs L) s.heap cm)
    (h : ∀ h', Fr h₀ L h' m → Cl L (cs L) h' (fun y => if y = "labels" then some v else cm y) → But (L + 1) s.heap h' → Q () { s with heap := h' }) :
    wpAny (model pp w) A (storeName (lawEnv L f cd) "labels" v) Q E s := by
  have hc := lab_cell L
  refine wpAny_storeName_cell lawK (by kernel_rfl) hc (X.cell _ _ hc) fun h' hv hs => h h' ⟨F.ns.sameBut hs (Nat.ne_of_lt (Nat.lt_succ_self L)), fun b o e => (hs.2 b (Nat.ne_of_lt (Nat.lt_of_lt_of_le (Heap.lt_size e) (Nat.le_succ_of_le F.above)))).trans (F.keep b o e), F.above⟩
    ⟨fun n c' e => ?_, X.apart, X.above⟩ (fun b o hb e => (hs.2 b hb).trans e)
  rw [cs_eq] at e
  by_cases hn : n = "labels"
  · subst hn
    have : c' = L + 1 := by rw [← cs_eq, hc] at e; exact (Option.some.inj e).symm
    subst this
    simpa using hv
  · exfalso
    rw [List.lookup_cons] at e
    rw [show (n == Str.ofString "labels") = false by rw [beq_eq_false_iff_ne]; exact hn] at e
    cases e
theorem clOn {h h' : Heap} (X : Cl L (cs L) h cm) (x : Ext h h') : Cl L (cs L) h' cm := X.keeps x
theorem cell_lt {h : Heap} (X : Cl L (cs L) h cm) : L + 1 < h.objs.size := by
  obtain ⟨o, ho, _⟩ := X.cell _ _ (lab_cell L)
  exact Heap.lt_size ho
theorem clBut {h h' : Heap} {b : Addr} (X : Cl L (cs L) h cm) (hb : b ≠ L + 1) (k : ∀ c o, c ≠ b → h.get? c = some o → h'.get? c = some o) : Cl L (cs L) h' cm :=
  ⟨fun n c e => by
    obtain ⟨o, ho, hd⟩ := X.cell n c e
    have hc : c = L + 1 := by
      have := mem_of_lookup e
      rw [cs_eq] at this
      simp at this
      exact this.2
    exact ⟨o, k c o (by rw [hc]; exact Ne.symm hb) ho, hd⟩, X.apart, X.above⟩
theorem list_ne_cell {h : Heap} {l : Addr} {vs : Array Value} (hl : h.IsList l vs) (X : Cl L (cs L) h cm) : l ≠ L + 1 := by
  rintro rfl
  obtain ⟨o, h1, h2⟩ := hl
  obtain ⟨o', h3, h4⟩ := X.cell _ _ (lab_cell L)
  rw [h1] at h3
  cases h3
  obtain ⟨_, n, h5⟩ := h2
  first
    | (rw [h5] at h4; cases h4)
    | (obtain ⟨h4, _⟩ := h4; rw [h5] at h4; cases h4)
    | (obtain ⟨_, h4⟩ := h4; rw [h5] at h4; cases h4)
/-- a piece of a list -/
theorem sliceL {value slice : Expr} {l : Addr} {vs : List Value} {vl vu : Value} {lo hi : Option Int} {Q : Value → Shared → Prop}
    (hl : s.heap.IsList l vs.toArray) (pl : IsPart vl lo) (pu : IsPart vu hi) (hsz : vs.length ≤ 1000000)
    (h : ∀ h' l', Ext s.heap h' → s.heap.get? l' = none → h'.get? l' = some { cls := .type "list", data := .seq (slicePick vs.toArray lo hi none) } → Q (.ref l') { s with heap := h' })
    (hs : subscripted slice false (.ref l) (.ref s.heap.objs.size) = operate [.ref s.heap.objs.size, .ref l] (getItem (.ref l) (.ref s.heap.objs.size)) := by with_unfolding_all rfl)
    (ht : ∀ r, letTemporaryGo value (.ref l) r = pure () := by intro _; with_unfolding_all rfl) :
    wpAny (model pp w) A (subscriptTail value slice (.ref l) (.ref s.heap.objs.size)) Q E { s with heap := s.heap.push { cls := .type "slice", data := .fields #[vl, vu, .none] } } := by
  refine subscriptTail_ops (Heap.IsList.typeIs (s := { s with heap := s.heap.push { cls := .type "slice", data := .fields #[vl, vu, .none] } }) (hl.push _)) list_getitem_lookup
    (wpAny_getItem_list_slice (hl.push _) (Heap.IsSliceOf.new ..) pl pu .none (by simp) ?_ (by rw [List.size_toArray, sizeLine_eq]; omega)) hs ht
  refine h _ _ (Ext.trans (Ext.push _ _) (Ext.push _ _)) ?_ (Heap.get?_push_size _ rfl)
  show s.heap.get? (s.heap.push _).objs.size = none
  rw [Heap.size_push]
  cases q : s.heap.get? (s.heap.objs.size + 1) with
  | none => rfl
  | some o => exact absurd (Nat.lt_trans (Nat.lt_succ_self _) (Heap.lt_size q)) (Nat.lt_irrefl _)
theorem loopListW {R : Result → Shared → Prop} {x : Str} {px : Pos} {body : List Stmt} {l : Addr} {vs : List Value} {env : Env} {E : Value → Shared → Prop}
    (Inv : Nat → Heap → (Str → Option Value) → Prop) (hh : A.handled = none) (hx : env.kindOf x = some .local) (hp : (env.scope.kind == .class || (env.scope.kind == .module && env.locals != env.globals)) = false)
    (hl : ∀ i h m, Inv i h m → h.IsList l vs.toArray) (F : Fr h₀ env.locals s.heap m) (h0 : Inv 0 s.heap m)
    (hst : ∀ i h h' m, Inv i h m → (∀ b o, b ≠ s.heap.objs.size → b ≠ env.locals → h.get? b = some o → h'.get? b = some o) → Inv i h' m)
    (step : ∀ i v h₁ tk₁ m₁, vs[i]? = some v → (∃ o, h₁.get? s.heap.objs.size = some o) → Fr h₀ env.locals h₁ (fun y => if y = x then some v else m₁ y) → Inv i h₁ m₁ →
      wpAny (model pp w) A (execs body env) (Turned s h₁ h₀ env.locals (Inv (i + 1))) (fun _ _ => False) { s with heap := h₁, toks := tk₁ })
    (done : ∀ h' tk m', Fr h₀ env.locals h' m' → Inv vs.length h' m' → R (.ok .next) { s with heap := h', toks := tk }) :
    wpAny (model pp w) A (pyIter (.ref l)) (fun it s₂ => codeAny (model pp w) A (.forLoop (.Name x px) it body [] env) R s₂) E s := by
  obtain ⟨oL, _, _, hoL, _⟩ := id F.ns
  have hLs : env.locals < s.heap.objs.size := Heap.lt_size hoL
  have h₀s : h₀.objs.size ≤ s.heap.objs.size := Nat.le_of_lt (Nat.lt_of_le_of_lt F.above hLs)
  have hLI : env.locals ≠ s.heap.objs.size := Nat.ne_of_lt hLs
  refine wpAny_pyIter_list (hl _ _ _ h0) ?_
  refine codeAny_forLoop (fun k s' => ∃ h' tk m' i, s' = { s with heap := h', toks := tk } ∧ h'.IsListIter s.heap.objs.size l i ∧ Fr h₀ env.locals h' m' ∧ Inv i h' m' ∧ i ≤ vs.length ∧ k = vs.length + 1 - i)
    ?_ (vs.length + 1) ⟨_, s.toks, m, 0, rfl, ⟨_, Heap.get?_push_size _ rfl, rfl, rfl⟩, frBut F hLI h₀s (fun b o _ e => Ext.push _ _ b o e), hst _ _ _ _ h0 (fun b o _ _ e => Ext.push _ _ b o e), Nat.zero_le _, rfl⟩
  rintro k s' ⟨h', tk, m', i, rfl, hit, F', hI, hi, rfl⟩
  by_cases hlt : i < vs.length
  · refine wpAny_pyNext_list_item hit (hl _ _ _ hI) (x := vs[i]) (by simp [hlt]) fun h₁ hit₁ hs₁ => ?_
    have F₁ := frBut F' hLI h₀s (fun b o hb e => (hs₁.2 b hb).trans e)
    refine wpAny_assign_Name (wpAny_storeName_local hx F₁.ns (fun h₂ hn₂ hs₂ => ?_) hp)
    have F₂ := F₁.set hn₂ hs₂
    have I₂ : Inv i h₂ m' := hst _ _ _ _ hI (fun b o hb hbL e => (hs₂.2 b hbL).trans ((hs₁.2 b hb).trans e))
    have hsz₂ : ∃ o, h₂.get? s.heap.objs.size = some o := by
      obtain ⟨o, ho, _⟩ := hit₁
      exact ⟨o, (hs₂.2 _ (Ne.symm hLI)).trans ho⟩
    refine wpAny_mono (step i _ h₂ _ m' (List.getElem?_eq_getElem hlt) hsz₂ F₂ I₂) (fun f s₃ h₃ => ?_) fun _ _ e => e.elim
    obtain ⟨rfl, h₃', tk₃, m₃, rfl, kp, F₃, I₃⟩ := h₃
    refine ⟨vs.length + 1 - (i + 1), by omega, h₃', tk₃, m₃, i + 1, rfl, ?_, F₃, I₃, hlt, rfl⟩
    obtain ⟨o, ho, hc⟩ := hit₁
    exact ⟨o, kp _ _ (Nat.le_refl _) ((hs₂.2 _ (Ne.symm hLI)).trans ho), hc⟩
  · have hin : i = vs.length := by omega
    subst hin
    refine wpAny_pyNext_list_end hh hit (hl _ _ _ hI) (by simp) fun h₁ he₁ => wpAny_execs_nil ?_
    exact done h₁ tk m' (frBut F' hLI h₀s he₁) (hst _ _ _ _ hI (fun b o hb _ e => he₁ b o hb e))
end
end Mine
end
-- part W13
section
open PySem PySem.W PyProof.Rows PySem.Calls
namespace Mine
local macro_rules | `(tactic| walk_at "L") => `(tactic| (refine' ldL ?fF ?fH ?_ (by kernel_rfl) (by kernel_rfl); (case fF => assumption); (case fH => first | exact rfl | assumption); (try dsimp only)))
local macro_rules | `(tactic| walk_at "B") => `(tactic| (refine' bltE ?fG ?fB (by kernel_rfl) (by kernel_rfl) rfl rfl lawK (by kernel_rfl) (by kernel_rfl) ?_; (case fG => assumption); (case fB => first | exact bb_ord | exact bb_chr | exact bb_len | exact bb_sum | exact bb_sorted | exact bb_range | exact bb_list | exact bb_str); (try dsimp only)))
local macro_rules | `(tactic| walk_at "C1") => `(tactic| (refine Call_ ?_ (by kernel_rfl)))
local macro_rules | `(tactic| walk_at "CB") => `(tactic| (refine callWith_builtin1 ?_ (by kernel_rfl) (by kernel_rfl)))
local macro_rules | `(tactic| walk_at "A") => `(tactic| (refine args_cons ?_ (by kernel_rfl)))
local macro_rules | `(tactic| walk_at "I") => `(tactic| (refine wpAny_Constant_int ?_; dsimp only))
local macro_rules | `(tactic| walk_at "body") => `(tactic| conv in execs _ _ => arg 1; whnf)
section
variable {w : World} {A : Around} {E : Value → Shared → Prop} {s : Shared} {Q : Value → Shared → Prop}
theorem sumL {l : Addr} {vs : List Value} {ns : List Int} (hh : A.handled = none) (hl : s.heap.IsList l vs.toArray) (hi : IntsAre vs ns)
    (h : ∀ h' tk t', Ext s.heap h' → Q (.int ns.sum t') { s with heap := h', toks := tk }) : wpAny (model pp w) A (call (.builtin "sum") [.ref l]) Q E s := by
  have e0 := hi.numsOf
  obtain ⟨xs, e⟩ := hi.allInts.items
  have e1 : numsOf vs = (xs.toList.map (·.1)) := by
    have := nums_intItems xs
    rw [← e] at this
    simpa using this
  rw [e] at hl
  refine sum_intListG hh hl fun h' tk t' hk => ?_
  have := h h' tk t' hk
  rw [preSum_eq, List.take_of_length_le (by simp), ← e1, e0]; exact this
end
abbrev lawB : List Stmt := (rc 9).body
section
variable {w : World} {mean : ExcName → Option Value} {mg mb : Str → Option Value} {A : Around} {E : Value → Shared → Prop} {s : Shared} {R : Flow → Shared → Prop} {L f : Addr} {cd : Value} {h₀ : Heap} {m cm : Str → Option Value}
theorem isListG {h : Heap} {a : Addr} {vs : Array Value} (e : h.get? a = some { cls := .type "list", data := .seq vs }) : h.IsList a vs := ⟨_, e, rfl, _, rfl⟩
/-- numbers, total, typed, labels: the first three statements -/
theorem law_a (G : Gd w mean mg mb h₀) (F : Fr h₀ L s.heap m) (X : Cl L (cs L) s.heap cm) (hh : A.handled = none) {l : Addr} {vs : List Value} {script : List Int}
    (hm : m "script" = some (.ref l)) (hl : s.heap.IsList l vs.toArray) (hi : IntsAre vs script) (hsz : script.length ≤ 100)
    (h : ∀ h' tk m' cm' ln vn lt ll u, Fr h₀ L h' m' → Cl L (cs L) h' cm' → h'.IsList ln vn.toArray → IntsAre vn ((script ++ [6, 2, 8]).take 4) → h₀.objs.size ≤ lt → h₀.objs.size ≤ ll → PlainL h' lt ([] : List Value).toArray → PlainL h' ll ([] : List Value).toArray → lt ≠ ll → ln ≠ lt →
      m' "numbers" = some (.ref ln) → m' "total" = some (.int ((script ++ [6, 2, 8]).take 4).sum u) → m' "typed" = some (.ref lt) → cm' "labels" = some (.ref ll) →
      wpAny (model pp w) A (execs (lawB.drop 3) (lawEnv L f cd)) R E { s with heap := h', toks := tk }) :
    wpAny (model pp w) A (execs lawB (lawEnv L f cd)) R E s := by
  have g : Gd w mean mg mb s.heap := G.keeps F.keep
  have hlv : vs.length ≤ 100 := by rw [hi.length]; exact hsz
  conv at h in execs _ _ => arg 1; whnf
  walk_at "body"
  refine wpAny_execs_cons ?_
  refine wpAny_Assign_Name ?_
  refine Subscript_ ?_
  refine wpAny_BinOp ?_
  walk_at "L"
  refine dispI (ns := [6, 2, 8]) rfl (by decide) ?_
  intro h₁ tk₁ l₁ vs₁ x₁ hL₁ hI₁
  (try dsimp only at x₁ ⊢)
  refine addI (isListOn hl x₁) hi hL₁ hI₁ (by simp; omega) ?_
  intro h₂ l₂ x₂ hL₂ hI₂
  (try dsimp only at x₂ hL₂ ⊢)
  refine wpAny_Slice ?_
  rw [evalPart_some, evalPart_none]
  refine wpAny_pure ?_
  walk_at "I"
  refine wpAny_pure ?_
  refine kba_turn (value' := .Name "" ⟨0, 0, 0, 0⟩) (fun _ => rfl) ?_
  refine sliceL hL₂ (lo := none) (hi := some 4) .none (.int _ _) (by rw [hI₂.length]; simp; omega) (fun h₃ l₃ x₃ _ hg₃ => ?_) (by kernel_rfl) (by intro _; kernel_rfl)
  (try dsimp only at x₃ ⊢)
  have hI₃ : IntsAre (slicePick (vs ++ vs₁).toArray none (some 4) none).toList ((script ++ [6, 2, 8]).take 4) := slice_ints_uptoW hI₂ (y := 4) (by decide)
  have F₃ := frOn F (Ext.trans x₁ (Ext.trans x₂ x₃))
  have X₃ := clOn X (Ext.trans x₁ (Ext.trans x₂ x₃))
  have hL₃ : h₃.IsList l₃ (slicePick (vs ++ vs₁).toArray none (some 4) none).toList.toArray := by rw [Array.toArray_toList]; exact isListG hg₃
  generalize (slicePick (vs ++ vs₁).toArray none (some 4) none).toList = vn at hI₃ hL₃
  refine stL F₃ X₃ (fun h₄ F₄ X₄ b₄ => ?_) (by kernel_rfl)
  (try dsimp only at F₄ b₄ ⊢)
  have hL₄ := listBut hL₃ F₃.ns b₄
  have g₄ : Gd w mean mg mb h₄ := G.keeps F₄.keep
  -- total
  refine wpAny_execs_cons ?_
  refine wpAny_Assign_Name ?_
  walk_at "C1"
  walk_at "B"
  walk_at "CB"
  walk_at "A"
  walk_at "L"
  refine args_nil (sumL hh hL₄ hI₃ ?_)
  intro h₅ tk₅ t₅ x₅
  (try dsimp only at x₅ ⊢)
  have F₅ := frOn F₄ x₅
  have X₅ := clOn X₄ x₅
  refine stL F₅ X₅ (fun h₆ F₆ X₆ b₆ => ?_) (by kernel_rfl)
  (try dsimp only at F₆ b₆ ⊢)
  have hL₆ := listBut (isListOn hL₄ x₅) F₅.ns b₆
  -- typed, labels
  refine wpAny_execs_cons ?_
  refine Assign_Tuple ?_ (by kernel_rfl) (by kernel_rfl)
  refine Tuple_ ?_
  walk_at "A"
  refine List_ (args_nil (newL (vs := []) (by decide) ?_))
  intro h₇ x₇ hg₇
  (try dsimp only at x₇ hg₇ ⊢)
  have F₇ := frOn F₆ x₇
  have hlo : h₀.objs.size ≤ h₆.objs.size := by obtain ⟨oL, _, _, hoL, _⟩ := id F₆.ns; exact Nat.le_of_lt (Nat.lt_of_le_of_lt F₆.above (Heap.lt_size hoL))
  have hlt7 : h₆.objs.size < h₇.objs.size := Heap.lt_size hg₇
  have hL₆' : l₃ < h₆.objs.size := by obtain ⟨o, ho, _⟩ := id hL₆; exact Heap.lt_size ho
  generalize hlt : h₆.objs.size = lt at *
  walk_at "A"
  refine List_ (args_nil (newL (vs := []) (by decide) ?_))
  intro h₈ x₈ hg₈
  (try dsimp only at x₈ hg₈ ⊢)
  have F₈ := frOn F₇ x₈
  generalize hll : h₇.objs.size = ll at *
  refine args_nil (newT (by show 2 ≤ 1000000; decide) ?_)
  intro h₉ a₉ x₉ _ hg₉
  (try dsimp only at x₉ hg₉ ⊢)
  have F₉ := frOn F₈ x₉
  have X₉ := clOn X₆ (Ext.trans x₇ (Ext.trans x₈ x₉))
  refine assign_Tuple_tuple hh (t := a₉) (items := #[.ref lt, .ref ll]) ⟨_, hg₉, rfl, _, rfl⟩ (by kernel_rfl) (by kernel_rfl) ?_
  intro h₁₀ e₁₀
  have x₁₀ : Ext h₉ h₁₀ := fun b o e => e₁₀ b o (Nat.ne_of_lt (Heap.lt_size e)) e
  (try dsimp only)
  have F₁₀ := frOn F₉ x₁₀
  have X₁₀ := clOn X₉ x₁₀
  refine assignInOrder_cons (assign_Name ?_)
  refine stL F₁₀ X₁₀ (fun h₁₁ F₁₁ X₁₁ b₁₁ => ?_) (by kernel_rfl)
  (try dsimp only at F₁₁ b₁₁ ⊢)
  refine assignInOrder_cons (assign_Name ?_)
  refine stLab F₁₁ X₁₁ (fun h₁₂ F₁₂ X₁₂ b₁₂ => ?_)
  (try dsimp only at F₁₂ X₁₂ b₁₂ ⊢)
  refine assignInOrder_nil ?_
  have n1 : lt ≠ L := list_ne (plainNew (vs := []) hg₇).isList F₇.ns
  have n2 : ll ≠ L := list_ne (plainNew (vs := []) hg₈).isList F₈.ns
  have n3 : lt ≠ L + 1 := list_ne_cell (plainNew (vs := []) hg₇).isList (clOn X₆ x₇)
  have n4 : ll ≠ L + 1 := list_ne_cell (plainNew (vs := []) hg₈).isList (clOn X₆ (Ext.trans x₇ x₈))
  have n5 : l₃ ≠ L + 1 := list_ne_cell hL₆ X₆
  have n6 : l₃ ≠ L := list_ne hL₆ F₆.ns
  have PT : PlainL h₁₂ lt ([] : List Value).toArray := plainBut (plainNew (vs := []) hg₇) (fun o e => b₁₂ _ _ n3 (b₁₁ _ _ n1 (x₁₀ _ _ (x₉ _ _ (x₈ _ _ e)))))
  have PL : PlainL h₁₂ ll ([] : List Value).toArray := plainBut (plainNew (vs := []) hg₈) (fun o e => b₁₂ _ _ n4 (b₁₁ _ _ n2 (x₁₀ _ _ (x₉ _ _ e))))
  have NL : h₁₂.IsList l₃ vn.toArray := by
    obtain ⟨o, ho, hc⟩ := hL₆
    exact ⟨o, b₁₂ _ _ n5 (b₁₁ _ _ n6 (x₁₀ _ _ (x₉ _ _ (x₈ _ _ (x₇ _ _ ho))))), hc⟩
  have n7 : l₃ ≠ lt := Nat.ne_of_lt hL₆'
  exact h h₁₂ _ _ _ l₃ vn lt ll _ F₁₂ X₁₂ NL hI₃ hlo (by omega) PT PL (by omega) n7 rfl rfl rfl rfl
end
end Mine
end
-- part W14
section
open PySem PySem.W PyProof.Rows PySem.Calls
namespace Mine
local macro_rules | `(tactic| walk_at "L") => `(tactic| (refine' ldL ?fF ?fH ?_ (by kernel_rfl) (by kernel_rfl); (case fF => assumption); (case fH => first | exact rfl | assumption); (try dsimp only)))
local macro_rules | `(tactic| walk_at "B") => `(tactic| (refine' bltE ?fG ?fB (by kernel_rfl) (by kernel_rfl) rfl rfl lawK (by kernel_rfl) (by kernel_rfl) ?_; (case fG => assumption); (case fB => first | exact bb_ord | exact bb_chr | exact bb_len | exact bb_sum | exact bb_sorted | exact bb_range | exact bb_list | exact bb_str); (try dsimp only)))
local macro_rules | `(tactic| walk_at "C1") => `(tactic| (refine Call_ ?_ (by kernel_rfl)))
local macro_rules | `(tactic| walk_at "CB") => `(tactic| (refine callWith_builtin1 ?_ (by kernel_rfl) (by kernel_rfl)))
local macro_rules | `(tactic| walk_at "A") => `(tactic| (refine args_cons ?_ (by kernel_rfl)))
local macro_rules | `(tactic| walk_at "I") => `(tactic| (refine wpAny_Constant_int ?_; dsimp only))
local macro_rules | `(tactic| walk_at "body") => `(tactic| conv in execs _ _ => arg 1; whnf)
theorem ints_item : ∀ {vs : List Value} {ns : List Int}, IntsAre vs ns → ∀ (i : Nat) (v : Value), vs[i]? = some v → ∃ n t, v = .int n t ∧ ns[i]? = some n
  | _, _, .nil, i, v, h => by simp at h
  | _, _, .cons n t r, 0, v, h => by simp at h; exact ⟨n, t, h.symm, rfl⟩
  | _, _, .cons n t r, i + 1, v, h => by simp at h; simpa using ints_item r i v h
section
variable {w : World} {mean : ExcName → Option Value} {mg mb : Str → Option Value} {A : Around} {E : Value → Shared → Prop} {s : Shared} {R : Flow → Shared → Prop} {L f : Addr} {cd : Value} {h₀ : Heap} {m cm : Str → Option Value}
theorem clAt {h h' : Heap} (X : Cl L (cs L) h cm) (k : ∀ o, h.get? (L + 1) = some o → h'.get? (L + 1) = some o) : Cl L (cs L) h' cm :=
  ⟨fun n c e => by
    obtain ⟨o, ho, hd⟩ := X.cell n c e
    have hc : c = L + 1 := by
      have := mem_of_lookup e
      rw [cs_eq] at this
      simp at this
      exact this.2
    subst hc
    exact ⟨o, k o ho, hd⟩, X.apart, X.above⟩
theorem ne_up {a b c : Nat} (h : a < c) (hb : c ≤ b) : b ≠ a := fun e => Nat.lt_irrefl _ (Nat.lt_of_lt_of_le h (e ▸ hb))
theorem meant_two (x : Int) : (meantS x).length ≤ 2 := by have := (label_ok x).two; simpa [labelPc] using this
set_option maxRecDepth 100000 in
set_option maxHeartbeats 2000000 in
/-- the loop over the numbers -/
theorem law_b (G : Gd w mean mg mb h₀) (F : Fr h₀ L s.heap m) (X : Cl L (cs L) s.heap cm) (hh : A.handled = none) (hroom : A.depth + 2 < recursionLimit) {ln lt ll : Addr} {vn : List Value} {ns : List Int} {T : Int} {u : Tok}
    (hN : s.heap.IsList ln vn.toArray) (hI : IntsAre vn ns) (hns : ns.length ≤ 4) (hlt : h₀.objs.size ≤ lt) (hll : h₀.objs.size ≤ ll) (PT : PlainL s.heap lt ([] : List Value).toArray) (PL : PlainL s.heap ll ([] : List Value).toArray) (hne : lt ≠ ll) (nlt : ln ≠ lt)
    (m1 : m "numbers" = some (.ref ln)) (m2 : m "total" = some (.int T u)) (m3 : m "typed" = some (.ref lt)) (c1 : cm "labels" = some (.ref ll))
    (h : ∀ h' tk m' cm' ll vt vl, Fr h₀ L h' m' → Cl L (cs L) h' cm' → h₀.objs.size ≤ ll → PlainL h' lt (vt : List Value).toArray → PlainL h' ll (vl : List Value).toArray → StrsAre vt (ns.map typedS) → StrsAre vl (ns.flatMap meantS) → lt ≠ ll →
      m' "total" = some (.int T u) → m' "typed" = some (.ref lt) → cm' "labels" = some (.ref ll) →
      wpAny (model pp w) A (execs (lawB.drop 4) (lawEnv L f cd)) R E { s with heap := h', toks := tk }) :
    wpAny (model pp w) A (execs (lawB.drop 3) (lawEnv L f cd)) R E s := by
  have g : Gd w mean mg mb s.heap := G.keeps F.keep
  conv at h in execs _ _ => arg 1; whnf
  walk_at "body"
  have nl1 : ln ≠ L := list_ne hN F.ns
  have nl2 : lt ≠ L := list_ne PT.isList F.ns
  have nc1 : ln ≠ L + 1 := list_ne_cell hN X
  have nc2 : lt ≠ L + 1 := list_ne_cell PT.isList X
  have hc := cell_lt X
  have hNs : ln < s.heap.objs.size := by obtain ⟨o, ho, _⟩ := id hN; exact Heap.lt_size ho
  have hTs := PT.lt
  have hLs := PL.lt
  refine wpAny_execs_cons ?_
  refine wpAny_For ?_
  walk_at "L"
  refine loopListW (h₀ := h₀) (vs := vn) (fun i h m => ∃ (vt vl : List Value) (ll : Addr) (cm : Str → Option Value), h.IsList ln vn.toArray ∧ PlainL h lt vt.toArray ∧ PlainL h ll vl.toArray ∧ h₀.objs.size ≤ ll ∧ ll ≠ s.heap.objs.size ∧ ll ≠ L ∧ lt ≠ ll ∧ StrsAre vt ((ns.take i).map typedS) ∧ StrsAre vl ((ns.take i).flatMap meantS) ∧ Cl L (cs L) h cm ∧ cm "labels" = some (.ref ll) ∧ m "total" = some (.int T u) ∧ m "typed" = some (.ref lt))
    hh (by kernel_rfl) (by kernel_rfl) (fun i h m q => by obtain ⟨_, _, _, _, q, _⟩ := q; exact q) F ⟨[], [], ll, cm, hN, PT, PL, hll, Nat.ne_of_lt hLs, list_ne PL.isList F.ns, hne, .nil, .nil, X, c1, m2, m3⟩ ?st ?step ?done
  case st =>
    rintro i a b m' ⟨vt, vl, lb, cm', q1, q2, q3, q4, q5, q6, q7, q8, q9, q10, q11⟩ k
    refine ⟨vt, vl, lb, cm', ?_, plainBut q2 (fun o e => k _ _ (Nat.ne_of_lt hTs) nl2 e), plainBut q3 (fun o e => k _ _ q5 q6 e), q4, q5, q6, q7, q8, q9, clAt q10 (fun o e => k _ _ (Nat.ne_of_lt hc) (Nat.ne_of_gt (Nat.lt_succ_self L)) e), q11⟩
    obtain ⟨o, ho, hcl⟩ := q1
    exact ⟨o, k _ _ (Nat.ne_of_lt hNs) nl1 ho, hcl⟩
  case step =>
    rintro i v h₁ tk₁ m₁ hv hsz F₁ ⟨vt, vl, lb, cm', q1, q2, q3, q4, q5, q6, q7, q8, q9, q10, q11, n1, n2⟩
    obtain ⟨x, tx, rfl, hx⟩ := ints_item hI i v hv
    have g₁ : Gd w mean mg mb h₁ := G.keeps F₁.keep
    have hL : L < s.heap.objs.size := Nat.lt_trans (Nat.lt_succ_self L) hc
    refine wpAny_execs_cons ?_
    refine Assign_Tuple ?_ (by kernel_rfl) (by kernel_rfl)
    refine callDE (i := 5) (by decide) nm5 g₁ rfl lawK (by kernel_rfl) (by kernel_rfl) (by kernel_rfl) ?_
    intro f5 hf5
    walk_at "A"
    walk_at "L"
    refine args_nil ⟨Ext.refl _, ?_⟩
    refine spec_label g₁ hf5 (by omega) hh ?_
    intro h₂ tk₂ a₂ u₂ l₂ vs₂ x₂ hg₂ hL₂ hS₂ hn₂
    (try dsimp only at x₂ hg₂ hL₂ hn₂ ⊢)
    have F₂ := frOn F₁ x₂
    have X₂ := clOn q10 x₂
    refine assign_Tuple_tuple hh (t := a₂) (items := #[.str (typedS x) u₂, .ref l₂]) ⟨_, hg₂, rfl, _, rfl⟩ (by kernel_rfl) (by kernel_rfl) ?_
    intro h₃ e₃
    have x₃ : Ext h₂ h₃ := fun b o e => e₃ b o (Nat.ne_of_lt (Heap.lt_size e)) e
    (try dsimp only)
    have F₃ := frOn F₂ x₃
    have X₃ := clOn X₂ x₃
    have hL₃ := isListOn hL₂ x₃
    refine assignInOrder_cons (assign_Name ?_)
    refine stL F₃ X₃ (fun h₄ F₄ X₄ b₄ => ?_) (by kernel_rfl)
    (try dsimp only at F₄ b₄ ⊢)
    have hL₄ := listBut hL₃ F₃.ns b₄
    refine assignInOrder_cons (assign_Name ?_)
    refine stL F₄ X₄ (fun h₅ F₅ X₅ b₅ => ?_) (by kernel_rfl)
    (try dsimp only at F₅ b₅ ⊢)
    have hL₅ := listBut hL₄ F₄.ns b₅
    refine assignInOrder_nil ?_
    have up : ∀ b o, b ≠ L → h₁.get? b = some o → h₅.get? b = some o := fun b o hb e => b₅ _ _ hb (b₄ _ _ hb (x₃ _ _ (x₂ _ _ e)))
    have PT₅ := plainBut q2 (fun o e => up _ _ nl2 e)
    have PL₅ := plainBut q3 (fun o e => up _ _ q6 e)
    have lv1 : vt.length ≤ 4 := by rw [q8.len_eq, List.length_map]; exact Nat.le_trans (List.length_take_le' _ _) hns
    have lv2 : vl.length ≤ 8 := by
      rw [q9.len_eq]
      refine Nat.le_trans (flat_len (n := 2) (fun a _ => meant_two a)) ?_
      have := List.length_take_le' i ns
      omega
    -- typed.append(one)
    refine wpAny_execs_cons ?_
    refine wpAny_Expr ?_
    refine wpAny_Call_append rfl rfl rfl rfl ?_
    walk_at "L"
    refine ⟨lt, vt.toArray, rfl, PT₅, ?_⟩
    walk_at "L"
    refine list_append_plainL PT₅ (fun h₆ P₆ sb₆ => ?_) (by rw [List.size_toArray, sizeLine_eq]; omega)
    (try dsimp only at sb₆ ⊢)
    rw [List.push_toArray] at P₆
    have F₆ := frBut F₅ (Ne.symm nl2) hlt (fun b o hb e => (sb₆.2 b hb).trans e)
    have X₆ := clBut X₅ nc2 (fun b o hb e => (sb₆.2 b hb).trans e)
    have PL₆ := plainBut PL₅ (fun o e => (sb₆.2 _ (Ne.symm q7)).trans e)
    have hml : l₂ ≠ lt := by
      rintro rfl
      obtain ⟨o, _, ho, _⟩ := q2
      rw [hn₂] at ho; cases ho
    have hL₆ : h₆.IsList l₂ vs₂.toArray := by obtain ⟨o, ho, hcl⟩ := hL₅; exact ⟨o, (sb₆.2 _ hml).trans ho, hcl⟩
    -- labels = labels + meant
    refine wpAny_execs_cons ?_
    refine wpAny_Assign_Name ?_
    refine wpAny_BinOp ?_
    refine ldLab X₆ q11 ?_
    walk_at "L"
    have lv3 : vs₂.length ≤ 2 := by rw [hS₂.len_eq]; exact meant_two x
    refine addL PL₆.isList hL₆ (by omega) ?_
    intro h₇ x₇ hg₇
    (try dsimp only at x₇ hg₇ ⊢)
    have F₇ := frOn F₆ x₇
    have X₇ := clOn X₆ x₇
    refine stLab F₇ X₇ (fun h₈ F₈ X₈ b₈ => ?_)
    (try dsimp only at F₈ X₈ b₈ ⊢)
    refine wpAny_execs_nil ?_
    have nl3 : h₆.objs.size ≠ L := list_ne (plainNew hg₇).isList F₇.ns
    have nc3 : h₆.objs.size ≠ L + 1 := list_ne_cell (plainNew hg₇).isList X₇
    have up2 : ∀ b o, b ≠ L → b ≠ lt → b ≠ L + 1 → h₁.get? b = some o → h₈.get? b = some o := fun b o hb hb2 hb3 e => b₈ _ _ hb3 (x₇ _ _ ((sb₆.2 _ hb2).trans (up _ _ hb e)))
    obtain ⟨oI, hoI⟩ := hsz
    have nIL : s.heap.objs.size ≠ L := Nat.ne_of_gt hL
    have nIT : s.heap.objs.size ≠ lt := Nat.ne_of_gt hTs
    have nIC : s.heap.objs.size ≠ L + 1 := Nat.ne_of_gt hc
    have hIT : s.heap.objs.size < h₆.objs.size := Heap.lt_size ((sb₆.2 _ nIT).trans (up _ _ nIL hoI))
    have hnt : ln ≠ lt := nlt
    have h₀I : h₀.objs.size ≤ h₆.objs.size := Nat.le_trans hlt (Nat.le_of_lt P₆.lt)
    refine ⟨rfl, h₈, _, _, rfl, fun b o hb e => up2 b o (ne_up hL hb) (ne_up hTs hb) (ne_up hc hb) e, F₈, vt ++ [.str (typedS x) u₂], vl ++ vs₂, h₆.objs.size, _, ?_, plainBut P₆ (fun o e => b₈ _ _ nc2 (x₇ _ _ e)), plainBut (plainNew hg₇) (fun o e => b₈ _ _ nc3 e), h₀I, Nat.ne_of_gt hIT, nl3, Nat.ne_of_lt P₆.lt, ?_, ?_, X₈, rfl, n1, n2⟩
    · obtain ⟨o, ho, hcl⟩ := q1
      exact ⟨o, up2 _ _ nl1 hnt nc1 ho, hcl⟩
    · rw [List.take_add_one, hx]; simp only [Option.toList, List.map_append, List.map_cons, List.map_nil]
      exact StrsAre.app q8 (.cons _ _ .nil)
    · rw [List.take_add_one, hx]; simp only [Option.toList, List.flatMap_append, List.flatMap_cons, List.flatMap_nil, List.append_nil]
      exact StrsAre.app q9 hS₂
  case done =>
    rintro h₁ tk₁ m₁ F₁ ⟨vt, vl, lb, cm', q1, q2, q3, q4, q5, q6, q7, q8, q9, q10, q11, n1, n2⟩
    rw [hI.length, List.take_length] at q8 q9
    (try dsimp only)
    exact h h₁ _ m₁ cm' lb vt vl F₁ q10 q4 q2 q3 q8 q9 q7 n1 n2 q11
end
end Mine
end
-- part W15
section
open PySem PySem.W PyProof.Rows PySem.Calls
namespace Mine
local macro_rules | `(tactic| walk_at "L") => `(tactic| (refine' ldL ?fF ?fH ?_ (by kernel_rfl) (by kernel_rfl); (case fF => assumption); (case fH => first | exact rfl | assumption); (try dsimp only)))
local macro_rules | `(tactic| walk_at "B") => `(tactic| (refine' bltE ?fG ?fB (by kernel_rfl) (by kernel_rfl) rfl rfl lawK (by kernel_rfl) (by kernel_rfl) ?_; (case fG => assumption); (case fB => first | exact bb_ord | exact bb_chr | exact bb_len | exact bb_sum | exact bb_sorted | exact bb_range | exact bb_list | exact bb_str); (try dsimp only)))
local macro_rules | `(tactic| walk_at "C1") => `(tactic| (refine Call_ ?_ (by kernel_rfl)))
local macro_rules | `(tactic| walk_at "CB") => `(tactic| (refine callWith_builtin1 ?_ (by kernel_rfl) (by kernel_rfl)))
local macro_rules | `(tactic| walk_at "A") => `(tactic| (refine args_cons ?_ (by kernel_rfl)))
local macro_rules | `(tactic| walk_at "I") => `(tactic| (refine wpAny_Constant_int ?_; (try dsimp only)))
local macro_rules | `(tactic| walk_at "body") => `(tactic| conv in execs _ _ => arg 1; whnf)
theorem log_small {a : Int} (h0 : 0 ≤ a) (h1 : a < 1000) : a.natAbs.log2 < 1920 := by
  by_cases q : a.natAbs = 0
  · rw [q]; decide
  · exact Nat.lt_trans ((Nat.log2_lt q).mpr (show a.natAbs < 2 ^ 10 by omega)) (by decide)
theorem typed_len (x : Int) : (typedS x).length ≤ 5 := by have := (label_ok x).len; rw [← toL_len]; exact this
theorem lastTyped_len (T : Int) : (lastTypedS T).length ≤ 5 := by have := (last_ok T).len; rw [← toL_len]; exact this
theorem typedAll_len (ns : List Int) (T : Int) : ∀ y ∈ typedAll ns T, y.length ≤ 5 := by
  intro y hy
  rcases List.mem_append.mp hy with q | q
  · obtain ⟨x, _, rfl⟩ := List.mem_map.mp q; exact typed_len x
  · simp at q; rw [q]; exact lastTyped_len T
section
variable {w : World} {mean : ExcName → Option Value} {mg mb : Str → Option Value} {A : Around} {E : Value → Shared → Prop} {s : Shared} {R : Flow → Shared → Prop} {L f : Addr} {cd : Value} {h₀ : Heap} {m cm : Str → Option Value}
set_option maxRecDepth 100000 in
set_option maxHeartbeats 2000000 in
/-- kind, figures, hidden -/
theorem law_c (F : Fr h₀ L s.heap m) (G : Gd w mean mg mb h₀) (X : Cl L (cs L) s.heap cm) (hh : A.handled = none) {lt ll : Addr} {vt vl : List Value} {T : Int} {u : Tok}
    (PT : PlainL s.heap lt vt.toArray) (PL : PlainL s.heap ll vl.toArray) (m2 : m "total" = some (.int T u)) (m3 : m "typed" = some (.ref lt))
    (h : ∀ h' tk m' u1 u2 u3, Fr h₀ L h' m' → Cl L (cs L) h' cm → PlainL h' lt vt.toArray → PlainL h' ll vl.toArray →
      m' "total" = some (.int T u) → m' "typed" = some (.ref lt) → m' "kind" = some (.int (T.fmod 5) u1) → m' "figures" = some (.str (figS T) u2) → m' "hidden" = some (.str (hidS T) u3) →
      wpAny (model pp w) A (execs (lawB.drop 6) (lawEnv L f cd)) R E { s with heap := h', toks := tk }) :
    wpAny (model pp w) A (execs (lawB.drop 4) (lawEnv L f cd)) R E s := by
  have g : Gd w mean mg mb s.heap := G.keeps F.keep
  conv at h in execs _ _ => arg 1; whnf
  walk_at "body"
  have nl2 : lt ≠ L := list_ne PT.isList F.ns
  have nl3 : ll ≠ L := list_ne PL.isList F.ns
  have m1000 : 0 ≤ (T.fdiv 5).fmod 1000 := Int.fmod_nonneg_of_pos _ (by decide)
  have m1000' : (T.fdiv 5).fmod 1000 < 1000 := Int.fmod_lt_of_pos _ (by decide)
  have p2 : 0 ≤ (T.fdiv 135).fmod 2 := Int.fmod_nonneg_of_pos _ (by decide)
  have p2' : (T.fdiv 135).fmod 2 < 2 := Int.fmod_lt_of_pos _ (by decide)
  refine wpAny_execs_cons ?_
  refine Assign_Tuple_swapped (names := ["kind", "figures"]) ?_ (by kernel_rfl) (by kernel_rfl)
  refine Tuple_ ?_
  walk_at "A"
  refine wpAny_BinOp ?_
  walk_at "L"
  walk_at "I"
  refine mod_int' (by decide) ?_
  (try dsimp only)
  walk_at "A"
  walk_at "C1"
  walk_at "B"
  refine Pv.callWith_type1 ?_ (by kernel_rfl) (by kernel_rfl)
  walk_at "A"
  refine wpAny_BinOp (wpAny_BinOp ?_)
  walk_at "L"
  walk_at "I"
  refine floordiv_int (by decide) ?_
  walk_at "I"
  refine mod_int' (by decide) (args_nil (P.str_of_int (log_small m1000 m1000') ?_))
  (try dsimp only)
  refine args_nil (newT (by show 2 ≤ 1000000; decide) ?_)
  intro h₁ a₁ x₁ _ hg₁
  (try dsimp only at x₁ hg₁ ⊢)
  have F₁ := frOn F x₁
  have X₁ := clOn X x₁
  refine unpackItems_tuple hh (t := a₁) (items := #[_, _]) ⟨_, hg₁, rfl, _, rfl⟩ ?_
  intro h₂ e₂
  have x₂ : Ext h₁ h₂ := fun b o e => e₂ b o (Nat.ne_of_lt (Heap.lt_size e)) e
  (try dsimp only)
  have F₂ := frOn F₁ x₂
  have X₂ := clOn X₁ x₂
  refine assignInOrder_cons (bindName_ ?_)
  refine stL F₂ X₂ (fun h₃ F₃ X₃ b₃ => ?_) (by kernel_rfl)
  (try dsimp only at F₃ b₃ ⊢)
  refine assignInOrder_cons (bindName_ ?_)
  refine stL F₃ X₃ (fun h₄ F₄ X₄ b₄ => ?_) (by kernel_rfl)
  (try dsimp only at F₄ b₄ ⊢)
  refine assignInOrder_nil ?_
  have PT₄ := plainBut PT (fun o e => b₄ _ _ nl2 (b₃ _ _ nl2 (x₂ _ _ (x₁ _ _ e))))
  have PL₄ := plainBut PL (fun o e => b₄ _ _ nl3 (b₃ _ _ nl3 (x₂ _ _ (x₁ _ _ e))))
  -- hidden
  refine wpAny_execs_cons ?_
  refine wpAny_Assign_Name ?_
  refine Subscript_ (List_ ?_)
  walk_at "A"
  walk_at "L"
  walk_at "A"
  refine wpAny_Constant_str ?_
  (try dsimp only)
  refine args_nil (newS (ys := [figS T, Str.ofString ""]) (.cons _ _ (.cons _ _ .nil)) (by show 2 ≤ 1000000; decide) ?_)
  intro h₅ l₅ x₅ _ hL₅
  (try dsimp only at x₅ hL₅ ⊢)
  have F₅ := frOn F₄ x₅
  have X₅ := clOn X₄ x₅
  refine wpAny_BinOp (wpAny_BinOp ?_)
  walk_at "L"
  walk_at "I"
  refine floordiv_int (by decide) ?_
  walk_at "I"
  refine mod_int' (by decide) ?_
  (try dsimp only)
  refine kba_turn (value' := .Name "" ⟨0, 0, 0, 0⟩) (fun _ => rfl) ?_
  refine item_strsA hL₅ (ys := [figS T, Str.ofString ""]) (.cons _ _ (.cons _ _ .nil)) p2 (by show _ < ((2 : Nat) : Int); exact p2') (by omega) ?_ (by kernel_rfl) (by intro _; kernel_rfl)
  intro t₅
  refine stL F₅ X₅ (fun h₆ F₆ X₆ b₆ => ?_) (by kernel_rfl)
  (try dsimp only at F₆ b₆ ⊢)
  have PT₆ := plainBut PT₄ (fun o e => b₆ _ _ nl2 (x₅ _ _ e))
  have PL₆ := plainBut PL₄ (fun o e => b₆ _ _ nl3 (x₅ _ _ e))
  exact h h₆ _ _ _ _ _ F₆ X₆ PT₆ PL₆ m2 m3 rfl rfl rfl
set_option maxRecDepth 100000 in
set_option maxHeartbeats 2000000 in
/-- the last typed part, the last label, the host -/
theorem law_d (G : Gd w mean mg mb h₀) (F : Fr h₀ L s.heap m) (X : Cl L (cs L) s.heap cm) (hh : A.handled = none) (hroom : A.depth + 2 < recursionLimit) {lt ll : Addr} {vt vl : List Value} {ns : List Int} {T : Int} {u u1 u2 u3 : Tok} (hns : ns.length ≤ 4)
    (hlt : h₀.objs.size ≤ lt) (hll : h₀.objs.size ≤ ll) (hne : lt ≠ ll)
    (PT : PlainL s.heap lt vt.toArray) (PL : PlainL s.heap ll vl.toArray) (ST : StrsAre vt (ns.map typedS)) (SL : StrsAre vl (ns.flatMap meantS))
    (m2 : m "total" = some (.int T u)) (m3 : m "typed" = some (.ref lt)) (m4 : m "kind" = some (.int (T.fmod 5) u1)) (m5 : m "figures" = some (.str (figS T) u2)) (m6 : m "hidden" = some (.str (hidS T) u3)) (c1 : cm "labels" = some (.ref ll))
    (h : ∀ h' tk m' vl' u4, Fr h₀ L h' m' → Cl L (cs L) h' cm → h'.IsList ll (vl' : List Value).toArray → StrsAre vl' (labelsAll ns T) →
      m' "kind" = some (.int (T.fmod 5) u1) → m' "host" = some (.str (hostS ns T) u4) →
      wpAny (model pp w) A (execs (lawB.drop 9) (lawEnv L f cd)) R E { s with heap := h', toks := tk }) :
    wpAny (model pp w) A (execs (lawB.drop 6) (lawEnv L f cd)) R E s := by
  have g : Gd w mean mg mb s.heap := G.keeps F.keep
  conv at h in execs _ _ => arg 1; whnf
  walk_at "body"
  have nl2 : lt ≠ L := list_ne PT.isList F.ns
  have nl3 : ll ≠ L := list_ne PL.isList F.ns
  have nc2 : lt ≠ L + 1 := list_ne_cell PT.isList X
  have nc3 : ll ≠ L + 1 := list_ne_cell PL.isList X
  have p5 : 0 ≤ T.fmod 5 := Int.fmod_nonneg_of_pos _ (by decide)
  have p5' : T.fmod 5 < 5 := Int.fmod_lt_of_pos _ (by decide)
  have lf : (figS T).length ≤ 3 := by rw [← toL_len]; exact (fig_is T).2.1
  have lh : (hidS T).length ≤ 3 := by rw [← toL_len]; exact (hid_is T).1
  have lv1 : vt.length ≤ 4 := by rw [ST.len_eq, List.length_map]; exact hns
  have lv2 : vl.length ≤ 8 := by
    rw [SL.len_eq]
    refine Nat.le_trans (flat_len (n := 2) (fun a _ => meant_two a)) ?_
    omega
  refine wpAny_execs_cons ?_
  refine wpAny_Expr ?_
  refine wpAny_Call_append rfl rfl rfl rfl ?_
  walk_at "L"
  refine ⟨lt, vt.toArray, rfl, PT, ?_⟩
  refine Subscript_ (List_ ?_)
  walk_at "A"
  refine wpAny_BinOp (wpAny_Constant_str ?_)
  walk_at "L"
  refine add_str (fun t₁ k₁ => ?_) (by rw [sizeLine_eq]; show 1 + (figS T).length ≤ _; omega)
  (try dsimp only)
  walk_at "A"
  refine wpAny_Constant_str ?_
  (try dsimp only)
  walk_at "A"
  refine wpAny_BinOp (wpAny_Constant_str ?_)
  (try dsimp only)
  walk_at "C1"
  walk_at "B"
  walk_at "CB"
  walk_at "A"
  walk_at "I"
  refine args_nil (chr_of_range (by decide) (by decide) ?_)
  refine add_str (fun t₂ k₂ => ?_) (by rw [sizeLine_eq]; show 4 + 1 ≤ 16777216; decide)
  (try dsimp only)
  walk_at "A"
  walk_at "L"
  walk_at "A"
  refine wpAny_BinOp ?_
  walk_at "L"
  refine callDE (i := 4) (by decide) nm4 g rfl lawK (by kernel_rfl) (by kernel_rfl) (by kernel_rfl) ?_
  intro f4 hf4
  walk_at "A"
  refine wpAny_BinOp ?_
  walk_at "L"
  walk_at "I"
  refine floordiv_int (by decide) ?_
  refine args_nil ⟨Ext.refl _, ?_⟩
  (try dsimp only)
  refine spec_unseen g hf4 (by omega) hh ?_
  intro h₁ tk₁ u₄ x₁
  (try dsimp only at x₁ ⊢)
  refine add_str (fun t₃ k₃ => ?_) (by rw [sizeLine_eq]; show (hidS T).length + 1 ≤ _; omega)
  (try dsimp only)
  have F₁ := frOn F x₁
  have X₁ := clOn X x₁
  refine args_nil (newS (ys := lastTyped T) (.cons _ _ (.cons _ _ (.cons _ _ (.cons _ _ (.cons _ _ .nil))))) (by show 5 ≤ 1000000; decide) ?_)
  intro h₂ l₂ x₂ _ hL₂
  (try dsimp only at x₂ hL₂ ⊢)
  have F₂ := frOn F₁ x₂
  have X₂ := clOn X₁ x₂
  walk_at "L"
  refine kba_turn (value' := .Name "" ⟨0, 0, 0, 0⟩) (fun _ => rfl) ?_
  refine item_strsA hL₂ (ys := lastTyped T) (.cons _ _ (.cons _ _ (.cons _ _ (.cons _ _ (.cons _ _ .nil))))) p5 (by show _ < ((5 : Nat) : Int); exact p5') (by omega) ?_ (by kernel_rfl) (by intro _; kernel_rfl)
  intro t₄
  refine list_append_plainL (plainBut PT (fun o e => x₂ _ _ (x₁ _ _ e))) (fun h₃ P₃ sb₃ => ?_) (by rw [List.size_toArray, sizeLine_eq]; omega)
  (try dsimp only at sb₃ ⊢)
  rw [List.push_toArray] at P₃
  have F₃ := frBut F₂ (Ne.symm nl2) hlt (fun b o hb e => (sb₃.2 b hb).trans e)
  have X₃ := clBut X₂ nc2 (fun b o hb e => (sb₃.2 b hb).trans e)
  have PL₃ := plainBut PL (fun o e => (sb₃.2 _ (Ne.symm hne)).trans (x₂ _ _ (x₁ _ _ e)))
  have ST₃ : StrsAre (vt ++ [.str (lastTypedS T) t₄]) (typedAll ns T) := StrsAre.app ST (.cons _ _ .nil)
  -- labels.append
  refine wpAny_execs_cons ?_
  refine wpAny_Expr ?_
  refine wpAny_Call_append rfl rfl rfl rfl ?_
  refine ldLab X₃ c1 ?_
  refine ⟨ll, vl.toArray, rfl, PL₃, ?_⟩
  refine Subscript_ (List_ ?_)
  walk_at "A"
  refine wpAny_BinOp (wpAny_Constant_str ?_)
  walk_at "L"
  refine add_str (fun t₅ k₅ => ?_) (by rw [sizeLine_eq]; show 1 + (figS T).length ≤ _; omega)
  (try dsimp only)
  walk_at "A"
  refine wpAny_Constant_str ?_
  (try dsimp only)
  walk_at "A"
  refine wpAny_Constant_str ?_
  (try dsimp only)
  walk_at "A"
  walk_at "L"
  walk_at "A"
  walk_at "L"
  refine args_nil (newS (ys := lastMeant T) (.cons _ _ (.cons _ _ (.cons _ _ (.cons _ _ (.cons _ _ .nil))))) (by show 5 ≤ 1000000; decide) ?_)
  intro h₄ l₄ x₄ _ hL₄
  (try dsimp only at x₄ hL₄ ⊢)
  have F₄ := frOn F₃ x₄
  have X₄ := clOn X₃ x₄
  walk_at "L"
  refine kba_turn (value' := .Name "" ⟨0, 0, 0, 0⟩) (fun _ => rfl) ?_
  refine item_strsA hL₄ (ys := lastMeant T) (.cons _ _ (.cons _ _ (.cons _ _ (.cons _ _ (.cons _ _ .nil))))) p5 (by show _ < ((5 : Nat) : Int); exact p5') (by omega) ?_ (by kernel_rfl) (by intro _; kernel_rfl)
  intro t₆
  refine list_append_plainL (plainBut PL₃ (fun o e => x₄ _ _ e)) (fun h₅ P₅ sb₅ => ?_) (by rw [List.size_toArray, sizeLine_eq]; omega)
  (try dsimp only at sb₅ ⊢)
  rw [List.push_toArray] at P₅
  have F₅ := frBut F₄ (Ne.symm nl3) hll (fun b o hb e => (sb₅.2 b hb).trans e)
  have X₅ := clBut X₄ nc3 (fun b o hb e => (sb₅.2 b hb).trans e)
  have PT₅ := plainBut P₃ (fun o e => (sb₅.2 _ hne).trans (x₄ _ _ e))
  have SL₅ : StrsAre (vl ++ [.str (lastMeantS T) t₆]) (labelsAll ns T) := StrsAre.app SL (.cons _ _ .nil)
  -- host
  refine wpAny_execs_cons ?_
  refine wpAny_Assign_Name ?_
  refine MethodCall_ (wpAny_Constant_str ?_)
  refine GM.join (callWith_method1 ?_ (by kernel_rfl) (by kernel_rfl))
  walk_at "A"
  walk_at "L"
  have hw : ((typedAll ns T).map (·.length)).sum + (typedAll ns T).length ≤ 1048576 := by
    have h1 := StrLaws.sumLen_le _ (typedAll_len ns T)
    have h2 : (typedAll ns T).length = ns.length + 1 := by simp [typedAll]
    omega
  refine args_nil (join_listW PT₅.isList (ys := typedAll ns T) (by exact ST₃) (by decide) hw (fun t₇ k₇ => ?_))
  rw [txtJoin]
  refine stL F₅ X₅ (fun h₆ F₆ X₆ b₆ => ?_) (by kernel_rfl)
  (try dsimp only at F₆ b₆ ⊢)
  exact h h₆ _ _ _ _ F₆ X₆ (plainBut P₅ (fun o e => b₆ _ _ nl3 e)).isList SL₅ m4 rfl
end
end Mine
end
-- part W16
section
open PySem PySem.W PyProof.Rows PySem.Calls
namespace Mine
local macro_rules | `(tactic| walk_at "L") => `(tactic| (refine' ldL ?fF ?fH ?_ (by kernel_rfl) (by kernel_rfl); (case fF => assumption); (case fH => first | exact rfl | assumption); (try dsimp only)))
local macro_rules | `(tactic| walk_at "B") => `(tactic| (refine' bltE ?fG ?fB (by kernel_rfl) (by kernel_rfl) rfl rfl lawK (by kernel_rfl) (by kernel_rfl) ?_; (case fG => assumption); (case fB => first | exact bb_ord | exact bb_chr | exact bb_len | exact bb_sum | exact bb_sorted | exact bb_range | exact bb_list | exact bb_str); (try dsimp only)))
local macro_rules | `(tactic| walk_at "C1") => `(tactic| (refine Call_ ?_ (by kernel_rfl)))
local macro_rules | `(tactic| walk_at "CB") => `(tactic| (refine callWith_builtin1 ?_ (by kernel_rfl) (by kernel_rfl)))
local macro_rules | `(tactic| walk_at "A") => `(tactic| (refine args_cons ?_ (by kernel_rfl)))
local macro_rules | `(tactic| walk_at "I") => `(tactic| (refine wpAny_Constant_int ?_; (try dsimp only)))
local macro_rules | `(tactic| walk_at "body") => `(tactic| conv in execs _ _ => arg 1; whnf)
theorem meant_len (x : Int) : ∀ y ∈ meantS x, y.length ≤ 5 := by
  have m5 : 0 ≤ x.fmod 5 := Int.fmod_nonneg_of_pos _ (by decide)
  have m5' : x.fmod 5 < 5 := Int.fmod_lt_of_pos _ (by decide)
  unfold meantS
  have hk : (x.fmod 5).toNat < 5 := by omega
  generalize (x.fmod 5).toNat = k at hk
  match k, hk with
  | 0, _ => intro y hy; simp [meantLs] at hy; subst hy; show (1 : Nat) ≤ 5; decide
  | 1, _ => intro y hy; simp [meantLs] at hy; subst hy; show (1 : Nat) ≤ 5; decide
  | 2, _ => intro y hy; simp [meantLs] at hy; subst hy; decide
  | 3, _ => intro y hy; simp [meantLs] at hy; rcases hy with rfl | rfl; decide; show (1 : Nat) ≤ 5; decide
  | 4, _ => intro y hy; simp [meantLs] at hy; subst hy; show (1 : Nat) ≤ 5; decide
theorem lastMeant_len (T : Int) : (lastMeantS T).length ≤ 5 := by
  have m5 : 0 ≤ T.fmod 5 := Int.fmod_nonneg_of_pos _ (by decide)
  have m5' : T.fmod 5 < 5 := Int.fmod_lt_of_pos _ (by decide)
  have lf : (figS T).length ≤ 3 := by rw [← toL_len]; exact (fig_is T).2.1
  have lh : (hidS T).length ≤ 3 := by rw [← toL_len]; exact (hid_is T).1
  unfold lastMeantS
  have hk : (T.fmod 5).toNat < 5 := by omega
  generalize (T.fmod 5).toNat = k at hk
  match k, hk with
  | 0, _ => show (Str.ofString "c" ++ figS T).length ≤ 5; rw [Str.length_append]; show 1 + _ ≤ 5; omega
  | 1, _ => show (Str.ofString "local").length ≤ 5; decide
  | 2, _ => show (Str.ofString "local").length ≤ 5; decide
  | 3, _ => show (figS T).length ≤ 5; omega
  | 4, _ => show (hidS T).length ≤ 5; omega
theorem labelsAll_len (ns : List Int) (T : Int) : ∀ y ∈ labelsAll ns T, y.length ≤ 5 := by
  intro y hy
  rcases List.mem_append.mp hy with q | q
  · obtain ⟨x, _, hx⟩ := List.mem_flatMap.mp q; exact meant_len x y hx
  · simp at q; rw [q]; exact lastMeant_len T
theorem sum_small {ys : List Str} {n B : Nat} (h : ∀ y ∈ ys, y.length ≤ B) (hl : ys.length ≤ n) (hs : n * B + n ≤ 1048576) : (ys.map (·.length)).sum + ys.length ≤ 1048576 := by
  have h1 := StrLaws.sumLen_le _ h
  have h2 : ys.length * B ≤ n * B := Nat.mul_le_mul_right _ hl
  omega
/-- the sign that a value holds -/
def signOf : Value → Nat
  | .str x _ => x.cps.getD 0 0
  | _ => 0
theorem strs_paired {g : Value → Str} : ∀ {vs ys : List Value}, Paired (fun v y => ∃ t, y = .str (g v) t) vs ys → StrsAre ys (vs.map g)
  | _, _, .nil => .nil
  | _, _, .cons ⟨t, e⟩ r => by subst e; exact .cons _ t (strs_paired r)
theorem signs_map {x : Str} {vs : List Value} (hl : vs.length = x.cps.size) (hP : ∀ j v, vs[j]? = some v → SignAt x j v) (g : Nat → Str) : vs.map (fun v => g (signOf v)) = (toL x).map g := by
  apply List.ext_getElem?
  intro j
  rw [List.getElem?_map, List.getElem?_map]
  rcases Nat.lt_or_ge j vs.length with h | h
  · obtain ⟨c, u, h1, h2⟩ := hP j vs[j] (List.getElem?_eq_getElem h)
    rw [List.getElem?_eq_getElem h, h2]
    have : (toL x)[j]? = some c := by simpa [toL] using h1
    rw [this]; rfl
  · rw [List.getElem?_eq_none h, List.getElem?_eq_none (by rw [toL_len]; show x.cps.size ≤ j; omega)]
    rfl
section
variable {w : World} {mean : ExcName → Option Value} {mg mb : Str → Option Value} {A : Around} {E : Value → Shared → Prop} {s : Shared} {R : Flow → Shared → Prop} {L f : Addr} {cd : Value} {h₀ : Heap} {m cm : Str → Option Value}
theorem ldK {scope : Scope} {cl : List (Str × Addr)} {C : Addr} {x : Str} {pos : Pos} {v : Value} {Q : Value → Shared → Prop} {mm : Str → Option Value} (F : s.heap.Ns C mm) (hv : mm x = some v) (h : Q v s)
    (hk : (compEnvC scope cl C (lawEnv L f cd)).scope.kind = .function) (hl : (compEnvC scope cl C (lawEnv L f cd)).kindOf x = some .local) (hd : (x == ("__debug__" : Str)) = false) :
    wpAny (model pp w) A (eval (.Name x pos) (compEnvC scope cl C (lawEnv L f cd))) Q E s := ldVarK F hv h hk hl hd
set_option maxRecDepth 100000 in
set_option maxHeartbeats 2000000 in
/-- the first check -/
theorem law_e (G : Gd w mean mg mb h₀) (F : Fr h₀ L s.heap m) (X : Cl L (cs L) s.heap cm) (hh : A.handled = none) (hroom : A.depth + 2 < recursionLimit) {ll : Addr} {vl : List Value} {ns : List Int} {T : Int} {u : Tok} (hns : ns.length ≤ 4) (hn1 : 1 ≤ ns.length)
    (PL : s.heap.IsList ll vl.toArray) (SL : StrsAre vl (labelsAll ns T)) (m1 : m "host" = some (.str (hostS ns T) u)) (c1 : cm "labels" = some (.ref ll))
    (h : ∀ h' tk, Fr h₀ L h' m → Cl L (cs L) h' cm → h'.IsList ll vl.toArray →
      wpAny (model pp w) A (execs (lawB.drop 10) (lawEnv L f cd)) R E { s with heap := h', toks := tk }) :
    wpAny (model pp w) A (execs (lawB.drop 9) (lawEnv L f cd)) R E s := by
  have g : Gd w mean mg mb s.heap := G.keeps F.keep
  conv at h in execs _ _ => arg 1; whnf
  walk_at "body"
  refine wpAny_execs_cons ?_
  refine wpAny_If (wpAny_isTrue_Compare1 ?_ (by kernel_rfl))
  refine MethodCall_ (wpAny_Constant_str ?_)
  refine GM.join (callWith_method1 ?_ (by kernel_rfl) (by kernel_rfl))
  walk_at "A"
  refine wpAny_ListComp_free (cl := []) (fun _ => true) (fun v y => ∃ t, y = .str (foldS (signOf v)) t) (by kernel_rfl) (by decide +kernel) (by kernel_rfl) (by decide +kernel) (by kernel_rfl) ?_ (by intro _; kernel_rfl)
  walk_at "L"
  refine wpAny_pyIter_str (fun o St W hst => ?_)
  (try dsimp only)
  obtain ⟨hl1, _⟩ := host_len ns T
  have hsz : (hostS ns T).cps.size ≤ 30 := by have := toL_len (hostS ns T); show (hostS ns T).length ≤ 30; omega
  refine ⟨s.heap.objs.size, [s.heap.objs.size], [s.heap.objs.size], (hostS ns T).cps.size, SignAt (hostS ns T), St, rfl, W A hh, by rw [sizeLine_eq]; omega, hst, ?_, ⟨?_, ?_⟩, ?_⟩
  · intro b hb
    rw [List.mem_singleton.mp hb, Heap.size_push]
    exact Nat.lt_succ_self _
  · intro C i v s₃ m₃ E' _ _ _ _ _ _
    exact wpAny_tests_nil ⟨rfl, s₃.heap, s₃.toks, rfl, fun _ _ e => e⟩
  · intro C i v s₃ m₃ E' hC hP _ hN hm hk _
    obtain ⟨c, uc, _, rfl⟩ := hP
    have x₃ : Ext s.heap s₃.heap := fun b o e => hk b o (fun q => Nat.lt_irrefl _ ((List.mem_singleton.mp q) ▸ Heap.lt_size e)) (Heap.get?_push_of_some _ e)
    have g₃ : Gd w mean mg mb s₃.heap := g.keeps x₃
    refine callDE (i := 6) (by decide) nm6 g₃ rfl (by kernel_rfl) (by kernel_rfl) (by kernel_rfl) (by kernel_rfl) ?_
    intro f6 hf6
    refine args_cons ?_ (by kernel_rfl)
    refine ldK hN hm ?_ (by kernel_rfl) (by kernel_rfl) (by kernel_rfl)
    refine args_nil ⟨Ext.refl _, ?_⟩
    refine spec_fold g₃ hf6 (by omega) ?_
    intro h₄ tk₄ u₄ x₄
    exact ⟨⟨u₄, rfl⟩, h₄, tk₄, rfl, x₄⟩
  · intro D h₁ tk₁ ys vs hD hl₁ _ hlen hP hF hk
    have hv : vs.filter (fun _ => true) = vs := List.filter_eq_self.mpr (fun _ _ => rfl)
    rw [hv] at hF
    have SY := strs_paired hF
    rw [signs_map hlen hP foldS] at SY
    have x₁ : Ext s.heap h₁ := fun b o e => hk b o (fun q => Nat.lt_irrefl _ ((List.mem_singleton.mp q) ▸ Heap.lt_size e)) (Heap.get?_push_of_some _ e)
    have hw1 : (((toL (hostS ns T)).map foldS).map (·.length)).sum + ((toL (hostS ns T)).map foldS).length ≤ 1048576 := by
      refine sum_small (n := 30) (B := 3) (fun y hy => ?_) (by rw [List.length_map]; omega) (by decide)
      obtain ⟨c, hc, rfl⟩ := List.mem_map.mp hy
      rw [← toL_len]
      exact parts_short ns T c hc
    have hw2 : ((labelsAll ns T).map (·.length)).sum + (labelsAll ns T).length ≤ 1048576 :=
      sum_small (n := 9) (B := 5) (labelsAll_len ns T) (by have := ls_len ns T; omega) (by decide)
    refine args_nil (join_listW hl₁ (ys := (toL (hostS ns T)).map foldS) SY (by decide) hw1 (fun t₂ k₂ => ?_))
    (try dsimp only)
    have F₁ := frOn F x₁
    have X₁ := clOn X x₁
    have PL₁ := isListOn PL x₁
    refine MethodCall_ (wpAny_Constant_str ?_)
    refine GM.join (callWith_method1 ?_ (by kernel_rfl) (by kernel_rfl))
    walk_at "A"
    refine ldLab X₁ c1 ?_
    refine args_nil (join_listW PL₁ (ys := labelsAll ns T) (by exact SL) (by decide) hw2 (fun t₃ k₃ => ?_))
    refine ne_str (wpAny_truthy_bool ?_)
    (try dsimp only)
    rw [txtJoin, txtJoin]
    have e := plain_first ns T hn1
    have e2 : (Str.join (Str.ofString "") ((toL (hostS ns T)).map foldS) != Str.join (Str.ofString ".") (labelsAll ns T)) = false := by
      rw [bne_eq_false_iff_eq]; exact e
    rw [e2, if_neg Bool.false_ne_true]
    refine wpAny_execs_nil ?_
    exact h h₁ _ F₁ X₁ PL₁
end
end Mine
end
-- part W17
section
open PySem PySem.W PyProof.Rows PySem.Calls
namespace Mine
local macro_rules | `(tactic| walk_at "L") => `(tactic| (refine' ldL ?fF ?fH ?_ (by kernel_rfl) (by kernel_rfl); (case fF => assumption); (case fH => first | exact rfl | assumption); (try dsimp only)))
local macro_rules | `(tactic| walk_at "B") => `(tactic| (refine' bltE ?fG ?fB (by kernel_rfl) (by kernel_rfl) rfl rfl lawK (by kernel_rfl) (by kernel_rfl) ?_; (case fG => assumption); (case fB => first | exact bb_ord | exact bb_chr | exact bb_len | exact bb_sum | exact bb_sorted | exact bb_range | exact bb_list | exact bb_str); (try dsimp only)))
local macro_rules | `(tactic| walk_at "C1") => `(tactic| (refine Call_ ?_ (by kernel_rfl)))
local macro_rules | `(tactic| walk_at "CB") => `(tactic| (refine callWith_builtin1 ?_ (by kernel_rfl) (by kernel_rfl)))
local macro_rules | `(tactic| walk_at "A") => `(tactic| (refine args_cons ?_ (by kernel_rfl)))
local macro_rules | `(tactic| walk_at "I") => `(tactic| (refine wpAny_Constant_int ?_; (try dsimp only)))
local macro_rules | `(tactic| walk_at "body") => `(tactic| conv in execs _ _ => arg 1; whnf)
/-- the number that a value holds -/
def numOf : Value → Int
  | .int i _ => i
  | _ => 0
theorem ints_paired : ∀ {vs ys : List Value}, Paired (fun v y => ∃ t, y = .int (numOf v) t) vs ys → IntsAre ys (vs.map numOf)
  | _, _, .nil => .nil
  | _, _, .cons ⟨t, e⟩ r => by subst e; exact .cons _ t (ints_paired r)
theorem range_map {vs : List Value} {n : Nat} (hl : vs.length = n) (hP : ∀ j v, vs[j]? = some v → j < n ∧ ∃ t, v = .int (0 + (j : Int) * 1) t) : vs.map numOf = (List.range n).map (fun k => ((k : Nat) : Int)) := by
  apply List.ext_getElem?
  intro j
  rw [List.getElem?_map, List.getElem?_map]
  rcases Nat.lt_or_ge j vs.length with h | h
  · obtain ⟨_, t, h2⟩ := hP j vs[j] (List.getElem?_eq_getElem h)
    rw [List.getElem?_eq_getElem h, h2, List.getElem?_range (by omega)]
    simp [numOf]
  · rw [List.getElem?_eq_none h, List.getElem?_eq_none (by rw [List.length_range]; omega)]
    rfl
/-- the first starts: the empty labels -/
def starts0 (ls : List Str) : List Nat := (List.range (ls.length - 1)).filter (fun k => ls.getD k Str.empty == Str.ofString "")
section
variable {w : World} {mean : ExcName → Option Value} {mg mb : Str → Option Value} {A : Around} {E : Value → Shared → Prop} {s : Shared} {R : Flow → Shared → Prop} {L f : Addr} {cd : Value} {h₀ : Heap} {m cm : Str → Option Value}
theorem frBut' {h h' : Heap} {I : Addr} (F : Fr h₀ L h m) (hL : L ≠ I) (hI : h₀.get? I = none) (k : ∀ b o, b ≠ I → h.get? b = some o → h'.get? b = some o) : Fr h₀ L h' m :=
  ⟨F.ns.at' (fun o e => k _ o hL e), fun b o e => k _ _ (fun q => by rw [q, hI] at e; cases e) (F.keep b o e), F.above⟩
theorem plainOf {h : Heap} {D : Addr} {ys : Array Value} (p : h.PlainList D ys) : PlainL h D ys := let ⟨n, e⟩ := p; ⟨_, n, e, rfl, rfl, rfl⟩
set_option maxRecDepth 100000 in
set_option maxHeartbeats 2000000 in
/-- last, starts -/
theorem law_f (G : Gd w mean mg mb h₀) (F : Fr h₀ L s.heap m) (X : Cl L (cs L) s.heap cm) (hh : A.handled = none) {ll : Addr} {vl : List Value} {ns : List Int} {T : Int} {u1 u2 : Tok} (hns : ns.length ≤ 4)
    (PL : s.heap.IsList ll vl.toArray) (SL : StrsAre vl (labelsAll ns T)) (m1 : m "kind" = some (.int (T.fmod 5) u1)) (m2 : m "host" = some (.str (hostS ns T) u2)) (c1 : cm "labels" = some (.ref ll))
    (h : ∀ h' tk m' D ys u3, Fr h₀ L h' m' → Cl L (cs L) h' cm → h'.IsList ll vl.toArray → PlainL h' D (ys : List Value).toArray → h₀.get? D = none → IntsAre ys ((starts0 (labelsAll ns T)).map (fun k => ((k : Nat) : Int))) → D ≠ ll → D ≠ L → D ≠ L + 1 →
      m' "kind" = some (.int (T.fmod 5) u1) → m' "host" = some (.str (hostS ns T) u2) → m' "last" = some (.int (((labelsAll ns T).length - 1 : Nat) : Int) u3) → m' "starts" = some (.ref D) →
      wpAny (model pp w) A (execs (lawB.drop 12) (lawEnv L f cd)) R E { s with heap := h', toks := tk }) :
    wpAny (model pp w) A (execs (lawB.drop 10) (lawEnv L f cd)) R E s := by
  have g : Gd w mean mg mb s.heap := G.keeps F.keep
  conv at h in execs _ _ => arg 1; whnf
  walk_at "body"
  have hll := ls_len ns T
  have hl1 : 1 ≤ (labelsAll ns T).length := by simp [labelsAll]
  generalize hN : labelsAll ns T = Ls at *
  have nl : ll ≠ L := list_ne PL F.ns
  refine wpAny_execs_cons ?_
  refine wpAny_Assign_Name ?_
  refine wpAny_BinOp ?_
  walk_at "C1"
  walk_at "B"
  walk_at "CB"
  walk_at "A"
  refine ldLab X c1 ?_
  refine args_nil (len_strsA PL SL (by omega) ?_)
  walk_at "I"
  refine sub_int ?_
  rw [show ((Ls.length : Nat) : Int) - 1 = ((Ls.length - 1 : Nat) : Int) by omega]
  (try dsimp only)
  refine stL F X (fun h₁ F₁ X₁ b₁ => ?_) (by kernel_rfl)
  (try dsimp only at F₁ b₁ ⊢)
  have PL₁ := listBut PL F.ns b₁
  have g₁ : Gd w mean mg mb h₁ := G.keeps F₁.keep
  refine wpAny_execs_cons ?_
  refine wpAny_Assign_ListComp_free (cl := [(Str.ofString "labels", L + 1)]) (fun v => Ls.getD (numOf v).toNat Str.empty == Str.ofString "") (fun v y => ∃ t, y = .int (numOf v) t) (by kernel_rfl) (by kernel_rfl) (by decide +kernel) (by kernel_rfl) (by decide +kernel) (by kernel_rfl) (by kernel_rfl) (by kernel_rfl) ?_ (by intro _; kernel_rfl)
  walk_at "C1"
  walk_at "B"
  refine Pv.callWith_type1 ?_ (by kernel_rfl) (by kernel_rfl)
  walk_at "A"
  walk_at "L"
  refine args_nil (range1_rows (news := []) F₁ News.nil ?_)
  intro h₂ tk₂ t₂ u₂ v₂ R₂ F₂ _ x₂
  (try dsimp only at R₂ F₂ x₂ ⊢)
  have X₂ := clOn X₁ x₂
  have PL₂ := isListOn PL₁ x₂
  have g₂ : Gd w mean mg mb h₂ := G.keeps F₂.keep
  have hL₂ : L < h₂.objs.size := by obtain ⟨oL, _, _, hoL, _⟩ := id F₂.ns; exact Heap.lt_size hoL
  refine wpAny_pyIter_range R₂ (small_n _ (by omega)).1 ?_
  rw [(small_n _ (by omega)).2]
  have upI : ∀ (h' : Heap), (∀ b o, b ∉ [h₂.objs.size] → (h₂.push { cls := .type "range_iterator", data := .fields #[rawInt 0, rawInt ((Ls.length - 1 : Nat) : Int), rawInt 1] }).get? b = some o → h'.get? b = some o) → Ext h₂ h' :=
    fun h' hk b o e => hk b o (fun q => Nat.lt_irrefl _ ((List.mem_singleton.mp q) ▸ Heap.lt_size e)) (Heap.get?_push_of_some _ e)
  refine ⟨h₂.objs.size, [h₂.objs.size], [h₂.objs.size], Ls.length - 1, _, _, _, rfl, (Walks.range hh _ 0 1 (Ls.length - 1)).bound, by rw [sizeLine_eq]; omega, by simpa using Heap.get?_push_size _ rfl, ?_, ?_, (F₂.push _).ns, ⟨?_, ?_⟩, ?_⟩
  · intro b hb
    rw [List.mem_singleton.mp hb, Heap.size_push]
    exact Nat.lt_succ_self _
  · intro q
    exact Nat.lt_irrefl _ ((List.mem_singleton.mp q) ▸ hL₂)
  · intro C i v s₃ m₃ E' hC hP hNs hm hk _
    obtain ⟨hi, t, rfl⟩ := hP
    have x₃ : Ext h₂ s₃.heap := upI _ hk
    refine wpAny_tests_one ?_
    refine wpAny_isTrue_Compare1 (Subscript_ ?_) (by kernel_rfl)
    refine ldCellK (c := L + 1) (by kernel_rfl) (c1 ▸ (clOn X₂ x₃).cell _ _ (lab_cell L)) ?_ (by kernel_rfl) (by kernel_rfl) (by kernel_rfl)
    refine ldK hNs hm ?_ (by kernel_rfl) (by kernel_rfl) (by kernel_rfl)
    refine item_strsA (isListOn PL₂ x₃) SL (by omega) (by omega) (by omega) (fun t₄ => ?_) (by kernel_rfl) (by intro _; kernel_rfl)
    refine wpAny_Constant_str (eq_str (wpAny_truthy_bool ?_))
    exact ⟨rfl, s₃.heap, _, rfl, fun _ _ e => e⟩
  · intro C i v s₃ m₃ E' hC hP _ hNs hm hk _
    obtain ⟨hi, t, rfl⟩ := hP
    refine ldK hNs hm ?_ (by kernel_rfl) (by kernel_rfl) (by kernel_rfl)
    exact ⟨⟨t, rfl⟩, s₃.heap, _, rfl, fun _ _ e => e⟩
  · intro D h₃ tk₃ ys vs hD hl₃ hp₃ hlen hP hF hNs hk
    have hI := ints_paired hF
    have e1 : (vs.filter (fun v => Ls.getD (numOf v).toNat Str.empty == Str.ofString "")).map numOf = (starts0 Ls).map (fun k => ((k : Nat) : Int)) := by
      have e2 : (vs.filter (fun v => Ls.getD (numOf v).toNat Str.empty == Str.ofString "")).map numOf = (vs.map numOf).filter (fun i => Ls.getD i.toNat Str.empty == Str.ofString "") := by rw [List.filter_map]; rfl
      rw [e2, range_map hlen hP, List.filter_map]
      rfl
    rw [e1] at hI
    have up : ∀ b o, b ≠ L → h₂.get? b = some o → h₃.get? b = some o := fun b o hb e => hk b o hb (fun q => Nat.lt_irrefl _ ((List.mem_singleton.mp q) ▸ Heap.lt_size e)) (Heap.get?_push_of_some _ e)
    have hD₂ : h₂.get? D = none := noneOf (fun _ _ e => Heap.get?_push_of_some _ e) hD
    have PL₃ : h₃.IsList ll vl.toArray := by obtain ⟨o, ho, hc⟩ := PL₂; exact ⟨o, up _ _ nl ho, hc⟩
    have X₃ : Cl L (cs L) h₃ cm := clBut X₂ (Nat.ne_of_lt (Nat.lt_succ_self L)) up
    have F₃ : Fr h₀ L h₃ _ := ⟨hNs, fun b o e => up b o (Nat.ne_of_lt (Nat.lt_of_lt_of_le (Heap.lt_size e) F₂.above)) (F₂.keep b o e), F₂.above⟩
    have hne : D ≠ ll := by rintro rfl; obtain ⟨o, ho, _⟩ := PL₂; rw [hD₂] at ho; cases ho
    have PD : PlainL h₃ D ys.toList.toArray := by rw [Array.toArray_toList]; exact plainOf hp₃
    exact h h₃ _ _ D ys.toList _ F₃ X₃ PL₃ PD (noneOf F₂.keep hD₂) hI hne (list_ne PD.isList F₃.ns) (list_ne_cell PD.isList X₃) m1 m2 rfl rfl
end
end Mine
end
-- part W18
section
open PySem PySem.W PyProof.Rows PySem.Calls
namespace Mine
local macro_rules | `(tactic| walk_at "L") => `(tactic| (refine' ldL ?fF ?fH ?_ (by kernel_rfl) (by kernel_rfl); (case fF => assumption); (case fH => first | exact rfl | assumption); (try dsimp only)))
local macro_rules | `(tactic| walk_at "B") => `(tactic| (refine' bltE ?fG ?fB (by kernel_rfl) (by kernel_rfl) rfl rfl lawK (by kernel_rfl) (by kernel_rfl) ?_; (case fG => assumption); (case fB => first | exact bb_ord | exact bb_chr | exact bb_len | exact bb_sum | exact bb_sorted | exact bb_range | exact bb_list | exact bb_str); (try dsimp only)))
local macro_rules | `(tactic| walk_at "C1") => `(tactic| (refine Call_ ?_ (by kernel_rfl)))
local macro_rules | `(tactic| walk_at "CB") => `(tactic| (refine callWith_builtin1 ?_ (by kernel_rfl) (by kernel_rfl)))
local macro_rules | `(tactic| walk_at "A") => `(tactic| (refine args_cons ?_ (by kernel_rfl)))
local macro_rules | `(tactic| walk_at "I") => `(tactic| (refine wpAny_Constant_int ?_; (try dsimp only)))
local macro_rules | `(tactic| walk_at "body") => `(tactic| conv in execs _ _ => arg 1; whnf)
theorem any_ints : ∀ {vs : List Value} {ns : List Int}, IntsAre vs ns → ∀ z : Int, vs.toArray.any (fun v => numOf v == z) = ns.contains z
  | _, _, .nil, _ => by simp
  | _, _, .cons n t hr, z => by
    have ih := any_ints hr z
    simp only [List.any_toArray] at ih ⊢
    simp only [List.any_cons, List.contains_cons]
    rw [ih]
    congr 1
    show (n == z) = (z == n)
    exact Bool.eq_iff_iff.mpr ⟨fun h => by rw [beq_iff_eq] at h ⊢; exact h.symm, fun h => by rw [beq_iff_eq] at h ⊢; exact h.symm⟩
theorem ints_all {vs : List Value} {ns : List Int} (h : IntsAre vs ns) : ∀ v ∈ vs, ∃ n t, v = .int n t := by
  intro v hv
  obtain ⟨i, hi⟩ := List.mem_iff_getElem?.mp hv
  obtain ⟨n, t, e, _⟩ := ints_item h i v hi
  exact ⟨n, t, e⟩
/-- numbers of a list as Python's ints -/
def asInts (S : List Nat) : List Int := S.map (fun k => ((k : Nat) : Int))
theorem asInts_has (S : List Nat) (k : Nat) : (asInts S).contains ((k : Nat) : Int) = S.contains k := by
  rw [Bool.eq_iff_iff, List.contains_iff_mem, List.contains_iff_mem, asInts, List.mem_map]
  constructor
  · rintro ⟨j, hj, e⟩
    have : j = k := by omega
    exact this ▸ hj
  · intro h; exact ⟨k, h, rfl⟩
theorem asInts_snoc (S : List Nat) (k : Nat) : asInts (S ++ [k]) = asInts S ++ [((k : Nat) : Int)] := by simp [asInts]
theorem asInts_len (S : List Nat) : (asInts S).length = S.length := by simp [asInts]
theorem rangeInts_as (n : Nat) : rangeInts 0 1 n = asInts (List.range n) := by
  unfold rangeInts asInts
  exact List.map_congr_left fun i _ => by omega
section
variable {w : World} {mean : ExcName → Option Value} {mg mb : Str → Option Value} {A : Around} {E : Value → Shared → Prop} {s : Shared} {R : Flow → Shared → Prop} {L f : Addr} {cd : Value} {h₀ : Heap} {m cm : Str → Option Value}
set_option maxRecDepth 100000 in
set_option maxHeartbeats 2000000 in
/-- if kind == 0 and last - 1 not in starts: .. -/
theorem law_g1 (F : Fr h₀ L s.heap m) (X : Cl L (cs L) s.heap cm) {D : Addr} {ys : List Value} {S : List Nat} {K : Int} {N : Nat} {u1 u3 : Tok} (hN : 1 ≤ N) (hS : S.length ≤ 100)
    (PD : PlainL s.heap D ys.toArray) (hD0 : h₀.get? D = none) (hI : IntsAre ys (asInts S)) (hDL : D ≠ L) (hDC : D ≠ L + 1)
    (m1 : m "kind" = some (.int K u1)) (m2 : m "last" = some (.int ((N : Nat) : Int) u3)) (m3 : m "starts" = some (.ref D))
    (h : ∀ h' tk ys', Fr h₀ L h' m → Cl L (cs L) h' cm → (∀ b o, b ≠ D → s.heap.get? b = some o → h'.get? b = some o) → PlainL h' D (ys' : List Value).toArray → IntsAre ys' (asInts (if K = 0 ∧ N - 1 ∉ S then S ++ [N - 1] else S)) →
      wpAny (model pp w) A (execs (lawB.drop 13) (lawEnv L f cd)) R E { s with heap := h', toks := tk }) :
    wpAny (model pp w) A (execs (lawB.drop 12) (lawEnv L f cd)) R E s := by
  conv at h in execs _ _ => arg 1; whnf
  walk_at "body"
  refine wpAny_execs_cons ?_
  refine wpAny_If (isTrue_and (wpAny_isTrue_Compare1 ?_ (by kernel_rfl)))
  walk_at "L"
  walk_at "I"
  refine eq_int (wpAny_truthy_bool ?_)
  (try dsimp only)
  by_cases hK : K = 0
  · rw [if_pos (by simpa using hK)]
    refine isTrue_and (wpAny_isTrue_Compare1 ?_ (by kernel_rfl))
    refine wpAny_BinOp ?_
    walk_at "L"
    walk_at "I"
    refine sub_int ?_
    rw [show ((N : Nat) : Int) - 1 = ((N - 1 : Nat) : Int) by omega]
    (try dsimp only)
    walk_at "L"
    refine SeqAt.notIn_listAt (fun v => numOf v == ((N - 1 : Nat) : Int)) PD.isList (fun v hv => ?_) (wpAny_truthy_bool ?_)
    · obtain ⟨n, tn, rfl⟩ := ints_all hI v (by simpa using hv)
      exact SeqAt.EqAt.int_int n tn _ _
    rw [any_ints hI, asInts_has]
    cases hc : S.contains (N - 1) with
    | true =>
      have hm : N - 1 ∈ S := by simpa using hc
      rw [if_neg (by decide), if_neg (by decide)]
      refine wpAny_execs_nil ?_
      refine h _ _ ys F X (fun _ _ _ e => e) PD ?_
      rw [if_neg (fun q => q.2 hm)]
      exact hI
    | false =>
      have hm : N - 1 ∉ S := by simpa using hc
      rw [if_pos (by decide)]
      refine isTrue_and_nil ?_
      rw [if_pos rfl]
      refine wpAny_execs_cons ?_
      refine wpAny_Expr ?_
      refine wpAny_Call_append rfl rfl rfl rfl ?_
      walk_at "L"
      refine ⟨D, ys.toArray, rfl, PD, ?_⟩
      refine wpAny_BinOp ?_
      walk_at "L"
      walk_at "I"
      refine sub_int ?_
      rw [show ((N : Nat) : Int) - 1 = ((N - 1 : Nat) : Int) by omega]
      (try dsimp only)
      have hyl : ys.length ≤ 100 := by rw [hI.length, asInts_len]; exact hS
      refine list_append_plainL PD (fun h₁ P₁ sb₁ => ?_) (by rw [List.size_toArray, sizeLine_eq]; omega)
      (try dsimp only at sb₁ ⊢)
      rw [List.push_toArray] at P₁
      refine wpAny_execs_nil ?_
      refine h h₁ _ _ (frBut' F (Ne.symm hDL) hD0 (fun b o hb e => (sb₁.2 b hb).trans e)) (clBut X hDC (fun b o hb e => (sb₁.2 b hb).trans e)) (fun b o hb e => (sb₁.2 b hb).trans e) P₁ ?_
      rw [if_pos ⟨hK, hm⟩, asInts_snoc]
      exact hI.append (.cons _ _ .nil)
  · rw [if_neg (by simpa using hK), if_neg (by decide)]
    refine wpAny_execs_nil ?_
    refine h _ _ ys F X (fun _ _ _ e => e) PD ?_
    rw [if_neg (fun q => hK q.1)]
    exact hI
set_option maxRecDepth 100000 in
set_option maxHeartbeats 2000000 in
/-- if kind in (1, 2): .. -/
theorem law_g2 (F : Fr h₀ L s.heap m) (X : Cl L (cs L) s.heap cm) {D : Addr} {ys : List Value} {S : List Nat} {K : Int} {N : Nat} {u1 u3 : Tok} (hS : S.length ≤ 101)
    (PD : PlainL s.heap D ys.toArray) (hD0 : h₀.get? D = none) (hI : IntsAre ys (asInts S)) (hDL : D ≠ L) (hDC : D ≠ L + 1)
    (m1 : m "kind" = some (.int K u1)) (m2 : m "last" = some (.int ((N : Nat) : Int) u3)) (m3 : m "starts" = some (.ref D))
    (h : ∀ h' tk ys', Fr h₀ L h' m → Cl L (cs L) h' cm → (∀ b o, b ≠ D → s.heap.get? b = some o → h'.get? b = some o) → PlainL h' D (ys' : List Value).toArray → IntsAre ys' (asInts (if K = 1 ∨ K = 2 then S ++ [N] else S)) →
      wpAny (model pp w) A (execs (lawB.drop 14) (lawEnv L f cd)) R E { s with heap := h', toks := tk }) :
    wpAny (model pp w) A (execs (lawB.drop 13) (lawEnv L f cd)) R E s := by
  conv at h in execs _ _ => arg 1; whnf
  walk_at "body"
  refine wpAny_execs_cons ?_
  refine wpAny_If (wpAny_isTrue_Compare1 ?_ (by kernel_rfl))
  walk_at "L"
  refine Tuple_ ?_
  walk_at "A"
  walk_at "I"
  walk_at "A"
  walk_at "I"
  refine args_nil (newT (by show 2 ≤ 1000000; decide) ?_)
  intro h₁ a₁ x₁ _ hg₁
  (try dsimp only at x₁ hg₁ ⊢)
  have F₁ := frOn F x₁
  have X₁ := clOn X x₁
  have P₁ := plainBut PD (fun o e => x₁ _ _ e)
  refine SeqAt.in_tupleAt (fun v => numOf v == K) (items := #[_, _]) ⟨_, hg₁, rfl, _, rfl⟩ (fun v hv => ?_) (wpAny_truthy_bool ?_)
  · simp only [List.mem_toArray, List.mem_cons, List.not_mem_nil, or_false] at hv
    rcases hv with rfl | rfl
    · exact SeqAt.EqAt.int_int _ _ _ _
    · exact SeqAt.EqAt.int_int _ _ _ _
  have hany : ∀ t1 t2 : Tok, (#[Value.int 1 t1, Value.int 2 t2].any (fun v => numOf v == K)) = ((1 == K) || (2 == K)) := by
    intro t1 t2
    simp [numOf]
  rw [hany]
  by_cases hK : K = 1 ∨ K = 2
  · rw [if_pos (by rcases hK with rfl | rfl <;> rfl)]
    refine wpAny_execs_cons ?_
    refine wpAny_Expr ?_
    refine wpAny_Call_append rfl rfl rfl rfl ?_
    walk_at "L"
    refine ⟨D, ys.toArray, rfl, P₁, ?_⟩
    walk_at "L"
    have hyl : ys.length ≤ 101 := by rw [hI.length, asInts_len]; exact hS
    refine list_append_plainL P₁ (fun h₂ P₂ sb₂ => ?_) (by rw [List.size_toArray, sizeLine_eq]; omega)
    (try dsimp only at sb₂ ⊢)
    rw [List.push_toArray] at P₂
    refine wpAny_execs_nil ?_
    refine h h₂ _ _ (frBut' F₁ (Ne.symm hDL) hD0 (fun b o hb e => (sb₂.2 b hb).trans e)) (clBut X₁ hDC (fun b o hb e => (sb₂.2 b hb).trans e)) (fun b o hb e => (sb₂.2 b hb).trans (x₁ _ _ e)) P₂ ?_
    rw [if_pos hK, asInts_snoc]
    exact hI.append (.cons _ _ .nil)
  · rw [if_neg (by simp only [Bool.or_eq_true, beq_iff_eq]; omega)]
    refine wpAny_execs_nil ?_
    refine h h₁ _ ys F₁ X₁ (fun b o _ e => x₁ b o e) P₁ ?_
    rw [if_neg hK]
    exact hI
set_option maxRecDepth 100000 in
set_option maxHeartbeats 2000000 in
/-- if kind > 2: .. -/
theorem law_g3 (G : Gd w mean mg mb h₀) (F : Fr h₀ L s.heap m) (X : Cl L (cs L) s.heap cm) (hh : A.handled = none) {D ll : Addr} {ys vl : List Value} {S : List Nat} {K : Int} {N : Nat} {u1 u2 u3 : Tok} {x : Str} (hN : N ≤ 100)
    (PL : s.heap.IsList ll vl.toArray) (PD : PlainL s.heap D ys.toArray) (hI : IntsAre ys (asInts S))
    (m1 : m "kind" = some (.int K u1)) (m2 : m "last" = some (.int ((N : Nat) : Int) u3)) (m3 : m "starts" = some (.ref D)) (m4 : m "host" = some (.str x u2))
    (h : ∀ h' tk m' D' ys', Fr h₀ L h' m' → Cl L (cs L) h' cm → h'.IsList ll vl.toArray → h'.IsList D' (ys' : List Value).toArray → IntsAre ys' (asInts (if 2 < K then (if K = 3 then [0] else List.range N) else S)) → m' "host" = some (.str x u2) → m' "starts" = some (.ref D') →
      wpAny (model pp w) A (execs (lawB.drop 15) (lawEnv L f cd)) R E { s with heap := h', toks := tk }) :
    wpAny (model pp w) A (execs (lawB.drop 14) (lawEnv L f cd)) R E s := by
  have g : Gd w mean mg mb s.heap := G.keeps F.keep
  have nl : ll ≠ L := list_ne PL F.ns
  conv at h in execs _ _ => arg 1; whnf
  walk_at "body"
  refine wpAny_execs_cons ?_
  refine wpAny_If (wpAny_isTrue_Compare1 ?_ (by kernel_rfl))
  walk_at "L"
  walk_at "I"
  refine gt_int (wpAny_truthy_bool ?_)
  (try dsimp only)
  by_cases hK : 2 < K
  · rw [if_pos (by simpa using hK)]
    rw [if_pos hK] at h
    refine wpAny_execs_cons ?_
    refine wpAny_Assign_Name ?_
    refine IfExp_ (wpAny_isTrue_Compare1 ?_ (by kernel_rfl))
    walk_at "L"
    walk_at "I"
    refine eq_int (wpAny_truthy_bool ?_)
    (try dsimp only)
    by_cases hK3 : K = 3
    · rw [if_pos (by simpa using hK3)]
      rw [if_pos hK3] at h
      refine List_ ?_
      walk_at "A"
      walk_at "I"
      refine args_nil (newI (.cons 0 _ .nil) (by decide) (fun h₁ l₁ x₁ hL₁ => ?_))
      (try dsimp only at x₁ hL₁ ⊢)
      have F₁ := frOn F x₁
      refine stL F₁ (clOn X x₁) (fun h₂ F₂ X₂ b₂ => ?_) (by kernel_rfl)
      (try dsimp only at F₂ b₂ ⊢)
      refine wpAny_execs_nil ?_
      exact h h₂ _ _ l₁ _ F₂ X₂ (listBut (isListOn PL x₁) F₁.ns b₂) (listBut hL₁ F₁.ns b₂) (.cons 0 _ .nil) m4 rfl
    · rw [if_neg (by simpa using hK3)]
      rw [if_neg hK3] at h
      walk_at "C1"
      walk_at "B"
      refine Pv.callWith_type1 ?_ (by kernel_rfl) (by kernel_rfl)
      walk_at "A"
      walk_at "C1"
      walk_at "B"
      refine Pv.callWith_type1 ?_ (by kernel_rfl) (by kernel_rfl)
      walk_at "A"
      walk_at "L"
      refine args_nil (range1_rows (news := []) F News.nil ?_)
      intro h₁ tk₁ t₁ u₄ v₁ R₁ F₁ N₁ x₁
      (try dsimp only at R₁ F₁ N₁ x₁ ⊢)
      refine args_nil (list_rangeD (news := []) hh F₁ N₁ R₁ (small_n _ (by omega)).1 (small_n _ (by omega)).2 (by omega) ?_)
      intro h₂ tk₂ vs F₂ N₂ x₂ _ hL₂ _ hC₂
      (try dsimp only at x₂ hL₂ ⊢)
      have hI₂ := IntsAre.ofCarried hC₂
      rw [rangeInts_as] at hI₂
      refine stL F₂ (clOn X (Ext.trans x₁ x₂)) (fun h₃ F₃ X₃ b₃ => ?_) (by kernel_rfl)
      (try dsimp only at F₃ b₃ ⊢)
      refine wpAny_execs_nil ?_
      exact h h₃ _ _ _ _ F₃ X₃ (listBut (isListOn PL (Ext.trans x₁ x₂)) F₂.ns b₃) (listBut hL₂ F₂.ns b₃) hI₂ m4 rfl
  · rw [if_neg (by simpa using hK)]
    rw [if_neg hK] at h
    refine wpAny_execs_nil ?_
    exact h _ _ m D ys F X PL PD.isList hI m4 m3
end
end Mine
end
-- part W19
section
open PySem PySem.W PyProof.Rows PySem.Calls
namespace Mine
local macro_rules | `(tactic| walk_at "L") => `(tactic| (refine' ldL ?fF ?fH ?_ (by kernel_rfl) (by kernel_rfl); (case fF => assumption); (case fH => first | exact rfl | assumption); (try dsimp only)))
local macro_rules | `(tactic| walk_at "B") => `(tactic| (refine' bltE ?fG ?fB (by kernel_rfl) (by kernel_rfl) rfl rfl lawK (by kernel_rfl) (by kernel_rfl) ?_; (case fG => assumption); (case fB => first | exact bb_ord | exact bb_chr | exact bb_len | exact bb_sum | exact bb_sorted | exact bb_range | exact bb_list | exact bb_str); (try dsimp only)))
local macro_rules | `(tactic| walk_at "C1") => `(tactic| (refine Call_ ?_ (by kernel_rfl)))
local macro_rules | `(tactic| walk_at "CB") => `(tactic| (refine callWith_builtin1 ?_ (by kernel_rfl) (by kernel_rfl)))
local macro_rules | `(tactic| walk_at "A") => `(tactic| (refine args_cons ?_ (by kernel_rfl)))
local macro_rules | `(tactic| walk_at "I") => `(tactic| (refine wpAny_Constant_int ?_; (try dsimp only)))
local macro_rules | `(tactic| walk_at "body") => `(tactic| conv in execs _ _ => arg 1; whnf)
theorem strs_drop : ∀ {vs : List Value} {ys : List Str}, StrsAre vs ys → ∀ k : Nat, StrsAre (vs.drop k) (ys.drop k)
  | _, _, h, 0 => h
  | _, _, .nil, _ + 1 => .nil
  | _, _, .cons _ _ h, k + 1 => strs_drop h k
theorem slice_strs {vs : List Value} {ys : List Str} (h : StrsAre vs ys) (k : Nat) : StrsAre (slicePick vs.toArray (some ((k : Nat) : Int)) none none).toList (ys.drop k) := by
  rw [slicePick_from' vs.toArray k]
  simpa using strs_drop h k
theorem ints_num : ∀ {vs : List Value} {ns : List Int}, IntsAre vs ns → vs.map numOf = ns
  | _, _, .nil => rfl
  | _, _, .cons n t r => by rw [List.map_cons, ints_num r]; rfl
theorem starts_len (κ : Nat) (ls : List Str) : (startsN κ ls).length ≤ ls.length + 1 := by
  have h0 : ((List.range (ls.length - 1)).filter (fun k => ls.getD k Str.empty == Str.ofString "")).length ≤ ls.length - 1 := by
    have := List.length_filter_le (fun k => ls.getD k Str.empty == Str.ofString "") (List.range (ls.length - 1))
    rw [List.length_range] at this; exact this
  unfold startsN
  dsimp only
  split
  · split
    · simp
    · rw [List.length_range]; omega
  · split
    · rw [if_neg (fun q => by omega), List.length_append, List.length_singleton]; omega
    · split
      · rw [List.length_append, List.length_singleton]; omega
      · omega
theorem strs_at : ∀ {vs ws : List Value} {ys : List Str}, StrsAre vs ys → StrsAre ws ys → ∀ (j : Nat) (h1 : j < vs.length) (h2 : j < ws.length), ∃ a t u, vs[j] = .str a t ∧ ws[j] = .str a u
  | _, _, _, .nil, .nil, j, h1, _ => absurd h1 (Nat.not_lt_zero _)
  | _, _, _, .cons a t _, .cons _ u _, 0, _, _ => ⟨a, t, u, rfl, rfl⟩
  | _, _, _, .cons _ _ r, .cons _ _ r', j + 1, h1, h2 => by
    obtain ⟨a, t, u, e1, e2⟩ := strs_at r r' j (by simpa using h1) (by simpa using h2)
    exact ⟨a, t, u, e1, e2⟩
section
variable {w : World} {mean : ExcName → Option Value} {mg mb : Str → Option Value} {A : Around} {E : Value → Shared → Prop} {s : Shared} {R : Flow → Shared → Prop} {L f : Addr} {cd : Value} {h₀ : Heap} {m cm : Str → Option Value}
set_option maxRecDepth 100000 in
set_option maxHeartbeats 2000000 in
/-- the last check -/
theorem law_h (G : Gd w mean mg mb h₀) (F : Fr h₀ L s.heap m) (X : Cl L (cs L) s.heap cm) (hh : A.handled = none) (hroom : A.depth + 5 < recursionLimit) (hu : A.units + 20 < cLine) {D ll : Addr} {ys vl : List Value} {ns : List Int} {T : Int} {u2 : Tok}
    (hns : ns.length ≤ 4) (hn1 : 1 ≤ ns.length)
    (PL : s.heap.IsList ll vl.toArray) (SL : StrsAre vl (labelsAll ns T)) (PD : s.heap.IsList D ys.toArray) (hI : IntsAre ys (asInts (startsN (T.fmod 5).toNat (labelsAll ns T))))
    (m1 : m "host" = some (.str (hostS ns T) u2)) (m2 : m "starts" = some (.ref D)) (c1 : cm "labels" = some (.ref ll))
    (hR : ∀ h' tk, Ext h₀ h' → R (.ret (.bool true)) { s with heap := h', toks := tk }) :
    wpAny (model pp w) A (execs (lawB.drop 15) (lawEnv L f cd)) R E s := by
  have g : Gd w mean mg mb s.heap := G.keeps F.keep
  walk_at "body"
  have hll := ls_len ns T
  have H := theHost ns T hn1
  have hlen : (labelsAll ns T).length = (lsOf (partsOf ns T)).length := by rw [ls_parts]; simp
  refine wpAny_execs_cons ?_
  refine wpAny_Return_some ?_
  refine wpAny_Compare1 ?_ (by kernel_rfl)
  refine callDE (i := 8) (by decide) nm8 g rfl lawK (by kernel_rfl) (by kernel_rfl) (by kernel_rfl) ?_
  intro f8 hf8
  walk_at "A"
  walk_at "L"
  refine args_nil ⟨Ext.refl _, ?_⟩
  refine spec_ends g hf8 (by omega) hh hu (roomOf (toL (hostS ns T))) (fun y r => room_mem rfl H.good r) (room_small ns T hns) (hsz_of rfl H.good (parts_short ns T) (by have := (host_len ns T).1; omega)) _ (ts_of H rfl) (by rw [List.length_map, List.length_range]; omega) ?_
  intro h₁ tk₁ l₁ vs₁ ss x₁ hL₁ S₁ nd so mem
  (try dsimp only at x₁ hL₁ ⊢)
  have F₁ := frOn F x₁
  have X₁ := clOn X x₁
  have PL₁ := isListOn PL x₁
  have PD₁ := isListOn PD x₁
  have g₁ : Gd w mean mg mb h₁ := G.keeps F₁.keep
  walk_at "C1"
  walk_at "B"
  walk_at "CB"
  walk_at "A"
  refine wpAny_ListComp_free (cl := [(Str.ofString "labels", L + 1)]) (fun _ => true) (fun v y => ∃ t, y = .str (fromL (labelsAll ns T) (numOf v).toNat) t) (by kernel_rfl) (by decide +kernel) (by kernel_rfl) (by decide +kernel) (by kernel_rfl) ?_ (by intro _; kernel_rfl)
  walk_at "L"
  have hDs : D < h₁.objs.size := by obtain ⟨o, ho, _⟩ := id PD₁; exact Heap.lt_size ho
  have hyl : ys.length ≤ 20 := by rw [hI.length, asInts_len]; have := starts_len (T.fmod 5).toNat (labelsAll ns T); omega
  refine wpAny_pyIter_list PD₁ ?_
  have upI : ∀ (h' : Heap), (∀ b o, b ∉ [h₁.objs.size] → (h₁.push { cls := .type "list_iterator", data := .fields #[.ref D, .int 0 0] }).get? b = some o → h'.get? b = some o) → Ext h₁ h' :=
    fun h' hk b o e => hk b o (fun q => Nat.lt_irrefl _ ((List.mem_singleton.mp q) ▸ Heap.lt_size e)) (Heap.get?_push_of_some _ e)
  refine ⟨h₁.objs.size, [h₁.objs.size, D], [h₁.objs.size], ys.toArray.size, _, _, rfl, Walks.list hh _ _ (Nat.ne_of_lt hDs) ys.toArray, by rw [List.size_toArray, sizeLine_eq]; omega, ⟨⟨_, Heap.get?_push_size _ rfl, rfl, rfl⟩, PD₁.push _⟩, ?_, ⟨?_, ?_⟩, ?_⟩
  · intro b hb
    rw [Heap.size_push]
    rcases List.mem_cons.mp hb with rfl | hb
    · exact Nat.lt_succ_self _
    · rw [List.mem_singleton.mp hb]; exact Nat.lt_succ_of_lt hDs
  · intro C i v s₃ m₃ E' _ _ _ _ _ _
    exact wpAny_tests_nil ⟨rfl, s₃.heap, s₃.toks, rfl, fun _ _ e => e⟩
  · intro C i v s₃ m₃ E' hC hP _ hNs hm hk _
    have x₃ : Ext h₁ s₃.heap := upI _ hk
    obtain ⟨n, tn, rfl, hn⟩ := ints_item hI i v (by simpa using hP)
    obtain ⟨k, _, hkn⟩ : ∃ k, k ∈ startsN (T.fmod 5).toNat (labelsAll ns T) ∧ ((k : Nat) : Int) = n := List.mem_map.mp (List.mem_of_getElem? hn)
    subst hkn
    refine MethodCall_ (wpAny_Constant_str ?_)
    refine GM.join (callWith_method1 ?_ (by kernel_rfl) (by kernel_rfl))
    refine args_cons ?_ (by kernel_rfl)
    refine Subscript_ ?_
    refine ldCellK (c := L + 1) (by kernel_rfl) (c1 ▸ (clOn X₁ x₃).cell _ _ (lab_cell L)) ?_ (by kernel_rfl) (by kernel_rfl) (by kernel_rfl)
    refine wpAny_Slice ?_
    rw [evalPart_some, evalPart_none]
    refine ldK hNs hm ?_ (by kernel_rfl) (by kernel_rfl) (by kernel_rfl)
    refine wpAny_pure (wpAny_pure ?_)
    have lv : vl.length ≤ 20 := by rw [SL.len_eq]; omega
    refine sliceL (isListOn PL₁ x₃) (lo := some ((k : Nat) : Int)) (hi := none) (.int _ _) .none (by omega) (fun h₄ l₄ x₄ _ hg₄ => ?_) (by kernel_rfl) (by intro _; kernel_rfl)
    (try dsimp only at x₄ hg₄ ⊢)
    refine args_nil (join_listW (isListG hg₄) (ys := (labelsAll ns T).drop k) (slice_strs SL k) (by decide) (sum_small (n := 20) (B := 5) (fun y hy => labelsAll_len ns T y (List.mem_of_mem_drop hy)) (by rw [List.length_drop]; omega) (by decide)) (fun t₅ k₅ => ?_))
    rw [txtJoin]
    exact ⟨⟨t₅, rfl⟩, h₄, _, rfl, x₄⟩
  · intro D₂ h₂ tk₂ ys₂ vs₂ hD₂ hl₂ _ hlen₂ hP₂ hF₂ hk₂
    have ev : vs₂ = ys := by simpa using list_of_places hlen₂ hP₂
    subst ev
    have hv : vs₂.filter (fun _ => true) = vs₂ := List.filter_eq_self.mpr (fun _ _ => rfl)
    rw [hv] at hF₂
    have SY := strs_paired hF₂
    have em : vs₂.map (fun v => fromL (labelsAll ns T) (numOf v).toNat) = (startsN (T.fmod 5).toNat (labelsAll ns T)).map (fromL (labelsAll ns T)) := by
      have : vs₂.map (fun v => fromL (labelsAll ns T) (numOf v).toNat) = (vs₂.map numOf).map (fun i => fromL (labelsAll ns T) i.toNat) := by rw [List.map_map]; rfl
      rw [this, ints_num hI, asInts, List.map_map]
      rfl
    rw [em] at SY
    have x₂ : Ext h₁ h₂ := upI _ hk₂
    have F₂ := frOn F₁ x₂
    have hl₂' : h₂.IsList D₂ ys₂.toList.toArray := by rw [Array.toArray_toList]; exact hl₂
    have hsl := starts_len (T.fmod 5).toNat (labelsAll ns T)
    refine args_nil (sorted_strs hl₂' SY (by rw [SY.len_eq, List.length_map]; omega) ?_)
    intro vs₉ ss₉ S₉ p₉ o₉
    (try dsimp only)
    obtain ⟨e₉, hg₉⟩ := sortedAll_at h₂ ys₂.toList vs₉
    have x₉ : Ext h₂ (sortedAll h₂ ys₂.toList vs₉) := fun _ _ => sortedAll_old
    have F₉ := frOn F₂ x₉
    generalize sortedAll h₂ ys₂.toList vs₉ = h₉ at hg₉ x₉ F₉ ⊢
    have es : ss = ss₉ := plain_law ns T hn1 nd so mem p₉ o₉
    subst es
    have hL₉ : h₉.IsList l₁ vs₁.toArray := isListOn hL₁ (Ext.trans x₂ x₉)
    refine SeqAt.eq_listAt (e := fun _ => true) hL₉ (b := h₂.objs.size + 1) (items2 := vs₉) ⟨_, hg₉, rfl, _, rfl⟩ (by rw [List.size_toArray, S₁.len_eq, ← S₉.len_eq, Array.length_toList]) (by omega) (fun j h1 h2 => ?_) ?_
    · obtain ⟨a, t, u, q1, q2⟩ := strs_at S₁ S₉ j (by simpa using h1) (by simpa using h2)
      have q := SeqAt.EqAt.str_str (A := A.in1) (s := { s with heap := h₉, toks := tk₂ }) a t a u
      rw [beq_self_eq_true] at q
      have q3 : vs₉[j] = .str a u := by simpa using q2
      simpa [q1, q3] using q
    · have : (List.range vs₁.toArray.size).all (fun _ => true) = true := by simp
      rw [this]
      exact hR h₉ _ F₉.keep
end
end Mine
end
-- part W20
section
open PySem PySem.W PyProof.Rows PySem.Calls
namespace Mine
theorem starts_eq {K : Int} (h0 : 0 ≤ K) (ls : List Str) :
    (if 2 < K then (if K = 3 then [0] else List.range (ls.length - 1)) else if K = 1 ∨ K = 2 then (if K = 0 ∧ ls.length - 1 - 1 ∉ starts0 ls then starts0 ls ++ [ls.length - 1 - 1] else starts0 ls) ++ [ls.length - 1]
      else (if K = 0 ∧ ls.length - 1 - 1 ∉ starts0 ls then starts0 ls ++ [ls.length - 1 - 1] else starts0 ls)) = startsN K.toNat ls := by
  have e0 : (K.toNat = 0) = (K = 0) := propext (by omega)
  have e1 : (K.toNat = 1) = (K = 1) := propext (by omega)
  have e2 : (K.toNat = 2) = (K = 2) := propext (by omega)
  have e3 : (K.toNat = 3) = (K = 3) := propext (by omega)
  have e4 : (2 < K.toNat) = (2 < K) := propext (by omega)
  unfold startsN
  dsimp only
  simp only [e0, e1, e2, e3, e4]
  rfl
theorem s0_len (ls : List Str) : (starts0 ls).length ≤ ls.length := by
  have := List.length_filter_le (fun k => ls.getD k Str.empty == Str.ofString "") (List.range (ls.length - 1))
  rw [List.length_range] at this
  show ((List.range (ls.length - 1)).filter (fun k => ls.getD k Str.empty == Str.ofString "")).length ≤ _
  omega
theorem if_len {p : Prop} [Decidable p] (S : List Nat) (a : Nat) : (if p then S ++ [a] else S).length ≤ S.length + 1 := by
  split
  · simp
  · omega
section
variable {w : World} {mean : ExcName → Option Value} {mg mb : Str → Option Value} {A : Around} {E : Value → Shared → Prop} {s : Shared} {Q : Value → Shared → Prop}
set_option maxRecDepth 100000 in
set_option maxHeartbeats 2000000 in
theorem spec_law {f l : Addr} {vs : List Value} {script : List Int} (g : Gd w mean mg mb s.heap) (hf : mg "law" = some (.ref f)) (hroom : A.depth + 10 < recursionLimit) (hh : A.handled = none) (hu : A.units + 50 < cLine)
    (hl : s.heap.IsList l vs.toArray) (hi : IntsAre vs script) (hsz : script.length ≤ 100) (h : ∀ h' tk, Ext s.heap h' → Q (.bool true) { s with heap := h', toks := tk }) : wpAny (model pp w) A (call (.ref f) [.ref l]) Q E s := by
  refine enterC (i := 9) (binds := [("script", .ref l)]) (by decide) g (by rw [nm9]; exact hf) (by omega) (fun _ _ _ => by kernel_rfl) (by intro x hx; rw [List.mem_singleton.mp hx]; kernel_rfl) (by kernel_rfl) (by kernel_rfl) lawK ?_
  intro R cd h₁ L tk₁ hR F X g₁
  have hn1 : 1 ≤ ((script ++ [6, 2, 8]).take 4).length := by rw [List.length_take, List.length_append]; show 1 ≤ min 4 (script.length + 3); omega
  have hn4 : ((script ++ [6, 2, 8]).take 4).length ≤ 4 := List.length_take_le _ _
  refine law_a (G := g) F X hh (l := l) (vs := vs) (script := script) ?_ (isListOn hl F.keep) hi hsz ?_
  · kernel_rfl
  intro h₂ tk₂ m₂ cm₂ ln vn lt ll u F₂ X₂ hN₂ hI₂ b1 b2 PT₂ PL₂ ne1 ne2 a1 a2 a3 a4
  generalize (script ++ [6, 2, 8]).take 4 = ns at *
  generalize ns.sum = T at *
  refine law_b g F₂ X₂ hh (by show A.depth + 1 + 2 < _; omega) hN₂ hI₂ hn4 b1 b2 PT₂ PL₂ ne1 ne2 a1 a2 a3 a4 ?_
  intro h₃ tk₃ m₃ cm₃ ll vt vl F₃ X₃ b2 PT₃ PL₃ ST₃ SL₃ ne1 a2 a3 a4
  refine law_c F₃ g X₃ hh PT₃ PL₃ a2 a3 ?_
  intro h₄ tk₄ m₄ u1 u2 u3 F₄ X₄ PT₄ PL₄ a2 a3 a5 a6 a7
  refine law_d g F₄ X₄ hh (by show A.depth + 1 + 2 < _; omega) hn4 b1 b2 ne1 PT₄ PL₄ ST₃ SL₃ a2 a3 a5 a6 a7 a4 ?_
  intro h₅ tk₅ m₅ vl' u4 F₅ X₅ PL₅ SL₅ a5 a8
  refine law_e g F₅ X₅ hh (by show A.depth + 1 + 2 < _; omega) hn4 hn1 PL₅ SL₅ a8 a4 ?_
  intro h₆ tk₆ F₆ X₆ PL₆
  refine law_f g F₆ X₆ hh hn4 PL₆ SL₅ a5 a8 a4 ?_
  intro h₇ tk₇ m₇ D ys u5 F₇ X₇ PL₇ PD₇ hD hI₇ d1 d2 d3 a5 a8 a9 a10
  have hll := ls_len ns T
  have hl2 : 2 ≤ (labelsAll ns T).length := by have := (theHost ns T hn1).two; rw [ls_parts, List.length_map] at this; exact this
  have s0l := s0_len (labelsAll ns T)
  have p5 : 0 ≤ T.fmod 5 := Int.fmod_nonneg_of_pos _ (by decide)
  refine law_g1 F₇ X₇ (by omega) (by omega) PD₇ hD hI₇ d2 d3 a5 a9 a10 ?_
  intro h₈ tk₈ ys₈ F₈ X₈ k₈ PD₈ hI₈
  have PL₈ : h₈.IsList ll vl'.toArray := by obtain ⟨o, ho, hc⟩ := PL₇; exact ⟨o, k₈ _ _ (Ne.symm d1) ho, hc⟩
  refine law_g2 F₈ X₈ (Nat.le_trans (if_len _ _) (by omega)) PD₈ hD hI₈ d2 d3 a5 a9 a10 ?_
  intro h₉ tk₉ ys₉ F₉ X₉ k₉ PD₉ hI₉
  have PL₉ : h₉.IsList ll vl'.toArray := by obtain ⟨o, ho, hc⟩ := PL₈; exact ⟨o, k₉ _ _ (Ne.symm d1) ho, hc⟩
  refine law_g3 g F₉ X₉ hh (by omega) PL₉ PD₉ hI₉ a5 a9 a10 a8 ?_
  intro h₁₀ tk₁₀ m₁₀ D' ys₁₀ F₁₀ X₁₀ PL₁₀ PD₁₀ hI₁₀ a8 a10
  rw [starts_eq p5] at hI₁₀
  refine law_h g F₁₀ X₁₀ hh (by show A.depth + 1 + 5 < _; omega) (by show A.units + 3 + 20 < _; omega) hn4 hn1 PL₁₀ SL₅ PD₁₀ hI₁₀ a8 a10 a4 ?_
  intro h' tk x
  exact hR _ _ (h h' tk x)
end
end Mine
end
-- part W21
section
open PySem PySem.W PyProof.Rows PySem.Calls
namespace Mine
theorem law_name : lawRec.name = "law" := by kernel_rfl
set_option maxRecDepth 100000 in
set_option maxHeartbeats 2000000 in
theorem walk_law : WalkO qq looseQ (fun _ _ => True) Says rwL.row.toRowW lawRec [] fun f vs => PySem.call f vs := by
  intro w s₀ s₁ mg mb G Y fa o pm cd doc dV kV ho hd hcd hD hmg hg args vals as hpre hlay hrd hwl hlo
  have g : Gd w (ExcName.means s₀.heap) mg mb s₁.heap := ⟨G.T, Y⟩
  rw [law_name] at hmg
  wrow_args hpre hlay hrd hwl hlo
  rename_i script _ _ _ _ _ _ _ l vs _ hL _ _ _ hI _ hlen _
  refine spec_law (Q := fun v s' => GoodWG rwL.row.claim (classAt s₀.heap) (ExcName.means s₀.heap) [ofPy (PyData.list (List.map PyData.int script))] s₁ (Except.ok (Flow.ret v)) s') g hmg (by decide) rfl (by decide) hL hI (by omega) ?_
  intro h' tk x
  exact GoodW.toG ⟨.inl ⟨_, _, [], rfl, fun _ => rfl, ReadsW.bool true, (by wrow_post), fun _ => ⟨List.nodup_nil, fun _ hm => nomatch hm⟩⟩, x, rfl, hg⟩
end Mine
end
open PySem PySem.W PyProof.Rows
set_option maxRecDepth 100000 in
theorem PySem.Challenge.cw_re0115_01_holds : PySem.Challenge.rw_re0115_01.Holds := by
  exact Mine.law_holds (Mine.left_of Mine.chain_eq) Mine.walk_law
