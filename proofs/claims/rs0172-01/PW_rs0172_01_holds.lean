import PyProof.Rows.All
import Wide.All
import OpenK.AllK
import Wide.FinOn
import Lean
import PySem.Challenge.RW_rs0172_01
set_option Elab.async false
set_option linter.all false
set_option genSizeOf false
set_option genSizeOfSpec false
section HeadTG
open PySem PySem.W PyProof.Rows
namespace Mine
section
variable (p : Program) (w : World) (n₀ : Nat) (ann : Option Value)
noncomputable def TG (n : Nat) (s : Shared) (t : Thread) (s' : Shared) (t' : Thread) : Prop :=
  ∀ N r, topRun treeTable p w n₀ ann N s' t' = some r → topRun treeTable p w n₀ ann (n + N) s t = some r
variable {p w n₀ ann}
theorem TG.refl {s t} : TG p w n₀ ann 0 s t s t := fun N r h => by rw [Nat.zero_add]; exact h
theorem TG.trans {n m s t s₁ t₁ s₂ t₂} (h : TG p w n₀ ann n s t s₁ t₁) (k : TG p w n₀ ann m s₁ t₁ s₂ t₂) : TG p w n₀ ann (n + m) s t s₂ t₂ :=
  fun N r e => by rw [Nat.add_assoc]; exact h _ _ (k _ _ e)
theorem TG.mono {n m s t s₁ t₁} (h : TG p w n₀ ann n s t s₁ t₁) (e : n ≤ m) : TG p w n₀ ann m s t s₁ t₁ := fun N r q => by
  have := topRun_mono (m - n) _ _ _ _ (h N r q)
  rwa [show n + N + (m - n) = m + N by lia] at this
theorem TG.step {s t s₁ t₁} (ht : through t = false) (hk : stepOk n₀ ann t = true) (hs : PySem.step (denote treeTable) p w s t = .go s₁ t₁) : TG p w n₀ ann 1 s t s₁ t₁ := fun N r q => by
  rw [show 1 + N = N + 1 by lia]
  unfold topRun
  rw [ht, hk, hs]
  exact q
theorem TG.ofGo {n s t s' t'} (h : topGo treeTable p w n₀ ann n s t = some (s', t')) : TG p w n₀ ann n s t s' t' := fun _ _ k => go_top h k
variable (p w n₀ ann) in
noncomputable def TGx {α : Type} (n : Nat) (x : Sem α) (pos : Pos) (s : Shared) (a : α) (pos' : Pos) (s' : Shared) : Prop :=
  ∀ (K : α → Sem Fin) (H : Value → Sem Fin) (gd : Bool → Bool) (lv : List Value → List Value) (code : Code) (f : Frame) (rest : List Frame),
    TG p w n₀ ann n s ⟨x.wrap K H gd lv, code, pos, f :: rest⟩ s' ⟨K a, code, pos', f :: rest⟩
variable {α β : Type} {n m : Nat} {s s' s₁ : Shared} {pos pos' pos₁ : Pos}
theorem TGx.pure {a : α} : TGx p w n₀ ann 0 (Pure.pure a : Sem α) pos s a pos s := fun _ _ _ _ _ _ _ => .refl
theorem TGx.mono {x : Sem α} {a : α} (h : TGx p w n₀ ann n x pos s a pos' s') (e : n ≤ m) : TGx p w n₀ ann m x pos s a pos' s' := fun K H gd lv code f rest => (h K H gd lv code f rest).mono e
theorem TGx.bind {x : Sem α} {f : α → Sem β} {a : α} {b : β} (h : TGx p w n₀ ann n x pos s a pos₁ s₁) (k : TGx p w n₀ ann m (f a) pos₁ s₁ b pos' s') : TGx p w n₀ ann (n + m) (x >>= f) pos s b pos' s' := fun K H gd lv code fr rest => by
  rw [Sem.bind_eq_wrap', Sem.wrap_wrap]
  exact (h _ _ _ _ code fr rest).trans (k K H gd lv code fr rest)
theorem TGx.bind' {x : Sem α} {f : α → Sem β} {a : α} {b : β} (h : TGx p w n₀ ann n x pos s a pos₁ s₁) (k : TGx p w n₀ ann m (f a) pos₁ s₁ b pos' s') : TGx p w n₀ ann (n + m) (x.bind f) pos s b pos' s' := h.bind k
theorem TGx.load {a : Addr} {part : Option Value} {k : Obj → Sem α} {o : Obj} {r : α} (ho : s.heap.get? a = some o) (h : TGx p w n₀ ann n (k o) pos s r pos' s') : TGx p w n₀ ann (n + 1) (.load a part k) pos s r pos' s' := fun K H gd lv code f rest => by
  rw [Nat.add_comm]
  refine TG.trans (TG.step rfl rfl ?_) (h K H gd lv code f rest)
  obtain ⟨heap, gens, drawn, toks, os⟩ := s
  show PySem.step _ _ _ _ ⟨.load a part _, code, pos, f :: rest⟩ = _
  simp only [PySem.step]
  rw [ho]
theorem TGx.update {a : Addr} {part : Option Value} {g : Obj → Obj} {k : Unit → Sem α} {r : α} (ho : (s.heap.get? a).isSome = true) (ha : n₀ ≤ a) (h : TGx p w n₀ ann n (k ()) pos { s with heap := s.heap.update a g } r pos' s') : TGx p w n₀ ann (n + 1) (.update a part g k) pos s r pos' s' := fun K H gd lv code f rest => by
  rw [Nat.add_comm]
  refine TG.trans (TG.step rfl ?_ ?_) (h K H gd lv code f rest)
  · show (true && (Nat.ble n₀ a || a == mainNs || a == cStatics || ann == some (.ref a))) = true
    rw [Nat.ble_eq_true_of_le ha]; rfl
  · obtain ⟨heap, gens, drawn, toks, os⟩ := s
    show PySem.step _ _ _ _ ⟨.update a part g _, code, pos, f :: rest⟩ = _
    simp only [PySem.step]
    rw [if_pos ho]
theorem TGx.alloc {o : Obj} {k : Addr → Sem α} {r : α} (h : TGx p w n₀ ann n (k s.heap.objs.size) pos { s with heap := s.heap.push o } r pos' s') : TGx p w n₀ ann (n + 1) (.alloc o k) pos s r pos' s' := fun K H gd lv code f rest => by
  rw [Nat.add_comm]
  refine TG.trans (TG.step rfl rfl ?_) (h K H gd lv code f rest)
  obtain ⟨heap, gens, drawn, toks, os⟩ := s
  rfl
theorem TGx.fresh {k : Tok → Sem α} {r : α} (h : TGx p w n₀ ann n (k s.toks) pos { s with toks := s.toks + 1 } r pos' s') : TGx p w n₀ ann (n + 1) (.fresh k) pos s r pos' s' := fun K H gd lv code f rest => by
  rw [Nat.add_comm]
  refine TG.trans (TG.step rfl rfl ?_) (h K H gd lv code f rest)
  obtain ⟨heap, gens, drawn, toks, os⟩ := s
  rfl
theorem TGx.ask {k : Setting → Sem α} {r : α} (h : TGx p w n₀ ann n (k ⟨p, w.params⟩) pos s r pos' s') : TGx p w n₀ ann (n + 1) (.ask k) pos s r pos' s' := fun K H gd lv code f rest => by
  rw [Nat.add_comm]
  refine TG.trans (TG.step rfl rfl ?_) (h K H gd lv code f rest)
  obtain ⟨heap, gens, drawn, toks, os⟩ := s
  rfl
theorem TGx.at {q : Pos} {k : Unit → Sem α} {r : α} (h : TGx p w n₀ ann n (k ()) q s r pos' s') : TGx p w n₀ ann (n + 1) (.at q k) pos s r pos' s' := fun K H gd lv code f rest => by
  rw [Nat.add_comm]
  refine TG.trans (TG.step rfl rfl ?_) (h K H gd lv code f rest)
  obtain ⟨heap, gens, drawn, toks, os⟩ := s
  rfl
theorem TGx.rule {tag : String} {k : Unit → Sem α} {r : α} (h : TGx p w n₀ ann n (k ()) pos s r pos' s') : TGx p w n₀ ann (n + 1) (.rule tag k) pos s r pos' s' := fun K H gd lv code f rest => by
  rw [Nat.add_comm]
  refine TG.trans (TG.step rfl rfl ?_) (h K H gd lv code f rest)
  obtain ⟨heap, gens, drawn, toks, os⟩ := s
  rfl
theorem TGx.keep {vs : List Value} {x : Sem α} {r : α} (h : TGx p w n₀ ann n x pos s r pos' s') : TGx p w n₀ ann n (x.keep vs) pos s r pos' s' := fun K H gd lv code f rest => by
  rw [Sem.keep_eq_wrap, Sem.wrap_wrap]
  exact h _ _ _ _ code f rest
theorem TGx.holding {vs : List Value} {x : Sem α} {r : α} (h : TGx p w n₀ ann n x pos s r pos' s') : TGx p w n₀ ann n (holding vs x) pos s r pos' s' := by
  unfold PySem.holding
  split
  · exact h
  · exact h.keep
theorem TGx.onRaise {g : Value → Sem Unit} {x : Sem α} {r : α} (h : TGx p w n₀ ann n x pos s r pos' s') : TGx p w n₀ ann n (x.onRaise g) pos s r pos' s' := fun K H gd lv code f rest => by
  rw [Sem.onRaise_eq_wrap, Sem.wrap_wrap]
  exact h _ _ _ _ code f rest
variable (p w n₀ ann) in
noncomputable def TGc (n : Nat) (c : Code) (s : Shared) (v : Value) (s' : Shared) : Prop :=
  ∀ (pos : Pos) (k : Result → Sem Fin) (h : Option Value) (g : Bool) (l : List Value) (cd : Code) (p₀ : Pos) (kept : List Value) (f : Frame) (rest : List Frame),
    TG p w n₀ ann n s ⟨denote treeTable c, c, pos, .ret k h g l cd p₀ kept :: f :: rest⟩ s' ⟨k (.ok (.ret v)), cd, p₀, f :: rest⟩
theorem TGx.call {c : Code} {hd : Option Value} {g : Bool} {l : List Value} {k : Result → Sem α} {v : Value} {r : α} (hc : TGc p w n₀ ann n c s v s₁) (h : TGx p w n₀ ann m (k (.ok (.ret v))) pos s₁ r pos' s') : TGx p w n₀ ann (n + m + 1) (.call c hd g l k) pos s r pos' s' := fun K H gd lv code f rest => by
  obtain ⟨heap, gens, drawn, toks, os⟩ := s
  have hs : ∃ kept, PySem.step (denote treeTable) p w ⟨heap, gens, drawn, toks, os⟩ ⟨(Sem.call c hd g l k).wrap K H gd lv, code, pos, f :: rest⟩ =
      .go ⟨heap, gens, drawn, toks, os⟩ ⟨denote treeTable c, c, pos, .ret (fun r => (k r).wrap K H gd lv) hd (gd g) (lv l) code pos kept :: f :: rest⟩ := ⟨_, rfl⟩
  obtain ⟨kept, hs⟩ := hs
  rw [Nat.add_comm]
  exact TG.trans (TG.step rfl rfl hs) ((hc pos _ _ _ _ code pos kept f rest).trans (h K H gd lv code f rest))
end
end Mine
namespace Mine
theorem tgc_int_hash {p w n₀ ann} {k : Int} {t : Tok} {s : Shared} : TGc p w n₀ ann 3 (.call (.builtin "int.__hash__") ⟨[.int k t], []⟩) s (.int (rawHash k) s.toks) { s with toks := s.toks + 1 } := by
  intro pos k' h g l cd p₀ kept f rest
  obtain ⟨heap, gens, drawn, toks, os⟩ := s
  refine TG.ofGo ?_
  show topGo treeTable p w n₀ ann 3 ⟨heap, gens, drawn, toks, os⟩ ⟨denote treeTable (.call (.builtin "int.__hash__") ⟨[.int k t], []⟩), (.call (.builtin "int.__hash__") ⟨[.int k t], []⟩), pos, .ret k' h g l cd p₀ kept :: f :: rest⟩ = some (⟨heap, gens, drawn, toks+1, os⟩, ⟨k' (.ok (.ret (.int (rawHash k) toks))), cd, p₀, f :: rest⟩)
  kernel_rfl
section
variable {p : Program} {w : World} {n₀ : Nat} {ann : Option Value} {α β : Type} {n m : Nat} {s s' s₁ : Shared} {pos pos' pos₁ : Pos}
theorem TGx.tryCatch {g : Value → Sem α} {x : Sem α} {r : α} (h : TGx p w n₀ ann n x pos s r pos' s') : TGx p w n₀ ann n (tryCatch x g) pos s r pos' s' := fun K H gd lv code f rest => by
  show TG p w n₀ ann n s ⟨(Sem.tryCatch x g).wrap K H gd lv, code, pos, f :: rest⟩ s' ⟨K r, code, pos', f :: rest⟩
  rw [Sem.tryCatch_eq_wrap, Sem.wrap_wrap]
  exact h _ _ _ _ code f rest
theorem TGx.bindE {x : Sem α} {f : α → Sem β} {a : α} {b : β} (h : TGx p w n₀ ann n x pos s a pos₁ s₁) (k : TGx p w n₀ ann m (f a) pos₁ s₁ b pos' s') {N : Nat} (e : n + m ≤ N) : TGx p w n₀ ann N (x >>= f) pos s b pos' s' := (h.bind k).mono e
theorem special_int_hash (k : Int) (t : Tok) : specialOf (.int k t) "__hash__" = pure (some (.builtin "int.__hash__")) := by kernel_rfl
theorem tgx_call {f : Value} {args : List Value} {v : Value} (h : TGc p w n₀ ann n (.call f ⟨args, []⟩) s v s') : TGx p w n₀ ann (n + 1) (call f args) pos s v pos s' := by
  refine TGx.mono (n := n + 0 + 1) ?_ (by lia)
  exact TGx.call (k := fun r => ((match r with | .ok f => Sem.pure f | .error e => Sem.raise e) : Sem Flow).bind fun fl => match fl with | .ret v => pure v | _ => unsupported "internal:call-without-return-value") h TGx.pure
theorem tgx_askIf {α : Type} {row : String} {a b : Sem α} {r : α} (ha : TGx p w n₀ ann n a pos s r pos' s') (hb : TGx p w n₀ ann n b pos s r pos' s') :
    TGx p w n₀ ann (n + 1) (ask >>= fun st => if st.params.followText row = true then a else b) pos s r pos' s' := by
  refine TGx.ask (k := fun st => (Sem.pure st).bind fun st => if st.params.followText row = true then a else b) ?_
  show TGx p w n₀ ann n (if w.params.followText row = true then a else b) pos s r pos' s'
  split
  · exact ha
  · exact hb
theorem tgx_callSpecial_int {k : Int} {t : Tok} {r : Sem Value} : TGx p w n₀ ann 5 (callSpecialIfBoundUnlessNone? (.int k t) "__hash__" r) pos s (some (.int (rawHash k) s.toks)) pos { s with toks := s.toks + 1 } := by
  simp only [callSpecialIfBoundUnlessNone?, bindSpecialIfBound?]
  refine TGx.holding ?_
  rw [special_int_hash]
  refine TGx.bindE (n := 1) (m := 4) (a := some (.builtin "int.__hash__", [.int k t])) (s₁ := s) (pos₁ := pos) ?_ ?_ (by lia)
  · refine TGx.bindE (n := 0) (m := 1) TGx.pure ?_ (by lia)
    simp only [slot_int_hash.bind]
    refine TGx.mono (n := 1) (tgx_askIf (n := 0) ?_ ?_) (by lia)
    · exact TGx.pure
    · exact TGx.tryCatch TGx.pure
  · simp only [builtin_beq_none, Bool.false_eq_true, if_false]
    exact TGx.bind (n := 4) (m := 0) (tgx_call (n := 3) tgc_int_hash) TGx.pure
theorem tgx_pyHash_int {k : Int} {t : Tok} : TGx p w n₀ ann 5 (pyHash (.int k t)) pos s (hashInt k) pos { s with toks := s.toks + 1 } := by
  have hr := rawHash_range k
  have hv : [Value.int k t].any Value.onHeap = false := rfl
  unfold pyHash pyHashByItsType
  simp only [special_int_hash]
  refine TGx.bindE (n := 0) (m := 5) (a := ()) (s₁ := s) (pos₁ := pos) ?_ ?_ (by lia)
  · rw [cRoomFor, if_neg (by rw [hv]; exact Bool.false_ne_true)]; exact TGx.pure
  · refine TGx.bindE (n := 0) (m := 5) TGx.pure ?_ (by lia)
    rw [if_neg (by rw [beq_builtin_none]; exact Bool.false_ne_true)]
    refine TGx.bindE (n := 0) (m := 5) TGx.pure ?_ (by lia)
    refine TGx.bindE (n := 5) (m := 0) tgx_callSpecial_int ?_ (by lia)
    show TGx p w n₀ ann 0 (if (decide (-(2 : Int) ^ 63 ≤ rawHash k) && decide (rawHash k < 2 ^ 63)) = true then _ else _) _ _ _ _ _
    rw [if_pos (by rw [decide_eq_true hr.1, decide_eq_true hr.2]; rfl)]
    exact TGx.pure
end
end Mine
namespace Mine
noncomputable def hN (h : Heap) (l : List Obj) : Heap := ⟨h.objs ++ l.toArray, h.life⟩
noncomputable abbrev dObj (es : List DictEntry) (n : Nat) : Obj := { cls := .type "dict", data := .dict es.toArray n }
theorem hN_push (h : Heap) (l : List Obj) (o : Obj) : (hN h l).push o = hN h (l ++ [o]) := by
  obtain ⟨objs, life⟩ := h
  simp [hN, Heap.push]
theorem hN_size (h : Heap) (l : List Obj) : (hN h l).objs.size = h.objs.size + l.length := by simp [hN]
theorem hN_get (h : Heap) {l : List Obj} {i : Nat} {c : Value} {d : Option Addr} {es : Array DictEntry} {n : Nat} {sl : Array (Option Value)} (e : l[i]? = some ⟨c, d, .dict es n, sl⟩) : (hN h l).get? (h.objs.size + i) = some ⟨c, d, .dict es n, sl⟩ := by
  have : (hN h l).objs[h.objs.size + i]? = some ⟨c, d, .dict es n, sl⟩ := by
    show (h.objs ++ l.toArray)[h.objs.size + i]? = _
    rw [Array.getElem?_append_right (by lia)]
    simpa using e
  unfold Heap.get?
  rw [this]
theorem hN_update (h : Heap) (l : List Obj) (i : Nat) (f : Obj → Obj) : (hN h l).update (h.objs.size + i) f = hN h (l.modify i f) := by
  obtain ⟨objs, life⟩ := h
  simp only [hN, Heap.update]
  congr 1
  apply Array.ext_getElem?
  intro j
  rw [Array.getElem?_modify]
  by_cases hj : j < objs.size
  · rw [Array.getElem?_append_left hj, Array.getElem?_append_left hj]
    have : objs.size + i ≠ j := by lia
    simp [this]
  · rw [Array.getElem?_append_right (by lia), Array.getElem?_append_right (by lia)]
    simp only [List.getElem?_toArray, List.getElem?_modify]
    by_cases e : objs.size + i = j
    · subst e; simp
    · have : i ≠ j - objs.size := by lia
      simp [e, this]
section
variable {p : Program} {w : World} {n₀ : Nat} {ann : Option Value} {α β : Type} {n m : Nat} {s s' s₁ : Shared} {pos pos' pos₁ : Pos}
theorem tgx_dictEntries {d : Addr} {part : Option Value} {c : Value} {dd : Option Addr} {es : Array DictEntry} {ep : Nat} {sl : Array (Option Value)} (ho : s.heap.get? d = some ⟨c, dd, .dict es ep, sl⟩) :
    TGx p w n₀ ann 1 (dictEntries d part) pos s es pos s := TGx.load (k := fun o => (Sem.pure o).bind fun o => match o.data with | .dict es _ => pure es | _ => unsupported "internal:not-a-dict") ho TGx.pure
theorem tgx_dictEpoch {d : Addr} {part : Option Value} {c : Value} {dd : Option Addr} {es : Array DictEntry} {ep : Nat} {sl : Array (Option Value)} (ho : s.heap.get? d = some ⟨c, dd, .dict es ep, sl⟩) :
    TGx p w n₀ ann 1 (dictEpoch d part) pos s ep pos s := TGx.load (k := fun o => (Sem.pure o).bind fun o => match o.data with | .dict _ n => pure n | _ => unsupported "internal:not-a-dict") ho TGx.pure
theorem places_none {es : Array DictEntry} {h : Int} (hn : ∀ e ∈ es, e.hash ≠ h) : placesWithHash es.size (fun i => es[i]?.map (·.hash)) h = [] := by
  unfold placesWithHash
  rw [List.filter_eq_nil_iff]
  intro i hi
  have hi' : i < es.size := by simpa using hi
  simp only [hi', getElem?_pos, Option.map_some, beq_iff_eq, Option.some.injEq]
  exact hn _ (Array.getElem_mem hi')
theorem tgx_dictFind_none {d : Addr} {k : Int} {t : Tok} {h : Int} {c : Value} {dd : Option Addr} {es : Array DictEntry} {ep : Nat} {sl : Array (Option Value)} (ho : s.heap.get? d = some ⟨c, dd, .dict es ep, sl⟩)
    (hn : ∀ e ∈ es, e.hash ≠ h) : TGx p w n₀ ann 1 (dictFind d (.int k t) h) pos s none pos s := by
  unfold dictFind
  refine TGx.holding (TGx.bindE (n := 1) (m := 0) (tgx_dictEntries ho) ?_ (by lia))
  dsimp only
  rw [places_none hn]
  exact TGx.pure
theorem tgx_push {d : Addr} {part : Option Value} {x : DictEntry} {c : Value} {dd : Option Addr} {es : Array DictEntry} {ep : Nat} {sl : Array (Option Value)} (ho : s.heap.get? d = some ⟨c, dd, .dict es ep, sl⟩)
    (hd : n₀ ≤ d) (hsz : es.size ≤ 1000) (hnew : (s.heap.update d (Obj.mapDictKeys (·.push x))).get? d = some ⟨c, dd, .dict (es.push x) (ep + 1), sl⟩) :
    TGx p w n₀ ann 3 (updateDictKeys d (·.push x) part) pos s () pos { s with heap := s.heap.update d (Obj.mapDictKeys (·.push x)) } := by
  unfold updateDictKeys
  refine TGx.load (n := 2) (k := fun o => (Sem.pure o).bind fun o => match o.data with | .dict _ _ => (do updatePart d part (Obj.mapDictKeys (·.push x)); lookBehind d part) | _ => unsupported "internal:write-to-non-dict") ho ?_
  show TGx p w n₀ ann 2 (do updatePart d part (Obj.mapDictKeys (·.push x)); lookBehind d part) _ _ _ _ _
  refine TGx.update (n := 1) (k := fun u => (Sem.pure u).bind fun _ => lookBehind d part) (by rw [ho]; rfl) hd ?_
  show TGx p w n₀ ann 1 (lookBehind d part) _ _ _ _ _
  refine TGx.load (n := 0) (k := fun o => (Sem.pure o).bind fun o => if let some what := o.data.pastItsLine then unsupported what else pure ()) hnew ?_
  have hsz' : (es.push x).size = es.size + 1 := Array.size_push ..
  have : (Data.dict (es.push x) (ep + 1)).pastItsLine = none := by
    unfold Data.pastItsLine
    simp only [hsz']
    rw [if_neg]
    rw [sizeLine_eq]; lia
  show TGx p w n₀ ann 0 (if let some what := (Data.dict (es.push x) (ep + 1)).pastItsLine then unsupported what else pure ()) _ _ _ _ _
  rw [this]
  exact TGx.pure
theorem tgx_dictPut {d : Addr} {k : Int} {t : Tok} {h : Int} {v : Value} {c : Value} {dd : Option Addr} {es : Array DictEntry} {ep : Nat} {sl : Array (Option Value)} (ho : s.heap.get? d = some ⟨c, dd, .dict es ep, sl⟩)
    (hn : ∀ e ∈ es, e.hash ≠ h) (hd : n₀ ≤ d) (hsz : es.size ≤ 1000) (hnew : (s.heap.update d (Obj.mapDictKeys (·.push ⟨h, .int k t, v⟩))).get? d = some ⟨c, dd, .dict (es.push ⟨h, .int k t, v⟩) (ep + 1), sl⟩) :
    TGx p w n₀ ann 4 (dictPut d h (.int k t) v) pos s () pos { s with heap := s.heap.update d (Obj.mapDictKeys (·.push ⟨h, .int k t, v⟩)) } := by
  unfold dictPut
  refine TGx.bindE (n := 1) (m := 3) (tgx_dictFind_none ho hn) ?_ (by lia)
  exact tgx_push ho hd hsz hnew
theorem tgx_dictSet {d : Addr} {k : Int} {t t' : Tok} {x : Str} {c : Value} {dd : Option Addr} {es : Array DictEntry} {ep : Nat} {sl : Array (Option Value)} (ho : s.heap.get? d = some ⟨c, dd, .dict es ep, sl⟩)
    (hn : ∀ e ∈ es, e.hash ≠ hashInt k) (hd : n₀ ≤ d) (hsz : es.size ≤ 1000)
    (hnew : (s.heap.update d (Obj.mapDictKeys (·.push ⟨hashInt k, .int k t, .str x t'⟩))).get? d = some ⟨c, dd, .dict (es.push ⟨hashInt k, .int k t, .str x t'⟩) (ep + 1), sl⟩) :
    TGx p w n₀ ann 10 (dictSet d (.int k t) (.str x t')) pos s () pos { s with heap := s.heap.update d (Obj.mapDictKeys (·.push ⟨hashInt k, .int k t, .str x t'⟩)), toks := s.toks + 1 } := by
  unfold dictSet
  refine TGx.holding (TGx.bindE (n := 5) (m := 5) tgx_pyHash_int ?_ (by lia))
  unfold dictSetHashed
  refine TGx.holding (TGx.bindE (n := 1) (m := 4) (tgx_dictFind_none (s := { s with toks := s.toks + 1 }) ho hn) ?_ (by lia))
  refine TGx.rule (n := 3) (k := fun u => (Sem.pure u).bind fun _ => updateDictKeys d (·.push ⟨hashInt k, .int k t, .str x t'⟩) (keyPart (.int k t))) ?_
  exact tgx_push (s := { s with toks := s.toks + 1 }) ho hd hsz hnew
end
end Mine
namespace Mine
theorem upd_push (h : Heap) (l : List Obj) (es : List DictEntry) (n i : Nat) (x : DictEntry) (e : l[i]? = some (dObj es n)) :
    (hN h l).update (h.objs.size + i) (Obj.mapDictKeys (·.push x)) = hN h (l.set i (dObj (es ++ [x]) (n + 1))) := by
  rw [hN_update]
  congr 1
  apply List.ext_getElem?
  intro j
  rw [List.getElem?_modify, List.getElem?_set]
  by_cases q : i = j
  · subst q
    have hl : i < l.length := (List.getElem?_eq_some_iff.mp e).1
    have e' : l[i] = dObj es n := by rw [List.getElem?_eq_getElem hl] at e; exact Option.some.inj e
    simp [e', Obj.mapDictKeys, hl]
  · simp [q]
section
variable {p : Program} {w : World} {n₀ : Nat} {ann : Option Value} {α β : Type} {n m : Nat} {s s' s₁ : Shared} {pos pos' pos₁ : Pos}
variable {h : Heap} {gens : Array GenState} {drawn : Drawn} {toks : Nat} {os : OsState}
theorem tgx_set1 {l : List Obj} {es : List DictEntry} {i ep : Nat} {k : Int} {t t' : Tok} {x : Str} (e : l[i]? = some (dObj es ep)) (hn : ∀ e ∈ es, e.hash ≠ hashInt k) (hd : n₀ ≤ h.objs.size) (hsz : es.length ≤ 1000) :
    TGx p w n₀ ann 10 (dictSet (h.objs.size + i) (.int k t) (.str x t')) pos ⟨hN h l, gens, drawn, toks, os⟩ () pos ⟨hN h (l.set i (dObj (es ++ [⟨hashInt k, .int k t, .str x t'⟩]) (ep + 1))), gens, drawn, toks + 1, os⟩ := by
  have u := upd_push h l es ep i ⟨hashInt k, .int k t, .str x t'⟩ e
  have hl : i < l.length := (List.getElem?_eq_some_iff.mp e).1
  have := tgx_dictSet (p := p) (w := w) (n₀ := n₀) (ann := ann) (pos := pos) (s := ⟨hN h l, gens, drawn, toks, os⟩) (d := h.objs.size + i) (k := k) (t := t) (t' := t') (x := x) (hN_get h e) (by simpa using hn) (by lia) (by simpa using hsz)
    (by dsimp only; rw [u]; have := hN_get h (l := l.set i (dObj (es ++ [⟨hashInt k, .int k t, .str x t'⟩]) (ep + 1))) (i := i) (by rw [List.getElem?_set_self hl]); simpa using this)
  dsimp only at this
  rw [u] at this
  exact this
theorem tgx_put1 {l : List Obj} {es : List DictEntry} {i ep : Nat} {k : Int} {t : Tok} {hh : Int} {v : Value} (e : l[i]? = some (dObj es ep)) (hn : ∀ e ∈ es, e.hash ≠ hh) (hd : n₀ ≤ h.objs.size) (hsz : es.length ≤ 1000) :
    TGx p w n₀ ann 4 (dictPut (h.objs.size + i) hh (.int k t) v) pos ⟨hN h l, gens, drawn, toks, os⟩ () pos ⟨hN h (l.set i (dObj (es ++ [⟨hh, .int k t, v⟩]) (ep + 1))), gens, drawn, toks, os⟩ := by
  have u := upd_push h l es ep i ⟨hh, .int k t, v⟩ e
  have hl : i < l.length := (List.getElem?_eq_some_iff.mp e).1
  have := tgx_dictPut (p := p) (w := w) (n₀ := n₀) (ann := ann) (pos := pos) (s := ⟨hN h l, gens, drawn, toks, os⟩) (d := h.objs.size + i) (k := k) (t := t) (v := v) (h := hh) (hN_get h e) (by simpa using hn) (by lia) (by simpa using hsz)
    (by dsimp only; rw [u]; have := hN_get h (l := l.set i (dObj (es ++ [⟨hh, .int k t, v⟩]) (ep + 1))) (i := i) (by rw [List.getElem?_set_self hl]); simpa using this)
  dsimp only at this
  rw [u] at this
  exact this
set_option genInjectivity false in
structure PE where
  k : Int
  x : Str
  pk : Pos
  px : Pos
noncomputable def PE.key (a : PE) : Expr := .Constant (.int a.k) 0 a.pk
noncomputable def PE.val (a : PE) : Expr := .Constant (.str a.x) 0 a.px
noncomputable def PE.item (env : Env) (q : Pos) (a : PE) : Sem Value × Sem Value := (eval a.key env, eval a.val env >>= fun x => standAt q >>= fun _ => pure x)
theorem tgx_key {a : PE} {env : Env} : TGx p w n₀ ann 1 (eval a.key env) pos ⟨h, gens, drawn, toks, os⟩ (.int a.k toks) pos ⟨h, gens, drawn, toks + 1, os⟩ :=
  TGx.fresh (s := ⟨h, gens, drawn, toks, os⟩) (k := fun t => (Sem.pure t).bind fun t => (pure (Value.int a.k t) : Sem Value)) TGx.pure
theorem tgx_val {a : PE} {env : Env} {q : Pos} : TGx p w n₀ ann 2 (eval a.val env >>= fun x => standAt q >>= fun _ => pure x) pos ⟨h, gens, drawn, toks, os⟩ (.str a.x toks) q ⟨h, gens, drawn, toks + 1, os⟩ := by
  refine TGx.bindE (n := 1) (m := 1) (s₁ := ⟨h, gens, drawn, toks + 1, os⟩) (pos₁ := pos) (TGx.fresh (s := ⟨h, gens, drawn, toks, os⟩) (k := fun t => (Sem.pure t).bind fun t => (pure (Value.str a.x t) : Sem Value)) TGx.pure) ?_ (by lia)
  exact TGx.at (n := 0) (k := fun u => (Sem.pure u).bind fun _ => (pure (Value.str a.x toks) : Sem Value)) TGx.pure
noncomputable def ents (st t : Nat) : List PE → List DictEntry
  | [] => []
  | a :: r => ⟨hashInt a.k, .int a.k t, .str a.x (t + 1)⟩ :: ents st (t + st) r
theorem ents_length (st : Nat) : ∀ (t : Nat) (l : List PE), (ents st t l).length = l.length
  | _, [] => rfl
  | t, _ :: r => by simp [ents, ents_length st (t + st) r]
noncomputable def Ahead (es : List DictEntry) : List PE → Prop
  | [] => True
  | a :: r => (∀ e ∈ es, e.hash ≠ hashInt a.k) ∧ (∀ b ∈ r, hashInt a.k ≠ hashInt b.k) ∧ Ahead es r
theorem Ahead.snoc {es : List DictEntry} {x : DictEntry} : ∀ {r : List PE}, Ahead es r → (∀ b ∈ r, x.hash ≠ hashInt b.k) → Ahead (es ++ [x]) r
  | [], _, _ => trivial
  | a :: r, H, q => ⟨fun e he => by
      rcases List.mem_append.mp he with he | he
      · exact H.1 e he
      · rw [List.mem_singleton.mp he]; exact q a (.head _), H.2.1, H.2.2.snoc fun b hb => q b (.tail _ hb)⟩
theorem tgx_setLoop {env : Env} {q : Pos} {i : Nat} (hd : n₀ ≤ h.objs.size) : ∀ (c : List PE) (l : List Obj) (es : List DictEntry) (ep toks : Nat) (pos : Pos), l[i]? = some (dObj es ep) → Ahead es c → es.length + c.length ≤ 1000 →
    ∃ pos', TGx p w n₀ ann (16 * c.length) (forIn (c.map (PE.item env q)) PUnit.unit fun (x : Sem Value × Sem Value) (_ : PUnit) => (do
        let kv ← x.1
        let vv ← holding [kv] x.2
        holding [kv, vv] (dictSet (h.objs.size + i) kv vv)
        pure (ForInStep.yield PUnit.unit) : Sem (ForInStep PUnit))) pos ⟨hN h l, gens, drawn, toks, os⟩ PUnit.unit pos' ⟨hN h (l.set i (dObj (es ++ ents 3 toks c) (ep + c.length))), gens, drawn, toks + 3 * c.length, os⟩
  | [], l, es, ep, toks, pos, e, _, _ => ⟨pos, by
      have hl : i < l.length := (List.getElem?_eq_some_iff.mp e).1
      have : l.set i (dObj es ep) = l := by
        apply List.ext_getElem?
        intro j
        rw [List.getElem?_set]
        by_cases q : i = j
        · subst q
          have e' : l[i] = dObj es ep := by rw [List.getElem?_eq_getElem hl] at e; exact Option.some.inj e
          simp [hl, e']
        · simp [q]
      simp only [ents, List.append_nil, List.length_nil, Nat.add_zero, Nat.mul_zero, this]
      exact TGx.pure⟩
  | a :: c, l, es, ep, toks, pos, e, H, hsz => by
      have hl : i < l.length := (List.getElem?_eq_some_iff.mp e).1
      rw [List.length_cons] at hsz
      obtain ⟨pos', k⟩ := tgx_setLoop (env := env) (q := q) hd c (l.set i (dObj (es ++ [⟨hashInt a.k, .int a.k toks, .str a.x (toks + 1)⟩]) (ep + 1))) (es ++ [⟨hashInt a.k, .int a.k toks, .str a.x (toks + 1)⟩]) (ep + 1) (toks + 3) q
        (by rw [List.getElem?_set_self hl]) (H.2.2.snoc H.2.1) (by simp; lia)
      refine ⟨pos', ?_⟩
      rw [List.map_cons, List.forIn_cons]
      refine TGx.bindE (n := 14) (m := 16 * c.length) (a := ForInStep.yield PUnit.unit) (pos₁ := q) (s₁ := ⟨hN h (l.set i (dObj (es ++ [⟨hashInt a.k, .int a.k toks, .str a.x (toks + 1)⟩]) (ep + 1))), gens, drawn, toks + 3, os⟩) ?_ ?_ (by simp; lia)
      · refine TGx.bindE (n := 1) (m := 13) (tgx_key (env := env)) ?_ (by lia)
        refine TGx.bindE (n := 2) (m := 11) (TGx.holding tgx_val) ?_ (by lia)
        refine TGx.bindE (n := 10) (m := 0) (TGx.holding (tgx_set1 e H.1 hd (by lia))) ?_ (by lia)
        exact TGx.pure
      · dsimp only
        rw [List.set_set] at k
        have e1 : es ++ [⟨hashInt a.k, .int a.k toks, .str a.x (toks + 1)⟩] ++ ents 3 (toks + 3) c = es ++ ents 3 toks (a :: c) := by simp [ents]
        have e2 : ep + 1 + c.length = ep + (a :: c).length := by simp; lia
        have e3 : toks + 3 + 3 * c.length = toks + 3 * (a :: c).length := by simp; lia
        rw [e1, e2, e3] at k
        exact k
end
end Mine
namespace Mine
section
variable {p : Program} {w : World} {n₀ : Nat} {ann : Option Value} {α β : Type} {n m : Nat} {s s' s₁ : Shared} {pos pos' pos₁ : Pos}
variable {h : Heap} {gens : Array GenState} {drawn : Drawn} {toks : Nat} {os : OsState}
theorem tgx_subDict {env : Env} {q : Pos} {c : List PE} {l : List Obj} (hd : n₀ ≤ h.objs.size) (hc : 15 < c.length) (hc' : c.length ≤ 1000) (H : Ahead [] c) :
    ∃ pos', TGx p w n₀ ann (16 * c.length + 2) (subDict (c.map (PE.item env q))) pos ⟨hN h l, gens, drawn, toks, os⟩ (h.objs.size + l.length) pos'
      ⟨hN h (l ++ [dObj (ents 3 toks c) c.length]), gens, drawn, toks + 3 * c.length, os⟩ := by
  obtain ⟨pos', k⟩ := tgx_setLoop (p := p) (w := w) (n₀ := n₀) (ann := ann) (h := h) (gens := gens) (drawn := drawn) (os := os) (env := env) (q := q) (i := l.length) hd c (l ++ [dObj [] 0]) [] 0 toks pos (by simp) H (by simpa using hc')
  have e : (l ++ [dObj [] 0]).set l.length (dObj ([] ++ ents 3 toks c) (0 + c.length)) = l ++ [dObj (ents 3 toks c) c.length] := by simp
  rw [e] at k
  refine ⟨pos', ?_⟩
  unfold subDict
  refine TGx.bindE (n := 1) (m := 16 * c.length + 1) (a := h.objs.size + l.length) (pos₁ := pos) (s₁ := ⟨hN h (l ++ [dObj [] 0]), gens, drawn, toks, os⟩) ?_ ?_ (by lia)
  · have := TGx.alloc (p := p) (w := w) (n₀ := n₀) (ann := ann) (n := 0) (pos := pos) (pos' := pos) (s := ⟨hN h l, gens, drawn, toks, os⟩) (o := dObj [] 0) (k := Sem.pure) (r := h.objs.size + l.length) (s' := ⟨hN h (l ++ [dObj [] 0]), gens, drawn, toks, os⟩) (by
      dsimp only
      rw [hN_push, hN_size]
      exact TGx.pure)
    exact this
  · refine TGx.bindE (n := 16 * c.length + 1) (m := 0) (a := ()) (pos₁ := pos') (s₁ := ⟨hN h (l ++ [dObj (ents 3 toks c) c.length]), gens, drawn, toks + 3 * c.length, os⟩) (TGx.holding ?_) ?_ (by lia)
    rotate_left
    · exact TGx.pure
    rw [if_neg (by simpa using hc)]
    refine TGx.rule (n := 16 * c.length) (k := fun u => (Sem.pure u).bind fun _ => (do for (k, v) in c.map (PE.item env q) do
        let kv ← k
        let vv ← holding [kv] v
        holding [kv, vv] (dictSet (h.objs.size + l.length) kv vv) : Sem Unit)) ?_
    show TGx p w n₀ ann (16 * c.length) (forIn (c.map (PE.item env q)) PUnit.unit _ >>= fun _ => (pure () : Sem Unit)) _ _ _ _ _
    refine TGx.bindE (n := 16 * c.length) (m := 0) k ?_ (by lia)
    exact TGx.pure
noncomputable def items (env : Env) (q : Pos) (c : List PE) : List (Option (Sem Value) × Sem Value) := c.map fun a => (some (eval a.key env), eval a.val env >>= fun x => standAt q >>= fun _ => pure x)
theorem items_zip (env : Env) (q : Pos) : ∀ c : List PE, (evalEachOpt (c.map fun a => some a.key) env).zip ((evalEach (c.map PE.val) env).map fun v => do let x ← v; standAt q; pure x) = items env q c
  | [] => rfl
  | a :: c => by
    have := items_zip env q c
    simp only [List.map_cons, evalEachOpt, evalOpt, evalEach, List.zip_cons_cons, items] at this ⊢
    rw [this]
theorem tgx_isDict {sub : Addr} {d : Option Addr} {es : Array DictEntry} {ep : Nat} {sl : Array (Option Value)} (ho : s.heap.get? sub = some ⟨.type "dict", d, .dict es ep, sl⟩) :
    TGx p w n₀ ann 1 (isInstance (.ref sub) (.type "dict")) pos s true pos s := by
  unfold isInstance
  refine TGx.bindE (n := 1) (m := 0) (a := .type "dict") (pos₁ := pos) (s₁ := s) (TGx.load (k := fun o => (Sem.pure o).bind fun o => (pure o.cls : Sem Value)) ho TGx.pure) ?_ (by lia)
  have : isSubtype (.type "dict") (.type "dict") = pure true := by kernel_rfl
  rw [this]
  exact TGx.pure
theorem tgx_dictIter {sub : Addr} {d : Option Addr} {es : Array DictEntry} {ep : Nat} {sl : Array (Option Value)} (ho : s.heap.get? sub = some ⟨.type "dict", d, .dict es ep, sl⟩) :
    TGx p w n₀ ann 1 (specialOf (.ref sub) "__iter__") pos s (some (.builtin "dict.__iter__")) pos s := by
  unfold specialOf
  refine TGx.bindE (n := 1) (m := 0) (a := .type "dict") (pos₁ := pos) (s₁ := s) (TGx.load (k := fun o => (Sem.pure o).bind fun o => (pure o.cls : Sem Value)) ho TGx.pure) ?_ (by lia)
  have : typeLookup (.type "dict") "__iter__" = pure (some (.builtin "dict.__iter__")) := by kernel_rfl
  rw [this]
  exact TGx.pure
end
end Mine
namespace Mine
section
variable {p : Program} {w : World} {n₀ : Nat} {ann : Option Value} {α β : Type} {n m : Nat} {s s' s₁ : Shared} {pos pos' pos₁ : Pos}
variable {h : Heap} {gens : Array GenState} {drawn : Drawn} {toks : Nat} {os : OsState}
theorem tgx_mergeLoop {st i j sep : Nat} {ses : List DictEntry} (hij : i ≠ j) (hd : n₀ ≤ h.objs.size) : ∀ (c : List PE) (pre : List DictEntry) (t : Nat) (l : List Obj) (es : List DictEntry) (ep : Nat), ses = pre ++ ents st t c → l[i]? = some (dObj es ep) → l[j]? = some (dObj ses sep) → Ahead es c → es.length + c.length ≤ 1000 →
    TGx p w n₀ ann (7 * c.length) (forIn (List.range' pre.length c.length) PUnit.unit fun (ix : Nat) (_ : PUnit) => (do
        match (← dictEntries (h.objs.size + j))[ix]? with
        | some e => do
          holding [e.key, e.val] (do
            if false = true then
              if (← dictFind (h.objs.size + i) e.key e.hash).isSome then rule "dict.merge.duplicate-key"; raiseNew (← newExc (.type "KeyError") [e.key])
            dictPut (h.objs.size + i) e.hash e.key e.val)
          if (← dictEpoch (h.objs.size + j)) != sep then unsupported "dict.changed-during-merge"
          pure (ForInStep.yield PUnit.unit)
        | _ => do
          unsupported "dict.changed-during-merge"
          pure (ForInStep.yield PUnit.unit) : Sem (ForInStep PUnit))) pos ⟨hN h l, gens, drawn, toks, os⟩ PUnit.unit pos ⟨hN h (l.set i (dObj (es ++ ents st t c) (ep + c.length))), gens, drawn, toks, os⟩
  | [], pre, t, l, es, ep, _, e, _, _, _ => by
      have hl : i < l.length := (List.getElem?_eq_some_iff.mp e).1
      have : l.set i (dObj es ep) = l := by
        apply List.ext_getElem?
        intro j
        rw [List.getElem?_set]
        by_cases q : i = j
        · subst q
          have e' : l[i] = dObj es ep := by rw [List.getElem?_eq_getElem hl] at e; exact Option.some.inj e
          simp [hl, e']
        · simp [q]
      simp only [ents, List.append_nil, List.length_nil, Nat.add_zero, Nat.mul_zero, this]
      exact TGx.pure
  | a :: c, pre, t, l, es, ep, hs, e, ej, H, hsz => by
      have hl : i < l.length := (List.getElem?_eq_some_iff.mp e).1
      rw [List.length_cons] at hsz
      have hx : ses[pre.length]? = some ⟨hashInt a.k, .int a.k t, .str a.x (t + 1)⟩ := by rw [hs]; simp [ents]
      have k := tgx_mergeLoop (st := st) (ses := ses) (sep := sep) hij hd c (pre ++ [⟨hashInt a.k, .int a.k t, .str a.x (t + 1)⟩]) (t + st) (l.set i (dObj (es ++ [⟨hashInt a.k, .int a.k t, .str a.x (t + 1)⟩]) (ep + 1))) (es ++ [⟨hashInt a.k, .int a.k t, .str a.x (t + 1)⟩]) (ep + 1)
        (by rw [hs]; simp [ents]) (by rw [List.getElem?_set_self hl]) (by rw [List.getElem?_set_ne hij]; exact ej) (H.2.2.snoc H.2.1) (by simp; lia)
      rw [List.length_cons, List.range'_succ, List.forIn_cons]
      refine TGx.bindE (n := 7) (m := 7 * c.length) (a := ForInStep.yield PUnit.unit) (pos₁ := pos) (s₁ := ⟨hN h (l.set i (dObj (es ++ [⟨hashInt a.k, .int a.k t, .str a.x (t + 1)⟩]) (ep + 1))), gens, drawn, toks, os⟩) ?_ ?_ (by lia)
      · refine TGx.bindE (n := 1) (m := 6) (tgx_dictEntries (hN_get h ej)) ?_ (by lia)
        have hx' : ses.toArray[pre.length]? = some ⟨hashInt a.k, .int a.k t, .str a.x (t + 1)⟩ := by simpa using hx
        rw [hx']
        dsimp only
        refine TGx.bindE (n := 4) (m := 1) (a := ()) (pos₁ := pos) (s₁ := ⟨hN h (l.set i (dObj (es ++ [⟨hashInt a.k, .int a.k t, .str a.x (t + 1)⟩]) (ep + 1))), gens, drawn, toks, os⟩) (TGx.holding ?_) ?_ (by lia)
        · show TGx p w n₀ ann 4 (if false = true then _ else dictPut _ _ _ _) _ _ _ _ _
          rw [if_neg Bool.false_ne_true]
          exact tgx_put1 e H.1 hd (by lia)
        · refine TGx.bindE (n := 1) (m := 0) (tgx_dictEpoch (hN_get h (by rw [List.getElem?_set_ne hij]; exact ej))) ?_ (by lia)
          rw [if_neg (by simp)]
          exact TGx.pure
      · dsimp only
        rw [List.set_set] at k
        have e1 : es ++ [⟨hashInt a.k, .int a.k t, .str a.x (t + 1)⟩] ++ ents st (t + st) c = es ++ ents st t (a :: c) := by simp [ents]
        have e2 : ep + 1 + c.length = ep + (a :: c).length := by simp; lia
        rw [e1, e2] at k
        have e3 : (pre ++ [(⟨hashInt a.k, .int a.k t, .str a.x (t + 1)⟩ : DictEntry)]).length = pre.length + 1 := by simp
        rw [e3] at k
        exact k
theorem tgx_merge {st i j : Nat} {c : List PE} {t sep : Nat} {l : List Obj} {es : List DictEntry} {ep : Nat} (hij : i ≠ j) (hd : n₀ ≤ h.objs.size) (h2 : 2 ≤ h.objs.size) (e : l[i]? = some (dObj es ep)) (ej : l[j]? = some (dObj (ents st t c) sep)) (hne : es ≠ []) (H : Ahead es c)
    (hsz : es.length + c.length ≤ 1000) :
    TGx p w n₀ ann (7 * c.length + 5) (mergeMapping (h.objs.size + i) (.ref (h.objs.size + j)) false) pos ⟨hN h l, gens, drawn, toks, os⟩ () pos ⟨hN h (l.set i (dObj (es ++ ents st t c) (ep + c.length))), gens, drawn, toks, os⟩ := by
  have k := tgx_mergeLoop (p := p) (w := w) (n₀ := n₀) (ann := ann) (h := h) (gens := gens) (drawn := drawn) (os := os) (pos := pos) (toks := toks) (sep := sep) hij hd c [] t l es ep rfl e ej H hsz
  rw [List.length_nil, ← List.range_eq_range'] at k
  unfold mergeMapping
  refine TGx.bindE (n := 1) (m := 7 * c.length + 4) (a := true) (pos₁ := pos) (s₁ := ⟨hN h l, gens, drawn, toks, os⟩) (tgx_isDict (s := ⟨hN h l, gens, drawn, toks, os⟩) (hN_get h ej)) ?_ (by lia)
  rw [if_pos rfl]
  refine TGx.bindE (n := 1) (m := 7 * c.length + 3) (pos₁ := pos) (s₁ := ⟨hN h l, gens, drawn, toks, os⟩) (tgx_dictIter (s := ⟨hN h l, gens, drawn, toks, os⟩) (hN_get h ej)) ?_ (by lia)
  have hb : (some (Value.builtin "dict.__iter__") == some (Value.builtin "dict.__iter__")) = true := by decide
  rw [hb]
  refine TGx.bindE (n := 0) (m := 7 * c.length + 3) TGx.pure ?_ (by lia)
  · dsimp only
    have hs : ((h.objs.size + j) == sysModules) = false := by
      rw [beq_eq_false_iff_ne]
      show h.objs.size + j ≠ 1
      lia
    rw [hs]
    rw [if_neg Bool.false_ne_true]
    refine TGx.bindE (n := 1) (m := 7 * c.length + 2) (tgx_dictEntries (hN_get h e)) ?_ (by lia)
    rw [if_neg (by simpa using hne)]
    refine TGx.bindE (n := 1) (m := 7 * c.length + 1) (tgx_dictEntries (hN_get h ej)) ?_ (by lia)
    refine TGx.bindE (n := 1) (m := 7 * c.length) (tgx_dictEpoch (hN_get h ej)) ?_ (by lia)
    have hz : (ents st t c).toArray.size = c.length := by simp [ents_length]
    rw [hz]
    show TGx p w n₀ ann (7 * c.length) (forIn (List.range c.length) PUnit.unit _ >>= fun _ => (pure () : Sem Unit)) _ _ _ _ _
    refine TGx.bindE (n := 7 * c.length) (m := 0) k ?_ (by lia)
    exact TGx.pure
end
end Mine
namespace Mine
section
variable {p : Program} {w : World} {n₀ : Nat} {ann : Option Value} {α β : Type} {n m : Nat} {s s' s₁ : Shared} {pos pos' pos₁ : Pos}
variable {h : Heap} {gens : Array GenState} {drawn : Drawn} {toks : Nat} {os : OsState}
noncomputable def valsP (t : Nat) : List PE → List (Value × Value)
  | [] => []
  | a :: r => (.int a.k t, .str a.x (t + 1)) :: valsP (t + 2) r
theorem tgx_evalPairs {env : Env} {q : Pos} : ∀ (c : List PE) (toks : Nat) (pos : Pos), ∃ pos', TGx p w n₀ ann (3 * c.length) (evalPairs (c.map (PE.item env q))) pos ⟨h, gens, drawn, toks, os⟩ (valsP toks c) pos' ⟨h, gens, drawn, toks + 2 * c.length, os⟩
  | [], toks, pos => ⟨pos, TGx.pure⟩
  | a :: c, toks, pos => by
    obtain ⟨pos', k⟩ := tgx_evalPairs (env := env) (q := q) c (toks + 2) q
    refine ⟨pos', ?_⟩
    rw [List.map_cons]
    show TGx p w n₀ ann (3 * (a :: c).length) (evalPairs ((eval a.key env, (PE.item env q a).2) :: c.map (PE.item env q))) _ _ _ _ _
    rw [evalPairs]
    refine TGx.bindE (n := 1) (m := 2 + 3 * c.length) (tgx_key (env := env)) ?_ (by simp; lia)
    refine TGx.bindE (n := 2) (m := 3 * c.length) (TGx.holding tgx_val) ?_ (by lia)
    refine TGx.bindE (n := 3 * c.length) (m := 0) (TGx.holding k) ?_ (by lia)
    have e : toks + 2 + 2 * c.length = toks + 2 * (a :: c).length := by simp; lia
    rw [e]
    exact TGx.pure
theorem tgx_setLoop2 {i : Nat} (hd : n₀ ≤ h.objs.size) : ∀ (c : List PE) (t : Nat) (l : List Obj) (es : List DictEntry) (ep toks : Nat), l[i]? = some (dObj es ep) → Ahead es c → es.length + c.length ≤ 1000 →
    TGx p w n₀ ann (10 * c.length) (forIn (valsP t c) PUnit.unit fun (x : Value × Value) (_ : PUnit) => (do
        dictSet (h.objs.size + i) x.1 x.2
        pure (ForInStep.yield PUnit.unit) : Sem (ForInStep PUnit))) pos ⟨hN h l, gens, drawn, toks, os⟩ PUnit.unit pos ⟨hN h (l.set i (dObj (es ++ ents 2 t c) (ep + c.length))), gens, drawn, toks + c.length, os⟩
  | [], t, l, es, ep, toks, e, _, _ => by
      have hl : i < l.length := (List.getElem?_eq_some_iff.mp e).1
      have : l.set i (dObj es ep) = l := by
        apply List.ext_getElem?
        intro j
        rw [List.getElem?_set]
        by_cases q : i = j
        · subst q
          have e' : l[i] = dObj es ep := by rw [List.getElem?_eq_getElem hl] at e; exact Option.some.inj e
          simp [hl, e']
        · simp [q]
      simp only [ents, List.append_nil, List.length_nil, Nat.add_zero, Nat.mul_zero, this]
      exact TGx.pure
  | a :: c, t, l, es, ep, toks, e, H, hsz => by
      have hl : i < l.length := (List.getElem?_eq_some_iff.mp e).1
      rw [List.length_cons] at hsz
      have k := tgx_setLoop2 hd c (t + 2) (l.set i (dObj (es ++ [⟨hashInt a.k, .int a.k t, .str a.x (t + 1)⟩]) (ep + 1))) (es ++ [⟨hashInt a.k, .int a.k t, .str a.x (t + 1)⟩]) (ep + 1) (toks + 1)
        (by rw [List.getElem?_set_self hl]) (H.2.2.snoc H.2.1) (by simp; lia)
      rw [valsP, List.forIn_cons]
      refine TGx.bindE (n := 10) (m := 10 * c.length) (a := ForInStep.yield PUnit.unit) (pos₁ := pos) (s₁ := ⟨hN h (l.set i (dObj (es ++ [⟨hashInt a.k, .int a.k t, .str a.x (t + 1)⟩]) (ep + 1))), gens, drawn, toks + 1, os⟩) ?_ ?_ (by simp; lia)
      · refine TGx.bindE (n := 10) (m := 0) (tgx_set1 e H.1 hd (by lia)) ?_ (by lia)
        exact TGx.pure
      · dsimp only
        rw [List.set_set] at k
        have e1 : es ++ [⟨hashInt a.k, .int a.k t, .str a.x (t + 1)⟩] ++ ents 2 (t + 2) c = es ++ ents 2 t (a :: c) := by simp [ents]
        have e2 : ep + 1 + c.length = ep + (a :: c).length := by simp; lia
        have e3 : toks + 1 + c.length = toks + (a :: c).length := by simp; lia
        rw [e1, e2, e3] at k
        exact k
theorem tgx_subShort {env : Env} {q : Pos} {c : List PE} {l : List Obj} (hd : n₀ ≤ h.objs.size) (hc : c.length ≤ 15) (H : Ahead [] c) :
    ∃ pos', TGx p w n₀ ann (13 * c.length + 2) (subDict (c.map (PE.item env q))) pos ⟨hN h l, gens, drawn, toks, os⟩ (h.objs.size + l.length) pos'
      ⟨hN h (l ++ [dObj (ents 2 toks c) c.length]), gens, drawn, toks + 3 * c.length, os⟩ := by
  obtain ⟨pos', k1⟩ := tgx_evalPairs (p := p) (w := w) (n₀ := n₀) (ann := ann) (h := hN h (l ++ [dObj [] 0])) (gens := gens) (drawn := drawn) (os := os) (env := env) (q := q) c toks pos
  have k2 := tgx_setLoop2 (p := p) (w := w) (n₀ := n₀) (ann := ann) (h := h) (gens := gens) (drawn := drawn) (os := os) (pos := pos') (i := l.length) hd c toks (l ++ [dObj [] 0]) [] 0 (toks + 2 * c.length) (by simp) H (by simp; lia)
  have e : (l ++ [dObj [] 0]).set l.length (dObj ([] ++ ents 2 toks c) (0 + c.length)) = l ++ [dObj (ents 2 toks c) c.length] := by simp
  rw [e, show toks + 2 * c.length + c.length = toks + 3 * c.length by lia] at k2
  refine ⟨pos', ?_⟩
  unfold subDict
  refine TGx.bindE (n := 1) (m := 13 * c.length + 1) (a := h.objs.size + l.length) (pos₁ := pos) (s₁ := ⟨hN h (l ++ [dObj [] 0]), gens, drawn, toks, os⟩) ?_ ?_ (by lia)
  · have := TGx.alloc (p := p) (w := w) (n₀ := n₀) (ann := ann) (n := 0) (pos := pos) (pos' := pos) (s := ⟨hN h l, gens, drawn, toks, os⟩) (o := dObj [] 0) (k := Sem.pure) (r := h.objs.size + l.length) (s' := ⟨hN h (l ++ [dObj [] 0]), gens, drawn, toks, os⟩) (by
      dsimp only
      rw [hN_push, hN_size]
      exact TGx.pure)
    exact this
  · refine TGx.bindE (n := 13 * c.length + 1) (m := 0) (a := ()) (pos₁ := pos') (s₁ := ⟨hN h (l ++ [dObj (ents 2 toks c) c.length]), gens, drawn, toks + 3 * c.length, os⟩) (TGx.holding ?_) ?_ (by lia)
    rotate_left
    · exact TGx.pure
    rw [if_pos (by simpa using hc)]
    refine TGx.bindE (n := 3 * c.length) (m := 10 * c.length + 1) k1 (TGx.holding ?_) (by lia)
    show TGx p w n₀ ann (10 * c.length + 1) (forIn (valsP toks c) PUnit.unit _ >>= fun _ => (pure () : Sem Unit)) _ _ _ _ _
    refine TGx.bindE (n := 10 * c.length) (m := 1) k2 ?_ (by lia)
    exact TGx.pure.mono (by lia)
noncomputable def flushD (run : List (Sem Value × Sem Value)) (main : Option Addr) : Sem (Option Addr) := do
    if run.isEmpty then return main
    match main with
    | none => return some (← subDict run)
    | some d =>
      let sub ← holding [.ref d] (subDict run)
      (holding [.ref d, .ref sub] (mergeMapping d (.ref sub) false)).onRaise fun x => do let _ ← holding [.ref d, x] (runValue (.builtin "proto.let_go" {}))
      return some d
noncomputable def itm (env : Env) (q : Pos) (a : PE) : Option (Sem Value) × Sem Value := (some (eval a.key env), eval a.val env >>= fun x => standAt q >>= fun _ => pure x)
noncomputable abbrev DSt := Option Addr × List (Sem Value × Sem Value)
theorem display_form : ∃ B : Option (Sem Value) × Sem Value → DSt → Sem (ForInStep DSt),
    (∀ xs, dictDisplay xs = (forIn xs ((none, []) : DSt) B >>= fun s => flushD s.2 s.1 >>= fun r => match r with | some d => pure (.ref d) | none => newDict)) ∧
    ∀ (k v : Sem Value) (main : Option Addr) (run : List (Sem Value × Sem Value)), B (some k, v) (main, run) =
      if ((run ++ [(k, v)]).length == 17) = true then (flushD (run ++ [(k, v)]) main >>= fun m => pure (ForInStep.yield (m, []))) else pure (ForInStep.yield (main, run ++ [(k, v)])) := ⟨_, fun _ => rfl, fun _ _ _ _ => rfl⟩
theorem tgx_chunk {B : Option (Sem Value) × Sem Value → DSt → Sem (ForInStep DSt)} {env : Env} {q : Pos}
    (hB : ∀ (k v : Sem Value) (main : Option Addr) (run : List (Sem Value × Sem Value)), B (some k, v) (main, run) =
      if ((run ++ [(k, v)]).length == 17) = true then (flushD (run ++ [(k, v)]) main >>= fun m => pure (ForInStep.yield (m, []))) else pure (ForInStep.yield (main, run ++ [(k, v)])))
    {main m' : Option Addr} {rest : List (Option (Sem Value) × Sem Value)} {r : DSt} {nF nR : Nat} : ∀ (c : List PE) (run : List (Sem Value × Sem Value)), c ≠ [] → run.length + c.length = 17 →
      TGx p w n₀ ann nF (flushD (run ++ c.map (PE.item env q)) main) pos s m' pos₁ s₁ → TGx p w n₀ ann nR (forIn rest ((m', []) : DSt) B) pos₁ s₁ r pos' s' →
      TGx p w n₀ ann (nF + nR) (forIn (c.map (itm env q) ++ rest) ((main, run) : DSt) B) pos s r pos' s'
  | [], _, hne, _, _, _ => absurd rfl hne
  | a :: c, run, _, hl, hF, hR => by
    rw [List.map_cons, List.cons_append, List.forIn_cons]
    have hb : B (itm env q a) (main, run) = _ := hB _ _ main run
    rw [hb]
    cases c with
    | nil =>
      have : ((run ++ [(eval a.key env, eval a.val env >>= fun x => standAt q >>= fun _ => pure x)]).length == 17) = true := by simp at hl ⊢; lia
      rw [if_pos this]
      refine TGx.bindE (n := nF) (m := nR) (a := ForInStep.yield (m', [])) (pos₁ := pos₁) (s₁ := s₁) ?_ ?_ (by lia)
      · refine TGx.bindE (n := nF) (m := 0) hF ?_ (by lia)
        exact TGx.pure
      · exact hR
    | cons b c =>
      have : ¬ ((run ++ [(eval a.key env, eval a.val env >>= fun x => standAt q >>= fun _ => pure x)]).length == 17) = true := by simp at hl ⊢; lia
      rw [if_neg this]
      refine TGx.bindE (n := 0) (m := nF + nR) TGx.pure ?_ (by lia)
      dsimp only
      refine tgx_chunk hB (b :: c) _ (by simp) (by simp at hl ⊢; lia) ?_ hR
      simpa [PE.item] using hF
theorem tgx_gather {B : Option (Sem Value) × Sem Value → DSt → Sem (ForInStep DSt)} {env : Env} {q : Pos}
    (hB : ∀ (k v : Sem Value) (main : Option Addr) (run : List (Sem Value × Sem Value)), B (some k, v) (main, run) =
      if ((run ++ [(k, v)]).length == 17) = true then (flushD (run ++ [(k, v)]) main >>= fun m => pure (ForInStep.yield (m, []))) else pure (ForInStep.yield (main, run ++ [(k, v)])))
    {main : Option Addr} : ∀ (c : List PE) (run : List (Sem Value × Sem Value)), run.length + c.length < 17 →
      TGx p w n₀ ann 0 (forIn (c.map (itm env q)) ((main, run) : DSt) B) pos s (main, run ++ c.map (PE.item env q)) pos s
  | [], run, _ => by rw [List.map_nil, List.forIn_nil, List.map_nil, List.append_nil]; exact TGx.pure
  | a :: c, run, hl => by
    rw [List.map_cons, List.forIn_cons]
    have hb : B (itm env q a) (main, run) = _ := hB _ _ main run
    rw [hb]
    have : ¬ ((run ++ [(eval a.key env, eval a.val env >>= fun x => standAt q >>= fun _ => pure x)]).length == 17) = true := by simp at hl ⊢; lia
    rw [if_neg this]
    refine TGx.bindE (n := 0) (m := 0) TGx.pure ?_ (by lia)
    dsimp only
    have := tgx_gather (main := main) (env := env) (q := q) hB c (run ++ [(eval a.key env, eval a.val env >>= fun x => standAt q >>= fun _ => pure x)]) (by simp at hl ⊢; lia)
    simpa [PE.item] using this
end
end Mine
namespace Mine
theorem Ahead.weak {es es' : List DictEntry} (h : ∀ e ∈ es', e ∈ es) : ∀ {c : List PE}, Ahead es c → Ahead es' c
  | [], _ => trivial
  | _ :: _, H => ⟨fun e he => H.1 e (h e he), H.2.1, H.2.2.weak h⟩
theorem Ahead.nil {es : List DictEntry} {c : List PE} (H : Ahead es c) : Ahead [] c := H.weak fun _ h => absurd h List.not_mem_nil
theorem Ahead.left {es : List DictEntry} {b : List PE} : ∀ {a : List PE}, Ahead es (a ++ b) → Ahead es a
  | [], _ => trivial
  | _ :: _, H => ⟨H.1, fun y hy => H.2.1 y (List.mem_append_left _ hy), H.2.2.left⟩
theorem Ahead.right {st : Nat} {b : List PE} : ∀ {a : List PE} {es : List DictEntry} (t : Nat), Ahead es (a ++ b) → Ahead (es ++ ents st t a) b
  | [], es, t, H => by simpa [ents] using H
  | x :: a, es, t, H => by
    have : Ahead (es ++ [⟨hashInt x.k, .int x.k t, .str x.x (t + 1)⟩]) (a ++ b) := Ahead.snoc H.2.2 fun y hy => H.2.1 y hy
    have := Ahead.right (st := st) (t + st) this
    simpa [ents] using this
theorem ents_append (st : Nat) : ∀ (a b : List PE) (t : Nat), ents st t (a ++ b) = ents st t a ++ ents st (t + st * a.length) b
  | [], b, t => by simp [ents]
  | x :: a, b, t => by
    simp only [List.cons_append, ents, ents_append st a b (t + st), List.length_cons]
    congr 3
    rw [Nat.mul_succ]; lia
noncomputable def subsOf (t : Nat) : List (List PE) → List Obj
  | [] => []
  | c :: cs => dObj (ents 3 t c) c.length :: subsOf (t + 3 * c.length) cs
section
variable {p : Program} {w : World} {n₀ : Nat} {ann : Option Value} {α β : Type} {n m : Nat} {s s' s₁ : Shared} {pos pos' pos₁ : Pos}
variable {h : Heap} {gens : Array GenState} {drawn : Drawn} {toks : Nat} {os : OsState}
theorem tgx_flush_more {env : Env} {q : Pos} {c : List PE} {es : List DictEntry} {subs : List Obj} {ep st nS : Nat} (hd : n₀ ≤ h.objs.size) (h2 : 2 ≤ h.objs.size) (hne : es ≠ []) (H : Ahead es c) (hc : c ≠ []) (hsz : es.length + c.length ≤ 1000)
    (hS : ∃ pos', TGx p w n₀ ann nS (subDict (c.map (PE.item env q))) pos ⟨hN h (dObj es ep :: subs), gens, drawn, toks, os⟩ (h.objs.size + (subs.length + 1)) pos'
      ⟨hN h ((dObj es ep :: subs) ++ [dObj (ents st toks c) c.length]), gens, drawn, toks + 3 * c.length, os⟩) :
    ∃ pos', TGx p w n₀ ann (nS + (7 * c.length + 5)) (flushD (c.map (PE.item env q)) (some h.objs.size)) pos ⟨hN h (dObj es ep :: subs), gens, drawn, toks, os⟩ (some h.objs.size) pos'
      ⟨hN h (dObj (es ++ ents st toks c) (ep + c.length) :: (subs ++ [dObj (ents st toks c) c.length])), gens, drawn, toks + 3 * c.length, os⟩ := by
  obtain ⟨pos', hS⟩ := hS
  refine ⟨pos', ?_⟩
  unfold flushD
  rw [if_neg (by cases c with | nil => exact absurd rfl hc | cons => simp)]
  dsimp only
  refine TGx.bindE (n := nS) (m := 7 * c.length + 5) (TGx.holding hS) ?_ (by lia)
  have k := tgx_merge (p := p) (w := w) (n₀ := n₀) (ann := ann) (h := h) (gens := gens) (drawn := drawn) (os := os) (pos := pos') (toks := toks + 3 * c.length) (st := st) (i := 0) (j := subs.length + 1) (c := c) (t := toks) (sep := c.length)
    (l := (dObj es ep :: subs) ++ [dObj (ents st toks c) c.length]) (es := es) (ep := ep) (by lia) hd h2 (by simp) (by simp) hne H hsz
  refine TGx.bindE (n := 7 * c.length + 5) (m := 0) (TGx.onRaise (TGx.holding k)) ?_ (by lia)
  exact TGx.pure
theorem tgx_flush_first {env : Env} {q : Pos} {c : List PE} (hd : n₀ ≤ h.objs.size) (H : Ahead [] c) (hc : 15 < c.length) (hc' : c.length ≤ 1000) :
    ∃ pos', TGx p w n₀ ann (16 * c.length + 2) (flushD (c.map (PE.item env q)) none) pos ⟨hN h [], gens, drawn, toks, os⟩ (some h.objs.size) pos'
      ⟨hN h [dObj (ents 3 toks c) c.length], gens, drawn, toks + 3 * c.length, os⟩ := by
  obtain ⟨pos', k⟩ := tgx_subDict (p := p) (w := w) (n₀ := n₀) (ann := ann) (h := h) (gens := gens) (drawn := drawn) (os := os) (pos := pos) (toks := toks) (env := env) (q := q) (l := []) hd hc hc' H
  refine ⟨pos', ?_⟩
  unfold flushD
  rw [if_neg (by cases c with | nil => simp at hc | cons => simp)]
  dsimp only
  refine TGx.bindE (n := 16 * c.length + 2) (m := 0) k ?_ (by lia)
  exact TGx.pure
theorem tgx_chunks {B : Option (Sem Value) × Sem Value → DSt → Sem (ForInStep DSt)} {env : Env} {q : Pos}
    (hB : ∀ (k v : Sem Value) (main : Option Addr) (run : List (Sem Value × Sem Value)), B (some k, v) (main, run) =
      if ((run ++ [(k, v)]).length == 17) = true then (flushD (run ++ [(k, v)]) main >>= fun m => pure (ForInStep.yield (m, []))) else pure (ForInStep.yield (main, run ++ [(k, v)])))
    (hd : n₀ ≤ h.objs.size) (h2 : 2 ≤ h.objs.size) {tl : List PE} (htl' : tl.length ≤ 15) : ∀ (cs : List (List PE)) (es : List DictEntry) (subs : List Obj) (ep toks : Nat) (pos : Pos), (∀ c ∈ cs, c.length = 17) → es ≠ [] → Ahead es cs.flatten → es.length + cs.flatten.length ≤ 1000 →
    ∃ pos', TGx p w n₀ ann (23 * cs.flatten.length + 7 * cs.length) (forIn (cs.flatten.map (itm env q) ++ tl.map (itm env q)) ((some h.objs.size, []) : DSt) B) pos ⟨hN h (dObj es ep :: subs), gens, drawn, toks, os⟩ (some h.objs.size, tl.map (PE.item env q)) pos'
      ⟨hN h (dObj (es ++ ents 3 toks cs.flatten) (ep + cs.flatten.length) :: (subs ++ subsOf toks cs)), gens, drawn, toks + 3 * cs.flatten.length, os⟩
  | [], es, subs, ep, toks, pos, _, hne, H, hsz => by
    have hg := tgx_gather (p := p) (w := w) (n₀ := n₀) (ann := ann) (pos := pos) (s := ⟨hN h (dObj es ep :: subs), gens, drawn, toks, os⟩) (env := env) (q := q) hB (main := some h.objs.size) tl [] (by simp; lia)
    refine ⟨pos, ?_⟩
    simpa [ents, subsOf] using hg
  | c :: cs, es, subs, ep, toks, pos, h17, hne, H, hsz => by
    have hc : c.length = 17 := h17 c (.head _)
    have hcn : c ≠ [] := by intro e; rw [e] at hc; simp at hc
    simp only [List.flatten_cons, List.length_append] at H hsz
    have hs := tgx_subDict (p := p) (w := w) (n₀ := n₀) (ann := ann) (h := h) (gens := gens) (drawn := drawn) (os := os) (pos := pos) (toks := toks) (env := env) (q := q) (c := c) (l := dObj es ep :: subs) hd (by lia) (by lia) H.left.nil
    obtain ⟨pos₁, k⟩ := tgx_flush_more (p := p) (w := w) (n₀ := n₀) (ann := ann) (h := h) (gens := gens) (drawn := drawn) (os := os) (pos := pos) (toks := toks) (env := env) (q := q) (c := c) (es := es) (subs := subs) (ep := ep) (st := 3) hd h2 hne H.left hcn (by lia) hs
    obtain ⟨pos', r⟩ := tgx_chunks hB hd h2 htl' cs (es ++ ents 3 toks c) (subs ++ [dObj (ents 3 toks c) c.length]) (ep + c.length) (toks + 3 * c.length) pos₁ (fun x hx => h17 x (.tail _ hx)) (by simp [hne]) (H.right toks) (by simp only [ents_length, List.length_append]; lia)
    refine ⟨pos', ?_⟩
    have z := tgx_chunk (p := p) (w := w) (n₀ := n₀) (ann := ann) hB c [] hcn (by simp [hc]) (by simpa using k) r
    simp only [List.flatten_cons, List.map_append, List.append_assoc, List.length_append, List.length_cons]
    have e1 : es ++ ents 3 toks c ++ ents 3 (toks + 3 * c.length) cs.flatten = es ++ ents 3 toks (c ++ cs.flatten) := by rw [ents_append]; simp
    have e2 : subs ++ [dObj (ents 3 toks c) c.length] ++ subsOf (toks + 3 * c.length) cs = subs ++ subsOf toks (c :: cs) := by simp [subsOf]
    have e3 : ep + c.length + cs.flatten.length = ep + (c.length + cs.flatten.length) := by lia
    have e4 : toks + 3 * c.length + 3 * cs.flatten.length = toks + 3 * (c.length + cs.flatten.length) := by lia
    rw [e1, e2, e3, e4] at z
    exact z.mono (by lia)
theorem tgx_display {env : Env} {q : Pos} (hd : n₀ ≤ h.objs.size) (h2 : 2 ≤ h.objs.size) {c tl : List PE} {cs : List (List PE)} (hc : c.length = 17) (hcs : ∀ x ∈ cs, x.length = 17) (htl : tl ≠ []) (htl' : tl.length ≤ 15)
    (H : Ahead [] (c ++ (cs.flatten ++ tl))) (hsz : 17 + cs.flatten.length + tl.length ≤ 1000) :
    ∃ pos', TGx p w n₀ ann (40000) (dictDisplay ((c ++ (cs.flatten ++ tl)).map (itm env q))) pos ⟨hN h [], gens, drawn, toks, os⟩ (.ref h.objs.size) pos'
      ⟨hN h (dObj (ents 3 toks (c ++ cs.flatten) ++ ents 2 (toks + 3 * (17 + cs.flatten.length)) tl) (17 + cs.flatten.length + tl.length) :: (subsOf (toks + 51) cs ++ [dObj (ents 2 (toks + 3 * (17 + cs.flatten.length)) tl) tl.length])),
        gens, drawn, toks + 3 * (17 + cs.flatten.length + tl.length), os⟩ := by
  obtain ⟨B, hB0, hB⟩ := display_form
  have hcn : c ≠ [] := by intro e; rw [e] at hc; simp at hc
  have H1 := H.right (st := 3) toks
  have H2 := H1.right (st := 3) (toks + 51)
  obtain ⟨pos₁, k1⟩ := tgx_flush_first (p := p) (w := w) (n₀ := n₀) (ann := ann) (h := h) (gens := gens) (drawn := drawn) (os := os) (pos := pos) (toks := toks) (env := env) (q := q) (c := c) hd H.left (by lia) (by lia)
  obtain ⟨pos₂, k2⟩ := tgx_chunks (p := p) (w := w) (n₀ := n₀) (ann := ann) (h := h) (gens := gens) (drawn := drawn) (os := os) (env := env) (q := q) hB hd h2 htl' cs (ents 3 toks c) [] c.length (toks + 3 * c.length) pos₁ hcs (by cases c with | nil => exact absurd rfl hcn | cons => simp [ents]) (by simpa using H1.left) (by simp only [ents_length, List.length_append]; lia)
  have z := tgx_chunk (p := p) (w := w) (n₀ := n₀) (ann := ann) hB c [] hcn (by simp [hc]) (by simpa using k1) k2
  have hs := tgx_subShort (p := p) (w := w) (n₀ := n₀) (ann := ann) (h := h) (gens := gens) (drawn := drawn) (os := os) (pos := pos₂) (toks := toks + 3 * c.length + 3 * cs.flatten.length) (env := env) (q := q) (c := tl) (l := dObj (ents 3 toks c ++ ents 3 (toks + 3 * c.length) cs.flatten) (c.length + cs.flatten.length) :: ([] ++ subsOf (toks + 3 * c.length) cs)) hd htl' (H2.nil)
  obtain ⟨pos', k3⟩ := tgx_flush_more (p := p) (w := w) (n₀ := n₀) (ann := ann) (h := h) (gens := gens) (drawn := drawn) (os := os) (pos := pos₂) (toks := toks + 3 * c.length + 3 * cs.flatten.length) (env := env) (q := q) (c := tl) (es := ents 3 toks c ++ ents 3 (toks + 3 * c.length) cs.flatten) (subs := [] ++ subsOf (toks + 3 * c.length) cs) (ep := c.length + cs.flatten.length) (st := 2) hd h2
    (by cases c with | nil => exact absurd rfl hcn | cons => simp [ents]) (by rw [hc]; simpa using H2) htl (by simp only [ents_length, List.length_append]; lia) hs
  refine ⟨pos', ?_⟩
  rw [hB0]
  simp only [List.map_append]
  have hb : 16 * c.length + 2 + (23 * cs.flatten.length + 7 * cs.length) + (13 * tl.length + 2 + (7 * tl.length + 5)) ≤ 40000 := by
    have : cs.length ≤ cs.flatten.length := by
      clear k1 k2 z hs k3 hB hB0 H H1 H2 hsz
      induction cs with
      | nil => simp
      | cons x cs ih =>
        have := hcs x (.head _)
        have := ih fun y hy => hcs y (.tail _ hy)
        simp only [List.length_cons, List.flatten_cons, List.length_append]; lia
    lia
  refine TGx.bindE (n := 16 * c.length + 2 + (23 * cs.flatten.length + 7 * cs.length)) (m := 13 * tl.length + 2 + (7 * tl.length + 5)) z ?_ hb
  refine TGx.bindE (n := 13 * tl.length + 2 + (7 * tl.length + 5)) (m := 0) k3 ?_ (by lia)
  have e1 : ents 3 toks c ++ ents 3 (toks + 3 * c.length) cs.flatten = ents 3 toks (c ++ cs.flatten) := by rw [ents_append]
  rw [e1]
  simp only [hc, List.nil_append]
  have e2 : toks + 3 * 17 + 3 * cs.flatten.length = toks + 3 * (17 + cs.flatten.length) := by lia
  have e3 : toks + 3 * (17 + cs.flatten.length) + 3 * tl.length = toks + 3 * (17 + cs.flatten.length + tl.length) := by lia
  rw [e2, e3]
  exact TGx.pure
end
end Mine
end HeadTG
section HeadD
open PySem PySem.W PyProof.Rows
namespace Mine
noncomputable def peOf : Option Expr × Expr → PE
  | (some (.Constant (.int k) _ pk), .Constant (.str x) _ px) => ⟨k, x, pk, px⟩
  | _ => ⟨0, ⟨#[]⟩, default, default⟩
noncomputable def chop : Nat → List PE → List (List PE)
  | 0, _ => []
  | n + 1, l => l.take 17 :: chop n (l.drop 17)
noncomputable def incrB : Int → List PE → Bool
  | _, [] => true
  | lo, a :: r => decide (lo < a.k) && (decide (a.k < 1000000) && incrB a.k r)
theorem hashInt_small {k : Int} (h0 : 0 ≤ k) (h1 : k < 1000000) : hashInt k = k := by
  have e : rawHash k = k := by
    simp only [rawHash]
    have h2 : (k.natAbs : Int) % ((2 ^ 61 - 1 : Nat) : Int) = k := by lia
    rw [h2, if_neg (show ¬ k < 0 by lia), if_neg (by simp; lia)]
  unfold hashInt
  rw [e, if_neg (by simp; lia)]
theorem incr_gt : ∀ {l : List PE} {lo : Int}, incrB lo l = true → ∀ b ∈ l, lo < b.k ∧ b.k < 1000000
  | a :: r, lo, h, b, hb => by
    simp only [incrB, Bool.and_eq_true, decide_eq_true_eq] at h
    rcases List.mem_cons.mp hb with rfl | hb
    · exact ⟨h.1, h.2.1⟩
    · have := incr_gt h.2.2 b hb
      exact ⟨by lia, this.2⟩
theorem ahead_of_incr {es : List DictEntry} : ∀ {l : List PE} {lo : Int}, 0 ≤ lo → incrB lo l = true → (∀ e ∈ es, e.hash ≤ lo) → Ahead es l
  | [], _, _, _, _ => trivial
  | a :: r, lo, h0, h, he => by
    have g := incr_gt h
    simp only [incrB, Bool.and_eq_true, decide_eq_true_eq] at h
    have ga := g a (.head _)
    have ha := hashInt_small (k := a.k) (by lia) ga.2
    refine ⟨fun e hm => ?_, fun b hb => ?_, ahead_of_incr (lo := a.k) (by lia) h.2.2 fun e hm => ?_⟩
    · have := he e hm; lia
    · have gb := incr_gt h.2.2 b hb
      rw [ha, hashInt_small (by lia) gb.2]; lia
    · have := he e hm; lia
theorem list38 {α : Type} (d : α) (l : List α) (h : l.length = 38) : l = (List.range 38).map fun i => l.getD i d := by
  apply List.ext_getElem?
  intro i
  by_cases hi : i < 38
  · simp [List.getElem?_range, hi, h]
  · rw [List.getElem?_eq_none (by lia), List.getElem?_eq_none (by simp; lia)]
theorem subsOf_length : ∀ (cs : List (List PE)) (t : Nat), (subsOf t cs).length = cs.length
  | [], _ => rfl
  | _ :: cs, t => by simp [subsOf, subsOf_length cs]
theorem chop_length : ∀ (n : Nat) (l : List PE), (chop n l).length = n
  | 0, _ => rfl
  | n + 1, l => by simp [chop, chop_length n]
theorem chop_flatten : ∀ (n : Nat) (l : List PE), (chop n l).flatten ++ l.drop (17 * n) = l
  | 0, l => by simp [chop]
  | n + 1, l => by
    have := chop_flatten n (l.drop 17)
    simp only [chop, List.flatten_cons, List.append_assoc]
    rw [List.drop_drop] at this
    rw [show 17 * (n + 1) = 17 + 17 * n by lia, this, List.take_append_drop]
theorem chop_17 : ∀ (n : Nat) (l : List PE), 17 * n ≤ l.length → ∀ c ∈ chop n l, c.length = 17
  | 0, _, _, c, hc => by simp [chop] at hc
  | n + 1, l, h, c, hc => by
    rcases List.mem_cons.mp hc with rfl | hc
    · simp; lia
    · exact chop_17 n (l.drop 17) (by simp; lia) c hc
section
variable {p : Program} {w : World} {ann : Option Value}
theorem tgx_650 {env : Env} {q pos : Pos} {h : Heap} {gens : Array GenState} {drawn : Drawn} {toks : Nat} {os : OsState} {L : List PE} (hL : L.length = 650) (hinc : incrB 0 L = true) (hd : 11 ≤ h.objs.size) :
    ∃ pos', TGx p w 11 ann 40000 (dictDisplay (L.map (itm env q))) pos ⟨hN h [], gens, drawn, toks, os⟩ (.ref h.objs.size) pos'
      ⟨hN h (dObj (ents 3 toks (L.take 17 ++ (chop 37 (L.drop 17)).flatten) ++ ents 2 (toks + 3 * 646) (L.drop 646)) 650 :: (subsOf (toks + 51) (chop 37 (L.drop 17)) ++ [dObj (ents 2 (toks + 3 * 646) (L.drop 646)) 4])),
        gens, drawn, toks + 1950, os⟩ := by
  have e1 : (chop 37 (L.drop 17)).flatten ++ L.drop 646 = L.drop 17 := by
    have := chop_flatten 37 (L.drop 17)
    rwa [List.drop_drop] at this
  have e2 : L.take 17 ++ ((chop 37 (L.drop 17)).flatten ++ L.drop 646) = L := by rw [e1, List.take_append_drop]
  have l1 : (chop 37 (L.drop 17)).flatten.length = 629 := by
    have := congrArg List.length e1
    simp only [List.length_append, List.length_drop, hL] at this
    lia
  have l2 : (L.drop 646).length = 4 := by simp [hL]
  have H : Ahead [] (L.take 17 ++ ((chop 37 (L.drop 17)).flatten ++ L.drop 646)) := by rw [e2]; exact ahead_of_incr (lo := 0) (by lia) hinc (fun e he => absurd he List.not_mem_nil)
  obtain ⟨pos', k⟩ := tgx_display (p := p) (w := w) (n₀ := 11) (ann := ann) (h := h) (gens := gens) (drawn := drawn) (os := os) (pos := pos) (toks := toks) (env := env) (q := q) hd (by lia) (c := L.take 17) (tl := L.drop 646) (cs := chop 37 (L.drop 17))
    (by simp [hL]) (chop_17 37 _ (by simp [hL])) (by intro e; rw [e] at l2; simp at l2) (by lia) H (by lia)
  refine ⟨pos', ?_⟩
  rw [e2] at k
  simp only [l1, l2] at k
  exact k
end
end Mine
end HeadD
section C0
open PySem PySem.W PyProof.Rows
set_option linter.unusedVariables false
namespace Mine
noncomputable abbrev hsz (s : Shared) : Nat := s.heap.objs.size
theorem hsz_push {s : Shared} {o : Obj} : (s.heap.push o).objs.size = hsz s + 1 := Heap.size_push _ _
theorem hsz_update {s : Shared} {a : Addr} {f : Obj → Obj} : (s.heap.update a f).objs.size = hsz s := by
  show (Heap.update s.heap a f).objs.size = _
  show _ = s.heap.objs.size
  generalize s.heap = h
  cases h
  exact Array.size_modify
theorem runs_size {M : Model} {Γ : Ctx} {p : Pos} {t : Sem Fin} {fs : List Frame} {s s' : Shared} {e : End} (h : Runs M Γ p t fs s e s') : hsz s ≤ hsz s' := by
  induction h <;> (try simp only [Shared.setGen, hsz, hsz_push, hsz_update] at *) <;> lia
theorem wakes_size {M : Model} {Γ : Ctx} {p : Pos} {g : Nat} {r : Resume} {s s' : Shared} {res : GenResult} (h : Wakes M Γ p g r s res s') : hsz s ≤ hsz s' := by
  unfold Wakes at h
  split at h
  · exact h.elim
  · split at h
    · obtain ⟨_, s₁, hr, _, _, rfl⟩ := h; exact (runs_size hr : hsz (s.setGen g .running) ≤ hsz s₁)
    · rw [h.2]; exact Nat.le_refl _
    · rw [h.2]; exact Nat.le_refl _
  · obtain ⟨_, s₁, hr, _, _, rfl⟩ := h; exact (runs_size hr : hsz (s.setGen g .running) ≤ hsz s₁)
  · rw [h.2]; exact Nat.le_refl _
  · rw [h.2]; exact Nat.le_refl _
theorem wp_size {α : Type} (M : Model) (Γ : Ctx) (n : Nat) (t : Sem α) : ∀ (Q : α → Pos → Shared → Prop) (E : Value → Pos → Shared → Prop) (p : Pos) (s : Shared), n ≤ hsz s → Sem.wp M Γ t Q E p s →
    Sem.wp M Γ t (fun a p' s' => n ≤ hsz s' ∧ Q a p' s') (fun e p' s' => n ≤ hsz s' ∧ E e p' s') p s := by
  induction t with
  | pure _ | raise _ => intro Q E p s g h; exact ⟨g, h⟩
  | unsupported _ | finish _ | register _ _ | yield _ _ _ _ | fork _ _ | await _ _ _ _ _ => intro Q E p s _ h; exact h
  | rule _ k ih | point _ k ih => intro Q E p s g h; exact ih () Q E p s g h
  | «at» p' k ih => intro Q E p s g h; exact ih () Q E p' s g h
  | load a _ k ih => intro Q E p s g h; obtain ⟨o, ho, h⟩ := h; exact ⟨o, ho, ih o Q E p s g h⟩
  | update a _ f k ih => intro Q E p s g h; exact ⟨h.1, ih () Q E p _ (by show n ≤ (s.heap.update a f).objs.size; rw [hsz_update]; exact g) h.2⟩
  | loadIfAlive _ k ih | handled _ k ih | stack k ih | thread k ih | ask k ih => intro Q E p s g h; exact ih _ Q E p s g h
  | alloc o k ih => intro Q E p s g h; exact ih _ Q E p _ (by show n ≤ (s.heap.push o).objs.size; rw [hsz_push]; exact Nat.le_succ_of_le g) h
  | fresh k ih | newGen _ k ih | os _ _ k ih => intro Q E p s g h; exact ih _ Q E p _ g h
  | choose _ _ k ih => intro Q E p s g h; exact ⟨h.1, ih _ Q E p _ g h.2⟩
  | call c hd _ _ k ih => intro Q E p s g h; obtain ⟨r, s', hr, h⟩ := h; exact ⟨r, s', hr, ih r Q E p s' (Nat.le_trans g (runs_size hr)) h⟩
  | genState _ k ih => intro Q E p s g h; obtain ⟨st, hs, h⟩ := h; exact ⟨st, hs, ih _ Q E p s g h⟩
  | resume _ r _ k ih => intro Q E p s g h; obtain ⟨res, s', hw, h⟩ := h; exact ⟨res, s', hw, ih res Q E p s' (Nat.le_trans g (wakes_size hw)) h⟩
theorem with_size {α : Type} {M : Model} {A : Around} {s : Shared} {t : Sem α} {Q : α → Shared → Prop} {E : Value → Shared → Prop}
    (h : wpAny M A t (fun a s' => hsz s ≤ hsz s' → Q a s') (fun e s' => hsz s ≤ hsz s' → E e s') s) : wpAny M A t Q E s :=
  wpAny_mono (Q := fun a s' => hsz s ≤ hsz s' ∧ (hsz s ≤ hsz s' → Q a s')) (E := fun e s' => hsz s ≤ hsz s' ∧ (hsz s ≤ hsz s' → E e s'))
    (fun Γ p hΓ => wp_size M Γ (hsz s) t (fun a _ s' => hsz s ≤ hsz s' → Q a s') (fun e _ s' => hsz s ≤ hsz s' → E e s') p s (Nat.le_refl _) (h Γ p hΓ)) (fun _ _ x => x.2 x.1) (fun _ _ x => x.2 x.1)
end Mine
end C0
section C1
open PySem PySem.W PyProof.Rows
namespace Mine
inductive PV where
  | none
  | bool (b : Bool)
  | int (i : Int)
  | str (x : List Nat)
  | list (xs : List PV)
  | tuple (xs : List PV)
  | raw (v : Value)
  | ext (t : Nat) (x : List (List Nat))
  | slice (l u st : Option Int)
  | range (a b c : Int)
noncomputable abbrev Ext := Nat → List (List Nat) → (Addr → Prop) → Heap → Value → Prop
mutual
inductive Rd (X : Ext) (P : Addr → Prop) (h : Heap) : Value → PV → Prop
  | none : Rd X P h .none .none
  | bool (b) : Rd X P h (.bool b) (.bool b)
  | int (i t) : Rd X P h (.int i t) (.int i)
  | str (x : Str) (t) : Rd X P h (.str x t) (.str x.cps.toList)
  | list {a vs n ds} : ¬ P a → h.get? a = some { cls := .type "list", data := .seq vs n } → RdL X P h vs.toList ds → Rd X P h (.ref a) (.list ds)
  | tuple {a vs n ds} : ¬ P a → h.get? a = some { cls := .type "tuple", data := .seq vs n } → RdL X P h vs.toList ds → Rd X P h (.ref a) (.tuple ds)
  | raw (v) : Rd X P h v (.raw v)
  | ext {t x v} : X t x P h v → Rd X P h v (.ext t x)
  | slice {a vl vu vs l u st} : ¬ P a → h.get? a = some { cls := .type "slice", data := .fields #[vl, vu, vs] } → IsPart vl l → IsPart vu u → IsPart vs st → Rd X P h (.ref a) (.slice l u st)
  | range {r a b c t u v} : ¬ P r → IsRange h r a b c t u v → Rd X P h (.ref r) (.range a b c)
inductive RdL (X : Ext) (P : Addr → Prop) (h : Heap) : List Value → List PV → Prop
  | nil : RdL X P h [] []
  | cons {v vs d ds} : Rd X P h v d → RdL X P h vs ds → RdL X P h (v :: vs) (d :: ds)
end
noncomputable def Pass (P : Addr → Prop) (h : Heap) (P' : Addr → Prop) (h' : Heap) : Prop := ∀ a o, ¬ P a → h.get? a = some o → h'.get? a = some o ∧ ¬ P' a
noncomputable def ExtOk (X : Ext) : Prop := ∀ t x P h P' h' v, X t x P h v → Pass P h P' h' → X t x P' h' v
mutual
theorem Rd.pass {X : Ext} (hX : ExtOk X) {P P' : Addr → Prop} {h h' : Heap} (g : Pass P h P' h') : ∀ {v : Value} {d : PV}, Rd X P h v d → Rd X P' h' v d
  | _, _, .none => .none
  | _, _, .bool b => .bool b
  | _, _, .int i t => .int i t
  | _, _, .str x t => .str x t
  | _, _, .list a e r => .list (g _ _ a e).2 (g _ _ a e).1 (RdL.pass hX g r)
  | _, _, .tuple a e r => .tuple (g _ _ a e).2 (g _ _ a e).1 (RdL.pass hX g r)
  | _, _, .raw v => .raw v
  | _, _, .ext x => .ext (hX _ _ _ _ _ _ _ x g)
  | _, _, .slice a e p q r => .slice (g _ _ a e).2 (g _ _ a e).1 p q r
  | _, _, .range a e => .range (g _ _ a e).2 (g _ _ a e).1
theorem RdL.pass {X : Ext} (hX : ExtOk X) {P P' : Addr → Prop} {h h' : Heap} (g : Pass P h P' h') : ∀ {vs : List Value} {ds : List PV}, RdL X P h vs ds → RdL X P' h' vs ds
  | _, _, .nil => .nil
  | _, _, .cons a r => .cons (Rd.pass hX g a) (RdL.pass hX g r)
end
theorem Rd.intE {X : Ext} {P : Addr → Prop} {h : Heap} {v : Value} {i : Int} (r : Rd X P h v (.int i)) : ∃ t, v = .int i t := by cases r; exact ⟨_, rfl⟩
theorem Rd.rawE {X : Ext} {P : Addr → Prop} {h : Heap} {v w : Value} (r : Rd X P h v (.raw w)) : v = w := by cases r; rfl
theorem Rd.extE {X : Ext} {P : Addr → Prop} {h : Heap} {v : Value} {t : Nat} {x : List (List Nat)} (r : Rd X P h v (.ext t x)) : X t x P h v := by cases r; assumption
theorem RdL.length {X P h} : ∀ {vs ds}, RdL X P h vs ds → vs.length = ds.length
  | _, _, .nil => rfl
  | _, _, .cons _ r => by simp [r.length]
theorem RdL.get {X P h} : ∀ {vs ds} {i : Nat} {v : Value}, RdL X P h vs ds → vs[i]? = some v → ∃ d, ds[i]? = some d ∧ Rd X P h v d
  | _, _, i, v, .nil, e => by simp at e
  | _, _, 0, v, .cons a r, e => by simp at e; subst e; exact ⟨_, rfl, a⟩
  | _, _, i + 1, v, .cons a r, e => by simp at e; obtain ⟨d, h1, h2⟩ := r.get e; exact ⟨d, by simpa using h1, h2⟩
theorem RdL.get' {X P h} : ∀ {vs ds} {i : Nat} {d : PV}, RdL X P h vs ds → ds[i]? = some d → ∃ v, vs[i]? = some v ∧ Rd X P h v d
  | _, _, i, v, .nil, e => by simp at e
  | _, _, 0, v, .cons a r, e => by simp at e; subst e; exact ⟨_, rfl, a⟩
  | _, _, i + 1, v, .cons a r, e => by simp at e; obtain ⟨d, h1, h2⟩ := r.get' e; exact ⟨d, by simpa using h1, h2⟩
theorem RdL.append {X P h} : ∀ {vs ds vs' ds'}, RdL X P h vs ds → RdL X P h vs' ds' → RdL X P h (vs ++ vs') (ds ++ ds')
  | _, _, _, _, .nil, r => r
  | _, _, _, _, .cons a r, r' => .cons a (r.append r')
inductive AO where
  | mlist (xs : List PV)
  | inst (d : Addr) (fs : List (String × PV))
  | tab
noncomputable abbrev Sto := List (Addr × AO)
noncomputable def AO.more : AO → List Addr
  | .mlist _ => []
  | .inst d _ => [d]
  | .tab => []
noncomputable def dom : Sto → List Addr
  | [] => []
  | p :: r => p.1 :: (p.2.more ++ dom r)
set_option genInjectivity false in
structure Cx where
  prog : Program
  w : World
  tb : List Addr
  base : Nat
  cls : Addr
  X : Ext
  extOk : ExtOk X
  gi : Heap → Prop
  mg : Str → Option Value
  mb : Str → Option Value
  g : ∀ {h}, gi h → h.Ns mainGlobals mg
  b : ∀ {h}, gi h → h.Ns builtinsNs mb
  nolimit : ∀ {h}, gi h → h.NoLimit
  low : ∀ {h}, gi h → base ≤ h.objs.size
  low2 : 8 ≤ base
  tab : Addr → Prop
  T : (Addr → Prop) → Heap → Addr → Prop
  tOk : ∀ P h P' h' a, T P h a → Pass P h P' h' → (∀ o, h.get? a = some o → h'.get? a = some o) → T P' h' a
  tLt : ∀ P h a, T P h a → a < h.objs.size
  keep : ∀ {h h'}, gi h → (∀ b o, b < base ∧ ¬ tab b → h.get? b = some o → h'.get? b = some o) → h.objs.size ≤ h'.objs.size → gi h'
  tbLow : ∀ a ∈ tb, a < base
noncomputable def FieldsAre (X : Ext) (P : Addr → Prop) (h : Heap) (mA : Str → Option Value) (fs : List (String × PV)) : Prop :=
  (∀ x d, fs.lookup x = some d → ∃ v, mA (Str.ofString x) = some v ∧ Rd X P h v d) ∧ ∀ y v, mA y = some v → ∃ x d, y = Str.ofString x ∧ fs.lookup x = some d
noncomputable def InstOf (C : Cx) (h : Heap) (a d : Addr) : Prop := ∃ o, h.get? a = some o ∧ o.cls = .ref C.cls ∧ o.dict = some d ∧ ∀ c, o.data ≠ .cls c
noncomputable def AoIs (C : Cx) (P : Addr → Prop) (h : Heap) (a : Addr) : AO → Prop
  | .mlist xs => ∃ vs n, h.get? a = some { cls := .type "list", data := .seq vs n } ∧ RdL C.X P h vs.toList xs
  | .inst d fs => InstOf C h a d ∧ d ≠ a ∧ ∃ mA, h.Ns1 d mA ∧ FieldsAre C.X P h mA fs
  | .tab => C.T P h a
noncomputable def StRel (C : Cx) (P : Addr → Prop) (h : Heap) (σ : Sto) : Prop := ∀ a ao, (a, ao) ∈ σ → AoIs C P h a ao
theorem FieldsAre.pass {X : Ext} (hX : ExtOk X) {P P' : Addr → Prop} {h h' : Heap} (g : Pass P h P' h') {mA fs} (r : FieldsAre X P h mA fs) : FieldsAre X P' h' mA fs :=
  ⟨fun x d hx => let ⟨v, a, b⟩ := r.1 x d hx; ⟨v, a, b.pass hX g⟩, r.2⟩
theorem AoIs.pass {C : Cx} {P P' : Addr → Prop} {h h' : Heap} (g : Pass P h P' h') {a : Addr} {ao : AO} (k : ∀ b, b = a ∨ b ∈ ao.more → ∀ o, h.get? b = some o → h'.get? b = some o) (r : AoIs C P h a ao) : AoIs C P' h' a ao := by
  cases ao with
  | mlist xs => obtain ⟨vs, n, e, r⟩ := r; exact ⟨vs, n, k a (.inl rfl) _ e, r.pass C.extOk g⟩
  | inst d fs => obtain ⟨⟨o, e, q⟩, hd, mA, n, r⟩ := r; exact ⟨⟨o, k a (.inl rfl) _ e, q⟩, hd, mA, n.at (k d (.inr (List.mem_singleton.mpr rfl))), r.pass C.extOk g⟩
  | tab => exact C.tOk P h P' h' a r g (k a (.inl rfl))
theorem mem_dom {σ : Sto} {a : Addr} {ao : AO} (h : (a, ao) ∈ σ) : ∀ b, b = a ∨ b ∈ ao.more → b ∈ dom σ := by
  induction σ with
  | nil => exact absurd h List.not_mem_nil
  | cons p r ih =>
    intro b hb
    rcases List.mem_cons.mp h with rfl | h
    · rcases hb with rfl | hb
      · exact .head _
      · exact .tail _ (List.mem_append_left _ hb)
    · exact .tail _ (List.mem_append_right _ (ih h b hb))
theorem StRel.pass {C : Cx} {P P' : Addr → Prop} {h h' : Heap} {σ : Sto} (g : Pass P h P' h') (k : ∀ b ∈ dom σ, ∀ o, h.get? b = some o → h'.get? b = some o) (r : StRel C P h σ) : StRel C P' h' σ :=
  fun a ao hm => (r a ao hm).pass g fun b hb o e => k b (mem_dom hm b hb) o e
set_option genInjectivity false in
structure Room (A : Around) (k : Nat) : Prop where
  depth : A.depth + k ≤ 900
  units : A.units + 100 * k ≤ 9000
  handled : A.handled = none
theorem Room.deeper {A : Around} {k : Nat} (h : Room A (k + 1)) (env : Env) : Room (A.deeper env) k := ⟨by have := h.depth; show A.depth + 1 + k ≤ 900; lia, by have := h.units; show A.units + 3 + 100 * k ≤ 9000; lia, h.handled⟩
theorem Room.limit {A : Around} {k : Nat} (h : Room A k) : A.depth < recursionLimit := by have := h.depth; show A.depth < 1000; lia
noncomputable def PP (P : Addr → Prop) (σ : Sto) : Addr → Prop := fun a => P a ∨ a ∈ dom σ
set_option genInjectivity false in
structure Hp (C : Cx) (P : Addr → Prop) (σ : Sto) (h : Heap) : Prop where
  gi : C.gi h
  st : StRel C P h σ
  ptb : ∀ a ∈ C.tb, P a
  pdom : ∀ a ∈ dom σ, P a ∧ (C.base ≤ a ∨ C.tab a)
  nodup : (dom σ).Nodup
  plt : ∀ a, P a → a < h.objs.size
theorem AoIs.lt {C : Cx} {P : Addr → Prop} {h : Heap} {a : Addr} {ao : AO} (r : AoIs C P h a ao) : ∀ b, b = a ∨ b ∈ ao.more → b < h.objs.size := by
  intro b hb
  cases ao with
  | mlist xs =>
    obtain ⟨vs, n, e, r⟩ := r
    rcases hb with rfl | hb
    · exact Heap.lt_size e
    · exact absurd hb List.not_mem_nil
  | inst d fs =>
    obtain ⟨⟨o, e, q⟩, hd, mA, n, r⟩ := r
    rcases hb with rfl | hb
    · exact Heap.lt_size e
    · rw [List.mem_singleton.mp hb]; exact n.lt
  | tab =>
    rcases hb with rfl | hb
    · exact C.tLt P h _ r
    · exact absurd hb List.not_mem_nil
theorem dom_of_mem : ∀ {σ : Sto} {b : Addr}, b ∈ dom σ → ∃ a ao, (a, ao) ∈ σ ∧ (b = a ∨ b ∈ ao.more)
  | p :: r, b, hb => by
    rcases List.mem_cons.mp hb with rfl | hb
    · exact ⟨p.1, p.2, .head _, .inl rfl⟩
    · rcases List.mem_append.mp hb with hb | hb
      · exact ⟨p.1, p.2, .head _, .inr hb⟩
      · obtain ⟨a, ao, h1, h2⟩ := dom_of_mem hb
        exact ⟨a, ao, .tail _ h1, h2⟩
theorem Hp.lt {C P σ h} (H : Hp C P σ h) : ∀ b ∈ dom σ, b < h.objs.size := fun b hb => by
  obtain ⟨a, ao, h1, h2⟩ := dom_of_mem hb
  exact (H.st a ao h1).lt b h2
set_option genInjectivity false in
structure Step (C : Cx) (σ σ' : Sto) (own : Addr → Prop) (s s' : Shared) : Prop where
  kept : ∀ b o, b ∉ dom σ → b ∉ C.tb → ¬ own b → s.heap.get? b = some o → s'.heap.get? b = some o
  size : s.heap.objs.size ≤ s'.heap.objs.size
  new : ∀ a ∈ dom σ', a ∈ dom σ ∨ s.heap.objs.size ≤ a
  gens : s'.gens = s.gens
  os : s'.os = s.os
noncomputable abbrev noOwn : Addr → Prop := fun _ => False
theorem Step.refl {C σ own} (s : Shared) : Step C σ σ own s s := ⟨fun _ _ _ _ _ e => e, Nat.le_refl _, fun _ h => .inl h, rfl, rfl⟩
theorem Step.trans {C σ σ₁ σ₂ own} {s s₁ s₂ : Shared} (h : Step C σ σ₁ own s s₁) (k : Step C σ₁ σ₂ own s₁ s₂) : Step C σ σ₂ own s s₂ :=
  ⟨fun b o h1 h2 h3 e => k.kept b o (fun hb => by
      rcases h.new b hb with q | q
      · exact h1 q
      · exact absurd (Heap.lt_size e) (Nat.not_lt.mpr q)) h2 h3 (h.kept b o h1 h2 h3 e),
   Nat.le_trans h.size k.size, fun a ha => by
     rcases k.new a ha with q | q
     · exact h.new a q
     · exact .inr (Nat.le_trans h.size q), k.gens.trans h.gens, k.os.trans h.os⟩
theorem Step.weak {C σ σ' own} {own' : Addr → Prop} {s s' : Shared} (h : Step C σ σ' own s s') (e : ∀ a, own a → own' a) : Step C σ σ' own' s s' :=
  ⟨fun b o h1 h2 h3 g => h.kept b o h1 h2 (fun q => h3 (e b q)) g, h.size, h.new, h.gens, h.os⟩
set_option genInjectivity false in
structure After (C : Cx) (P : Addr → Prop) (σ : Sto) (s : Shared) (σ' : Sto) (s' : Shared) : Prop where
  step : Step C σ σ' noOwn s s'
  hp : Hp C (PP P σ') σ' s'.heap
noncomputable def Out (C : Cx) (P : Addr → Prop) (σ : Sto) (s : Shared) (K : PV → Sto → Prop) (v : Value) (s' : Shared) : Prop :=
  ∃ d σ', K d σ' ∧ After C P σ s σ' s' ∧ Rd C.X (PP P σ') s'.heap v d
noncomputable def OutL (C : Cx) (P : Addr → Prop) (σ : Sto) (s : Shared) (K : List PV → Sto → Prop) (vs : List Value) (s' : Shared) : Prop :=
  ∃ ds σ', K ds σ' ∧ After C P σ s σ' s' ∧ RdL C.X (PP P σ') s'.heap vs ds
noncomputable abbrev NoE : Value → Shared → Prop := fun _ _ => False
theorem pass_step {C : Cx} {P : Addr → Prop} {σ σ' : Sto} {own : Addr → Prop} {s s' : Shared} (hS : Step C σ σ' own s s') (hown : ∀ a, own a → P a) (hp : Hp C P σ s.heap) : Pass P s.heap (PP P σ') s'.heap := fun a o ha e =>
  ⟨hS.kept a o (fun q => ha (hp.pdom a q).1) (fun q => ha (hp.ptb a q)) (fun q => ha (hown a q)) e, fun q => q.elim ha fun q => by
    rcases hS.new a q with z | z
    · exact ha (hp.pdom a z).1
    · exact absurd (Heap.lt_size e) (Nat.not_lt.mpr z)⟩
theorem RdL.pass' {C : Cx} {P P' h h'} (g : Pass P h P' h') {vs ds} (r : RdL C.X P h vs ds) : RdL C.X P' h' vs ds := r.pass C.extOk g
theorem Rd.pass' {C : Cx} {P P' h h'} (g : Pass P h P' h') {v d} (r : Rd C.X P h v d) : Rd C.X P' h' v d := r.pass C.extOk g
inductive Var (env : Env) (h : Heap) (x : Str) (v : Value) : Prop
  | loc {m} : env.kindOf x = some .local → h.Ns env.locals m → m x = some v → Var env h x v
  | cell {c} : (env.kindOf x = some .cell ∨ env.kindOf x = some .free) → env.cells.lookup x = some c → h.IsCell c (some v) → Var env h x v
noncomputable def own (env : Env) : Addr → Prop := fun a => a = env.locals ∨ ∃ x, env.cells.lookup x = some a
set_option genInjectivity false in
structure EnvOk (env : Env) (h : Heap) : Prop where
  kind : env.scope.kind = .function
  glob : env.globals = mainGlobals
  blt : env.builtins = builtinsNs
  ns : ∃ m, h.Ns env.locals m
  cells : ∀ x c, env.cells.lookup x = some c → c ≠ env.locals ∧ ∃ v, h.IsCell c v
  inj : ∀ x y c, env.cells.lookup x = some c → env.cells.lookup y = some c → x = y
  has : ∀ x, env.kindOf x = some .cell ∨ env.kindOf x = some .free → ∃ c, env.cells.lookup x = some c
noncomputable abbrev Lo := List (String × PV)
set_option genInjectivity false in
structure Inv (C : Cx) (P : Addr → Prop) (env : Env) (ρ : Lo) (σ : Sto) (h : Heap) : Prop where
  hp : Hp C P σ h
  envOk : EnvOk env h
  vars : ∀ x d, ρ.lookup x = some d → ∃ v, Var env h (Str.ofString x) v ∧ Rd C.X P h v d
  pown : ∀ a, own env a → P a ∧ C.base ≤ a ∧ a ∉ dom σ
theorem Var.keep {env : Env} {h h' : Heap} {x v} (k : ∀ b o, own env b → h.get? b = some o → h'.get? b = some o) : Var env h x v → Var env h' x v
  | .loc a n e => .loc a (let ⟨o, es, ep, ho, r⟩ := n; ⟨o, es, ep, k _ _ (.inl rfl) ho, r⟩) e
  | .cell a l c => .cell a l (let ⟨o, ho, hd⟩ := c; ⟨o, k _ _ (.inr ⟨_, l⟩) ho, hd⟩)
theorem EnvOk.keep {env : Env} {h h' : Heap} (H : EnvOk env h) (k : ∀ b o, own env b → h.get? b = some o → h'.get? b = some o) : EnvOk env h' :=
  ⟨H.kind, H.glob, H.blt, let ⟨m, o, es, ep, ho, r⟩ := H.ns; ⟨m, o, es, ep, k _ _ (.inl rfl) ho, r⟩,
   fun x c hx => let ⟨a, v, o, ho, hd⟩ := H.cells x c hx; ⟨a, v, o, k _ _ (.inr ⟨_, hx⟩) ho, hd⟩, H.inj, H.has⟩
theorem EnvOk.lt {env : Env} {h : Heap} (H : EnvOk env h) : ∀ a, own env a → a < h.objs.size := by
  rintro a (rfl | ⟨x, hx⟩)
  · obtain ⟨m, hm⟩ := H.ns; exact hm.lt
  · obtain ⟨_, v, hv⟩ := H.cells x a hx; exact hv.lt
theorem Inv.after {C P env ρ σ σ'} {s s' : Shared} (I : Inv C P env ρ σ s.heap) (hA : After C P σ s σ' s') : Inv C (PP P σ') env ρ σ' s'.heap := by
  obtain ⟨hS, hp⟩ := hA
  have k : ∀ b o, own env b → s.heap.get? b = some o → s'.heap.get? b = some o := fun b o hb e => hS.kept b o (I.pown b hb).2.2 (fun q => absurd (C.tbLow b q) (Nat.not_lt.mpr (I.pown b hb).2.1)) (fun q => q) e
  refine ⟨hp, I.envOk.keep k, fun x d hx => ?_, fun a ha => ⟨.inl (I.pown a ha).1, (I.pown a ha).2.1, fun q => ?_⟩⟩
  · obtain ⟨v, h1, h2⟩ := I.vars x d hx
    exact ⟨v, h1.keep k, h2.pass' (pass_step hS (fun _ q => q.elim) I.hp)⟩
  · rcases hS.new a q with z | z
    · exact (I.pown a ha).2.2 z
    · exact absurd (I.envOk.lt a ha) (Nat.not_lt.mpr z)
noncomputable def Ev (C : Cx) (k : Nat) (sc : Scope) (ρ : Lo) (σ : Sto) (e : Expr) (K : PV → Sto → Prop) : Prop :=
  ∀ (A : Around) (P : Addr → Prop) (env : Env) (s : Shared), env.scope = sc → Room A k → Inv C P env ρ σ s.heap →
    wpAny (model C.prog C.w) A (eval e env) (Out C P σ s K) NoE s
theorem Out.mono {C P σ s K K' v s'} (h : Out C P σ s K v s') (e : ∀ d σ', K d σ' → K' d σ') : Out C P σ s K' v s' := let ⟨d, σ', a, b⟩ := h; ⟨d, σ', e _ _ a, b⟩
theorem Ev.mono {C k sc ρ σ e K K'} (h : Ev C k sc ρ σ e K) (q : ∀ d σ', K d σ' → K' d σ') : Ev C k sc ρ σ e K' := fun A P env s h1 h2 h3 => wpAny_mono (h A P env s h1 h2 h3) (fun _ _ o => o.mono q) fun _ _ x => x
end Mine
namespace Mine
theorem Pass.trans {P P' P'' : Addr → Prop} {h h' h'' : Heap} (g : Pass P h P' h') (k : Pass P' h' P'' h'') : Pass P h P'' h'' := fun a o n e => let ⟨e', n'⟩ := g a o n e; k a o n' e'
theorem Pass.less {P P' : Addr → Prop} {h : Heap} (e : ∀ a, P' a → P a) : Pass P h P' h := fun a o n x => ⟨x, fun q => n (e a q)⟩
theorem Pass.pp {C P σ h} (H : Hp C P σ h) : Pass P h (PP P σ) h := fun a o n e => ⟨e, fun q => q.elim n fun q => n (H.pdom a q).1⟩
theorem Hp.pplt {C P σ h} (H : Hp C P σ h) : ∀ a, PP P σ a → a < h.objs.size := fun a q => q.elim (H.plt a) (H.lt a)
theorem Hp.weak {C : Cx} {P P' : Addr → Prop} {σ : Sto} {h : Heap} (H : Hp C P σ h) (e : ∀ a, P' a → P a) (hp : ∀ a ∈ C.tb, P' a) (hd : ∀ a ∈ dom σ, P' a) : Hp C P' σ h :=
  ⟨H.gi, H.st.pass (Pass.less e) (fun _ _ _ x => x), hp, fun a ha => ⟨hd a ha, (H.pdom a ha).2⟩, H.nodup, fun a ha => H.plt a (e a ha)⟩
theorem Hp.pp {C P σ h} (H : Hp C P σ h) : Hp C (PP P σ) σ h := ⟨H.gi, H.st.pass (Pass.pp H) (fun _ _ _ e => e), fun a ha => .inl (H.ptb a ha), fun a ha => ⟨.inr ha, (H.pdom a ha).2⟩, H.nodup, H.pplt⟩
theorem PP_up {P : Addr → Prop} {σ σ' : Sto} : ∀ a, PP P σ' a → PP (PP P σ) σ' a := fun a q => q.elim (fun q => .inl (.inl q)) .inr
theorem After.refl {C P σ s} (H : Hp C P σ s.heap) : After C P σ s σ s := ⟨Step.refl s, H.pp⟩
theorem After.toks {C P σ s} {n : Tok} (H : Hp C P σ s.heap) : After C P σ s σ { s with toks := n } := ⟨⟨fun _ _ _ _ _ e => e, Nat.le_refl _, fun _ h => .inl h, rfl, rfl⟩, H.pp⟩
theorem After.pass {C P σ σ' s s'} (h : After C P σ s σ' s') (H : Hp C P σ s.heap) : Pass P s.heap (PP P σ') s'.heap := pass_step h.step (fun _ q => q.elim) H
theorem After.trans {C P σ σ₁ σ₂ s s₁ s₂} (h : After C P σ s σ₁ s₁) (H : Hp C P σ s.heap) (k : After C (PP P σ₁) σ₁ s₁ σ₂ s₂) : After C P σ s σ₂ s₂ :=
  ⟨h.step.trans k.step, k.hp.weak PP_up (fun a ha => .inl (H.ptb a ha)) (fun a ha => .inr ha)⟩
theorem Rd.down {X P σ σ' h v d} (r : Rd X (PP (PP P σ) σ') h v d) (hX : ExtOk X) : Rd X (PP P σ') h v d := r.pass hX (Pass.less PP_up)
theorem RdL.down {X P σ σ' h v d} (r : RdL X (PP (PP P σ) σ') h v d) (hX : ExtOk X) : RdL X (PP P σ') h v d := r.pass hX (Pass.less PP_up)
theorem Out.seq {C P σ σ₁ s s₁ K v s₂} (hA : After C P σ s σ₁ s₁) (H : Hp C P σ s.heap) (o : Out C (PP P σ₁) σ₁ s₁ K v s₂) : Out C P σ s K v s₂ :=
  let ⟨d, σ', hK, k, r⟩ := o; ⟨d, σ', hK, hA.trans H k, r.down C.extOk⟩
theorem Out.here {C P σ s K v d tk} (H : Hp C P σ s.heap) (r : Rd C.X P s.heap v d) (hK : K d σ) : Out C P σ s K v { s with toks := tk } := ⟨d, σ, hK, After.toks H, r.pass' (Pass.pp H)⟩
theorem Out.here' {C P σ s K v d} (H : Hp C P σ s.heap) (r : Rd C.X P s.heap v d) (hK : K d σ) : Out C P σ s K v s := Out.here (tk := s.toks) H r hK
theorem After.push {C P σ s} {o : Obj} {n : Tok} (H : Hp C P σ s.heap) : After C P σ s σ { s with heap := s.heap.push o, toks := n } := by
  have k : ∀ b x, s.heap.get? b = some x → (s.heap.push o).get? b = some x := fun b x e => Heap.get?_push_of_some _ e
  have sz : s.heap.objs.size ≤ (s.heap.push o).objs.size := by rw [Heap.size_push]; exact Nat.le_succ _
  refine ⟨⟨fun b x _ _ _ e => k b x e, sz, fun _ h => .inl h, rfl, rfl⟩, ?_⟩
  exact ⟨C.keep H.gi (fun b x _ e => k b x e) sz, H.st.pass (fun a x na e => ⟨k a x e, fun q => q.elim na fun q => na (H.pdom a q).1⟩) (fun b _ x e => k b x e), fun a ha => .inl (H.ptb a ha), fun a ha => ⟨.inr ha, (H.pdom a ha).2⟩, H.nodup, fun a q => Nat.lt_of_lt_of_le (H.pplt a q) sz⟩
theorem Hp.fresh {C P σ h} (H : Hp C P σ h) : ¬ PP P σ h.objs.size := fun q => Nat.lt_irrefl _ (H.pplt _ q)
theorem Out.newList {C P σ s K vs ds tk} (H : Hp C P σ s.heap) (r : RdL C.X P s.heap vs ds) (hK : K (.list ds) σ) : Out C P σ s K (.ref s.heap.objs.size) { s with heap := s.heap.push { cls := .type "list", data := .seq vs.toArray }, toks := tk } :=
  let A := After.push (o := { cls := .type "list", data := .seq vs.toArray }) (n := tk) H
  ⟨_, σ, hK, A, .list H.fresh (Heap.get?_push_size _ rfl) (by simpa using r.pass' (A.pass H))⟩
theorem Out.newTuple {C P σ s K vs ds tk} (H : Hp C P σ s.heap) (r : RdL C.X P s.heap vs ds) (hK : K (.tuple ds) σ) : Out C P σ s K (.ref s.heap.objs.size) { s with heap := s.heap.push { cls := .type "tuple", data := .seq vs.toArray }, toks := tk } :=
  let A := After.push (o := { cls := .type "tuple", data := .seq vs.toArray }) (n := tk) H
  ⟨_, σ, hK, A, .tuple H.fresh (Heap.get?_push_size _ rfl) (by simpa using r.pass' (A.pass H))⟩
theorem Out.newMList {C P σ s K vs ds tk} (H : Hp C P σ s.heap) (r : RdL C.X P s.heap vs ds) (hK : K (.raw (.ref s.heap.objs.size)) ((s.heap.objs.size, .mlist ds) :: σ)) : Out C P σ s K (.ref s.heap.objs.size) { s with heap := s.heap.push { cls := .type "list", data := .seq vs.toArray }, toks := tk } := by
  have A := After.push (o := { cls := .type "list", data := .seq vs.toArray }) (n := tk) H
  have hz : s.heap.objs.size < (s.heap.push { cls := .type "list", data := .seq vs.toArray }).objs.size := by rw [Heap.size_push]; exact Nat.lt_succ_self _
  have g : Pass (PP P σ) (s.heap.push { cls := .type "list", data := .seq vs.toArray }) (PP P ((s.heap.objs.size, AO.mlist ds) :: σ)) (s.heap.push { cls := .type "list", data := .seq vs.toArray }) → True := fun _ => trivial
  have gg : Pass P s.heap (PP P ((s.heap.objs.size, AO.mlist ds) :: σ)) (s.heap.push { cls := .type "list", data := .seq vs.toArray }) := fun a o na e =>
    ⟨Heap.get?_push_of_some _ e, fun q => q.elim na fun q => by
      rcases List.mem_cons.mp q with rfl | q
      · exact absurd (Heap.lt_size e) (Nat.lt_irrefl _)
      · exact na (H.pdom a q).1⟩
  refine ⟨_, _, hK, ⟨⟨A.step.kept, A.step.size, fun a ha => ?_, rfl, rfl⟩, ?_⟩, .raw _⟩
  · rcases List.mem_cons.mp ha with rfl | ha
    · exact .inr (Nat.le_refl _)
    · exact .inl ha
  · refine ⟨A.hp.gi, ?_, fun a ha => .inl (H.ptb a ha), fun a ha => ⟨.inr ha, ?_⟩, ?_, fun a q => ?_⟩
    · intro a ao hm
      rcases List.mem_cons.mp hm with e | hm
      · cases e; exact ⟨_, _, Heap.get?_push_size _ rfl, by simpa using r.pass' gg⟩
      · exact (H.st a ao hm).pass gg fun b _ o e => Heap.get?_push_of_some _ e
    · rcases List.mem_cons.mp ha with rfl | ha
      · exact .inl (C.low H.gi)
      · exact (H.pdom a ha).2
    · exact List.nodup_cons.mpr ⟨fun q => Nat.lt_irrefl _ (H.lt _ q), H.nodup⟩
    · rcases q with q | q
      · exact Nat.lt_trans (H.plt a q) hz
      · rcases List.mem_cons.mp q with rfl | q
        · exact hz
        · exact Nat.lt_trans (H.lt a q) hz
end Mine
end C1
section C2
open PySem PySem.W PyProof.Rows
namespace Mine
noncomputable def Op1 (C : Cx) (k : Nat) (σ : Sto) (a : PV) (f : Value → Sem Value) (K : PV → Sto → Prop) : Prop :=
  ∀ (A : Around) (P : Addr → Prop) (s : Shared) (v : Value), Room A k → Hp C P σ s.heap → Rd C.X P s.heap v a → wpAny (model C.prog C.w) A (f v) (Out C P σ s K) NoE s
noncomputable def Op2 (C : Cx) (k : Nat) (σ : Sto) (a b : PV) (f : Value → Value → Sem Value) (K : PV → Sto → Prop) : Prop :=
  ∀ (A : Around) (P : Addr → Prop) (s : Shared) (v w : Value), Room A k → Hp C P σ s.heap → Rd C.X P s.heap v a → Rd C.X P s.heap w b → wpAny (model C.prog C.w) A (f v w) (Out C P σ s K) NoE s
noncomputable def OpL (C : Cx) (k : Nat) (σ : Sto) (ds : List PV) (f : List Value → Sem Value) (K : PV → Sto → Prop) : Prop :=
  ∀ (A : Around) (P : Addr → Prop) (s : Shared) (vs : List Value), Room A k → Hp C P σ s.heap → RdL C.X P s.heap vs ds → wpAny (model C.prog C.w) A (f vs) (Out C P σ s K) NoE s
noncomputable def OutB (C : Cx) (P : Addr → Prop) (σ : Sto) (s : Shared) (K : Bool → Sto → Prop) (b : Bool) (s' : Shared) : Prop := ∃ σ', K b σ' ∧ After C P σ s σ' s'
noncomputable def OpB (C : Cx) (k : Nat) (σ : Sto) (a : PV) (f : Value → Sem Bool) (K : Bool → Sto → Prop) : Prop :=
  ∀ (A : Around) (P : Addr → Prop) (s : Shared) (v : Value), Room A k → Hp C P σ s.heap → Rd C.X P s.heap v a → wpAny (model C.prog C.w) A (f v) (OutB C P σ s K) NoE s
noncomputable def Tr (C : Cx) (k : Nat) (sc : Scope) (ρ : Lo) (σ : Sto) (e : Expr) (K : Bool → Sto → Prop) : Prop :=
  ∀ (A : Around) (P : Addr → Prop) (env : Env) (s : Shared), env.scope = sc → Room A k → Inv C P env ρ σ s.heap →
    wpAny (model C.prog C.w) A (isTrue e env (eval e env)) (OutB C P σ s K) NoE s
noncomputable def EvL (C : Cx) (k : Nat) (sc : Scope) (ρ : Lo) : Sto → List Expr → (List PV → Sto → Prop) → Prop
  | σ, [], K => K [] σ
  | σ, e :: r, K => Ev C k sc ρ σ e fun d σ₁ => EvL C k sc ρ σ₁ r fun ds σ₂ => K (d :: ds) σ₂
theorem OutB.seq {C P σ σ₁ s s₁ K b s₂} (hA : After C P σ s σ₁ s₁) (H : Hp C P σ s.heap) (o : OutB C (PP P σ₁) σ₁ s₁ K b s₂) : OutB C P σ s K b s₂ := let ⟨σ', hK, k⟩ := o; ⟨σ', hK, hA.trans H k⟩
theorem OutB.here {C P σ s K b} (H : Hp C P σ s.heap) (hK : K b σ) : OutB C P σ s K b s := ⟨σ, hK, After.refl H⟩
theorem OutB.mono {C P σ s K K' b s'} (h : OutB C P σ s K b s') (e : ∀ b σ', K b σ' → K' b σ') : OutB C P σ s K' b s' := let ⟨σ', a, b⟩ := h; ⟨σ', e _ _ a, b⟩
theorem Tr.mono {C k sc ρ σ e K K'} (h : Tr C k sc ρ σ e K) (q : ∀ b σ', K b σ' → K' b σ') : Tr C k sc ρ σ e K' := fun A P env s h1 h2 h3 => wpAny_mono (h A P env s h1 h2 h3) (fun _ _ o => o.mono q) fun _ _ x => x
theorem EvL.mono {C k sc ρ} : ∀ {es σ K K'}, EvL C k sc ρ σ es K → (∀ d σ', K d σ' → K' d σ') → EvL C k sc ρ σ es K'
  | [], _, _, _, h, q => q _ _ h
  | e :: r, _, _, _, h, q => Ev.mono h fun d σ₁ h₁ => EvL.mono h₁ fun ds σ₂ h₂ => q _ _ h₂
theorem Ev.name {C k sc ρ σ x pos d K} (hx : ρ.lookup x = some d) (h : K d σ) (hd : (Str.ofString x == ("__debug__" : Str)) = false := by decide) (hn : (Str.ofString x == ("__classdict__" : Str)) = false := by decide) : Ev C k sc ρ σ (.Name (Str.ofString x) pos) K := fun A P env s he hr I => by
  obtain ⟨v, hv, r⟩ := I.vars x d hx
  have o : Out C P σ s K v s := Out.here' I.hp r h
  cases hv with
  | loc a n e => exact wpAny_Name (wpAny_loadName_local I.envOk.kind a n e o) hd
  | cell a l c =>
    rcases a with a | a
    · exact wpAny_Name (wpAny_loadName_cell I.envOk.kind a l c o) hd
    · exact wpAny_Name (wpAny_loadName_free I.envOk.kind a l c o hn) hd
theorem Ev.global {C k sc ρ σ x pos v K} (hk : sc.names.lookup x = some .globalImplicit) (hg : C.mg x = some v) (h : K (.raw v) σ) (hd : (x == ("__debug__" : Str)) = false := by decide) : Ev C k sc ρ σ (.Name x pos) K := fun A P env s he hr I =>
  Calls.Name_function_global I.envOk.kind (by subst he; exact hk) (Calls.loadGlobal_global (mg := C.mg) (by rw [I.envOk.glob]; exact C.g I.hp.gi) hg (Out.here' I.hp (.raw v) h)) hd
theorem Ev.builtin {C k sc ρ σ x pos v K} (hk : sc.names.lookup x = some .globalImplicit) (hn : C.mg x = none) (hg : C.mb x = some v) (h : K (.raw v) σ) (hd : (x == ("__debug__" : Str)) = false := by decide) : Ev C k sc ρ σ (.Name x pos) K := fun A P env s he hr I =>
  Calls.Name_function_global I.envOk.kind (by subst he; exact hk) (Calls.loadGlobal_builtin (mg := C.mg) (mb := C.mb) (by rw [I.envOk.glob]; exact C.g I.hp.gi) hn (by rw [I.envOk.blt]; exact C.b I.hp.gi) hg (Out.here' I.hp (.raw v) h)) hd
theorem Ev.int {C k sc ρ σ i kk pos K} (h : K (.int i) σ) : Ev C k sc ρ σ (.Constant (.int i) kk pos) K := fun A P env s he hr I => wpAny_Constant_int (Out.here I.hp (.int i _) h)
theorem Ev.str {C k sc ρ σ kk pos K} {x : Str} {l : List Nat} (hl : x.cps.toList = l) (h : K (.str l) σ) : Ev C k sc ρ σ (.Constant (.str x) kk pos) K := fun A P env s he hr I => wpAny_Constant_str (Out.here I.hp (hl ▸ .str x _) h)
theorem Ev.none {C k sc ρ σ kk pos K} (h : K .none σ) : Ev C k sc ρ σ (.Constant .none kk pos) K := fun A P env s he hr I => wpAny_Constant_none (Out.here' I.hp .none h)
theorem Ev.bool {C k sc ρ σ b kk pos K} (h : K (.bool b) σ) : Ev C k sc ρ σ (.Constant (.bool b) kk pos) K := fun A P env s he hr I => wpAny_Constant_bool (Out.here' I.hp (.bool b) h)
theorem ev_two {C k sc ρ σ e₁ e₂} {K : PV → PV → Sto → Prop} (h : Ev C k sc ρ σ e₁ fun a σ₁ => Ev C k sc ρ σ₁ e₂ (K a)) {A P env s} (he : env.scope = sc) (hr : Room A k) (I : Inv C P env ρ σ s.heap) {Q : Value → Value → Shared → Prop}
    (hQ : ∀ v₁ v₂ d₁ d₂ σ₂ s₂, K d₁ d₂ σ₂ → After C P σ s σ₂ s₂ → Rd C.X (PP P σ₂) s₂.heap v₁ d₁ → Rd C.X (PP P σ₂) s₂.heap v₂ d₂ → Q v₁ v₂ s₂) :
    wpAny (model C.prog C.w) A (eval e₁ env) (fun v₁ s₁ => wpAny (model C.prog C.w) A (eval e₂ env) (fun v₂ s₂ => Q v₁ v₂ s₂) NoE s₁) NoE s := by
  refine wpAny_mono (h A P env s he hr I) (fun v₁ s₁ o => ?_) fun _ _ x => x
  obtain ⟨d₁, σ₁, hK, hA, r⟩ := o
  refine wpAny_mono (hK A _ env s₁ he hr (I.after hA)) (fun v₂ s₂ o => ?_) fun _ _ x => x
  obtain ⟨d₂, σ₂, hK₂, hA₂, r₂⟩ := o
  exact hQ _ _ _ _ _ _ hK₂ (hA.trans I.hp hA₂) ((r.pass' (hA₂.pass hA.hp)).down C.extOk) (r₂.down C.extOk)
theorem ev_one {C k sc ρ σ e₁ K} (h : Ev C k sc ρ σ e₁ K) {A P env s} (he : env.scope = sc) (hr : Room A k) (I : Inv C P env ρ σ s.heap) {Q : Value → Shared → Prop}
    (hQ : ∀ v₁ d₁ σ₁ s₁, K d₁ σ₁ → After C P σ s σ₁ s₁ → Rd C.X (PP P σ₁) s₁.heap v₁ d₁ → Q v₁ s₁) :
    wpAny (model C.prog C.w) A (eval e₁ env) (fun v₁ s₁ => Q v₁ s₁) NoE s := by
  refine wpAny_mono (h A P env s he hr I) (fun v₁ s₁ o => ?_) fun _ _ x => x
  obtain ⟨d₁, σ₁, hK, hA, r⟩ := o
  exact hQ _ _ _ _ hK hA r
theorem wp_seq {C P σ σ₁ s s₁ A} {f : Sem Value} {K} (hA : After C P σ s σ₁ s₁) (H : Hp C P σ s.heap) (h : wpAny (model C.prog C.w) A f (Out C (PP P σ₁) σ₁ s₁ K) NoE s₁) : wpAny (model C.prog C.w) A f (Out C P σ s K) NoE s₁ :=
  wpAny_mono h (fun v s' o => Out.seq hA H o) fun _ _ x => x
theorem wp_seqB {C P σ σ₁ s s₁ A} {f : Sem Bool} {K} (hA : After C P σ s σ₁ s₁) (H : Hp C P σ s.heap) (h : wpAny (model C.prog C.w) A f (OutB C (PP P σ₁) σ₁ s₁ K) NoE s₁) : wpAny (model C.prog C.w) A f (OutB C P σ s K) NoE s₁ :=
  wpAny_mono h (fun v s' o => OutB.seq hA H o) fun _ _ x => x
theorem Ev.binop {C k sc ρ σ l op r pos K} (h : Ev C k sc ρ σ l fun a σ₁ => Ev C k sc ρ σ₁ r fun b σ₂ => Op2 C k σ₂ a b (binaryOp op) K) : Ev C k sc ρ σ (.BinOp l op r pos) K := fun A P env s he hr I =>
  wpAny_BinOp (ev_two h he hr I fun v₁ v₂ d₁ d₂ σ₂ s₂ hK hA r₁ r₂ => wp_seq hA I.hp (hK A _ s₂ v₁ v₂ hr hA.hp r₁ r₂))
theorem Ev.cmp {C k sc ρ σ l op r pos K} (h : Ev C k sc ρ σ l fun a σ₁ => Ev C k sc ρ σ₁ r fun b σ₂ => Op2 C k σ₂ a b (compareOp op) K) (hm : behindInMarks op r = false) : Ev C k sc ρ σ (.Compare l [op] [r] pos) K := fun A P env s he hr I =>
  wpAny_Compare1 (ev_two h he hr I fun v₁ v₂ d₁ d₂ σ₂ s₂ hK hA r₁ r₂ => wp_seq hA I.hp (hK A _ s₂ v₁ v₂ hr hA.hp r₁ r₂)) hm
theorem Ev.unary {C k sc ρ σ op x pos K} (h : Ev C k sc ρ σ x fun a σ₁ => Op1 C k σ₁ a (unaryOp op) K) : Ev C k sc ρ σ (.UnaryOp op x pos) K := fun A P env s he hr I =>
  wpAny_UnaryOp (ev_one h he hr I fun v d σ₁ s₁ hK hA r => wp_seq hA I.hp (hK A _ s₁ v hr hA.hp r))
theorem Tr.cmp {C k sc ρ σ l op r pos K} (h : Ev C k sc ρ σ l fun a σ₁ => Ev C k sc ρ σ₁ r fun b σ₂ => Op2 C k σ₂ a b (compareOp op) fun c σ₃ => OpB C k σ₃ c truthy K) (hm : behindInMarks op r = false) : Tr C k sc ρ σ (.Compare l [op] [r] pos) K := fun A P env s he hr I => by
  refine wpAny_isTrue_Compare1 (ev_two h he hr I fun v₁ v₂ d₁ d₂ σ₂ s₂ hK hA r₁ r₂ => ?_) hm
  refine wpAny_mono (hK A _ s₂ v₁ v₂ hr hA.hp r₁ r₂) (fun c s₃ o => ?_) fun _ _ x => x
  obtain ⟨d, σ₃, hK₃, hA₃, r₃⟩ := o
  have hA' := hA.trans I.hp hA₃
  exact wp_seqB hA' I.hp (hK₃ A _ s₃ c hr hA'.hp (r₃.down C.extOk))
theorem Tr.not {C k sc ρ σ x pos K} (h : Tr C k sc ρ σ x fun b σ₁ => K (!b) σ₁) : Tr C k sc ρ σ (.UnaryOp .Not x pos) K := fun A P env s he hr I =>
  wpAny_isTrue_Not (wpAny_mono (h A P env s he hr I) (fun _ _ o => o) fun _ _ x => x)
theorem Tr.value {C k sc ρ σ e K} (h : Ev C k sc ρ σ e fun a σ₁ => OpB C k σ₁ a truthy K) (he' : ∀ env whole, isTrue e env whole = (do let v ← whole; standAt e.pos; holding [v] (truthy v))) : Tr C k sc ρ σ e K := fun A P env s he hr I =>
  wpAny_isTrue_value (ev_one h he hr I fun v d σ₁ s₁ hK hA r => wp_seqB hA I.hp (hK A _ s₁ v hr hA.hp r)) (he' _ _)
theorem Ev.ifexp {C k sc ρ σ t a b pos K} (h : Tr C k sc ρ σ t fun c σ₁ => if c then Ev C k sc ρ σ₁ a K else Ev C k sc ρ σ₁ b K) : Ev C k sc ρ σ (.IfExp t a b pos) K := fun A P env s he hr I => by
  refine wpAny_IfExp (wpAny_mono (h A P env s he hr I) (fun c s₁ o => ?_) fun _ _ x => x)
  obtain ⟨σ₁, hK, hA⟩ := o
  cases c with
  | true => exact wp_seq hA I.hp (hK A _ env s₁ he hr (I.after hA))
  | false => exact wp_seq hA I.hp (hK A _ env s₁ he hr (I.after hA))
theorem Ev.or2 {C k sc ρ σ x y pos K} (h : Ev C k sc ρ σ x fun a σ₁ => OpB C k σ₁ a truthy fun b σ₂ => if b then K a σ₂ else Ev C k sc ρ σ₂ y K) : Ev C k sc ρ σ (.BoolOp .Or [x, y] pos) K := fun A P env s he hr I => by
  refine wpAny_Or2 (ev_one h he hr I fun v d σ₁ s₁ hK hA r => ?_)
  refine wpAny_mono (hK A _ s₁ v hr hA.hp r) (fun b s₂ o => ?_) fun _ _ x => x
  obtain ⟨σ₂, hK₂, hA₂⟩ := o
  have hA' := hA.trans I.hp hA₂
  cases b with
  | true => exact ⟨_, _, hK₂, hA', (r.pass' (hA₂.pass hA.hp)).down C.extOk⟩
  | false => exact wp_seq hA' I.hp (hK₂ A _ env s₂ he hr (I.after hA'))
noncomputable def TrAll (C : Cx) (k : Nat) (sc : Scope) (ρ : Lo) (op : BoolOp) : Sto → List Expr → (Bool → Sto → Prop) → Prop
  | σ, [], K => K (op == .And) σ
  | σ, e :: r, K => Tr C k sc ρ σ e fun b σ₁ => if b = (op == .And) then TrAll C k sc ρ op σ₁ r K else K b σ₁
theorem Tr.boolop {C k sc ρ σ op es pos K} (h : TrAll C k sc ρ op σ es K) : Tr C k sc ρ σ (.BoolOp op es pos) K := fun A P env s he hr I => by
  show wpAny (model C.prog C.w) A (allTrue op es env) (OutB C P σ s K) NoE s
  induction es generalizing P σ s with
  | nil => exact wpAny_pure (OutB.here I.hp h)
  | cons e r ih =>
    rw [arm_allTrue_cons]
    refine wpAny_bind (wpAny_mono (h A P env s he hr I) (fun b s₁ o => ?_) fun _ _ x => x)
    obtain ⟨σ₁, hK, hA⟩ := o
    by_cases hb : b = (op == .And)
    · rw [if_pos hb] at hK
      subst hb
      have g := wp_seqB hA I.hp (ih hK _ s₁ (I.after hA))
      cases op <;> exact g
    · rw [if_neg hb] at hK
      have g : OutB C P σ s K b s₁ := ⟨σ₁, hK, hA⟩
      cases op <;> cases b <;> first | exact absurd rfl hb | exact wpAny_pure g
end Mine
end C2
section C3
open PySem PySem.W PyProof.Rows
namespace Mine
noncomputable def plainE : Expr → Bool
  | .Starred .. => false
  | _ => true
theorem starEach_plain {e r env} (h : plainE e = true) : starEach (e :: r) env = (false, eval e env) :: starEach r env := by
  cases e <;> first | rfl | cases h
theorem backTo_cons {pos t r} : backTo pos ((false, t) :: r) = (false, t) :: backTo pos r := rfl
theorem plain_trees {pos env} : ∀ {es : List Expr}, es.all plainE = true → (backTo pos (starEach es env)).any (·.1) = false
  | [], _ => rfl
  | e :: r, h => by
    rw [List.all_cons, Bool.and_eq_true] at h
    rw [starEach_plain h.1, backTo_cons, List.any_cons, plain_trees h.2]; rfl
theorem plain_trees' {pos env} : ∀ {es : List Expr}, es.all plainE = true → (backTo pos (starEach es env)).all (fun x => !x.1) = true
  | [], _ => rfl
  | e :: r, h => by
    rw [List.all_cons, Bool.and_eq_true] at h
    rw [starEach_plain h.1, backTo_cons, List.all_cons, plain_trees' h.2]; rfl
theorem evL_spliced {C k sc ρ A env pos} (he : env.scope = sc) (hr : Room A k) : ∀ {es : List Expr} {σ P K s}, EvL C k sc ρ σ es K → es.all plainE = true → Inv C P env ρ σ s.heap →
    wpAny (model C.prog C.w) A (spliced (backTo pos (starEach es env))) (OutL C P σ s K) NoE s
  | [], σ, P, K, s, h, _, I => Calls.spliced_nil ⟨[], σ, h, After.refl I.hp, .nil⟩
  | e :: r, σ, P, K, s, h, hp, I => by
    rw [List.all_cons, Bool.and_eq_true] at hp
    rw [starEach_plain hp.1, backTo_cons]
    refine Calls.spliced_cons (ev_one h he hr I fun v d σ₁ s₁ hK hA r₁ => ?_)
    refine wpAny_mono (evL_spliced he hr hK hp.2 (I.after hA)) (fun vs s₂ o => ?_) fun _ _ x => x
    obtain ⟨ds, σ₂, hK₂, hA₂, r₂⟩ := o
    exact ⟨_, σ₂, hK₂, hA.trans I.hp hA₂, .cons ((r₁.pass' (hA₂.pass hA.hp)).down C.extOk) (r₂.down C.extOk)⟩
theorem Ev.list {C k sc ρ σ es pos K} (h : EvL C k sc ρ σ es fun ds σ₁ => ds.length ≤ sizeLine ∧ K (.list ds) σ₁) (hp : es.all plainE = true) : Ev C k sc ρ σ (.List es pos) K := fun A P env s he hr I => by
  refine wpAny_List (wpAny_mono (evL_spliced he hr h hp I) (fun vs s₁ o => ?_) fun _ _ x => x)
  obtain ⟨ds, σ₁, ⟨hl, hK⟩, hA, r⟩ := o
  exact ⟨by rw [r.length]; exact hl, Out.seq hA I.hp (Out.newList (tk := s₁.toks) hA.hp r hK)⟩
theorem Ev.tuple {C k sc ρ σ es x pos K} (h : EvL C k sc ρ σ es fun ds σ₁ => ds.length ≤ sizeLine ∧ K (.tuple ds) σ₁) (hp : es.all plainE = true) : Ev C k sc ρ σ (.Tuple es x pos) K := fun A P env s he hr I => by
  refine wpAny_Tuple (wpAny_mono (evL_spliced he hr h hp I) (fun vs s₁ o => ?_) fun _ _ x => x)
  obtain ⟨ds, σ₁, ⟨hl, hK⟩, hA, r⟩ := o
  exact ⟨by rw [r.length]; exact hl, Out.seq hA I.hp (Out.newTuple (tk := s₁.toks) hA.hp r hK)⟩
theorem Ev.mlist {C k sc ρ σ es pos K} (h : EvL C k sc ρ σ es fun ds σ₁ => ds.length ≤ sizeLine ∧ ∀ a, a ∉ dom σ₁ → K (.raw (.ref a)) ((a, .mlist ds) :: σ₁)) (hp : es.all plainE = true) : Ev C k sc ρ σ (.List es pos) K := fun A P env s he hr I => by
  refine wpAny_List (wpAny_mono (evL_spliced he hr h hp I) (fun vs s₁ o => ?_) fun _ _ x => x)
  obtain ⟨ds, σ₁, ⟨hl, hK⟩, hA, r⟩ := o
  exact ⟨by rw [r.length]; exact hl, Out.seq hA I.hp (Out.newMList (tk := s₁.toks) hA.hp r (hK _ fun q => Nat.lt_irrefl _ (hA.hp.lt _ q)))⟩
theorem sub_ops (slice : Expr) (o i : Value) : ∃ ops, subscripted slice false o i = operate ops (getItem o i) := by
  cases slice with
  | Slice l u st p => cases st <;> exact ⟨_, rfl⟩
  | _ => exact ⟨_, rfl⟩
theorem Ev.sub {C k sc ρ σ value slice pos K} (h : Ev C k sc ρ σ value fun a σ₁ => Ev C k sc ρ σ₁ slice fun b σ₂ => Op2 C k σ₂ a b (subscriptTail value slice) K) : Ev C k sc ρ σ (.Subscript value slice pos) K := fun A P env s he hr I =>
  Subscript_ (ev_two h he hr I fun v₁ v₂ d₁ d₂ σ₂ s₂ hK hA r₁ r₂ => wp_seq hA I.hp (hK A _ s₂ v₁ v₂ hr hA.hp r₁ r₂))
noncomputable def EvO (C : Cx) (k : Nat) (sc : Scope) (ρ : Lo) (σ : Sto) : Option Expr → (PV → Sto → Prop) → Prop
  | none, K => K .none σ
  | some e, K => Ev C k sc ρ σ e K
theorem evO_one {C k sc ρ σ e₁ K} (h : EvO C k sc ρ σ e₁ K) {A P env s} (he : env.scope = sc) (hr : Room A k) (I : Inv C P env ρ σ s.heap) {Q : Value → Shared → Prop}
    (hQ : ∀ v₁ d₁ σ₁ s₁, K d₁ σ₁ → After C P σ s σ₁ s₁ → Rd C.X (PP P σ₁) s₁.heap v₁ d₁ → Q v₁ s₁) :
    wpAny (model C.prog C.w) A (evalPart e₁ env) (fun v₁ s₁ => Q v₁ s₁) NoE s := by
  cases e₁ with
  | none => exact wpAny_evalPart_none (hQ _ _ _ _ h (After.refl I.hp) .none)
  | some e => exact wpAny_evalPart_some (ev_one h he hr I hQ)
inductive PartIs : PV → Option Int → Prop
  | none : PartIs .none none
  | int (i : Int) : PartIs (.int i) (some i)
theorem PartIs.of {X P h v d p} (q : PartIs d p) (r : Rd X P h v d) : IsPart v p := by
  cases q <;> cases r <;> constructor
theorem Ev.slice {C k sc ρ σ lower upper step pos K}
    (h : EvO C k sc ρ σ lower fun l σ₁ => EvO C k sc ρ σ₁ upper fun u σ₂ => EvO C k sc ρ σ₂ step fun st σ₃ => ∃ lo hi t, PartIs l lo ∧ PartIs u hi ∧ PartIs st t ∧ K (.slice lo hi t) σ₃) : Ev C k sc ρ σ (.Slice lower upper step pos) K := fun A P env s he hr I => by
  refine wpAny_Slice (evO_one h he hr I fun v₁ d₁ σ₁ s₁ h₁ A₁ r₁ => ?_)
  refine evO_one h₁ he hr (I.after A₁) fun v₂ d₂ σ₂ s₂ h₂ A₂ r₂ => ?_
  refine evO_one h₂ he hr ((I.after A₁).after A₂) fun v₃ d₃ σ₃ s₃ h₃ A₃ r₃ => ?_
  obtain ⟨lo, hi, t, p₁, p₂, p₃, hK⟩ := h₃
  have A' := (A₁.trans I.hp A₂).trans I.hp (σ₂ := σ₃) (s₂ := s₃) ⟨A₃.step, A₃.hp.weak PP_up' (fun a ha => .inl (.inl (I.hp.ptb a ha))) (fun a ha => .inr ha)⟩
  have B := After.push (o := { cls := .type "slice", data := .fields #[v₁, v₂, v₃] }) (n := s₃.toks) A'.hp
  exact Out.seq A' I.hp ⟨_, σ₃, hK, B, .slice A'.hp.fresh (Heap.get?_push_size _ rfl) (p₁.of r₁) (p₂.of r₂) (p₃.of r₃)⟩
where PP_up' {P : Addr → Prop} {σ σ' σ'' : Sto} : ∀ a, PP (PP P σ') σ'' a → PP (PP (PP P σ) σ') σ'' a := fun a q => q.elim (fun q => .inl (q.elim (fun q => .inl (.inl q)) .inr)) .inr
noncomputable def LRead (C : Cx) (σ : Sto) (d : PV) (xs : List PV) : Prop :=
  ∀ P (s : Shared) v, Hp C P σ s.heap → Rd C.X P s.heap v d → ∃ a vs n, v = .ref a ∧ s.heap.get? a = some { cls := .type "list", data := .seq vs n } ∧ RdL C.X P s.heap vs.toList xs
theorem LRead.list {C σ xs} : LRead C σ (.list xs) xs := fun P s v H r => by cases r with | list a e r => exact ⟨_, _, _, rfl, e, r⟩
theorem LRead.mut {C σ a xs} (h : (a, AO.mlist xs) ∈ σ) : LRead C σ (.raw (.ref a)) xs := fun P s v H r => by
  obtain rfl := r.rawE; obtain ⟨vs, n, e, r⟩ := H.st _ _ h; exact ⟨_, _, _, rfl, e, r⟩
theorem isList_of {h : Heap} {a vs n} (e : h.get? a = some { cls := .type "list", data := .seq vs n }) : h.IsList a vs := ⟨_, e, rfl, n, rfl⟩
theorem isTup_of {h : Heap} {a vs n} (e : h.get? a = some { cls := .type "tuple", data := .seq vs n }) : IsTup h a vs := ⟨_, e, rfl, n, rfl⟩
theorem Op2.item {C k σ value slice a xs i d K} (hl : LRead C σ a xs) (h0 : 0 ≤ i) (h1 : i < 2 ^ 63) (hx : xs[i.toNat]? = some d) (h : K d σ) : Op2 C k σ a (.int i) (subscriptTail value slice) K := fun A P s v w hr H r₁ r₂ => by
  obtain ⟨b, vs, n, rfl, e, r⟩ := hl P s v H r₁
  obtain ⟨t, rfl⟩ := r₂.intE
  obtain ⟨x, hx', rx⟩ := r.get' hx
  obtain ⟨ops, ho⟩ := sub_ops slice (.ref b) (.int i t)
  exact tail_any (isList_of e).typeIs slot_list_getitem.lookup (wpAny_getItem_list (isList_of e) h0 h1 (by simpa using hx') (Out.here' H rx h)) ho
theorem Op2.item_tup {C k σ value slice xs i j d K} (hlo : -(2 ^ 63) ≤ i) (hhi : i < 2 ^ 63) (hj : seqIndex? i xs.length = some j) (hx : xs[j]? = some d) (h : K d σ) : Op2 C k σ (.tuple xs) (.int i) (subscriptTail value slice) K := fun A P s v w hr H r₁ r₂ => by
  cases r₁ with | tuple na e r =>
  obtain ⟨t, rfl⟩ := r₂.intE
  rename_i b vs n
  have hz : vs.size = xs.length := by rw [← r.length, Array.length_toList]
  obtain ⟨x, hx', rx⟩ := r.get' hx
  obtain ⟨ops, ho⟩ := sub_ops slice (.ref b) (.int i t)
  exact tail_any (isTup_of e).typeIs slot_tuple_getitem.lookup (getItem_tuple (isTup_of e) hlo hhi (by rw [hz]; exact hj) (by simpa using hx') (Out.here' H rx h)) ho
noncomputable def Callable (C : Cx) (fv : Value) : Prop := ∀ h, C.gi h → ∃ k, (k = Keeper.frame ∨ k = Keeper.machine ∨ k = Keeper.boundFrame) ∧ ∀ M, Looks M h (keeperOf fv) k
theorem Callable.builtin {C id} : Callable C (.builtin id) := fun h _ => ⟨.machine, .inr (.inl rfl), fun M => Looks.now⟩
theorem Callable.type {C T} : Callable C (.type T) := fun h _ => ⟨.machine, .inr (.inl rfl), fun M => Looks.now⟩
theorem evalArgs_of {M A E s} {f : Value} {trees : List (Bool × Sem Value)} {Q : Args → Shared → Prop} (hp : trees.any (·.1) = false) (h : wpAny M A (spliced trees) (fun vs s' => Q ⟨vs, []⟩ s') E s) : wpAny M A (evalArgs f true trees []) Q E s := by
  cases trees with
  | nil =>
    unfold evalArgs
    show wpAny M A (spliced [] >>= _) Q E s
    refine wpAny_bind (wpAny_mono h (fun vs s' h' => wpAny_bind (wpAny_pure ?_)) fun _ _ x => x)
    refine wpAny_holding ?_
    exact wpAny_bind (wpAny_pure (wpAny_bind (wpAny_pure (wpAny_pure h'))))
  | cons p r =>
    obtain ⟨b, x⟩ := p
    cases b with
    | true => simp at hp
    | false => exact Calls.evalArgs_plain h
theorem callWith_L {C k sc ρ σ P env s A pos fv first fs es K} (he : env.scope = sc) (hr : Room A k) (I : Inv C P env ρ σ s.heap) (hc : Callable C fv) (hf : RdL C.X P s.heap first fs)
    (h : EvL C k sc ρ σ es fun ds σ₁ => OpL C k σ₁ (fs ++ ds) (fun vs => PySem.call fv vs) K) (hp : es.all plainE = true) :
    wpAny (model C.prog C.w) A (callWith pos fv first (backTo pos (starEach es env)) []) (Out C P σ s K) NoE s := by
  refine callWith_of (P := C.gi) (by rw [plain_trees hp]; rfl) (fun h' g => let ⟨k, a, b⟩ := hc h' g; ⟨k, a, b _⟩) (evalArgs_of (plain_trees hp) ?_)
  refine wpAny_mono (evL_spliced he hr h hp I) (fun vs s₁ o => ?_) fun _ _ x => x
  obtain ⟨ds, σ₁, hK, hA, r⟩ := o
  exact ⟨hA.hp.gi, wp_seq hA I.hp (hK A _ s₁ (first ++ vs) hr hA.hp ((hf.pass' (hA.pass I.hp)).append r))⟩
theorem Ev.call {C k sc ρ σ func es pos K} (h : Ev C k sc ρ σ func fun f σ₁ => ∃ fv, f = .raw fv ∧ Callable C fv ∧ EvL C k sc ρ σ₁ es fun ds σ₂ => OpL C k σ₂ ds (fun vs => PySem.call fv vs) K) (hp : es.all plainE = true)
    (hev : ∀ env, eval (.Call func es [] pos) env = (do callWith pos (← eval func env) [] (backTo pos (starEach es env)) (backToKw pos (keywordEach [] env)))) : Ev C k sc ρ σ (.Call func es [] pos) K := fun A P env s he hr I => by
  refine Call_ (ev_one h he hr I fun v d σ₁ s₁ hK hA r => ?_) (hev env)
  obtain ⟨fv, rfl, hc, hK⟩ := hK
  obtain rfl := r.rawE
  exact wp_seq hA I.hp (callWith_L he hr (I.after hA) hc .nil hK hp)
noncomputable def OfType (C : Cx) (σ : Sto) (d : PV) (T : String) : Prop := ∀ P (s : Shared) v, Hp C P σ s.heap → Rd C.X P s.heap v d → s.TypeIs v T ∧ ∀ a, v = .ref a → ∃ ob, s.heap.get? a = some ob ∧ ob.dict = none
theorem OfType.str {C σ x} : OfType C σ (.str x) "str" := fun P s v H r => by cases r; exact ⟨rfl, fun a e => by cases e⟩
theorem OfType.list {C σ d xs} (h : LRead C σ d xs) : OfType C σ d "list" := fun P s v H r => by
  obtain ⟨b, vs, n, rfl, e, r⟩ := h P s v H r
  exact ⟨(isList_of e).typeIs, fun a ha => by cases ha; exact ⟨_, e, rfl⟩⟩
theorem OfType.tuple {C σ xs} : OfType C σ (.tuple xs) "tuple" := fun P s v H r => by cases r with | tuple na e r => exact ⟨(isTup_of e).typeIs, fun a ha => by cases ha; exact ⟨_, e, rfl⟩⟩
theorem Ev.method {C k sc ρ σ o name apos pos es T id_ K} (h : Ev C k sc ρ σ o fun a σ₁ => OfType C σ₁ a T ∧ EvL C k sc ρ σ₁ es fun ds σ₂ => OpL C k σ₂ (a :: ds) (fun vs => PySem.call (.builtin id_) vs) K)
    (pa : PlainAttrs T) (slot : PySem.Slot T name id_) (hty : typeOf (.builtin id_) = pure (.type "method_descriptor"))
    (hp : es.all plainE = true) (hfew : es.length < 30) (hline : (apos.endLine == pos.line) = true) (hbase : ∀ env, attributeBase o name env (eval o env) = eval o env) :
    Ev C k sc ρ σ (.Call (.Attribute o name apos) es [] pos) K := fun A P env s he hr I => by
  refine wpAny_Call_method_lateS (hbase env) ?_ hline (ev_one h he hr I fun v d σ₁ s₁ hK hA r => ?_)
  · rw [plain_trees' hp]; simpa [keywordEach, backToKw] using hfew
  · obtain ⟨hT, hd⟩ := hK.1 _ s₁ v hA.hp r
    exact ⟨T, id_, pa, slot, hty, hT, hd, wp_seq hA I.hp (callWith_L he hr (I.after hA) Callable.builtin (.cons r .nil) hK.2 hp)⟩
end Mine
end C3
section C4
open PySem PySem.W PyProof.Rows
namespace Mine
theorem ofString_inj {a b : String} (h : Str.ofString a = Str.ofString b) : a = b := by
  rw [Str.ofString_eq_toList, Str.ofString_eq_toList] at h
  have h1 : a.toList.map Char.toNat = b.toList.map Char.toNat := by simpa using h
  have h2 : a.toList = b.toList := (List.map_inj_right fun x y e => Char.ext (UInt32.toNat_inj.mp e)).mp h1
  exact String.toList_inj.mp h2
noncomputable def Has (ρ : Lo) : Lo → Prop
  | [] => True
  | p :: r => ρ.lookup p.1 = some p.2 ∧ Has ρ r
theorem Has.get {ρ : Lo} : ∀ {ρ' : Lo} {x d}, Has ρ ρ' → ρ'.lookup x = some d → ρ.lookup x = some d
  | [], _, _, _, h => by cases h
  | (y, e) :: r, x, d, hh, h => by
    by_cases hx : x = y
    · subst hx; rw [List.lookup_cons_self] at h; cases h; exact hh.1
    · rw [List.lookup_cons, beq_false_of_ne hx] at h; exact hh.2.get h
theorem Inv.has {C P env ρ ρ' σ h} (I : Inv C P env ρ σ h) (e : Has ρ ρ') : Inv C P env ρ' σ h := ⟨I.hp, I.envOk, fun x d hx => I.vars x d (e.get hx), I.pown⟩
inductive Fl where
  | next | brk | cont
  | ret (d : PV)
inductive FlowIs (X : Ext) (P : Addr → Prop) (h : Heap) : Flow → Fl → Prop
  | next : FlowIs X P h .next .next
  | brk : FlowIs X P h .brk .brk
  | cont : FlowIs X P h .cont .cont
  | ret {v d} : Rd X P h v d → FlowIs X P h (.ret v) (.ret d)
set_option genInjectivity false in
structure AfterF (C : Cx) (P : Addr → Prop) (env : Env) (σ : Sto) (s : Shared) (ρ' : Lo) (σ' : Sto) (s' : Shared) : Prop where
  step : Step C σ σ' (own env) s s'
  inv : Inv C (PP P σ') env ρ' σ' s'.heap
noncomputable def OutF (C : Cx) (P : Addr → Prop) (env : Env) (σ : Sto) (s : Shared) (K : Fl → Lo → Sto → Prop) (f : Flow) (s' : Shared) : Prop :=
  ∃ g ρ' σ', K g ρ' σ' ∧ AfterF C P env σ s ρ' σ' s' ∧ FlowIs C.X (PP P σ') s'.heap f g
noncomputable def Ex1 (C : Cx) (k : Nat) (sc : Scope) (ρ : Lo) (σ : Sto) (st : Stmt) (K : Fl → Lo → Sto → Prop) : Prop :=
  ∀ (A : Around) (P : Addr → Prop) (env : Env) (s : Shared), env.scope = sc → Room A k → Inv C P env ρ σ s.heap → wpAny (model C.prog C.w) A (exec st env) (OutF C P env σ s K) NoE s
noncomputable def Ex (C : Cx) (k : Nat) (sc : Scope) (ρ : Lo) (σ : Sto) (st : List Stmt) (K : Fl → Lo → Sto → Prop) : Prop :=
  ∀ (A : Around) (P : Addr → Prop) (env : Env) (s : Shared), env.scope = sc → Room A k → Inv C P env ρ σ s.heap → wpAny (model C.prog C.w) A (execs st env) (OutF C P env σ s K) NoE s
theorem OutF.mono {C P env σ s K K' f s'} (h : OutF C P env σ s K f s') (q : ∀ g ρ' σ', K g ρ' σ' → K' g ρ' σ') : OutF C P env σ s K' f s' := let ⟨g, ρ', σ', a, b⟩ := h; ⟨g, ρ', σ', q _ _ _ a, b⟩
theorem Ex.mono {C k sc ρ σ st K K'} (h : Ex C k sc ρ σ st K) (q : ∀ g ρ' σ', K g ρ' σ' → K' g ρ' σ') : Ex C k sc ρ σ st K' := fun A P env s h1 h2 h3 => wpAny_mono (h A P env s h1 h2 h3) (fun _ _ o => o.mono q) fun _ _ x => x
theorem Ex.has {C k sc ρ ρ' σ e K} (h : Has ρ ρ') (q : Ex C k sc ρ' σ e K) : Ex C k sc ρ σ e K := fun A P env s h1 h2 h3 => q A P env s h1 h2 (h3.has h)
theorem Inv.pp {C P env ρ σ h} (I : Inv C P env ρ σ h) : Inv C (PP P σ) env ρ σ h :=
  ⟨I.hp.pp, I.envOk, fun x d hx => let ⟨v, a, r⟩ := I.vars x d hx; ⟨v, a, r.pass' (Pass.pp I.hp)⟩, fun a ha => ⟨.inl (I.pown a ha).1, (I.pown a ha).2⟩⟩
theorem Inv.down {C P env ρ σ σ' h} (I : Inv C (PP (PP P σ) σ') env ρ σ' h) (hp : ∀ a ∈ C.tb, P a) (ho : ∀ a, own env a → P a) : Inv C (PP P σ') env ρ σ' h :=
  ⟨I.hp.weak PP_up (fun a ha => .inl (hp a ha)) (fun a ha => .inr ha), I.envOk, fun x d hx => let ⟨v, a, r⟩ := I.vars x d hx; ⟨v, a, r.down C.extOk⟩, fun a ha => ⟨.inl (ho a ha), (I.pown a ha).2⟩⟩
theorem FlowIs.down {C : Cx} {P σ σ' h f g} (r : FlowIs C.X (PP (PP P σ) σ') h f g) : FlowIs C.X (PP P σ') h f g := by
  cases r with
  | next => exact .next
  | brk => exact .brk
  | cont => exact .cont
  | ret r => exact .ret (r.down C.extOk)
theorem AfterF.refl {C P env ρ σ s} (I : Inv C P env ρ σ s.heap) : AfterF C P env σ s ρ σ s := ⟨Step.refl s, I.pp⟩
theorem AfterF.of {C P env ρ σ s σ' s'} (I : Inv C P env ρ σ s.heap) (hA : After C P σ s σ' s') : AfterF C P env σ s ρ σ' s' := ⟨hA.step.weak fun _ q => q.elim, I.after hA⟩
theorem AfterF.trans {C P env ρ σ s ρ₁ σ₁ s₁ ρ₂ σ₂ s₂} (h : AfterF C P env σ s ρ₁ σ₁ s₁) (I : Inv C P env ρ σ s.heap) (k : AfterF C (PP P σ₁) env σ₁ s₁ ρ₂ σ₂ s₂) : AfterF C P env σ s ρ₂ σ₂ s₂ :=
  ⟨h.step.trans k.step, k.inv.down I.hp.ptb fun a ha => (I.pown a ha).1⟩
theorem OutF.seq {C P env ρ σ s ρ₁ σ₁ s₁ K f s₂} (hA : AfterF C P env σ s ρ₁ σ₁ s₁) (I : Inv C P env ρ σ s.heap) (o : OutF C (PP P σ₁) env σ₁ s₁ K f s₂) : OutF C P env σ s K f s₂ :=
  let ⟨g, ρ', σ', hK, k, r⟩ := o; ⟨g, ρ', σ', hK, hA.trans I k, r.down⟩
theorem wp_seqF {C P env ρ σ s ρ₁ σ₁ s₁ A} {f : Sem Flow} {K} (hA : AfterF C P env σ s ρ₁ σ₁ s₁) (I : Inv C P env ρ σ s.heap) (h : wpAny (model C.prog C.w) A f (OutF C (PP P σ₁) env σ₁ s₁ K) NoE s₁) : wpAny (model C.prog C.w) A f (OutF C P env σ s K) NoE s₁ :=
  wpAny_mono h (fun v s' o => OutF.seq hA I o) fun _ _ x => x
theorem Ex.nil {C k sc ρ σ K} (h : K .next ρ σ) : Ex C k sc ρ σ [] K := fun A P env s he hr I => wpAny_execs_nil ⟨.next, ρ, σ, h, .refl I, .next⟩
theorem Ex.cons {C k sc ρ σ st rest K} (h : Ex1 C k sc ρ σ st fun g ρ' σ' => match g with | .next => Ex C k sc ρ' σ' rest K | g => K g ρ' σ') : Ex C k sc ρ σ (st :: rest) K := fun A P env s he hr I => by
  refine wpAny_execs_cons (wpAny_mono (h A P env s he hr I) (fun f s₁ o => ?_) fun _ _ x => x)
  obtain ⟨g, ρ', σ', hK, hA, r⟩ := o
  cases r with
  | next => exact wp_seqF hA I (hK A _ env s₁ he hr hA.inv)
  | brk => exact ⟨_, _, _, hK, hA, .brk⟩
  | cont => exact ⟨_, _, _, hK, hA, .cont⟩
  | ret r => exact ⟨_, _, _, hK, hA, .ret r⟩
theorem Ex1.if {C k sc ρ σ t a b pos K} (h : Tr C k sc ρ σ t fun c σ₁ => if c then Ex C k sc ρ σ₁ a K else Ex C k sc ρ σ₁ b K) : Ex1 C k sc ρ σ (.If t a b pos) K := fun A P env s he hr I => by
  refine wpAny_If (wpAny_mono (h A P env s he hr I) (fun c s₁ o => ?_) fun _ _ x => x)
  obtain ⟨σ₁, hK, hA⟩ := o
  have hA' := AfterF.of I hA
  cases c with
  | true => exact wp_seqF hA' I (hK A _ env s₁ he hr hA'.inv)
  | false => exact wp_seqF hA' I (hK A _ env s₁ he hr hA'.inv)
theorem Ex1.ret {C k sc ρ σ e pos K} (h : Ev C k sc ρ σ e fun d σ₁ => K (.ret d) ρ σ₁) : Ex1 C k sc ρ σ (.Return (some e) pos) K := fun A P env s he hr I =>
  wpAny_Return_some (ev_one h he hr I fun v d σ₁ s₁ hK hA r => ⟨_, _, _, hK, .of I hA, .ret r⟩)
theorem Ex1.expr {C k sc ρ σ e pos K} (h : Ev C k sc ρ σ e fun d σ₁ => K .next ρ σ₁) (hs : ∀ env, swapsWith e none pos.line env = pure false) : Ex1 C k sc ρ σ (.Expr e pos) K := fun A P env s he hr I =>
  wpAny_Expr_any (ev_one h he hr I fun v d σ₁ s₁ hK hA r => ⟨_, _, _, hK, .of I hA, .next⟩) (by unfold interactive; rw [I.envOk.kind]; rfl) (hs env)
noncomputable def Storable (sc : Scope) (x : String) : Prop := sc.names.lookup (Str.ofString x) = some .local ∨ sc.names.lookup (Str.ofString x) = some .cell
theorem Step.store {C σ env} {s : Shared} {b : Addr} {h' : Heap} {n : Tok} (hb : own env b) (e : Heap.SameBut b s.heap h') : Step C σ σ (own env) s { s with heap := h', toks := n } :=
  ⟨fun a o _ _ ha x => (e.2 a (fun q => ha (q ▸ hb))).trans x, Nat.le_of_eq e.1.symm, fun _ h => .inl h, rfl, rfl⟩
theorem Hp.store {C P σ} {h h' : Heap} {b : Addr} (H : Hp C P σ h) (hb : P b ∧ C.base ≤ b ∧ b ∉ dom σ) (e : Heap.SameBut b h h') : Hp C P σ h' := by
  have k : ∀ a o, a ≠ b → h.get? a = some o → h'.get? a = some o := fun a o ha x => (e.2 a ha).trans x
  exact ⟨C.keep H.gi (fun a o ha x => k a o (fun q => absurd (q ▸ ha.1) (Nat.not_lt.mpr hb.2.1)) x) (Nat.le_of_eq e.1.symm), H.st.pass (fun a o na x => ⟨k a o (fun q => na (q ▸ hb.1)) x, na⟩) (fun a ha o x => k a o (fun q => hb.2.2 (q ▸ ha)) x), H.ptb, H.pdom, H.nodup, fun a ha => by rw [e.1]; exact H.plt a ha⟩
theorem inv_store {C P env ρ σ s sc x v d A} {Q : Unit → Shared → Prop} (he : env.scope = sc) (hk : Storable sc x) (I : Inv C P env ρ σ s.heap) (r : Rd C.X P s.heap v d)
    (hQ : ∀ s', Step C σ σ (own env) s s' → Inv C P env ((x, d) :: ρ) σ s'.heap → Q () s') : wpAny (model C.prog C.w) A (storeName env (Str.ofString x) v) Q NoE s := by
  subst he
  rcases hk with hk | hk
  · obtain ⟨m, hn⟩ := I.envOk.ns
    have ow : own env env.locals := .inl rfl
    refine wpAny_storeName_local hk hn (fun h' hn' hs => hQ _ (Step.store ow hs) ?_) (by rw [I.envOk.kind]; rfl)
    have g : Pass P s.heap P h' := fun a o na e => ⟨hs.extBut a o (fun q => na (q ▸ (I.pown _ ow).1)) e, na⟩
    have kc : ∀ c v, c ≠ env.locals → s.heap.IsCell c v → h'.IsCell c v := fun c v hc ⟨o, ho, hd⟩ => ⟨o, hs.extBut c o hc ho, hd⟩
    refine ⟨I.hp.store (I.pown _ ow) hs, ⟨I.envOk.kind, I.envOk.glob, I.envOk.blt, ⟨_, hn'⟩, fun y c hy => let ⟨a, w, b⟩ := I.envOk.cells y c hy; ⟨a, w, kc c w a b⟩, I.envOk.inj, I.envOk.has⟩, fun y e hy => ?_, I.pown⟩
    by_cases hyx : y = x
    · subst hyx
      rw [List.lookup_cons_self] at hy; cases hy
      exact ⟨v, .loc hk hn' (by simp), r.pass' g⟩
    · rw [List.lookup_cons, beq_false_of_ne hyx] at hy
      obtain ⟨w, hw, rw'⟩ := I.vars y e hy
      refine ⟨w, ?_, rw'.pass' g⟩
      cases hw with
      | loc a n2 e2 =>
        refine .loc a hn' ?_
        rw [if_neg fun q => hyx (ofString_inj q)]
        rw [← e2]; exact Heap.Ns.agree hn n2 _
      | cell a l c => exact .cell a l (kc _ _ (I.envOk.cells _ _ l).1 c)
  · obtain ⟨c, hc⟩ := I.envOk.has _ (.inl hk)
    obtain ⟨hcl, v₀, hv₀⟩ := I.envOk.cells _ _ hc
    have ow : own env c := .inr ⟨_, hc⟩
    refine wpAny_storeName_cell I.envOk.kind hk hc hv₀ (fun h' hv' hs => hQ _ (Step.store (n := s.toks) ow hs) ?_)
    have g : Pass P s.heap P h' := fun a o na e => ⟨hs.extBut a o (fun q => na (q ▸ (I.pown _ ow).1)) e, na⟩
    have kn : ∀ m, s.heap.Ns env.locals m → h'.Ns env.locals m := fun m hm => hm.extBut hs.extBut (Ne.symm hcl)
    refine ⟨I.hp.store (I.pown _ ow) hs, ⟨I.envOk.kind, I.envOk.glob, I.envOk.blt, let ⟨m, hm⟩ := I.envOk.ns; ⟨m, kn m hm⟩, fun y c' hy => ?_, I.envOk.inj, I.envOk.has⟩, fun y e hy => ?_, I.pown⟩
    · obtain ⟨a, w, o, ho, hd⟩ := I.envOk.cells y c' hy
      by_cases hcc : c' = c
      · subst hcc; exact ⟨a, _, hv'⟩
      · exact ⟨a, w, o, hs.extBut c' o hcc ho, hd⟩
    · by_cases hyx : y = x
      · subst hyx
        rw [List.lookup_cons_self] at hy; cases hy
        exact ⟨v, .cell (.inl hk) hc hv', r.pass' g⟩
      · rw [List.lookup_cons, beq_false_of_ne hyx] at hy
        obtain ⟨w, hw, rw'⟩ := I.vars y e hy
        refine ⟨w, ?_, rw'.pass' g⟩
        cases hw with
        | loc a n2 e2 => exact .loc a (kn _ n2) e2
        | cell a l c2 =>
          obtain ⟨o, ho, hd⟩ := c2
          refine .cell a l ⟨o, hs.extBut _ o (fun q => hyx ?_) ho, hd⟩
          exact ofString_inj (I.envOk.inj _ _ _ l (q ▸ hc))
theorem Ex1.assign {C k sc ρ σ x p e pos K} (h : Ev C k sc ρ σ e fun d σ₁ => K .next ((x, d) :: ρ) σ₁) (hk : Storable sc x) (hs : ∀ env, swapsWith e (some (.Name (Str.ofString x) p)) pos.line env = pure false) : Ex1 C k sc ρ σ (.Assign [.Name (Str.ofString x) p] e pos) K := fun A P env s he hr I =>
  wpAny_Assign_Name (ev_one h he hr I fun v d σ₁ s₁ hK hA r => by
    have hF := AfterF.of I hA
    exact inv_store he hk hF.inv r fun s' hS I' => ⟨_, _, _, hK, ⟨hF.step.trans hS, I'⟩, .next⟩) (hs env)
end Mine
end C4
section C5
open PySem PySem.W PyProof.Rows
namespace Mine
noncomputable def ItAt (C : Cx) (A : Around) (P : Addr → Prop) (h : Heap) (I : Addr) (xs : List PV) : Prop :=
  ∃ (fp : List Addr) (n : Nat) (Pn : Nat → Value → Prop) (St : Nat → Heap → Prop) (i : Nat), Walks C.prog C.w A I fp [I] n Pn St ∧ i + xs.length = n ∧ St i h ∧ (∀ b ∈ fp, b ≠ I → ¬ P b ∧ ∃ o, h.get? b = some o) ∧ P I ∧
    (∀ j v d, Pn (i + j) v → xs[j]? = some d → Rd C.X P h v d) ∧
    ∀ (k : Nat) (target : Expr) (v : Value) (s : Shared) (Q : Unit → Shared → Prop) (E : Value → Shared → Prop), St k s.heap → Q () s → wpAny (model C.prog C.w) A (letOwnedTupleGo target (.ref I) v) Q E s
theorem ItAt.pass {C A P P' h h' I xs} (t : ItAt C A P h I xs) (g : Pass P h P' h') (k : ∀ o, h.get? I = some o → h'.get? I = some o) (hI : P' I) : ItAt C A P' h' I xs := by
  obtain ⟨fp, n, Pn, St, i, W, hn, st, hf, _, hr, go⟩ := t
  refine ⟨fp, n, Pn, St, i, W, hn, W.frame _ _ _ st fun b hb o e => ?_, fun b hb hne => ?_, hI, fun j v d a b => (hr j v d a b).pass' g, go⟩
  · by_cases hne : b = I
    · subst hne; exact k o e
    · exact (g b o (hf b hb hne).1 e).1
  · obtain ⟨na, o, e⟩ := hf b hb hne; exact ⟨(g b o na e).2, o, (g b o na e).1⟩
theorem ItAt.next {C A P I d xs} {s : Shared} {Q : Option Value → Shared → Prop} {E : Value → Shared → Prop} (t : ItAt C A P s.heap I (d :: xs))
    (hQ : ∀ v h' tk, hsz s ≤ h'.objs.size → (∀ b o, b ≠ I → s.heap.get? b = some o → h'.get? b = some o) → Rd C.X P h' v d → ItAt C A P h' I xs →
      (∀ (target : Expr) (s' : Shared) (Q : Unit → Shared → Prop) (E : Value → Shared → Prop), s'.heap = h' → Q () s' → wpAny (model C.prog C.w) A (letOwnedTupleGo target (.ref I) v) Q E s') → Q (some v) { s with heap := h', toks := tk }) :
    wpAny (model C.prog C.w) A (pyNext (.ref I)) Q E s := by
  obtain ⟨fp, n, Pn, St, i, W, hn, st, hf, hI, hr, go⟩ := t
  refine with_size (W.item i s _ _ (by rw [List.length_cons] at hn; lia) st fun v h' tk hv st' hk hz => ?_)
  have k : ∀ b o, b ≠ I → s.heap.get? b = some o → h'.get? b = some o := fun b o hb e => hk b o (by simpa using hb) e
  have g : Pass P s.heap P h' := fun b o na e => ⟨k b o (fun q => na (q ▸ hI)) e, na⟩
  refine hQ v h' tk hz k ((hr 0 v d (by simpa using hv) rfl).pass' g) ⟨fp, n, Pn, St, i + 1, W, by rw [List.length_cons] at hn; lia, st', fun b hb hne => ?_, hI, fun j v' d' a b => (hr (j + 1) v' d' (by rw [show i + (j + 1) = i + 1 + j by lia]; exact a) (by simpa using b)).pass' g, go⟩
    fun target s' Q E hs q => go _ _ _ _ _ _ (hs ▸ st') q
  obtain ⟨na, o, e⟩ := hf b hb hne; exact ⟨na, o, k b o hne e⟩
theorem ItAt.done {C A P I} {s : Shared} {Q : Option Value → Shared → Prop} {E : Value → Shared → Prop} (t : ItAt C A P s.heap I [])
    (hQ : ∀ h' tk, hsz s ≤ h'.objs.size → (∀ b o, b ≠ I → s.heap.get? b = some o → h'.get? b = some o) → Q none { s with heap := h', toks := tk }) : wpAny (model C.prog C.w) A (pyNext (.ref I)) Q E s := by
  obtain ⟨fp, n, Pn, St, i, W, hn, st, hf, hI, hr, go⟩ := t
  refine with_size (W.done s _ _ (by rw [show n = i by simpa using hn.symm]; exact st) fun h' tk hk hz => hQ h' tk hz fun b o hb e => hk b o (by simpa using hb) e)
theorem ItAt.self {C A P I xs} {s : Shared} {Q : Value → Shared → Prop} {E : Value → Shared → Prop} (t : ItAt C A P s.heap I xs) (hQ : Q (.ref I) s) : wpAny (model C.prog C.w) A (pyIter (.ref I)) Q E s := by
  obtain ⟨fp, n, Pn, St, i, W, hn, st, hf, hI, hr, go⟩ := t
  exact W.self i s _ _ st hQ
noncomputable def Iterable (C : Cx) (k : Nat) (σ : Sto) (a : PV) (xs : List PV) : Prop :=
  ∀ (A : Around) (P : Addr → Prop) (s : Shared) (v : Value) (E : Value → Shared → Prop) (Q : Value → Shared → Prop), Room A k → Hp C P σ s.heap → Rd C.X P s.heap v a →
    (∀ (o : Obj) (tk : Tok), ItAt C A (fun b => P b ∨ b = hsz s) (s.heap.push o) (hsz s) xs → Q (.ref (hsz s)) { s with heap := s.heap.push o, toks := tk }) → wpAny (model C.prog C.w) A (pyIter v) Q E s
theorem goes {M A I v} {target : Expr} {s : Shared} {o : Obj} {n : String} {Q : Unit → Shared → Prop} {E : Value → Shared → Prop} (ho : s.heap.get? I = some o) (hc : o.cls = .type n)
    (hn : ["enumerate", "zip", "dict_itemiterator", "dict_reverseitemiterator", "odict_iterator", "itertools.zip_longest", "itertools.pairwise"].contains n = false) (q : Q () s) : wpAny M A (letOwnedTupleGo target (.ref I) v) Q E s := by
  unfold letOwnedTupleGo
  split
  · split
    · rename_i r a heq
      cases heq
      refine wpAny_bind (wpAny_load ho ?_)
      rw [hc]
      cases o.data <;> first | exact wpAny_pure q | (simp only [hn, Bool.false_and, Bool.false_eq_true, if_false]; exact wpAny_pure q)
    · exact wpAny_pure q
  · split
    · rename_i r a heq
      cases heq
      refine wpAny_bind (wpAny_load ho ?_)
      rw [hc]
      cases o.data <;> first | exact wpAny_pure q | (simp only [hn, Bool.false_and, Bool.false_eq_true, if_false]; exact wpAny_pure q)
    · exact wpAny_pure q
  · exact wpAny_pure q
theorem Iterable.of_list {C k σ a xs} (hl : LRead C σ a xs) (hd : ∀ P (s : Shared) b, Hp C P σ s.heap → Rd C.X P s.heap (.ref b) a → ¬ P b) : Iterable C k σ a xs := fun A P s v E Q hr H r hQ => by
  obtain ⟨b, vs, n, rfl, e, r'⟩ := hl P s v H r
  have hb := hd P s b H r
  have hne : b ≠ hsz s := Nat.ne_of_lt (Heap.lt_size e)
  refine wpAny_pyIter_list (isList_of e) (hQ _ s.toks ?_)
  have g : Pass P s.heap (fun b => P b ∨ b = hsz s) (s.heap.push { cls := .type "list_iterator", data := .fields #[.ref b, .int 0 0] }) := fun a o na ea => ⟨Heap.get?_push_of_some _ ea, fun q => q.elim na fun q => by subst q; exact absurd (Heap.lt_size ea) (Nat.lt_irrefl _)⟩
  have hz : vs.size = xs.length := by rw [← r'.length, Array.length_toList]
  refine ⟨_, _, _, _, 0, Walks.list hr.handled (hsz s) b hne vs, by rw [hz]; lia, ⟨⟨_, Heap.get?_push_size _ rfl, rfl, rfl⟩, (isList_of e).push _⟩, fun c hc hcn => ?_, .inr rfl, fun j v d hv hx => ?_, fun k target v s' Q' E' st q => ?_⟩
  · have : c = b := by simpa [hcn] using hc
    subst this
    exact ⟨fun q => q.elim hb hne, _, Heap.get?_push_of_some _ e⟩
  · obtain ⟨w, hw, rw'⟩ := r'.get' hx
    have : w = v := by rw [Nat.zero_add] at hv; simpa using (hw.symm.trans (by simpa using hv) : some w = some v)
    exact this ▸ rw'.pass' g
  · obtain ⟨⟨o, ho, hc, _⟩, _⟩ := st
    exact goes ho hc (by decide) q
theorem Iterable.list {C k σ xs} : Iterable C k σ (.list xs) xs := Iterable.of_list .list fun P s b H r => by cases r; assumption
theorem Iterable.str {C k σ x} : Iterable C k σ (.str x) (x.map fun c => .str [c]) := fun A P s v E Q hr H r hQ => by
  cases r with | str y t =>
  refine wpAny_pyIter_strU (hQ _ s.toks ?_)
  have fin : ∀ (T : String) (W : Walks C.prog C.w A (hsz s) [hsz s] [hsz s] y.cps.size (SignAt y) (fun i h => h.IsStrIter (hsz s) T y t i)), ["enumerate", "zip", "dict_itemiterator", "dict_reverseitemiterator", "odict_iterator", "itertools.zip_longest", "itertools.pairwise"].contains T = false → strIterType y = T →
      ItAt C A (fun b => P b ∨ b = hsz s) (s.heap.push { cls := .type (strIterType y), data := .fields #[.str y t, .int 0 0] }) (hsz s) (y.cps.toList.map fun c => .str [c]) := fun T W hT hy => by
    refine ⟨_, _, _, _, 0, W, by simp, ⟨_, Heap.get?_push_size _ rfl, by rw [hy], rfl⟩, fun c hc hcn => absurd (by simpa using hc) hcn, .inr rfl, fun j v d hv hx => ?_, fun k target v s' Q' E' st q => ?_⟩
    · obtain ⟨c, u, hc, rfl⟩ := hv
      rw [List.getElem?_map] at hx
      have : y.cps.toList[j]? = some c := by simpa using hc
      rw [this] at hx; cases hx
      exact .str ⟨#[c]⟩ u
    · obtain ⟨o, ho, hc, _⟩ := st
      exact goes ho hc hT q
  cases ha : y.cps.all (· < 128)
  · exact fin "str_iterator" (Walks.strWide hr.handled _ y t) (by decide) (by unfold strIterType; rw [ha]; rfl)
  · exact fin "str_ascii_iterator" (Walks.strAscii hr.handled _ y t) (by decide) (by unfold strIterType; rw [ha]; rfl)
end Mine
end C5
section C6
open PySem PySem.W PyProof.Rows
namespace Mine
noncomputable def rangeL (a b c : Int) : List PV := (List.range (Builtin.Range.rangeSize a b c).toNat).map fun (i : Nat) => .int (a + (i : Int) * c)
theorem Iterable.range {C k σ a b c} (hs : Builtin.Range.small a b c = true) : Iterable C k σ (.range a b c) (rangeL a b c) := fun A P s v E Q hr H r hQ => by
  cases r with | range na e =>
  refine wpAny_pyIter_range e hs (hQ _ s.toks ?_)
  have h0 : 0 ≤ Builtin.Range.rangeSize a b c := by
    unfold Builtin.Range.rangeSize
    split <;> split <;> first | exact Int.le_refl _ | skip
    · have := Int.ediv_nonneg (a := b - a - 1) (b := c) (by lia) (by lia); lia
    · have := Int.ediv_nonneg (a := a - b - 1) (b := -c) (by lia) (by lia); lia
  refine ⟨_, _, _, _, 0, Walks.range hr.handled _ a c (Builtin.Range.rangeSize a b c).toNat, by simp [rangeL], ?_, fun d hd hdn => absurd (by simpa using hd) hdn, .inr rfl, fun j v d hv hx => ?_, fun k target v s' Q' E' st q => ?_⟩
  · have : ((Builtin.Range.rangeSize a b c).toNat : Int) = Builtin.Range.rangeSize a b c := Int.toNat_of_nonneg h0
    show IsRangeIter _ _ _ _ _
    rw [this]
    simpa using Heap.get?_push_size s.heap rfl
  · obtain ⟨t, rfl⟩ := hv
    unfold rangeL at hx
    rw [List.getElem?_map] at hx
    cases hj : (List.range (Builtin.Range.rangeSize a b c).toNat)[j]? with
    | none => rw [hj] at hx; cases hx
    | some m =>
      rw [hj] at hx; cases hx
      have : m = j := by
        have := List.getElem?_eq_some_iff.mp hj
        obtain ⟨h1, h2⟩ := this
        simpa using h2.symm
      subst this
      simpa using Rd.int (X := C.X) (a + (m : Int) * c) t
  · exact goes st rfl (by decide) q
theorem walks_tuple {prog : Program} {w : World} {A : Around} (hh : A.handled = none) (I ax : Addr) (hne : ax ≠ I) (items : Array Value) :
    Walks prog w A I [I, ax] [I] items.size (fun i v => items[i]? = some v) (fun i h => h.IsTupleIter I ax i ∧ h.IsTuple ax items) where
  sub := fun b hb => by simp at hb; simp [hb]
  frame := fun _ _ _ st hk => by
    obtain ⟨⟨o, ho, r⟩, ⟨o', ho', r'⟩⟩ := st
    exact ⟨⟨o, hk I (by simp) o ho, r⟩, ⟨o', hk ax (by simp) o' ho', r'⟩⟩
  item := fun i s Q E hi st hQ => by
    refine wpAny_pyNext_tuple_item st.1 st.2 (x := items[i]) (by simp [hi]) fun h' hit' hs' => ?_
    exact hQ _ h' s.toks (by simp [hi]) ⟨hit', st.2.extBut hs'.extBut hne⟩ fun b o hb e => hs'.extBut b o (fun h => hb (by simp [h])) e
  done := fun s Q E st hQ => wpAny_pyNext_tuple_end hh st.1 st.2 (by simp) fun h' he' => hQ h' s.toks fun b o hb e => he' b o (fun h => hb (by simp [h])) e
  self := fun _ _ _ _ st hQ => wpAny_pyIter_tupleiter st.1 hQ
theorem Iterable.tuple {C k σ xs} : Iterable C k σ (.tuple xs) xs := fun A P s v E Q hr H r hQ => by
  cases r with | tuple na e r' =>
  rename_i b vs n
  have hne : b ≠ hsz s := Nat.ne_of_lt (Heap.lt_size e)
  refine wpAny_pyIter_tuple ⟨_, e, rfl, n, rfl⟩ (hQ _ s.toks ?_)
  have g : Pass P s.heap (fun b => P b ∨ b = hsz s) (s.heap.push { cls := .type "tuple_iterator", data := .fields #[.ref b, .int 0 0] }) := fun a o na ea => ⟨Heap.get?_push_of_some _ ea, fun q => q.elim na fun q => by subst q; exact absurd (Heap.lt_size ea) (Nat.lt_irrefl _)⟩
  have hz : vs.size = xs.length := by rw [← r'.length, Array.length_toList]
  refine ⟨_, _, _, _, 0, walks_tuple hr.handled (hsz s) b hne vs, by rw [hz]; lia, ⟨⟨_, Heap.get?_push_size _ rfl, rfl, rfl⟩, ⟨_, Heap.get?_push_of_some _ e, rfl, n, rfl⟩⟩, fun c hc hcn => ?_, .inr rfl, fun j v d hv hx => ?_, fun k target v s' Q' E' st q => ?_⟩
  · have : c = b := by simpa [hcn] using hc
    subst this
    exact ⟨fun q => q.elim na hne, _, Heap.get?_push_of_some _ e⟩
  · obtain ⟨w, hw, rw'⟩ := r'.get' hx
    have : w = v := by rw [Nat.zero_add] at hv; simpa using (hw.symm.trans (by simpa using hv) : some w = some v)
    exact this ▸ rw'.pass' g
  · obtain ⟨⟨o, ho, hc, _⟩, _⟩ := st
    exact goes ho hc (by decide) q
noncomputable def Bind (C : Cx) (k : Nat) (sc : Scope) (ρ : Lo) (σ : Sto) (t : Expr) (d : PV) (ow : Env → Addr → Prop) (K : Lo → Sto → Prop) : Prop :=
  ∀ (A : Around) (P : Addr → Prop) (env : Env) (s : Shared) (v : Value), env.scope = sc → Room A k → Inv C P env ρ σ s.heap → Rd C.X P s.heap v d →
    wpAny (model C.prog C.w) A (assign t env v) (fun _ s' => ∃ ρ' σ', K ρ' σ' ∧ Step C σ σ' (ow env) s s' ∧ Inv C (PP P σ') env ρ' σ' s'.heap) NoE s
noncomputable abbrev ownL : Env → Addr → Prop := fun env a => a = env.locals
theorem inv_storeL {C P env ρ σ s sc x v d A} {Q : Unit → Shared → Prop} (he : env.scope = sc) (hk : sc.names.lookup (Str.ofString x) = some .local) (I : Inv C P env ρ σ s.heap) (r : Rd C.X P s.heap v d)
    (hQ : ∀ s', Step C σ σ (ownL env) s s' → Inv C P env ((x, d) :: ρ) σ s'.heap → Q () s') : wpAny (model C.prog C.w) A (storeName env (Str.ofString x) v) Q NoE s := by
  subst he
  obtain ⟨m, hn⟩ := I.envOk.ns
  have ow : own env env.locals := .inl rfl
  refine wpAny_storeName_local hk hn (fun h' hn' hs => hQ _ ⟨fun a o _ _ ha x => (hs.2 a (fun q => ha q)).trans x, Nat.le_of_eq hs.1.symm, fun _ h => .inl h, rfl, rfl⟩ ?_) (by rw [I.envOk.kind]; rfl)
  have g : Pass P s.heap P h' := fun a o na e => ⟨hs.extBut a o (fun q => na (q ▸ (I.pown _ ow).1)) e, na⟩
  have kc : ∀ c v, c ≠ env.locals → s.heap.IsCell c v → h'.IsCell c v := fun c v hc ⟨o, ho, hd⟩ => ⟨o, hs.extBut c o hc ho, hd⟩
  refine ⟨I.hp.store (I.pown _ ow) hs, ⟨I.envOk.kind, I.envOk.glob, I.envOk.blt, ⟨_, hn'⟩, fun y c hy => let ⟨a, w, b⟩ := I.envOk.cells y c hy; ⟨a, w, kc c w a b⟩, I.envOk.inj, I.envOk.has⟩, fun y e hy => ?_, I.pown⟩
  by_cases hyx : y = x
  · subst hyx
    rw [List.lookup_cons_self] at hy; cases hy
    exact ⟨v, .loc hk hn' (by simp), r.pass' g⟩
  · rw [List.lookup_cons, beq_false_of_ne hyx] at hy
    obtain ⟨w, hw, rw'⟩ := I.vars y e hy
    refine ⟨w, ?_, rw'.pass' g⟩
    cases hw with
    | loc a n2 e2 =>
      refine .loc a hn' ?_
      rw [if_neg fun q => hyx (ofString_inj q)]
      rw [← e2]; exact Heap.Ns.agree hn n2 _
    | cell a l c => exact .cell a l (kc _ _ (I.envOk.cells _ _ l).1 c)
theorem Bind.name {C k sc ρ σ x p d K} (hk : Storable sc x) (h : K ((x, d) :: ρ) σ) : Bind C k sc ρ σ (.Name (Str.ofString x) p) d own K := fun A P env s v he hr I r =>
  wpAny_assign_Name (inv_store he hk I r fun s' hS I' => ⟨_, _, h, hS, I'.pp⟩)
theorem Bind.nameL {C k sc ρ σ x p d K} (hk : sc.names.lookup (Str.ofString x) = some .local) (h : K ((x, d) :: ρ) σ) : Bind C k sc ρ σ (.Name (Str.ofString x) p) d ownL K := fun A P env s v he hr I r =>
  wpAny_assign_Name (inv_storeL he hk I r fun s' hS I' => ⟨_, _, h, hS, I'.pp⟩)
theorem Inv.moved {C P env ρ σ} {h h' : Heap} {I : Addr} (V : Inv C P env ρ σ h) (k : ∀ b o, b ≠ I → h.get? b = some o → h'.get? b = some o) (hz : h.objs.size ≤ h'.objs.size) (hI : P I ∧ C.base ≤ I ∧ I ∉ dom σ ∧ ¬ own env I) : Inv C P env ρ σ h' := by
  have g : Pass P h P h' := fun a o na e => ⟨k a o (fun q => na (q ▸ hI.1)) e, na⟩
  have ko : ∀ b o, own env b → h.get? b = some o → h'.get? b = some o := fun b o hb e => k b o (fun q => hI.2.2.2 (q ▸ hb)) e
  exact ⟨⟨C.keep V.hp.gi (fun b o hb e => k b o (fun q => absurd (q ▸ hb.1) (Nat.not_lt.mpr hI.2.1)) e) hz, V.hp.st.pass g (fun b hb o e => k b o (fun q => hI.2.2.1 (q ▸ hb)) e), V.hp.ptb, V.hp.pdom, V.hp.nodup, fun a ha => Nat.lt_of_lt_of_le (V.hp.plt a ha) hz⟩,
    V.envOk.keep ko, fun x d hx => let ⟨v, a, r⟩ := V.vars x d hx; ⟨v, a.keep ko, r.pass' g⟩, V.pown⟩
theorem Inv.less {C P P' env ρ σ h} (V : Inv C P env ρ σ h) (e : ∀ a, P' a → P a) (ht : ∀ a ∈ C.tb, P' a) (hd : ∀ a ∈ dom σ, P' a) (ho : ∀ a, own env a → P' a) : Inv C P' env ρ σ h :=
  ⟨V.hp.weak e ht hd, V.envOk, fun x d hx => let ⟨v, a, r⟩ := V.vars x d hx; ⟨v, a, r.pass' (Pass.less e)⟩, fun a ha => ⟨ho a ha, (V.pown a ha).2⟩⟩
theorem Inv.more {C P env ρ σ} {s : Shared} {o : Obj} (V : Inv C P env ρ σ s.heap) : Inv C (fun b => P b ∨ b = hsz s) env ρ σ (s.heap.push o) := by
  have k : ∀ b x, s.heap.get? b = some x → (s.heap.push o).get? b = some x := fun b x e => Heap.get?_push_of_some _ e
  have hz : s.heap.objs.size ≤ (s.heap.push o).objs.size := by rw [Heap.size_push]; exact Nat.le_succ _
  have g : Pass P s.heap (fun b => P b ∨ b = hsz s) (s.heap.push o) := fun a x na e => ⟨k a x e, fun q => q.elim na fun q => by subst q; exact absurd (Heap.lt_size e) (Nat.lt_irrefl _)⟩
  exact ⟨⟨C.keep V.hp.gi (fun b o _ e => k b o e) hz, V.hp.st.pass g (fun b _ o e => k b o e), fun a ha => .inl (V.hp.ptb a ha), fun a ha => ⟨.inl (V.hp.pdom a ha).1, (V.hp.pdom a ha).2⟩, V.hp.nodup, fun a ha => ha.elim (fun q => Nat.lt_of_lt_of_le (V.hp.plt a q) hz) fun q => by subst q; rw [Heap.size_push]; exact Nat.lt_succ_self _⟩,
    V.envOk.keep (fun b o _ e => k b o e), fun x d hx => let ⟨v, a, r⟩ := V.vars x d hx; ⟨v, a.keep (fun b o _ e => k b o e), r.pass' g⟩, fun a ha => ⟨.inl (V.pown a ha).1, (V.pown a ha).2⟩⟩
end Mine
end C6
section C7
open PySem PySem.W PyProof.Rows
namespace Mine
theorem Inv.grown {C P env ρ σ} {h h' : Heap} (V : Inv C P env ρ σ h) (k : ∀ b o, h.get? b = some o → h'.get? b = some o) (hz : h.objs.size ≤ h'.objs.size) : Inv C P env ρ σ h' := by
  have g : Pass P h P h' := fun a o na e => ⟨k a o e, na⟩
  exact ⟨⟨C.keep V.hp.gi (fun b o _ e => k b o e) hz, V.hp.st.pass g (fun b _ o e => k b o e), V.hp.ptb, V.hp.pdom, V.hp.nodup, fun a ha => Nat.lt_of_lt_of_le (V.hp.plt a ha) hz⟩,
    V.envOk.keep (fun b o _ e => k b o e), fun x d hx => let ⟨v, a, r⟩ := V.vars x d hx; ⟨v, a.keep (fun b o _ e => k b o e), r.pass' g⟩, V.pown⟩
theorem draw_it {C A P I E} : ∀ {xs : List PV} {s : Shared} {Q : List Value → Shared → Prop}, ItAt C A P s.heap I xs →
    (∀ vs h' tk, hsz s ≤ h'.objs.size → (∀ b o, b ≠ I → s.heap.get? b = some o → h'.get? b = some o) → RdL C.X P h' vs xs → ItAt C A P h' I [] → Q vs { s with heap := h', toks := tk }) → wpAny (model C.prog C.w) A (draw (.ref I) xs.length) Q E s
  | [], s, Q, t, hQ => wpAny_pure (hQ [] s.heap s.toks (Nat.le_refl _) (fun _ _ _ e => e) .nil t)
  | x :: xs, s, Q, t, hQ => by
    show wpAny _ _ (pyNext (.ref I) >>= _) Q E s
    refine wpAny_bind (t.next fun v h₁ tk₁ hz₁ k₁ r₁ t₁ _ => ?_)
    refine wpAny_bind (wpAny_holding (draw_it t₁ fun vs h₂ tk₂ hz₂ k₂ r₂ t₂ => wpAny_pure ?_))
    have hI : P I := by obtain ⟨_, _, _, _, _, _, _, _, _, hI, _⟩ := t; exact hI
    exact hQ _ h₂ tk₂ (Nat.le_trans hz₁ hz₂) (fun b o hb e => k₂ b o hb (k₁ b o hb e)) (.cons (r₁.pass' fun a o na e => ⟨k₂ a o (fun q => na (q ▸ hI)) e, na⟩) r₂) t₂
noncomputable def Unpackable (C : Cx) (σ : Sto) (d : PV) : Prop := ∃ T id_, OfType C σ d T ∧ PySem.Slot T "__iter__" id_
theorem unpack_it {C k σ d xs A P s v} {E : Value → Shared → Prop} {Q : List Value → Shared → Prop} (hI : Iterable C k σ d xs) (hU : Unpackable C σ d) (hr : Room A k) (H : Hp C P σ s.heap) (r : Rd C.X P s.heap v d)
    (hQ : ∀ vs h' tk, hsz s ≤ h'.objs.size → (∀ b o, s.heap.get? b = some o → h'.get? b = some o) → RdL C.X P h' vs xs → Q vs { s with heap := h', toks := tk }) : wpAny (model C.prog C.w) A (unpackItems v xs.length none) Q E s := by
  obtain ⟨T, id_, hT, sl⟩ := hU
  unfold unpackItems
  refine wpAny_bind ?_
  unfold notIterableAtAll
  refine wpAny_bind (wpAny_specialOf (hT P s v H r).1 sl.lookup ?_)
  refine wpAny_pure ?_
  simp only [Bool.false_eq_true, if_false]
  refine wpAny_bind (wpAny_holding (hI A P s v E _ hr H r fun o tk t => ?_))
  refine wpAny_bind (wpAny_holding (draw_it t fun vs h₁ tk₁ hz₁ k₁ r₁ t₁ => ?_))
  rw [if_neg (by rw [r₁.length]; simp)]
  refine wpAny_bind (wpAny_holding (t₁.done fun h₂ tk₂ hz₂ k₂ => ?_))
  simp only [Option.isSome_none, Bool.false_eq_true, if_false]
  have p : s.heap.objs.size ≤ (s.heap.push o).objs.size := by rw [Heap.size_push]; exact Nat.le_succ _
  refine wpAny_pure (hQ vs h₂ tk₂ (Nat.le_trans p (Nat.le_trans hz₁ hz₂)) (fun b o' e => ?_) ?_)
  · have hb : b ≠ hsz s := Nat.ne_of_lt (Heap.lt_size e)
    exact k₂ b o' hb (k₁ b o' hb (Heap.get?_push_of_some _ e))
  · exact r₁.pass' fun a o' na e => ⟨k₂ a o' (fun q => na (.inr q)) e, fun q => na (.inl q)⟩
noncomputable def BindAll (C : Cx) (k : Nat) (sc : Scope) (ow : Env → Addr → Prop) : Lo → Sto → List Expr → List PV → (Lo → Sto → Prop) → Prop
  | ρ, σ, [], [], K => K ρ σ
  | ρ, σ, t :: ts, d :: ds, K => Bind C k sc ρ σ t d ow fun ρ' σ' => BindAll C k sc ow ρ' σ' ts ds K
  | _, _, _, _, _ => False
theorem assignEach_plain {t r env} (h : plainE t = true) : assignEach (t :: r) env = (false, assign t env) :: assignEach r env := by
  cases t <;> first | rfl | cases h
theorem assignEach_facts {env} : ∀ {ts : List Expr}, ts.all plainE = true → (assignEach ts env).length = ts.length ∧ (assignEach ts env).findIdx? (·.1) = none
  | [], _ => ⟨rfl, rfl⟩
  | t :: r, h => by
    rw [List.all_cons, Bool.and_eq_true] at h
    rw [assignEach_plain h.1]
    obtain ⟨a, b⟩ := assignEach_facts (env := env) h.2
    refine ⟨by rw [List.length_cons, List.length_cons, a], ?_⟩
    rw [List.findIdx?_cons, b]; rfl
theorem bindAll_run {C k sc ow env A} (he : env.scope = sc) (hr : Room A k) (how : ∀ a, ow env a → own env a) {ts : List Expr} : ∀ {ds : List PV} {vs : List Value} {ρ σ P s K}, BindAll C k sc ow ρ σ ts ds K → ts.all plainE = true → Inv C P env ρ σ s.heap → RdL C.X P s.heap vs ds →
    wpAny (model C.prog C.w) A (assignInOrder ((assignEach ts env).map (·.2)) vs) (fun _ s' => ∃ ρ' σ', K ρ' σ' ∧ Step C σ σ' (ow env) s s' ∧ Inv C (PP P σ') env ρ' σ' s'.heap) NoE s := by
  induction ts with
  | nil =>
    intro ds vs ρ σ P s K h _ I rs
    cases ds with
    | nil => cases rs; exact wpAny_pure ⟨ρ, σ, h, Step.refl s, I.pp⟩
    | cons => exact h.elim
  | cons t ts ih =>
    intro ds vs ρ σ P s K h hp I rs
    cases ds with
    | nil => exact h.elim
    | cons d ds =>
    cases rs with
    | cons r rs =>
    rw [List.all_cons, Bool.and_eq_true] at hp
    rw [assignEach_plain hp.1]
    refine wpAny_assignInOrder_more (wpAny_mono (h A P env s _ he hr I r) (fun _ s₁ o => ?_) fun _ _ x => x)
    obtain ⟨ρ₁, σ₁, hK, hS, I₁⟩ := o
    have g := pass_step hS (fun a q => (I.pown a (how a q)).1) I.hp
    refine wpAny_mono (ih hK hp.2 I₁ (rs.pass' g)) (fun _ s₂ o => ?_) fun _ _ x => x
    obtain ⟨ρ₂, σ₂, hK₂, hS₂, I₂⟩ := o
    exact ⟨ρ₂, σ₂, hK₂, hS.trans hS₂, I₂.down I.hp.ptb fun a ha => (I.pown a ha).1⟩
theorem Bind.tuple {C k sc ρ σ ts x1 pos d ow K} {xs : List PV} (hI : Iterable C k σ d xs) (hU : Unpackable C σ d) (h : BindAll C k sc ow ρ σ ts xs K) (hl : xs.length = ts.length) (hp : ts.all plainE = true) (how : ∀ env a, ow env a → own env a) :
    Bind C k sc ρ σ (.Tuple ts x1 pos) d ow K := fun A P env s v he hr I r => by
  rw [arm_assign_Tuple]
  refine wpAny_bind (wpAny_standAt ?_)
  unfold unpack
  obtain ⟨h1, h2⟩ := assignEach_facts (env := env) hp
  rw [h1, h2, ← hl]
  refine wpAny_bind (wpAny_holding (unpack_it hI hU hr I.hp r fun vs h' tk hz hk rl => ?_))
  refine wpAny_mono (bindAll_run (s := { s with heap := h', toks := tk }) he hr (how env) h hp (I.grown hk hz) rl) (fun _ s₂ o => ?_) fun _ _ x => x
  obtain ⟨ρ₂, σ₂, hK₂, hS₂, I₂⟩ := o
  have S0 : Step C σ σ (ow env) s { s with heap := h', toks := tk } := ⟨fun b o _ _ _ e => hk b o e, hz, fun _ q => .inl q, rfl, rfl⟩
  exact ⟨ρ₂, σ₂, hK₂, S0.trans hS₂, I₂⟩
theorem Unpackable.tuple {C σ xs} : Unpackable C σ (.tuple xs) := ⟨_, _, OfType.tuple, F.slot_tuple_iter⟩
theorem Unpackable.list {C σ xs} : Unpackable C σ (.list xs) := ⟨_, _, OfType.list .list, F.slot_list_iter⟩
section
variable {prog : Program} {w : World} {A : Around} {s : Shared}
theorem for_go {R : Result → Shared → Prop} {target it body orelse env} (I : Nat → Shared → Prop)
    (turn : ∀ n s, I n s → wpAny (model prog w) A (pyNext it) (fun r s₁ => match r with
      | none => wpAny (model prog w) A (execs orelse env) (fun f s₃ => R (.ok f) s₃) NoE s₁
      | some v => wpAny (model prog w) A (letOwnedTupleGo target it v) (fun _ s₂ => wpAny (model prog w) A (assign target env v) (fun _ s₃ => wpAny (model prog w) A (execs body env) (fun f s₄ => match f with
          | .next | .cont => ∃ m, m < n ∧ I m s₄
          | .brk => R (.ok .next) s₄
          | .ret v => R (.ok (.ret v)) s₄) NoE s₃) NoE s₂) NoE s₁) NoE s) (n : Nat) (h : I n s) : codeAny (model prog w) A (.forLoop target it body orelse env) R s := by
  have no : ∀ {α : Type} {t : Sem α} {Q : α → Shared → Prop} {E : Value → Shared → Prop} {s : Shared}, wpAny (model prog w) A t Q NoE s → wpAny (model prog w) A t Q E s := fun h => wpAny_mono h (fun _ _ x => x) fun _ _ x => x.elim
  refine codeAny_loop' rfl I (fun n s hI => ?_) n h
  show wpAny _ _ ((forTurn target it body orelse env).onRaise (fun x => do noteFrame x env; theTreesLotGoes x)) _ _ s
  refine wpAny_noted ?_
  simp only [forTurn]
  refine wpAny_bind (wpAny_standAt (wpAny_bind (wpAny_onRaise (wpAny_mono (turn n s hI) (fun r s₁ h₁ => ?_) fun _ _ h' => h'.elim))))
  cases r with
  | none => exact wpAny_pure (.inr ⟨rfl, codeAny_block (no h₁)⟩)
  | some v =>
    refine wpAny_bind (wpAny_mono h₁ (fun _ s₂ h₂ => ?_) fun _ _ x => x.elim)
    refine wpAny_bind (wpAny_mono h₂ (fun _ s₃ h₃ => wpAny_bind (wpAny_mono h₃ (fun f s₄ h₄ => ?_) fun _ _ h' => h'.elim)) fun _ _ h' => h'.elim)
    cases f with
    | next => exact wpAny_pure (.inl ⟨rfl, h₄⟩)
    | cont => exact wpAny_pure (.inl ⟨rfl, h₄⟩)
    | brk => exact wpAny_pure h₄
    | ret v => exact wpAny_pure h₄
end
theorem Ex1.for {C k sc ρ σ target iter body pos K} (J : List PV → Lo → Sto → Prop)
    (h : Ev C k sc ρ σ iter fun a σ₁ => ∃ xs, Iterable C k σ₁ a xs ∧ J xs ρ σ₁)
    (turn : ∀ x r ρ' σ', J (x :: r) ρ' σ' → Bind C k sc ρ' σ' target x own fun ρ₁ σ₂ => Ex C k sc ρ₁ σ₂ body fun g ρ₂ σ₃ => match g with | .next | .cont => J r ρ₂ σ₃ | .brk => K .next ρ₂ σ₃ | .ret d => K (.ret d) ρ₂ σ₃)
    (fin : ∀ ρ' σ', J [] ρ' σ' → K .next ρ' σ') (hs : ∀ env x, foldedSetIterable iter env x = pure x) : Ex1 C k sc ρ σ (.For target iter body [] pos) K := fun A P env s he hr I => by
  refine wpAny_For (ev_one h he hr I fun v d σ₁ s₁ hK hA r => ?_) (hs env)
  obtain ⟨xs, hI, hJ⟩ := hK
  have I₁ := I.after hA
  refine hI A _ s₁ v _ _ hr I₁.hp r fun o tk t => ?_
  have S₁ : Step C σ σ₁ (own env) s s₁ := hA.step.weak fun _ q => q.elim
  refine for_go (fun n s' => ∃ rest ρ' σ', n = rest.length ∧ J rest ρ' σ' ∧ Step C σ₁ σ' (own env) s₁ s' ∧ Inv C (PP (fun b => PP P σ₁ b ∨ b = hsz s₁) σ') env ρ' σ' s'.heap ∧ ItAt C A (PP (fun b => PP P σ₁ b ∨ b = hsz s₁) σ') s'.heap (hsz s₁) rest ∧ hsz s₁ ∉ dom σ') ?_ xs.length ?_
  · rintro n s' ⟨rest, ρ', σ', rfl, hJ', hS', I', t', hd⟩
    have hown : ¬ own env (hsz s₁) := fun q => Nat.lt_irrefl _ (I₁.envOk.lt _ q)
    have hbase : C.base ≤ hsz s₁ := C.low I₁.hp.gi
    have hnew : ∀ {h' : Heap} {tk'}, hsz s' ≤ h'.objs.size → (∀ b o, b ≠ hsz s₁ → s'.heap.get? b = some o → h'.get? b = some o) → Step C σ₁ σ' (own env) s₁ { s' with heap := h', toks := tk' } := fun {h'} {tk'} hz k =>
      ⟨fun b o h1 h2 h3 e => k b o (fun q => by subst q; exact Nat.lt_irrefl _ (Heap.lt_size e)) (hS'.kept b o h1 h2 h3 e), Nat.le_trans hS'.size hz, hS'.new, hS'.gens, hS'.os⟩
    have hlast : ∀ {s''} {ρ'' σ''}, Step C σ₁ σ'' (own env) s₁ s'' → Inv C (PP (fun b => PP P σ₁ b ∨ b = hsz s₁) σ'') env ρ'' σ'' s''.heap → AfterF C P env σ s ρ'' σ'' s'' := fun {s''} {ρ'' σ''} hS I'' =>
      ⟨S₁.trans hS, I''.less (fun a q => q.elim (fun q => .inl (.inl (.inl q))) .inr) (fun a ha => .inl (I.hp.ptb a ha)) (fun a ha => .inr ha) (fun a ha => .inl (I.pown a ha).1)⟩
    have rdless : ∀ {h' σ'' v d}, Rd C.X (PP (fun b => PP P σ₁ b ∨ b = hsz s₁) σ'') h' v d → Rd C.X (PP P σ'') h' v d := fun q => q.pass' (Pass.less fun a q => q.elim (fun q => .inl (.inl (.inl q))) .inr)
    cases rest with
    | nil =>
      refine t'.done fun h' tk' hz k => ?_
      exact wpAny_execs_nil ⟨.next, ρ', σ', fin _ _ hJ', hlast (hnew hz k) (I'.moved k hz ⟨.inl (.inr rfl), hbase, hd, hown⟩), .next⟩
    | cons x rest =>
      refine t'.next fun v h' tk' hz k rv t₂ go => ?_
      refine go target _ _ _ rfl ?_
      have I₂ := I'.moved k hz ⟨.inl (.inr rfl), hbase, hd, hown⟩
      have S₂ := hnew (tk' := tk') hz k
      refine wpAny_mono (turn _ _ _ _ hJ' A _ env { s' with heap := h', toks := tk' } v he hr I₂ rv) (fun _ s₃ o => ?_) fun _ _ x => x
      obtain ⟨ρ₁, σ₂, hB, hS₃, I₃⟩ := o
      have pt : ∀ a ∈ C.tb, (fun b => PP P σ₁ b ∨ b = hsz s₁) a := fun a ha => Or.inl (Or.inl (I.hp.ptb a ha))
      have po : ∀ a, own env a → (fun b => PP P σ₁ b ∨ b = hsz s₁) a := fun a ha => Or.inl (Or.inl (I.pown a ha).1)
      have I₃' := I₃.down pt po
      refine wpAny_mono (hB A _ env s₃ he hr I₃') (fun f s₄ o => ?_) fun _ _ x => x
      obtain ⟨g, ρ₂, σ₃, hK, hA₄, fl⟩ := o
      have S₄ := S₂.trans (hS₃.trans hA₄.step)
      have I₄ := hA₄.inv.down pt po
      have d4 : ∀ σ'' {sx : Shared}, (∀ a ∈ dom σ'', a ∈ dom σ' ∨ h'.objs.size ≤ a) → hsz s₁ ∉ dom σ'' := fun σ'' _ q ha => by
        rcases q _ ha with z | z
        · exact hd z
        · have : hsz s₁ < hsz s' := by
            obtain ⟨_, _, _, _, _, _, _, st, _⟩ := t'
            exact I'.hp.plt _ (.inl (.inr rfl))
          exact absurd (Nat.lt_of_lt_of_le this hz) (Nat.not_lt.mpr z)
      have hd₄ : hsz s₁ ∉ dom σ₃ := d4 σ₃ (sx := s₄) (hS₃.trans hA₄.step).new
      have back : J rest ρ₂ σ₃ → ∃ m, m < (x :: rest).length ∧ ∃ rest' ρ'' σ'', m = rest'.length ∧ J rest' ρ'' σ'' ∧ Step C σ₁ σ'' (own env) s₁ s₄ ∧ Inv C (PP (fun b => PP P σ₁ b ∨ b = hsz s₁) σ'') env ρ'' σ'' s₄.heap ∧ ItAt C A (PP (fun b => PP P σ₁ b ∨ b = hsz s₁) σ'') s₄.heap (hsz s₁) rest' ∧ hsz s₁ ∉ dom σ'' := fun j => by
        refine ⟨rest.length, by simp, rest, ρ₂, σ₃, rfl, j, S₄, I₄, ?_, hd₄⟩
        have g := pass_step (hS₃.trans hA₄.step) (fun a q => (I₂.pown a q).1) I₂.hp
        refine t₂.pass (fun a o na e => ⟨(g a o na e).1, fun q => (g a o na e).2 (PP_up a q)⟩) (fun o e => ?_) (.inl (.inr rfl))
        exact (hS₃.trans hA₄.step).kept _ o hd (fun q => absurd (C.tbLow _ q) (Nat.not_lt.mpr hbase)) hown e
      cases fl with
      | next => exact back hK
      | cont => exact back hK
      | brk => exact ⟨.next, _, _, hK, hlast S₄ I₄, .next⟩
      | ret rv' => exact ⟨.ret _, _, _, hK, hlast S₄ I₄, .ret (rdless (rv'.down C.extOk))⟩
  · refine ⟨xs, ρ, σ₁, rfl, hJ, ⟨fun b o _ _ _ e => Heap.get?_push_of_some _ e, by show s₁.heap.objs.size ≤ (s₁.heap.push o).objs.size; rw [Heap.size_push]; exact Nat.le_succ _, fun _ q => .inl q, rfl, rfl⟩, I₁.more.pp, ?_, fun q => Nat.lt_irrefl _ (I₁.hp.lt _ q)⟩
    exact t.pass (Pass.pp I₁.more.hp) (fun _ e => e) (.inl (.inr rfl))
end Mine
end C7
section C8
open PySem PySem.W PyProof.Rows
namespace Mine
theorem tests_run {C k sc cenv A} (he : cenv.scope = sc) (hr : Room A k) {ifs : List Expr} : ∀ {ρ σ P s K}, TrAll C k sc ρ .And σ ifs K → Inv C P cenv ρ σ s.heap →
    wpAny (model C.prog C.w) A (forIn ifs true fun c r => if r = true then do let ok ← isTrue c cenv (eval c cenv); pure (ForInStep.yield ok) else pure (ForInStep.yield r)) (OutB C P σ s K) NoE s := by
  induction ifs with
  | nil => intro ρ σ P s K h I; rw [List.forIn_nil]; exact wpAny_pure (OutB.here I.hp h)
  | cons c r ih =>
    intro ρ σ P s K h I
    rw [List.forIn_cons]
    simp only [if_true]
    refine wpAny_bind (wpAny_bind (wpAny_mono (h A P cenv s he hr I) (fun b s₁ o => wpAny_pure ?_) fun _ _ x => x))
    obtain ⟨σ₁, hK, hA⟩ := o
    cases b with
    | true => exact wp_seqB hA I.hp (ih hK (I.after hA))
    | false =>
      have hK' : K false σ₁ := hK
      clear ih h hK
      dsimp only
      induction r with
      | nil => rw [List.forIn_nil]; exact wpAny_pure ⟨σ₁, hK', hA⟩
      | cons c' r' ih' =>
        rw [List.forIn_cons]
        simp only [Bool.false_eq_true, if_false]
        exact wpAny_bind (wpAny_pure ih')
noncomputable def CompOk (C : Cx) (k : Nat) (sc : Scope) (elt : Expr) : List Comprehension → List PV → Lo → Sto → (List PV → Lo → Sto → Prop) → Prop
  | [], acc, ρ, σ, K => Ev C k sc ρ σ elt fun d σ' => acc.length ≤ sizeLine ∧ K (acc ++ [d]) ρ σ'
  | g :: gs, acc, ρ, σ, K => Ev C k sc ρ σ g.iter fun a σ₁ => ∃ xs, Iterable C k σ₁ a xs ∧ ∃ J : List PV → List PV → Lo → Sto → Prop, J xs acc ρ σ₁ ∧
      (∀ x r acc ρ σ, J (x :: r) acc ρ σ → Bind C k sc ρ σ g.target x ownL fun ρ' σ' => TrAll C k sc ρ' .And σ' g.ifs fun b σ₂ => if b then CompOk C k sc elt gs acc ρ' σ₂ (fun acc' ρ'' σ₃ => J r acc' ρ'' σ₃) else J r acc ρ' σ₂) ∧
      (∀ acc ρ σ, J [] acc ρ σ → K acc ρ σ)
noncomputable abbrev owD (cenv : Env) (D : Addr) : Addr → Prop := fun a => a = cenv.locals ∨ a = D
set_option genInjectivity false in
structure CSt (C : Cx) (P : Addr → Prop) (cenv : Env) (D : Addr) (ρ : Lo) (σ : Sto) (acc : List PV) (s : Shared) : Prop where
  inv : Inv C P cenv ρ σ s.heap
  list : ∃ vs, s.heap.PlainList D vs ∧ RdL C.X P s.heap vs.toList acc
  hD : P D ∧ C.base ≤ D ∧ D ∉ dom σ ∧ ¬ own cenv D
theorem CSt.down {C P σ₁ cenv D ρ σ acc s} (c : CSt C (PP (PP P σ₁) σ) cenv D ρ σ acc s) (hp : ∀ a ∈ C.tb, P a) (ho : ∀ a, own cenv a → P a) (hD : P D) : CSt C (PP P σ) cenv D ρ σ acc s :=
  ⟨c.inv.down hp ho, let ⟨vs, a, b⟩ := c.list; ⟨vs, a, b.down C.extOk⟩, .inl hD, c.hD.2⟩
theorem CSt.pp {C P cenv D ρ σ acc s} (c : CSt C P cenv D ρ σ acc s) : CSt C (PP P σ) cenv D ρ σ acc s :=
  ⟨c.inv.pp, let ⟨vs, a, b⟩ := c.list; ⟨vs, a, b.pass' (Pass.pp c.inv.hp)⟩, .inl c.hD.1, c.hD.2⟩
theorem CSt.step {C P cenv D ρ σ acc s ρ' σ' s'} (c : CSt C P cenv D ρ σ acc s) (S : Step C σ σ' (ownL cenv) s s') (I : Inv C (PP P σ') cenv ρ' σ' s'.heap) : CSt C (PP P σ') cenv D ρ' σ' acc s' := by
  have g := pass_step S (fun a q => (c.inv.pown a (.inl q)).1) c.inv.hp
  obtain ⟨vs, ⟨n, e⟩, r⟩ := c.list
  refine ⟨I, ⟨vs, ⟨n, S.kept D _ c.hD.2.2.1 (fun q => absurd (C.tbLow _ q) (Nat.not_lt.mpr c.hD.2.1)) (fun q => c.hD.2.2.2 (.inl q)) e⟩, r.pass' g⟩, .inl c.hD.1, c.hD.2.1, fun q => ?_, c.hD.2.2.2⟩
  rcases S.new _ q with z | z
  · exact c.hD.2.2.1 z
  · exact absurd (Heap.lt_size e) (Nat.not_lt.mpr z)
theorem drop_get {α : Type} {l : List α} {d : Nat} {g : α} {gs : List α} (h : l.drop d = g :: gs) : l[d]? = some g ∧ l.drop (d + 1) = gs ∧ l[d + 1]? = gs.head? := by
  have h1 : l[d]? = some g := by rw [← List.head?_drop, h]; rfl
  have h2 : l.drop (d + 1) = gs := by rw [← List.tail_drop, h]; rfl
  exact ⟨h1, h2, by rw [← List.head?_drop, h2]⟩
section
variable {prog : Program} {w : World} {A : Around} {s : Shared} {elt : Expr} {gens : List Comprehension} {scope : Scope} {pos : Pos}
theorem comp_go {R : Result → Shared → Prop} {d : Nat} {g : Comprehension} {gs : List Comprehension} {it acc : Value} {env : Env} (hg : gens.drop d = g :: gs) (ha : g.is_async = 0) (I : Nat → Shared → Prop)
    (turn : ∀ n s, I n s → wpAny (model prog w) A (pyNext it) (fun r s₁ => match r with
      | none => R (.ok .next) s₁
      | some v => wpAny (model prog w) A (letOwnedTupleGo g.target it v) (fun _ s₂ => wpAny (model prog w) A (assign g.target env v) (fun _ s₃ =>
          wpAny (model prog w) A (forIn g.ifs true fun c r => if r = true then do let ok ← isTrue c env (eval c env); pure (ForInStep.yield ok) else pure (ForInStep.yield r)) (fun ok s₄ =>
            if ok = true then (match gs with
              | [] => wpAny (model prog w) A (eval elt env) (fun x s₅ => wpAny (model prog w) A (call (.builtin "list.append") [acc, x]) (fun _ s₆ => ∃ m, m < n ∧ I m s₆) NoE s₅) NoE s₄
              | g' :: _ => wpAny (model prog w) A (eval g'.iter env) (fun x s₅ => wpAny (model prog w) A (pyIter x) (fun it' s₆ => codeAny (model prog w) A (.compStart (.ListComp elt gens scope pos) (d + 1) it' acc env) (fun r s₇ => r = .ok .next ∧ ∃ m, m < n ∧ I m s₇) s₆) NoE s₅) NoE s₄)
            else ∃ m, m < n ∧ I m s₄) NoE s₃) NoE s₂) NoE s₁) NoE s)
    (hin : ∀ g' ∈ gs.head?, g'.is_async = 0 ∧ ∀ x, foldedSetIterable g'.iter env x = pure x)
    (n : Nat) (h : I n s) : codeAny (model prog w) A (.compLoop (.ListComp elt gens scope pos) d it acc env) R s := by
  obtain ⟨h1, h2, h3⟩ := drop_get hg
  refine codeAny_loop rfl I (fun n s hI => ?_) n h
  show wpAny _ A ((compTurn (.ListComp elt gens scope pos) d it acc env).onRaise (fun x => do noteFrame x env; theTreesLotGoes x)) _ _ s
  refine wpAny_noted ?_
  unfold compTurn
  simp only [h1, ha]
  refine wpAny_bind (wpAny_standAt (wpAny_bind (wpAny_mono (turn n s hI) (fun r s₁ h₁ => ?_) fun _ _ h' => h'.elim)))
  cases r with
  | none => exact wpAny_pure h₁
  | some v =>
    refine wpAny_bind (wpAny_mono h₁ (fun _ s₂ h₂ => ?_) fun _ _ h' => h'.elim)
    refine wpAny_bind (wpAny_mono h₂ (fun _ s₃ h₃ => wpAny_bind (wpAny_mono h₃ (fun ok s₄ h₄ => ?_) fun _ _ h' => h'.elim)) fun _ _ h' => h'.elim)
    cases ok with
    | false => exact wpAny_pure ⟨rfl, h₄⟩
    | true =>
      try dsimp only at h₄ ⊢
      simp only [if_true] at h₄ ⊢
      rw [h3]
      cases gs with
      | nil => exact wpAny_bind (wpAny_bind (wpAny_mono h₄ (fun x s₄ h₄ => wpAny_bind (wpAny_mono h₄ (fun _ s₅ h₅ => wpAny_pure (wpAny_pure ⟨rfl, h₅⟩)) fun _ _ h' => h'.elim)) fun _ _ h' => h'.elim))
      | cons g' gs' =>
        obtain ⟨a', f'⟩ := hin g' rfl
        try dsimp only [List.head?_cons]
        simp only [a']
        refine wpAny_bind (wpAny_mono h₄ (fun x s₅ h₅ => wpAny_bind (wpAny_standAt (wpAny_bind (wpAny_of_eq (f' x) ?_)))) fun _ _ h' => h'.elim)
        refine wpAny_bind (wpAny_holding (wpAny_mono h₅ (fun it' s₆ h₆ => ?_) fun _ _ h' => h'.elim))
        refine wpAny_bind (wpAny_runOwn ?_)
        rw [Around.mark_none]
        refine codeAny_mono h₆ fun r s₇ h₇ => ?_
        obtain ⟨rfl, h₇⟩ := h₇
        exact wpAny_pure ⟨rfl, h₇⟩
theorem compStart_go {R : Result → Shared → Prop} {d : Nat} {g : Comprehension} {gs : List Comprehension} {it acc : Value} {env : Env} (hg : gens.drop d = g :: gs) (ha : g.is_async = 0)
    (h0 : codeAny (model prog w) A (.compLoop (.ListComp elt gens scope pos) d it acc env) R s)
    (h : ∀ Q : Value → Shared → Prop, Q it s → wpAny (model prog w) A (pyIter it) Q NoE s) :
    codeAny (model prog w) A (.compStart (.ListComp elt gens scope pos) d it acc env) R s := by
  obtain ⟨h1, h2, h3⟩ := drop_get hg
  refine codeAny_of_tree ?_
  show wpAny _ _ ((compStart (.ListComp elt gens scope pos) d it acc env).onRaise (fun x => do noteFrame x env; standAt theWindowsPlace)) _ _ s
  refine wpAny_notedAt ?_
  unfold compStart
  have hc : (clausesOf (.ListComp elt gens scope pos))[d]? = some g := h1
  simp only [hc, Option.elim, ha]
  show wpAny _ _ (ask >>= _) _ _ s
  refine wpAny_bind (wpAny_askSetting (wpAny_ite ?_))
  split
  · first
      | exact wpAny_bind (wpAny_pure (wpAny_pure (And.intro rfl h0)))
      | exact wpAny_pure (And.intro rfl h0)
  · refine wpAny_bind (wpAny_rule ?_)
    show wpAny _ _ (standAt g.iter.pos >>= _) _ _ s
    exact wpAny_bind (wpAny_standAt (wpAny_bind (wpAny_mono (h (fun v s' => v = it ∧ s' = s) ⟨rfl, rfl⟩) (fun it' s' h' => by obtain ⟨rfl, rfl⟩ := h'; exact wpAny_pure (And.intro rfl h0)) fun _ _ x => x.elim)))
end
end Mine
end C8
section C9
open PySem PySem.W PyProof.Rows
namespace Mine
noncomputable def PlainC (gens : List Comprehension) : Prop := ∀ g ∈ gens, g.is_async = 0 ∧ ∀ env x, foldedSetIterable g.iter env x = pure x
theorem comp_loop {C k sc A cenv D elt gens scope pos} (he : cenv.scope = sc) (hr : Room A k) (hp : PlainC gens) : ∀ {gs : List Comprehension} {g : Comprehension} {d : Nat} (hg : gens.drop d = g :: gs)
    {P : Addr → Prop} {I : Addr} {xs : List PV} {acc : List PV} {ρ σ} {s₀ s : Shared} {K : List PV → Lo → Sto → Prop} {R : Result → Shared → Prop} (J : List PV → List PV → Lo → Sto → Prop)
    (hJ : J xs acc ρ σ) (turn : ∀ x r acc ρ σ, J (x :: r) acc ρ σ → Bind C k sc ρ σ g.target x ownL fun ρ' σ' => TrAll C k sc ρ' .And σ' g.ifs fun b σ₂ => if b then CompOk C k sc elt gs acc ρ' σ₂ (fun acc' ρ'' σ₃ => J r acc' ρ'' σ₃) else J r acc ρ' σ₂)
    (fin : ∀ acc ρ σ, J [] acc ρ σ → K acc ρ σ) (c : CSt C P cenv D ρ σ acc s) (t : ItAt C A P s.heap I xs) (hI : P I ∧ C.base ≤ I ∧ I ∉ dom σ ∧ ¬ own cenv I ∧ I ≠ D) (h0 : hsz s₀ ≤ I) (S₀ : Step C σ σ (owD cenv D) s₀ s)
    (hR : ∀ acc' ρ' σ' s', K acc' ρ' σ' → Step C σ σ' (owD cenv D) s₀ s' → CSt C (PP P σ') cenv D ρ' σ' acc' s' → R (.ok .next) s'),
    codeAny (model C.prog C.w) A (.compLoop (.ListComp elt gens scope pos) d (.ref I) (.ref D) cenv) R s := by
  intro gs
  induction gs with
  | nil => ?_
  | cons g' gs ih => ?_
  all_goals
    intro g d hg P I xs acc ρ σ s₀ s K R J hJ turn fin c t hI h0 S₀ hR
    have hgm : g ∈ gens := List.mem_of_mem_drop (hg ▸ List.mem_cons_self)
    refine comp_go hg (hp g hgm).1 (fun n s' => ∃ rest acc' ρ' σ', n = rest.length ∧ J rest acc' ρ' σ' ∧ Step C σ σ' (owD cenv D) s₀ s' ∧ CSt C (PP P σ') cenv D ρ' σ' acc' s' ∧ ItAt C A (PP P σ') s'.heap I rest ∧ I ∉ dom σ') ?_ ?_ xs.length
      ⟨xs, acc, ρ, σ, rfl, hJ, S₀, c.pp, t.pass (Pass.pp c.inv.hp) (fun _ e => e) (.inl hI.1), hI.2.2.1⟩
    case refine_2 =>
      first
        | (intro g' h; cases h; done)
        | (intro g'' h
           have : g'' = g' := by simpa using h.symm
           subst this
           have hm : g'' ∈ gens := List.mem_of_mem_drop (hg ▸ List.mem_cons_of_mem _ List.mem_cons_self)
           exact ⟨(hp g'' hm).1, fun x => (hp g'' hm).2 _ x⟩)
    rintro n s' ⟨rest, acc', ρ', σ', rfl, hJ', S', c', t', hd⟩
    have hk : ∀ {h' : Heap} {tk'}, hsz s' ≤ h'.objs.size → (∀ b o, b ≠ I → s'.heap.get? b = some o → h'.get? b = some o) → Step C σ σ' (owD cenv D) s₀ { s' with heap := h', toks := tk' } ∧ CSt C (PP P σ') cenv D ρ' σ' acc' { s' with heap := h', toks := tk' } := fun {h'} {tk'} hz k => by
      have hI' : PP P σ' I ∧ C.base ≤ I ∧ I ∉ dom σ' ∧ ¬ own cenv I := ⟨.inl hI.1, hI.2.1, hd, hI.2.2.2.1⟩
      refine ⟨⟨fun b o h1 h2 h3 e => k b o (fun q => by subst q; exact Nat.not_lt.mpr h0 (Heap.lt_size e)) (S'.kept b o h1 h2 h3 e), Nat.le_trans S'.size hz, S'.new, S'.gens, S'.os⟩, c'.inv.moved k hz hI', ?_, c'.hD⟩
      obtain ⟨vs, ⟨n, e⟩, r⟩ := c'.list
      exact ⟨vs, ⟨n, k D _ (Ne.symm hI.2.2.2.2) e⟩, r.pass' fun a o na e => ⟨k a o (fun q => na (q ▸ hI'.1)) e, na⟩⟩
    cases rest with
    | nil =>
      refine t'.done fun h' tk' hz k => ?_
      exact hR _ _ _ _ (fin _ _ _ hJ') (hk hz k).1 (hk hz k).2
    | cons x rest => ?_
    refine t'.next fun v h' tk' hz k rv t₂ go => ?_
    refine go g.target _ _ _ rfl ?_
    obtain ⟨S₂, c₂⟩ := hk (tk' := tk') hz k
    refine wpAny_mono (turn _ _ _ _ _ hJ' A _ cenv { s' with heap := h', toks := tk' } v he hr c₂.inv rv) (fun _ s₃ o => ?_) fun _ _ x => x
    obtain ⟨ρ₁, σ₂, hB, S₃, I₃⟩ := o
    have ptb : ∀ a ∈ C.tb, P a := c.inv.hp.ptb
    have pown : ∀ a, own cenv a → P a := fun a ha => (c.inv.pown a ha).1
    have c₃ := (c₂.step S₃ I₃).down ptb pown c.hD.1
    refine wpAny_mono (tests_run he hr hB c₃.inv) (fun b s₄ o => ?_) fun _ _ x => x
    obtain ⟨σ₃, hT, A₄⟩ := o
    have S₄ : Step C σ₂ σ₃ (ownL cenv) s₃ s₄ := A₄.step.weak fun _ q => q.elim
    have c₄ := (c₃.step S₄ (c₃.inv.after A₄)).down ptb pown c.hD.1
    have S34 := S₃.trans S₄
    have keepI : ∀ {σ₄ : Sto} {s₅ : Shared}, Step C σ' σ₄ (owD cenv D) { s' with heap := h', toks := tk' } s₅ → Hp C (PP P σ₄) σ₄ s₅.heap → ItAt C A (PP P σ₄) s₅.heap I rest ∧ I ∉ dom σ₄ := fun {σ₄ s₅} S H => by
      have g := pass_step S (fun a q => q.elim (fun q => .inl (q ▸ pown _ (.inl rfl))) fun q => .inl (q ▸ c.hD.1)) c₂.inv.hp
      have hne : ¬ owD cenv D I := fun q => q.elim (fun q => hI.2.2.2.1 (.inl q)) hI.2.2.2.2
      refine ⟨t₂.pass (fun a o na e => ⟨(g a o na e).1, fun q => (g a o na e).2 (PP_up a q)⟩) (fun o e => S.kept _ o hd (fun q => absurd (C.tbLow _ q) (Nat.not_lt.mpr hI.2.1)) hne e) (.inl hI.1), fun q => ?_⟩
      rcases S.new _ q with z | z
      · exact hd z
      · exact absurd (Nat.lt_of_lt_of_le (c'.inv.hp.plt I (.inl hI.1)) hz) (Nat.not_lt.mpr z)
    cases b with
    | false =>
      obtain ⟨t₅, hd₅⟩ := keepI (S34.weak fun a q => .inl q) c₄.inv.hp
      exact ⟨rest.length, by simp, rest, acc', ρ₁, σ₃, rfl, hT, S₂.trans (S34.weak fun a q => .inl q), c₄, t₅, hd₅⟩
    | true => ?_
    simp only [if_true] at hT ⊢
  · -- the element
    refine wpAny_mono (hT A _ cenv s₄ he hr c₄.inv) (fun x₁ s₅ o => ?_) fun _ _ x => x
    obtain ⟨dx, σ₄, ⟨hlen, hK⟩, A₅, rx⟩ := o
    have S₅ : Step C σ₃ σ₄ (ownL cenv) s₄ s₅ := A₅.step.weak fun _ q => q.elim
    have c₅ := (c₄.step S₅ (c₄.inv.after A₅)).down ptb pown c.hD.1
    obtain ⟨vs, pl, rl⟩ := c₅.list
    have hz5 : vs.size = acc'.length := by rw [← rl.length, Array.length_toList]
    refine wpAny_list_append_plain pl (fun h₆ pl₆ sb₆ => ?_) (by rw [hz5]; exact hlen)
    have S₆ : Step C σ₄ σ₄ (owD cenv D) s₅ { s₅ with heap := h₆ } := ⟨fun b o _ _ hb e => sb₆.extBut b o (fun q => hb (.inr q)) e, Nat.le_of_eq sb₆.1.symm, fun _ q => .inl q, rfl, rfl⟩
    have g6 : Pass (PP P σ₄) s₅.heap (PP P σ₄) h₆ := fun a o na e => ⟨sb₆.extBut a o (fun q => na (q ▸ .inl c.hD.1)) e, na⟩
    have Sall := (S34.trans S₅).weak (own' := owD cenv D) (fun a q => .inl q) |>.trans S₆
    have c₆ : CSt C (PP P σ₄) cenv D ρ₁ σ₄ (acc' ++ [dx]) { s₅ with heap := h₆ } := ⟨c₅.inv.moved sb₆.extBut (Nat.le_of_eq sb₆.1.symm) c₅.hD, ⟨_, pl₆, by
      rw [Array.toList_push]; exact (rl.pass' g6).append (.cons ((rx.down C.extOk).pass' g6) .nil)⟩, c₅.hD⟩
    obtain ⟨t₆, hd₆⟩ := keepI Sall c₆.inv.hp
    exact ⟨rest.length, by simp, rest, _, ρ₁, σ₄, rfl, hK, S₂.trans Sall, c₆, t₆, hd₆⟩
  · -- the next clause
    refine ev_one hT he hr c₄.inv fun v₅ d₅ σ₄ s₅ hK A₅ r₅ => ?_
    obtain ⟨ys, hIt, J₂, hJ₂, turn₂, fin₂⟩ := hK
    have S₅ : Step C σ₃ σ₄ (ownL cenv) s₄ s₅ := A₅.step.weak fun _ q => q.elim
    have c₅ := (c₄.step S₅ (c₄.inv.after A₅)).down ptb pown c.hD.1
    refine hIt A _ s₅ v₅ _ _ hr c₅.inv.hp (r₅.down C.extOk) fun o tk ti => ?_
    have S₆ : Step C σ₄ σ₄ (owD cenv D) s₅ { s₅ with heap := s₅.heap.push o, toks := tk } := ⟨fun b o _ _ _ e => Heap.get?_push_of_some _ e, by show s₅.heap.objs.size ≤ (s₅.heap.push o).objs.size; rw [Heap.size_push]; exact Nat.le_succ _, fun _ q => .inl q, rfl, rfl⟩
    have c₆ : CSt C (fun b => PP P σ₄ b ∨ b = hsz s₅) cenv D ρ₁ σ₄ acc' { s₅ with heap := s₅.heap.push o, toks := tk } := by
      obtain ⟨vs, ⟨n, e⟩, rl⟩ := c₅.list
      refine ⟨c₅.inv.more, ⟨vs, ⟨n, Heap.get?_push_of_some _ e⟩, rl.pass' fun a x na ea => ⟨Heap.get?_push_of_some _ ea, fun q => q.elim na fun q => by subst q; exact absurd (Heap.lt_size ea) (Nat.lt_irrefl _)⟩⟩, .inl c₅.hD.1, c₅.hD.2⟩
    have hd1 := (drop_get hg).2.1
    have hDlt : D < hsz s₅ := c₅.inv.hp.plt D c₅.hD.1
    have hI2 : (fun b => PP P σ₄ b ∨ b = hsz s₅) (hsz s₅) ∧ C.base ≤ hsz s₅ ∧ hsz s₅ ∉ dom σ₄ ∧ ¬ own cenv (hsz s₅) ∧ hsz s₅ ≠ D :=
      ⟨.inr rfl, C.low c₅.inv.hp.gi, fun q => Nat.lt_irrefl _ (c₅.inv.hp.lt _ q), fun q => Nat.lt_irrefl _ (c₅.inv.envOk.lt _ q), Ne.symm (Nat.ne_of_lt hDlt)⟩
    have hgm' : g' ∈ gens := List.mem_of_mem_drop (hg ▸ List.mem_cons_of_mem _ List.mem_cons_self)
    refine compStart_go hd1 (hp g' hgm').1 (ih hd1 J₂ hJ₂ turn₂ fin₂ c₆ ti hI2 (s₀ := s₅) (Nat.le_refl _) S₆ fun acc₇ ρ₇ σ₇ s₇ hK₇ S₇ c₇ => ⟨rfl, ?_⟩) fun Q q => ti.self q
    have Sall := (((S34.trans S₅).weak (own' := owD cenv D) fun a q => .inl q)).trans S₇
    have c₈ : CSt C (PP P σ₇) cenv D ρ₇ σ₇ acc₇ s₇ := by
      obtain ⟨vs, pl, rl⟩ := c₇.list
      have less : ∀ a, PP P σ₇ a → PP (fun b => PP P σ₄ b ∨ b = hsz s₅) σ₇ a := fun a q => q.elim (fun q => .inl (.inl (.inl q))) .inr
      exact ⟨c₇.inv.less less (fun a ha => .inl (ptb a ha)) (fun a ha => .inr ha) (fun a ha => .inl (pown a ha)), ⟨vs, pl, rl.pass' (Pass.less less)⟩, .inl c.hD.1, c₇.hD.2⟩
    obtain ⟨t₈, hd₈⟩ := keepI Sall c₈.inv.hp
    exact ⟨rest.length, by simp, rest, acc₇, ρ₇, σ₇, rfl, hK₇, S₂.trans Sall, c₈, t₈, hd₈⟩
end Mine
end C9
section C10
open PySem PySem.W PyProof.Rows
namespace Mine
theorem mem_of_lookup {α β : Type} [BEq α] [LawfulBEq α] {l : List (α × β)} {x : α} {c : β} (h : l.lookup x = some c) : (x, c) ∈ l := by
  induction l with
  | nil => cases h
  | cons p r ih =>
    obtain ⟨y, d⟩ := p
    by_cases e : x = y
    · subst e; rw [List.lookup_cons_self] at h; cases h; exact List.mem_cons_self
    · rw [List.lookup_cons, beq_false_of_ne e] at h; exact List.mem_cons_of_mem _ (ih h)
theorem lookup_of_mem {α β : Type} [BEq α] [LawfulBEq α] {l : List (α × β)} {x : α} {c : β} (h : (x, c) ∈ l) : ∃ d, l.lookup x = some d := by
  induction l with
  | nil => cases h
  | cons p r ih =>
    obtain ⟨y, d⟩ := p
    by_cases e : x = y
    · subst e; exact ⟨d, List.lookup_cons_self⟩
    · rcases List.mem_cons.mp h with h | h
      · cases h; exact absurd rfl e
      · rw [List.lookup_cons, beq_false_of_ne e]; exact ih h
theorem closure_loop {env : Env} : ∀ (names : List (Str × NameKind)) (cs : List (Str × Addr)), (∀ p ∈ names, p.2 = .free → ∃ c, env.cells.lookup p.1 = some c) → (∀ p ∈ cs, env.cells.lookup p.1 = some p.2) →
    ∃ cl, (forIn names cs fun (x : Str × NameKind) (r : List (Str × Addr)) => (if (x.2 == .free) = true then do let a ← cellOf env x.1; pure (ForInStep.yield ((x.1, a) :: r)) else pure (ForInStep.yield r) : Sem (ForInStep (List (Str × Addr))))) = pure cl ∧
      (∀ p ∈ cl, env.cells.lookup p.1 = some p.2) ∧ (∀ p ∈ cs, p ∈ cl) ∧ ∀ p ∈ names, p.2 = .free → ∃ c, (p.1, c) ∈ cl
  | [], cs, _, hc => ⟨cs, rfl, hc, fun p h => h, fun p h => by cases h⟩
  | (x, kd) :: r, cs, h, hc => by
    rw [List.forIn_cons]
    by_cases hk : kd = .free
    · subst hk
      obtain ⟨a, ha⟩ := h _ List.mem_cons_self rfl
      obtain ⟨cl, e, h1, h2, h3⟩ := closure_loop r ((x, a) :: cs) (fun p hp => h p (List.mem_cons_of_mem _ hp)) (fun p hp => by
        rcases List.mem_cons.mp hp with rfl | hp
        · exact ha
        · exact hc p hp)
      refine ⟨cl, ?_, h1, fun p hp => h2 p (List.mem_cons_of_mem _ hp), fun p hp hf => ?_⟩
      · rw [← e]
        have : cellOf env x = pure a := by unfold cellOf; rw [ha]
        simp only [this]
        rfl
      · rcases List.mem_cons.mp hp with rfl | hp
        · exact ⟨a, h2 _ List.mem_cons_self⟩
        · exact h3 p hp hf
    · obtain ⟨cl, e, h1, h2, h3⟩ := closure_loop r cs (fun p hp => h p (List.mem_cons_of_mem _ hp)) hc
      refine ⟨cl, ?_, h1, h2, fun p hp hf => ?_⟩
      · rw [← e]
        have : (kd == NameKind.free) = false := beq_false_of_ne hk
        simp only [this]
        rfl
      · rcases List.mem_cons.mp hp with rfl | hp
        · exact absurd hf hk
        · exact h3 p hp hf
theorem closure_ok {scope : Scope} {env : Env} (h : ∀ p ∈ scope.names, p.2 = .free → ∃ c, env.cells.lookup p.1 = some c) :
    ∃ cl, closureFor scope env = pure cl ∧ (∀ x c, cl.lookup x = some c → env.cells.lookup x = some c) ∧ ∀ p ∈ scope.names, p.2 = .free → ∃ c, cl.lookup p.1 = some c := by
  obtain ⟨cl, e, h1, _, h3⟩ := closure_loop scope.names [] h (fun p hp => by cases hp)
  refine ⟨cl, ?_, fun x c hx => h1 _ (mem_of_lookup hx), fun p hp hf => let ⟨c, hc⟩ := h3 p hp hf; lookup_of_mem hc⟩
  unfold closureFor
  show (forIn scope.names [] _ >>= fun cs => pure cs) = pure cl
  have e2 : (forIn scope.names ([] : List (Str × Addr)) fun (x : Str × NameKind) (r : List (Str × Addr)) => (match x with | (name, kind) => (if (kind == .free) = true then do let a ← cellOf env name; pure (ForInStep.yield ((name, a) :: r)) else pure (ForInStep.yield r)) : Sem (ForInStep (List (Str × Addr))))) = pure cl := e
  first
    | (rw [e2]; rfl)
    | (erw [e2]; rfl)
noncomputable def rel (scope sc : Scope) : Scope :=
  { scope with names := scope.names.map fun (n, k) => if (k == .free && sc.kind == .function && sc.names.lookup n == some .cell) then (n, .cell) else (n, k) }
noncomputable def okScope (scope sc : Scope) : Bool :=
  scope.names.all fun p => (p.2 != .cell) && (p.2 != .local || scope.names.lookup p.1 == some .local) && (p.2 != .free || sc.names.lookup p.1 == some .cell || sc.names.lookup p.1 == some .free)
theorem rel_lookup {scope sc : Scope} {x : Str} {kd : NameKind} (h : (rel scope sc).names.lookup x = some kd) : ∃ kd', (x, kd') ∈ scope.names ∧ (kd' = kd ∨ kd' = .free) := by
  have := mem_of_lookup h
  obtain ⟨⟨n, k'⟩, hm, he⟩ := List.mem_map.mp this
  dsimp only at he
  by_cases hc : (k' == .free && sc.kind == .function && sc.names.lookup n == some .cell) = true
  · rw [if_pos hc] at he; cases he
    rw [Bool.and_eq_true, Bool.and_eq_true] at hc
    exact ⟨_, hm, .inr (eq_of_beq hc.1.1)⟩
  · rw [if_neg hc] at he; cases he
    exact ⟨_, hm, .inl rfl⟩
theorem compEnv_ok {scope : Scope} {env : Env} {cl : List (Str × Addr)} {L : Addr} {h h' : Heap} (E : EnvOk env h) (hk : scope.kind = .function) (ok : okScope scope env.scope = true)
    (h1 : ∀ x c, cl.lookup x = some c → env.cells.lookup x = some c) (h2 : ∀ p ∈ scope.names, p.2 = .free → ∃ c, cl.lookup p.1 = some c) (hn : ∃ m, h'.Ns L m) (hL : h.objs.size ≤ L)
    (kp : ∀ b o, h.get? b = some o → h'.get? b = some o) : EnvOk (compEnvC scope cl L env) h' where
  kind := hk
  glob := E.glob
  blt := E.blt
  ns := hn
  cells := fun x c hx => by
    obtain ⟨_, v, o, ho, hd⟩ := E.cells x c (h1 x c hx)
    refine ⟨fun q => ?_, v, o, kp c o ho, hd⟩
    have q' : c = L := q
    subst q'
    exact Nat.not_lt.mpr hL (Heap.lt_size ho)
  inj := fun x y c hx hy => E.inj x y c (h1 x c hx) (h1 y c hy)
  has := fun x hx => by
    have key : ∀ kd, (compEnvC scope cl L env).kindOf x = some kd → (kd = .cell ∨ kd = .free) → (x, NameKind.free) ∈ scope.names := fun kd hkd hh => by
      obtain ⟨kd', hm, he⟩ := rel_lookup (scope := scope) (sc := env.scope) hkd
      rcases he with rfl | rfl
      · rcases hh with rfl | rfl
        · have := List.all_eq_true.mp ok _ hm
          simp at this
        · exact hm
      · exact hm
    rcases hx with hx | hx
    · exact h2 _ (key _ hx (.inl rfl)) rfl
    · exact h2 _ (key _ hx (.inr rfl)) rfl
end Mine
end C10
section C11
open PySem PySem.W PyProof.Rows
namespace Mine
set_option genInjectivity false in
structure CEnd (C : Cx) (P : Addr → Prop) (env : Env) (ρ : Lo) (σ : Sto) (s : Shared) (σ' : Sto) (s' : Shared) (D Cl : Addr) (acc : List PV) : Prop where
  step : Step C σ σ' noOwn s s'
  inv : Inv C (PP (fun b => P b ∨ b = Cl) σ') env ρ σ' s'.heap
  rd : Rd C.X (PP (fun b => P b ∨ b = Cl) σ') s'.heap (.ref D) (.list acc)
  lo : hsz s ≤ Cl
  dom : Cl ∉ dom σ'
  base : C.base ≤ Cl
  own : ¬ own env Cl
  ns : ∃ m, s'.heap.Ns Cl m
noncomputable def Capt (scope sc : Scope) (ρ : Lo) : Lo → Prop
  | [] => True
  | p :: r => (scope.names.lookup (Str.ofString p.1) = some .free ∧ ρ.lookup p.1 = some p.2) ∧ Capt scope sc ρ r
theorem Capt.get {scope sc ρ} : ∀ {ρc : Lo} {x d}, Capt scope sc ρ ρc → ρc.lookup x = some d → scope.names.lookup (Str.ofString x) = some .free ∧ ρ.lookup x = some d
  | [], _, _, _, h => by cases h
  | (y, e) :: r, x, d, hh, h => by
    by_cases hx : x = y
    · subst hx; rw [List.lookup_cons_self] at h; cases h; exact hh.1
    · rw [List.lookup_cons, beq_false_of_ne hx] at h; exact hh.2.get h
theorem rel_free {sc : Scope} : ∀ {names : List (Str × NameKind)} {x : Str}, names.lookup x = some .free →
    (names.map fun (n, k) => if (k == NameKind.free && sc.kind == .function && sc.names.lookup n == some .cell) then (n, NameKind.cell) else (n, k)).lookup x = some .cell ∨
    (names.map fun (n, k) => if (k == NameKind.free && sc.kind == .function && sc.names.lookup n == some .cell) then (n, NameKind.cell) else (n, k)).lookup x = some .free
  | [], _, h => by cases h
  | (n, kd) :: r, x, h => by
    by_cases hx : x = n
    · subst hx
      rw [List.lookup_cons_self] at h; cases h
      rw [List.map_cons]
      dsimp only
      split
      · exact .inl List.lookup_cons_self
      · exact .inr List.lookup_cons_self
    · rw [List.lookup_cons, beq_false_of_ne hx] at h
      rw [List.map_cons]
      dsimp only
      have ih := rel_free (sc := sc) (x := x) h
      split <;> (rw [List.lookup_cons, beq_false_of_ne hx]; exact ih)
theorem comp_core {C k sc A P env s ρ σ elt g gs scope pos pos'} {K : List PV → Sto → Prop} {use : Option (Value → Sem Unit)} {Q : Value → Shared → Prop} (he : env.scope = sc) (hr : Room A k) (I : Inv C P env ρ σ s.heap) (ρc : Lo) (hρ : Capt scope sc ρ ρc)
    (ok : okScope scope sc = true) (hk : scope.kind = .function) (hp : PlainC (g :: gs))
    (h : Ev C k sc ρ σ g.iter fun a σ₁ => ∃ xs, Iterable C k σ₁ a xs ∧ ∃ J : List PV → List PV → Lo → Sto → Prop, J xs [] ρc σ₁ ∧
      (∀ x r acc ρ σ, J (x :: r) acc ρ σ → Bind C k (rel scope sc) ρ σ g.target x ownL fun ρ' σ' => TrAll C k (rel scope sc) ρ' .And σ' g.ifs fun b σ₂ => if b then CompOk C k (rel scope sc) elt gs acc ρ' σ₂ (fun acc' ρ'' σ₃ => J r acc' ρ'' σ₃) else J r acc ρ' σ₂) ∧
      (∀ acc ρ σ, J [] acc ρ σ → K acc σ))
    (hQ : ∀ acc σ' s' D Cl, K acc σ' → CEnd C P env ρ σ s σ' s' D Cl acc → compPost (model C.prog C.w) A NoE use Q (.ref D) Cl (.ok .next) s') :
    wpAny (model C.prog C.w) A (comprehension (.ListComp elt (g :: gs) scope pos) scope env pos' (newList []) false (eval g.iter env) use) Q NoE s := by
  subst he
  have hfree : ∀ p ∈ scope.names, p.2 = .free → ∃ c, env.cells.lookup p.1 = some c := fun p hm hf => by
    have := List.all_eq_true.mp ok p hm
    rw [hf] at this
    simp only [Bool.and_eq_true, Bool.or_eq_true, bne_iff_ne, ne_eq, beq_iff_eq, not_true_eq_false, false_or] at this
    exact I.envOk.has _ this.2
  obtain ⟨cl, hcl, hcl1, hcl2⟩ := closure_ok hfree
  have hnames : ∀ x ∈ scope.names, x.2 = .local → scope.names.lookup x.1 = some .local := fun x hm hl => by
    have := List.all_eq_true.mp ok x hm
    rw [hl] at this
    simp only [Bool.and_eq_true, Bool.or_eq_true, bne_iff_ne, ne_eq, beq_iff_eq, not_true_eq_false, false_or] at this
    exact this.1.2
  have hcell : ∀ y ∈ scope.names, y.2 ≠ .cell := fun x hm hl => by
    have := List.all_eq_true.mp ok x hm
    rw [hl] at this
    simp at this
  refine wpAny_comprehension_free (gs := gs) rfl (hp g List.mem_cons_self |>.2 env) hcl hk hnames (ev_one h rfl hr I fun v₁ d₁ σ₁ s₁ hK₁ A₁ r₁ => ?_)
  obtain ⟨xs, hIt, J, hJ, turn, fin⟩ := hK₁
  have I₁ := I.after A₁
  refine hIt A _ s₁ v₁ _ _ hr I₁.hp r₁ fun o tk ti => ?_
  refine wpAny_newList ?_ (by simp [sizeLine])
  refine wpAny_newFunctionEnv hcell (by intro y hy; simp at hy) (fun h₁ hns hsb => ?_) hk
  dsimp only at hns hsb ⊢
  generalize hH2 : (s₁.heap.push o).push { cls := .type "list", data := .seq ([] : List Value).toArray } = H2 at hns hsb ⊢
  have hz2 : H2.objs.size = hsz s₁ + 2 := by rw [← hH2, Heap.size_push, Heap.size_push]
  have hzD : (s₁.heap.push o).objs.size = hsz s₁ + 1 := by rw [Heap.size_push]
  have hz3 : h₁.objs.size = hsz s₁ + 3 := by rw [hsb.1, Heap.size_push, hz2]
  have kp : ∀ b x, s₁.heap.get? b = some x → h₁.get? b = some x := fun b x e => hsb.extBut b x (by rw [hz2]; have := Heap.lt_size e; show b ≠ s₁.heap.objs.size + 2; (unfold Addr hsz at *; lia)) (Heap.get?_push_of_some _ (hH2 ▸ Heap.get?_push_of_some _ (Heap.get?_push_of_some _ e)))
  have eD : h₁.get? (hsz s₁ + 1) = some { cls := .type "list", data := .seq ([] : List Value).toArray } := by
    refine hsb.extBut _ _ (by rw [hz2]; (unfold Addr hsz at *; lia)) (Heap.get?_push_of_some _ ?_)
    rw [← hH2, ← hzD]; exact Heap.get?_push_size _ rfl
  have eI : ∀ x, (s₁.heap.push o).get? (hsz s₁) = some x → h₁.get? (hsz s₁) = some x := fun x e => hsb.extBut _ _ (by rw [hz2]; (unfold Addr hsz at *; lia)) (Heap.get?_push_of_some _ (hH2 ▸ Heap.get?_push_of_some _ e))
  have nI : ¬ own env (hsz s₁) := fun q => Nat.lt_irrefl _ (I₁.envOk.lt _ q)
  have fresh : ∀ i, hsz s₁ ≤ i → ¬ PP P σ₁ i ∧ i ∉ dom σ₁ ∧ ¬ own env i ∧ C.base ≤ i := fun i hi => ⟨fun q => Nat.not_lt.mpr hi (I₁.hp.plt _ q), fun q => Nat.not_lt.mpr hi (I₁.hp.lt _ q), fun q => Nat.not_lt.mpr hi (I₁.envOk.lt _ q), Nat.le_trans (C.low I₁.hp.gi) hi⟩
  let P₁ : Addr → Prop := fun b => PP P σ₁ b ∨ b = hsz s₁ ∨ b = hsz s₁ + 1 ∨ b = hsz s₁ + 2
  have g1 : Pass (PP P σ₁) s₁.heap P₁ h₁ := fun a x na e => ⟨kp a x e, fun q => q.elim na fun q => by have := Heap.lt_size e; rcases q with q | q | q <;> (unfold Addr hsz at *; lia)⟩
  have I₂ : Inv C P₁ env ρ σ₁ h₁ := by
    have V := I₁.grown kp (by rw [hz3]; show s₁.heap.objs.size ≤ s₁.heap.objs.size + 3; (unfold Addr hsz at *; lia))
    exact ⟨⟨V.hp.gi, I₁.hp.st.pass g1 (fun b _ x e => kp b x e), fun a ha => .inl (V.hp.ptb a ha), fun a ha => ⟨.inl (V.hp.pdom a ha).1, (V.hp.pdom a ha).2⟩, V.hp.nodup, fun a q => by
      rcases q with q | q | q | q
      · exact V.hp.plt a q
      all_goals (subst q; rw [hz3]; (unfold Addr hsz at *; lia))⟩, V.envOk, fun x d hx => let ⟨v, a, r⟩ := I₁.vars x d hx; ⟨v, a.keep (fun b x _ e => kp b x e), r.pass' g1⟩, fun a ha => ⟨.inl (V.pown a ha).1, (V.pown a ha).2⟩⟩
  let cenv := compEnvC scope cl (hsz s₁ + 2) env
  have hns' : h₁.Ns (hsz s₁ + 2) (fun x => List.lookup x (List.reverse [])) := by rw [← hz2]; exact hns
  have E' : EnvOk cenv h₁ := compEnv_ok I₁.envOk hk ok hcl1 hcl2 ⟨_, hns'⟩ (by show s₁.heap.objs.size ≤ _; (unfold Addr hsz at *; lia)) kp
  have ownC : ∀ a, own cenv a → a = hsz s₁ + 2 ∨ own env a := fun a q => by
    rcases q with q | ⟨x, hx⟩
    · exact .inl q
    · exact .inr (.inr ⟨x, hcl1 x a hx⟩)
  have Ic : Inv C P₁ cenv ρc σ₁ h₁ := by
    refine ⟨I₂.hp, E', fun x d hx => ?_, fun a ha => ?_⟩
    · obtain ⟨hf, hx'⟩ := hρ.get hx
      obtain ⟨v, hv, rv⟩ := I₂.vars x d hx'
      obtain ⟨c, hc⟩ := hcl2 _ (mem_of_lookup hf) rfl
      have hc' := hcl1 _ _ hc
      refine ⟨v, ?_, rv⟩
      have hkc : cenv.kindOf (Str.ofString x) = some .cell ∨ cenv.kindOf (Str.ofString x) = some .free := rel_free hf
      cases hv with
      | loc a n e =>
        exfalso
        have := List.all_eq_true.mp ok _ (mem_of_lookup hf)
        simp only [Bool.and_eq_true, Bool.or_eq_true, bne_iff_ne, ne_eq, beq_iff_eq, not_true_eq_false, false_or] at this
        have a' : env.scope.names.lookup (Str.ofString x) = some .local := a
        rw [a'] at this
        simp at this
      | cell a l c2 =>
        rw [hc'] at l; cases l
        exact .cell hkc hc c2
    · rcases ownC a ha with q | q
      · subst q
        exact ⟨.inr (.inr (.inr rfl)), (fresh _ (by (unfold Addr hsz at *; lia))).2.2.2, (fresh _ (by (unfold Addr hsz at *; lia))).2.1⟩
      · exact ⟨.inl (I₁.pown a q).1, (I₁.pown a q).2⟩
  have hno : ∀ i, hsz s₁ ≤ i → i ≠ hsz s₁ + 2 → ¬ own cenv i := fun i hi hne q => (ownC i q).elim hne (fresh i hi).2.2.1
  have c₁ : CSt C P₁ cenv (hsz s₁ + 1) ρc σ₁ [] { s₁ with heap := h₁, toks := tk } :=
    ⟨Ic, ⟨#[], ⟨_, eD⟩, .nil⟩, .inr (.inr (.inl rfl)), (fresh _ (by (unfold Addr hsz at *; lia))).2.2.2, (fresh _ (by (unfold Addr hsz at *; lia))).2.1, hno _ (by (unfold Addr hsz at *; lia)) (by (unfold Addr hsz at *; lia))⟩
  have t₁ : ItAt C A P₁ h₁ (hsz s₁) xs := by
    refine ti.pass (fun a x na e => ?_) eI (.inr (.inl rfl))
    have hlt : a < hsz s₁ := by
      have := Heap.lt_size e
      rw [Heap.size_push] at this
      have hne : a ≠ hsz s₁ := fun q => na (.inr q)
      (unfold Addr hsz at *; lia)
    have e' : h₁.get? a = some x := hsb.extBut a x (by rw [hz2]; (unfold Addr hsz at *; lia)) (Heap.get?_push_of_some _ (hH2 ▸ Heap.get?_push_of_some _ e))
    exact ⟨e', fun q => q.elim (fun q => na (.inl q)) fun q => by rcases q with q | q | q <;> (unfold Addr hsz at *; lia)⟩
  have S₁ : Step C σ₁ σ₁ (owD cenv (hsz s₁ + 1)) s₁ { s₁ with heap := h₁, toks := tk } := ⟨fun b x _ _ _ e => kp b x e, by show s₁.heap.objs.size ≤ h₁.objs.size; rw [hz3]; (unfold Addr hsz at *; lia), fun _ q => .inl q, rfl, rfl⟩
  have main : codeAny (model C.prog C.w) A (.compStart (.ListComp elt (g :: gs) scope pos) 0 (.ref (hsz s₁)) (.ref (hsz s₁ + 1)) cenv) (compPost (model C.prog C.w) A NoE use Q (.ref (hsz s₁ + 1)) (hsz s₁ + 2)) { s₁ with heap := h₁, toks := tk } := by
    refine compStart_go (gs := gs) rfl (hp g List.mem_cons_self).1 (comp_loop rfl hr hp (gens := g :: gs) (d := 0) rfl J hJ turn (K := fun acc ρ' σ' => K acc σ') fin c₁ t₁ ⟨.inr (.inl rfl), (fresh _ (Nat.le_refl _)).2.2.2, (fresh _ (Nat.le_refl _)).2.1, hno _ (Nat.le_refl _) (by (unfold Addr hsz at *; lia)), by (unfold Addr hsz at *; lia)⟩ (s₀ := s₁) (Nat.le_refl _) S₁ fun acc ρ' σ' s' hK S' c' => ?_) fun Q q => t₁.self q
    refine hQ acc σ' s' _ _ hK ?_
    have S'' : Step C σ₁ σ' noOwn s₁ s' := ⟨fun b x h1 h2 _ e => S'.kept b x h1 h2 (fun q => by
      have := Heap.lt_size e
      rcases q with q | q
      · have q' : b = s₁.heap.objs.size + 2 := q; (unfold Addr hsz at *; lia)
      · have q' : b = s₁.heap.objs.size + 1 := q; (unfold Addr hsz at *; lia)) e, S'.size, S'.new, S'.gens, S'.os⟩
    have dn : hsz s₁ + 2 ∉ dom σ' := fun q => by
      have := (c'.inv.pown (hsz s₁ + 2) (.inl rfl)).2.2; exact this q
    have less : ∀ a, PP (fun b => P b ∨ b = hsz s₁ + 2) σ' a → PP P₁ σ' a := fun a q => by
      rcases q with (q | q) | q
      · exact .inl (.inl (.inl q))
      · exact .inl (.inr (.inr (.inr q)))
      · exact .inr q
    have hsz1 : hsz s ≤ hsz s₁ := A₁.step.size
    refine ⟨A₁.step.trans S'', ?_, ?_, by show s.heap.objs.size ≤ _; have : s.heap.objs.size ≤ s₁.heap.objs.size := hsz1; show s.heap.objs.size ≤ s₁.heap.objs.size + 2; (unfold Addr hsz at *; lia), dn, (fresh _ (by (unfold Addr hsz at *; lia))).2.2.2, (fresh _ (by (unfold Addr hsz at *; lia))).2.2.1, c'.inv.envOk.ns⟩
    · -- the outer frame
      have gg := pass_step (S'.weak (own' := owD cenv (hsz s₁ + 1)) fun a q => q) (fun a q => by rcases q with q | q <;> (subst q; first | exact .inr (.inr (.inr rfl)) | exact .inr (.inr (.inl rfl)))) (P := P₁) (s := s₁) (σ := σ₁)
      have ko : ∀ b x, own env b → s₁.heap.get? b = some x → s'.heap.get? b = some x := fun b x hb e => S''.kept b x (I₁.pown b hb).2.2 (fun q => absurd (C.tbLow b q) (Nat.not_lt.mpr (I₁.pown b hb).2.1)) (fun q => q) e
      have pS : Pass (PP P σ₁) s₁.heap (PP (fun b => P b ∨ b = hsz s₁ + 2) σ') s'.heap := fun a x na e => by
        refine ⟨(pass_step S'' (fun _ q => q.elim) I₁.hp a x na e).1, fun q => ?_⟩
        rcases q with (q | q) | q
        · exact na (.inl q)
        · have := Heap.lt_size e; have q' : a = s₁.heap.objs.size + 2 := q; (unfold Addr hsz at *; lia)
        · rcases S'.new a q with z | z
          · exact na (.inr z)
          · exact absurd (Heap.lt_size e) (Nat.not_lt.mpr z)
      exact ⟨c'.inv.hp.weak less (fun a ha => .inl (.inl (I.hp.ptb a ha))) (fun a ha => .inr ha), I₁.envOk.keep ko, fun x d hx => let ⟨v, a, r⟩ := I₁.vars x d hx; ⟨v, a.keep ko, r.pass' pS⟩, fun a ha => ⟨.inl (.inl (I.pown a ha).1), (I.pown a ha).2.1, fun q => by
        rcases S'.new a q with z | z
        · exact (I₁.pown a ha).2.2 z
        · exact absurd (I₁.envOk.lt a ha) (Nat.not_lt.mpr z)⟩⟩
    · obtain ⟨vs, ⟨n, e⟩, r⟩ := c'.list
      refine .list (fun q => ?_) e (r.pass' (Pass.less less))
      rcases q with (q | q) | q
      · exact (fresh (hsz s₁ + 1) (by (unfold Addr hsz at *; lia))).1 (.inl q)
      · (unfold Addr hsz at *; lia)
      · exact c'.hD.2.2.1 q
  rw [hzD, hz2]
  exact main
end Mine
end C11
section C12
open PySem PySem.W PyProof.Rows
namespace Mine
theorem CEnd.after {C P env ρ σ s σ' s' D Cl acc} (e : CEnd C P env ρ σ s σ' s' D Cl acc) (I : Inv C P env ρ σ s.heap) {h' : Heap} (hs : Heap.SameBut Cl s'.heap h') {tk : Tok} :
    After C P σ s σ' { s' with heap := h', toks := tk } ∧ Inv C (PP P σ') env ρ σ' h' ∧ Rd C.X (PP P σ') h' (.ref D) (.list acc) := by
  have less : ∀ a, PP P σ' a → PP (fun b => P b ∨ b = Cl) σ' a := fun a q => q.elim (fun q => .inl (.inl q)) .inr
  have V := e.inv.moved hs.extBut (Nat.le_of_eq hs.1.symm) ⟨.inl (.inr rfl), e.base, e.dom, e.own⟩
  have V' := V.less less (fun a ha => .inl (I.hp.ptb a ha)) (fun a ha => .inr ha) (fun a ha => .inl (I.pown a ha).1)
  refine ⟨⟨⟨fun b o h1 h2 h3 x => hs.extBut b o (fun q => ?_) (e.step.kept b o h1 h2 h3 x), Nat.le_trans e.step.size (Nat.le_of_eq hs.1.symm), e.step.new, e.step.gens, e.step.os⟩, V'.hp⟩, V', ?_⟩
  · subst q; exact Nat.not_lt.mpr e.lo (Heap.lt_size x)
  · exact (e.rd.pass' (P' := PP (fun b => P b ∨ b = Cl) σ') (h' := h') fun a o na x => ⟨hs.extBut a o (fun q => na (q ▸ .inl (.inr rfl))) x, na⟩).pass' (Pass.less less)
noncomputable def Comp (C : Cx) (k : Nat) (sc : Scope) (ρc : Lo) (elt : Expr) (g : Comprehension) (gs : List Comprehension) (scope : Scope) (xs : List PV) (σ₁ : Sto) (K : List PV → Sto → Prop) : Prop :=
  ∃ J : List PV → List PV → Lo → Sto → Prop, J xs [] ρc σ₁ ∧
      (∀ x r acc ρ σ, J (x :: r) acc ρ σ → Bind C k (rel scope sc) ρ σ g.target x ownL fun ρ' σ' => TrAll C k (rel scope sc) ρ' .And σ' g.ifs fun b σ₂ => if b then CompOk C k (rel scope sc) elt gs acc ρ' σ₂ (fun acc' ρ'' σ₃ => J r acc' ρ'' σ₃) else J r acc ρ' σ₂) ∧
      (∀ acc ρ σ, J [] acc ρ σ → K acc σ)
theorem Ev.listComp {C k sc ρ σ elt g gs scope pos K} (ρc : Lo) (hρ : Capt scope sc ρ ρc) (ok : okScope scope sc = true) (hk : scope.kind = .function) (hp : PlainC (g :: gs))
    (h : Ev C k sc ρ σ g.iter fun a σ₁ => ∃ xs, Iterable C k σ₁ a xs ∧ Comp C k sc ρc elt g gs scope xs σ₁ fun acc σ' => K (.list acc) σ') :
    Ev C k sc ρ σ (.ListComp elt (g :: gs) scope pos) K := fun A P env s he hr I => by
  have ha : firstAsync (g :: gs) = false := by
    obtain ⟨t, i, fs, a⟩ := g
    have : a = 0 := (hp _ List.mem_cons_self).1
    subst this; rfl
  have hi : firstIter (g :: gs) env = eval g.iter env := by
    obtain ⟨t, i, fs, a⟩ := g
    have : a = 0 := (hp _ List.mem_cons_self).1
    subst this; rfl
  rw [arm_eval_ListComp]
  show wpAny _ _ (comprehension _ scope env (firstIterPos (g :: gs) pos) (newList []) (firstAsync (g :: gs)) (firstIter (g :: gs) env)) _ _ s
  rw [ha, hi]
  refine comp_core (K := fun acc σ' => K (.list acc) σ') he hr I ρc hρ ok hk hp h fun acc σ' s' D Cl hK e => ?_
  obtain ⟨m, hm⟩ := e.ns
  refine ⟨m, hm, fun h' hs => ?_⟩
  obtain ⟨hA, _, r⟩ := e.after I hs (tk := s'.toks)
  exact ⟨_, _, hK, hA, r⟩
theorem Ex1.assignComp {C k sc ρ σ x p elt g gs scope cpos pos K} (ρc : Lo) (hρ : Capt scope sc ρ ρc) (ok : okScope scope sc = true) (hk : scope.kind = .function) (hp : PlainC (g :: gs))
    (h : Ev C k sc ρ σ g.iter fun a σ₁ => ∃ xs, Iterable C k σ₁ a xs ∧ Comp C k sc ρc elt g gs scope xs σ₁ fun acc σ' => K .next ((x, .list acc) :: ρ) σ')
    (hx : sc.names.lookup (Str.ofString x) = some .local)
    (hs : ∀ env, env.scope = sc → swapsWith (.ListComp elt (g :: gs) scope cpos) (some (.Name (Str.ofString x) p)) pos.line env = pure true) :
    Ex1 C k sc ρ σ (.Assign [.Name (Str.ofString x) p] (.ListComp elt (g :: gs) scope cpos) pos) K := fun A P env s he hr I => by
  have ha : firstAsync (g :: gs) = false := by
    obtain ⟨t, i, fs, a⟩ := g
    have : a = 0 := (hp _ List.mem_cons_self).1
    subst this; rfl
  have hi : firstIter (g :: gs) env = eval g.iter env := by
    obtain ⟨t, i, fs, a⟩ := g
    have : a = 0 := (hp _ List.mem_cons_self).1
    subst this; rfl
  rw [exec_Assign_Name_used _ _ _ _ (hs env he)]
  refine wpAny_bind (wpAny_standAt (wpAny_bind ?_))
  rw [arm_evalThenUse_ListComp]
  show wpAny _ _ (comprehension _ scope env (firstIterPos (g :: gs) cpos) (newList []) (firstAsync (g :: gs)) (firstIter (g :: gs) env) (some _) >>= _) _ _ s
  rw [ha, hi]
  refine wpAny_bind (comp_core (K := fun acc σ' => K .next ((x, .list acc) :: ρ) σ') he hr I ρc hρ ok hk hp h fun acc σ' s' D Cl hK e => ?_)
  have less : ∀ a, PP P σ' a → PP (fun b => P b ∨ b = Cl) σ' a := fun a q => q.elim (fun q => .inl (.inl q)) .inr
  refine wpAny_assign_Name (inv_storeL he hx e.inv e.rd fun s'' hS I' => ?_)
  have hns : ∃ m, s''.heap.Ns Cl m := by
    obtain ⟨m, hm⟩ := e.ns
    refine ⟨m, hm.at fun o ho => hS.kept Cl o e.dom (fun q => absurd (C.tbLow _ q) (Nat.not_lt.mpr e.base)) (fun q => e.own (.inl q)) ho⟩
  obtain ⟨m, hm⟩ := hns
  refine ⟨m, hm, fun h' hb => ?_⟩
  have V := I'.moved hb.extBut (Nat.le_of_eq hb.1.symm) ⟨.inl (.inr rfl), e.base, e.dom, e.own⟩
  have V' := V.less less (fun a ha => .inl (I.hp.ptb a ha)) (fun a ha => .inr ha) (fun a ha => .inl (I.pown a ha).1)
  refine wpAny_pure (wpAny_pure ⟨.next, _, σ', hK, ⟨?_, V'⟩, .next⟩)
  have S := (e.step.weak (own' := own env) fun _ q => q.elim).trans (hS.weak fun a q => .inl q)
  exact ⟨fun b o h1 h2 h3 x => hb.extBut b o (fun q => by subst q; exact Nat.not_lt.mpr e.lo (Heap.lt_size x)) (S.kept b o h1 h2 h3 x), Nat.le_trans S.size (Nat.le_of_eq hb.1.symm), S.new, S.gens, S.os⟩
end Mine
end C12
section C13
open PySem PySem.W PyProof.Rows
namespace Mine
theorem bindL_other {kd : Str → Option NameKind} {n : Str} : ∀ {bs : List (Str × Value)} {m : Str → Option Value}, n ∉ bs.map (·.1) → bindL kd bs m n = m n
  | [], _, _ => rfl
  | (k, v) :: r, m, h => by
    rw [List.map_cons, List.mem_cons, not_or] at h
    unfold bindL
    rw [bindL_other h.2]
    split
    · exact if_neg h.1
    · rfl
theorem bindC_other {kd : Str → Option NameKind} {n : Str} : ∀ {bs : List (Str × Value)} {m : Str → Option Value}, n ∉ bs.map (·.1) → bindC kd bs m n = m n
  | [], _, _ => rfl
  | (k, v) :: r, m, h => by
    rw [List.map_cons, List.mem_cons, not_or] at h
    unfold bindC
    rw [bindC_other h.2]
    split
    · rfl
    · exact if_neg h.1
theorem bindL_get {kd : Str → Option NameKind} {n : Str} {v : Value} : ∀ {bs : List (Str × Value)} {m : Str → Option Value}, (bs.map (·.1)).Nodup → (n, v) ∈ bs → kd n = some .local → bindL kd bs m n = some v
  | (k, w) :: r, m, hn, h, hk => by
    rw [List.map_cons, List.nodup_cons] at hn
    unfold bindL
    rcases List.mem_cons.mp h with e | h
    · cases e
      rw [bindL_other hn.1, if_pos hk]; exact if_pos rfl
    · exact bindL_get hn.2 h hk
theorem bindC_get {kd : Str → Option NameKind} {n : Str} {v : Value} : ∀ {bs : List (Str × Value)} {m : Str → Option Value}, (bs.map (·.1)).Nodup → (n, v) ∈ bs → kd n = some .cell → bindC kd bs m n = some v
  | (k, w) :: r, m, hn, h, hk => by
    rw [List.map_cons, List.nodup_cons] at hn
    unfold bindC
    rcases List.mem_cons.mp h with e | h
    · cases e
      rw [bindC_other hn.1, if_neg (by rw [hk]; decide)]; exact if_pos rfl
    · exact bindC_get hn.2 h hk
theorem cellsFrom_acc {x : Str} {c : Addr} : ∀ {names : List (Str × NameKind)} {n : Nat} {acc : List (Str × Addr)}, (x, c) ∈ acc → (x, c) ∈ cellsFrom n names acc
  | [], _, _, h => h
  | (y, kd) :: r, n, acc, h => by
    unfold cellsFrom
    split
    · exact cellsFrom_acc (List.mem_cons_of_mem _ h)
    · exact cellsFrom_acc h
theorem cellsFrom_has {x : Str} : ∀ {names : List (Str × NameKind)} {n : Nat} {acc : List (Str × Addr)}, (x, NameKind.cell) ∈ names → ∃ c, (x, c) ∈ cellsFrom n names acc
  | (y, kd) :: r, n, acc, h => by
    unfold cellsFrom
    rcases List.mem_cons.mp h with e | h
    · cases e
      exact ⟨n, by rw [if_pos (show (NameKind.cell == NameKind.cell) = true from rfl)]; exact cellsFrom_acc List.mem_cons_self⟩
    · split <;> exact cellsFrom_has h
theorem nodup_names : ∀ {l : List String}, l.Nodup → (l.map Str.ofString).Nodup
  | [], _ => List.nodup_nil
  | x :: r, h => by
    rw [List.nodup_cons] at h
    rw [List.map_cons, List.nodup_cons]
    exact ⟨fun q => by obtain ⟨y, hy, e⟩ := List.mem_map.mp q; exact h.1 (ofString_inj e ▸ hy), nodup_names h.2⟩
noncomputable def FnAt (C : Cx) (a : Addr) (names : List String) (scope : Scope) (body : List Stmt) : Prop :=
  ∀ h, C.gi h → ∃ o fd, h.get? a = some o ∧ o.data = .func fd ∧ h.CodeRec fd.code fd.qualname ∧ fd.body = .stmts body ∧ fd.scope = scope ∧ fd.closure = [] ∧ fd.globals = mainGlobals ∧ fd.builtins = builtinsNs ∧
    ∀ vals : List Value, vals.length = names.length → bindArgs fd ⟨vals, []⟩ = pure ((names.map Str.ofString).zip vals)
theorem FnAt.callable {C a names scope body} (F : FnAt C a names scope body) : Callable C (.ref a) := fun h g => by
  obtain ⟨o, fd, ho, hd, _⟩ := F h g
  refine ⟨.frame, .inl rfl, fun M => (Looks.ld (part := none) ho).andThen ?_⟩
  rw [hd]; exact Looks.now
noncomputable def okFn (names : List String) (scope : Scope) : Bool :=
  (scope.names.all fun p => p.2 != .free) && (names.all fun n => scope.names.lookup (Str.ofString n) == some .local || scope.names.lookup (Str.ofString n) == some .cell) && decide names.Nodup && !scope.isCoroutine && !scope.isGenerator && scope.kind == .function
theorem zip_rd {X P h} : ∀ {names : List String} {vs : List Value} {ds : List PV} {x d}, RdL X P h vs ds → (names.zip ds).lookup x = some d → ∃ v, (Str.ofString x, v) ∈ (names.map Str.ofString).zip vs ∧ Rd X P h v d
  | [], _, _, _, _, _, h => by cases h
  | n :: ns, _, _, _, _, .nil, h => by cases h
  | n :: ns, _, _, x, d, .cons (v := v) (vs := vs) (d := d₁) (ds := ds) r rs, h => by
    rw [List.zip_cons_cons] at h
    by_cases e : x = n
    · subst e
      rw [List.lookup_cons_self] at h; cases h
      exact ⟨v, by rw [List.map_cons, List.zip_cons_cons]; exact List.mem_cons_self, r⟩
    · rw [List.lookup_cons, beq_false_of_ne e] at h
      obtain ⟨w, hw, rw'⟩ := zip_rd rs h
      exact ⟨w, by rw [List.map_cons, List.zip_cons_cons]; exact List.mem_cons_of_mem _ hw, rw'⟩
theorem Fn.call {C k a names scope body σ ds K} (F : FnAt C a names scope body) (ok : okFn names scope = true) (hl : ds.length = names.length)
    (h : Ex C k scope (names.zip ds) σ body fun g _ σ' => match g with | .ret d => K d σ' | .next => K .none σ' | _ => False) :
    OpL C (k + 1) σ ds (fun vs => PySem.call (.ref a) vs) K := fun A P s vs hr H r => by
  obtain ⟨o, fd, ho, hd, hcd, hbody, hsc, hclo, hgl, hbl, hbind⟩ := F s.heap H.gi
  simp only [okFn, Bool.and_eq_true] at ok
  obtain ⟨⟨⟨⟨⟨ok1, ok2⟩, ok3⟩, ok4⟩, ok5⟩, ok6⟩ := ok
  have ok3 : names.Nodup := of_decide_eq_true ok3
  have ok6 : scope.kind = .function := eq_of_beq ok6
  subst hsc
  have hlv : vs.length = names.length := r.length.trans hl
  have hnd : (((names.map Str.ofString).zip vs).map (·.1)).Nodup := by
    rw [List.map_fst_zip (by simp [hlv])]
    exact nodup_names ok3
  have hin : ∀ x ∈ (names.map Str.ofString).zip vs, fd.scope.names.lookup x.1 = some .local ∨ fd.scope.names.lookup x.1 = some .cell := fun x hx => by
    have := (List.of_mem_zip hx).1
    obtain ⟨n, hn, e⟩ := List.mem_map.mp this
    have := List.all_eq_true.mp ok2 n hn
    rw [Bool.or_eq_true, beq_iff_eq, beq_iff_eq] at this
    rw [← e]; exact this
  refine wpAny_call (codeAny_call_cells hr.limit ho hd (C.nolimit H.gi) hcd hbody (hbind vs hlv) hclo (fun x hx => ?_) (fun s₁ hin₁ => ?_) (by simpa using ok4) (by simpa using ok5) ok6)
  · rcases hin x hx with q | q
    · exact .inl q
    · refine .inr ⟨q, ?_⟩
      obtain ⟨c, hc⟩ := cellsFrom_has (n := s.heap.objs.size + 1) (acc := []) (Mine.mem_of_lookup q)
      obtain ⟨d, hd⟩ := Mine.lookup_of_mem hc
      rw [hd]; rfl
  · generalize henv : callEnvC fd s.heap.objs.size a = env at hin₁ ⊢
    have hloc : env.locals = s.heap.objs.size := by rw [← henv]; rfl
    have hscp : env.scope = fd.scope := by rw [← henv]; rfl
    have hcells : env.cells = cellsFrom (s.heap.objs.size + 1) fd.scope.names [] := by rw [← henv]; rfl
    have hkd : env.kindOf = fun n => fd.scope.names.lookup n := by funext n; unfold Env.kindOf; rw [hscp]
    obtain ⟨h', tk, hs₁, kp⟩ := hin₁.done
    subst hs₁
    have ns := hin₁.toInCall.ns
    have cellAt : ∀ x c, env.cells.lookup x = some c → s.heap.objs.size < c := fun x c hx => hloc ▸ hin₁.above x c (Mine.mem_of_lookup hx)
    have ownF : ∀ b, own env b → s.heap.objs.size ≤ b := fun b q => by
      rcases q with q | ⟨x, hx⟩
      · rw [q, hloc]; exact Nat.le_refl _
      · exact Nat.le_of_lt (cellAt x b hx)
    have hsz1 : s.heap.objs.size ≤ h'.objs.size := by have := ns.lt; rw [hloc] at this; exact Nat.le_of_lt this
    have E : EnvOk env h' := by
      refine ⟨by rw [hscp]; exact ok6, by rw [← henv]; exact hgl, by rw [← henv]; exact hbl, ⟨_, ns⟩, fun x c hx => ⟨fun q => ?_, _, hin₁.cell x c hx⟩, fun x y c hx hy => ?_, fun x hx => ?_⟩
      · have := cellAt x c hx
        rw [q, hloc] at this
        exact Nat.lt_irrefl _ this
      · exact name_of_addr hin₁.apart (Mine.mem_of_lookup hx) (Mine.mem_of_lookup hy)
      · rw [hkd] at hx
        rcases hx with hx | hx
        · rw [hcells]
          obtain ⟨c, hc⟩ := cellsFrom_has (n := s.heap.objs.size + 1) (acc := []) (Mine.mem_of_lookup hx)
          exact Mine.lookup_of_mem hc
        · have := List.all_eq_true.mp ok1 _ (Mine.mem_of_lookup hx)
          simp at this
    have g : Pass P s.heap (fun b => P b ∨ own env b) h' := fun b x na e => ⟨kp b x e, fun q => q.elim na fun q => absurd (Heap.lt_size e) (Nat.not_lt.mpr (ownF b q))⟩
    have I : Inv C (fun b => P b ∨ own env b) env (names.zip ds) σ h' := by
      refine ⟨⟨C.keep H.gi (fun b x _ e => kp b x e) hsz1, H.st.pass g (fun b _ x e => kp b x e), fun b hb => .inl (H.ptb b hb), fun b hb => ⟨.inl (H.pdom b hb).1, (H.pdom b hb).2⟩, H.nodup, fun b q => q.elim (fun q => Nat.lt_of_lt_of_le (H.plt b q) hsz1) fun q => E.lt b q⟩, E, fun x d hx => ?_, fun b q => ⟨.inr q, Nat.le_trans (C.low H.gi) (ownF b q), fun hd => absurd (H.lt b hd) (Nat.not_lt.mpr (ownF b q))⟩⟩
      obtain ⟨v, hm, rv⟩ := zip_rd r hx
      refine ⟨v, ?_, rv.pass' g⟩
      rcases hin _ hm with q | q
      · have q' : env.kindOf (Str.ofString x) = some .local := by rw [hkd]; exact q
        exact .loc q' ns (bindL_get hnd hm q')
      · have q' : env.kindOf (Str.ofString x) = some .cell := by rw [hkd]; exact q
        obtain ⟨c, hc⟩ := E.has _ (.inl q')
        exact .cell (.inl q') hc (bindC_get hnd hm q' ▸ hin₁.cell _ c hc)
    refine wpAny_mono (h (A.deeper env) _ env _ hscp (hr.deeper env) I) (fun f s' o => ?_) fun _ _ x => x.elim
    obtain ⟨fl, ρ', σ', hK, hA, hf⟩ := o
    have S : Step C σ σ' noOwn s s' := ⟨fun b x h1 h2 _ e => hA.step.kept b x h1 h2 (fun q => absurd (Heap.lt_size e) (Nat.not_lt.mpr (ownF b q))) (kp b x e), Nat.le_trans hsz1 hA.step.size, fun b hb => (hA.step.new b hb).elim .inl fun q => .inr (Nat.le_trans hsz1 q), hA.step.gens, hA.step.os⟩
    have less : ∀ b, PP P σ' b → PP (fun b => P b ∨ own env b) σ' b := fun b q => q.elim (fun q => .inl (.inl q)) .inr
    have Af : After C P σ s σ' s' := ⟨S, hA.inv.hp.weak less (fun b hb => .inl (H.ptb b hb)) (fun b hb => .inr hb)⟩
    cases hf with
    | next => exact ⟨_, _, hK, Af, .none⟩
    | brk => exact hK.elim
    | cont => exact hK.elim
    | ret rv => exact ⟨_, _, hK, Af, rv.pass' (Pass.less less)⟩
end Mine
end C13
section C14
open PySem PySem.W PyProof.Rows
namespace Mine
theorem dom_sub {σ σ' : Sto} (h : σ'.Sublist σ) : (dom σ').Sublist (dom σ) := by
  induction h with
  | slnil => exact .slnil
  | cons a _ ih => exact .cons _ (ih.trans (List.sublist_append_right _ _))
  | cons_cons a _ ih => exact (((List.Sublist.refl _).append ih)).cons_cons _
theorem PP_sub {P : Addr → Prop} {σ σ' : Sto} (h : σ'.Sublist σ) : ∀ a, PP P σ' a → PP P σ a := fun a q => q.elim .inl fun q => .inr ((dom_sub h).subset q)
theorem After.drop {C P σ s σ' σ'' s'} (H : Hp C P σ s.heap) (h : After C P σ s σ' s') (e : σ''.Sublist σ') : After C P σ s σ'' s' :=
  ⟨⟨h.step.kept, h.step.size, fun a ha => h.step.new a ((dom_sub e).subset ha), h.step.gens, h.step.os⟩,
   ⟨h.hp.gi, fun a ao hm => (h.hp.st a ao (e.subset hm)).pass (Pass.less (PP_sub e)) (fun _ _ _ x => x), fun a ha => .inl (H.ptb a ha), fun a ha => ⟨.inr ha, (h.hp.pdom a ((dom_sub e).subset ha)).2⟩, h.hp.nodup.sublist (dom_sub e), fun a q => h.hp.plt a (PP_sub e a q)⟩⟩
theorem Out.freeze {C P σ s K v s'} (H : Hp C P σ s.heap) (o : Out C P σ s (fun d σ' => ∃ a xs σ'', d = .raw (.ref a) ∧ (a, AO.mlist xs) ∈ σ' ∧ σ''.Sublist σ' ∧ a ∉ dom σ'' ∧ a ∉ dom σ ∧ K (.list xs) σ'') v s') : Out C P σ s K v s' := by
  obtain ⟨d, σ', ⟨a, xs, σ'', rfl, hm, hs, hn, hn', hK⟩, A, r⟩ := o
  obtain rfl := r.rawE
  have A' := A.drop H hs
  obtain ⟨vs, n, e, rl⟩ := A.hp.st _ _ hm
  refine ⟨_, σ'', hK, A', .list (fun q => q.elim (fun q => ?_) hn) e (rl.pass' (Pass.less (PP_sub hs)))⟩
  rcases A.step.new a (mem_dom hm a (.inl rfl)) with z | z
  · exact hn' z
  · exact Nat.not_lt.mpr z (H.plt a q)
theorem OpL.freeze {C k σ ds f K} (h : OpL C k σ ds f fun d σ' => ∃ a xs σ'', d = .raw (.ref a) ∧ (a, AO.mlist xs) ∈ σ' ∧ σ''.Sublist σ' ∧ a ∉ dom σ'' ∧ a ∉ dom σ ∧ K (.list xs) σ'') : OpL C k σ ds f K := fun A P s vs hr H r =>
  wpAny_mono (h A P s vs hr H r) (fun v s' o => Out.freeze H o) fun _ _ x => x
theorem OpL.drop {C k σ ds f K} (h : OpL C k σ ds f fun d σ' => ∃ σ'', σ''.Sublist σ' ∧ K d σ'') : OpL C k σ ds f K := fun A P s vs hr H r =>
  wpAny_mono (h A P s vs hr H r) (fun v s' o => let ⟨d, σ', ⟨σ'', hs, hK⟩, A', r'⟩ := o; ⟨d, σ'', hK, A'.drop H hs, r'.pass' (Pass.less (PP_sub hs))⟩) fun _ _ x => x
section
variable {C : Cx} {k : Nat} {σ : Sto} {a b : Int} {K : PV → Sto → Prop}
theorem Op2.add (h : K (.int (a + b)) σ) : Op2 C k σ (.int a) (.int b) (binaryOp .Add) K := fun A P s v w hr H r₁ r₂ => by
  obtain ⟨_, rfl⟩ := r₁.intE; obtain ⟨_, rfl⟩ := r₂.intE; exact PyProof.Rows.add_int (Out.here H (.int _ _) h)
theorem Op2.sub (h : K (.int (a - b)) σ) : Op2 C k σ (.int a) (.int b) (binaryOp .Sub) K := fun A P s v w hr H r₁ r₂ => by
  obtain ⟨_, rfl⟩ := r₁.intE; obtain ⟨_, rfl⟩ := r₂.intE; exact PyProof.Rows.sub_int (Out.here H (.int _ _) h)
theorem Op2.mod (hb : 0 < b) (h : K (.int (a % b)) σ) : Op2 C k σ (.int a) (.int b) (binaryOp .Mod) K := fun A P s v w hr H r₁ r₂ => by
  obtain ⟨_, rfl⟩ := r₁.intE; obtain ⟨_, rfl⟩ := r₂.intE
  exact PyProof.Rows.mod_int' (by omega) (by rw [Int.fmod_eq_emod_of_nonneg _ (Int.le_of_lt hb)]; exact Out.here H (.int _ _) h)
theorem Op2.div (hb : 0 < b) (h : K (.int (a / b)) σ) (hp : Builtin.divisionGoesByPylong a b = false) : Op2 C k σ (.int a) (.int b) (binaryOp .FloorDiv) K := fun A P s v w hr H r₁ r₂ => by
  obtain ⟨_, rfl⟩ := r₁.intE; obtain ⟨_, rfl⟩ := r₂.intE
  exact PyProof.Rows.floordiv_int (by omega) (by rw [Int.fdiv_eq_ediv_of_nonneg _ (Int.le_of_lt hb)]; exact Out.here H (.int _ _) h) (.inl hp)
theorem Op2.pow (hb : 0 ≤ b) (hsz : (Builtin.Int.intBits a : Int) * b ≤ 2 ^ 27) (h : K (.int (a ^ b.toNat)) σ) : Op2 C k σ (.int a) (.int b) (binaryOp .Pow) K := fun A P s v w hr H r₁ r₂ => by
  obtain ⟨_, rfl⟩ := r₁.intE; obtain ⟨_, rfl⟩ := r₂.intE; exact PyProof.Rows.pow_int hb hsz (Out.here H (.int _ _) h)
theorem Op1.neg (h : K (.int (-a)) σ) : Op1 C k σ (.int a) (unaryOp .USub) K := fun A P s v hr H r => by
  obtain ⟨_, rfl⟩ := r.intE; exact PyProof.Rows.neg_int (Out.here H (.int _ _) h)
theorem Op2.lt (h : K (.bool (decide (a < b))) σ) : Op2 C k σ (.int a) (.int b) (compareOp .Lt) K := fun A P s v w hr H r₁ r₂ => by
  obtain ⟨_, rfl⟩ := r₁.intE; obtain ⟨_, rfl⟩ := r₂.intE; exact PyProof.Rows.lt_int (Out.here' H (.bool _) h)
theorem Op2.gt (h : K (.bool (decide (b < a))) σ) : Op2 C k σ (.int a) (.int b) (compareOp .Gt) K := fun A P s v w hr H r₁ r₂ => by
  obtain ⟨_, rfl⟩ := r₁.intE; obtain ⟨_, rfl⟩ := r₂.intE; exact PyProof.Rows.gt_int (Out.here' H (.bool _) h)
theorem Op2.le (h : K (.bool (decide (a ≤ b))) σ) : Op2 C k σ (.int a) (.int b) (compareOp .LtE) K := fun A P s v w hr H r₁ r₂ => by
  obtain ⟨_, rfl⟩ := r₁.intE; obtain ⟨_, rfl⟩ := r₂.intE; exact PyProof.Rows.le_int (Out.here' H (.bool _) h)
theorem Op2.eqi (h : K (.bool (a == b)) σ) : Op2 C k σ (.int a) (.int b) (compareOp .Eq) K := fun A P s v w hr H r₁ r₂ => by
  obtain ⟨_, rfl⟩ := r₁.intE; obtain ⟨_, rfl⟩ := r₂.intE; exact PyProof.Rows.eq_int (Out.here' H (.bool _) h)
end
section
variable {C : Cx} {k : Nat} {σ : Sto} {K : Bool → Sto → Prop}
theorem OutB.toks {P s b n} (H : Hp C P σ s.heap) (hK : K b σ) : OutB C P σ s K b { s with toks := n } := ⟨σ, hK, After.toks H⟩
theorem OpB.bool {b} (h : K b σ) : OpB C k σ (.bool b) truthy K := fun A P s v hr H r => by cases r; exact wpAny_truthy_bool (OutB.here H h)
theorem OpB.int {a : Int} (h : K (a != 0) σ) : OpB C k σ (.int a) truthy K := fun A P s v hr H r => by obtain ⟨_, rfl⟩ := r.intE; exact PyProof.Rows.truthy_int (OutB.here H h)
theorem OpB.str {x : List Nat} (hx : x.length < 2 ^ 60) (h : K (!x.isEmpty) σ) : OpB C k σ (.str x) truthy K := fun A P s v hr H r => by
  cases r with | str y t =>
  have hf : ¬ ((y.length : Int) ≥ 2 ^ 63) := by
    have : y.cps.size < 2 ^ 60 := by simpa using hx
    show ¬ ((y.cps.size : Int) ≥ _)
    omega
  refine PySem.P.truthy_str hf ?_
  have : ((y.length : Int) != 0) = !y.cps.toList.isEmpty := by
    show ((y.cps.size : Int) != 0) = _
    cases hh : y.cps.toList with
    | nil => have : y.cps.size = 0 := by rw [← Array.length_toList, hh]; rfl
             rw [this]; rfl
    | cons a r => have : y.cps.size = r.length + 1 := by rw [← Array.length_toList, hh]; rfl
                  rw [this]; simp only [bne_iff_ne, ne_eq, List.isEmpty_cons, Bool.not_false]; omega
  rw [this]; exact OutB.toks H h
end
end Mine
end C14
section C15
open PySem PySem.W PyProof.Rows
namespace Mine
noncomputable def strL (x : List Nat) : Str := ⟨x.toArray⟩
mutual
noncomputable def toP : PV → PyData
  | .none => .none
  | .bool b => .bool b
  | .int i => .int i
  | .str x => .str (strL x)
  | .list xs => .list (toPL xs)
  | .tuple xs => .tuple (toPL xs)
  | _ => .none
noncomputable def toPL : List PV → List PyData
  | [] => []
  | x :: r => toP x :: toPL r
end
mutual
noncomputable def pl : Nat → PV → Bool
  | _, .none | _, .bool _ | _, .int _ => true
  | _, .str x => x.all (· < 0x110000)
  | n + 1, .list xs | n + 1, .tuple xs => plL n xs
  | _, _ => false
noncomputable def plL : Nat → List PV → Bool
  | _, [] => true
  | n, x :: r => pl n x && plL n r
end
theorem strL_toList (x : Str) : strL x.cps.toList = x := by cases x; simp [strL]
mutual
theorem rd_reads {X P h} : ∀ {n : Nat} {v : Value} {d : PV}, Rd X P h v d → pl n d = true → ∃ as, Reads h v (toP d) as
  | _, _, _, .none, _ => by rw [toP]; exact ⟨_, .none⟩
  | _, _, _, .bool b, _ => by rw [toP]; exact ⟨_, .bool b⟩
  | _, _, _, .int i t, _ => by rw [toP]; exact ⟨_, .int i t⟩
  | _, _, _, .str x t, _ => by rw [toP, strL_toList]; exact ⟨_, .str x t⟩
  | n + 1, _, _, .list a e r, hp => by
    rw [pl] at hp
    obtain ⟨as, q⟩ := rdL_reads (n := n) r hp
    rw [toP]; exact ⟨_, .list e rfl rfl q⟩
  | n + 1, _, _, .tuple a e r, hp => by
    rw [pl] at hp
    obtain ⟨as, q⟩ := rdL_reads (n := n) r hp
    rw [toP]; exact ⟨_, .tuple e rfl rfl q⟩
  | 0, _, _, .list a e r, hp => by simp [pl] at hp
  | 0, _, _, .tuple a e r, hp => by simp [pl] at hp
  | _, _, _, .raw _, h => by simp [pl] at h
  | _, _, _, .ext _, h => by simp [pl] at h
  | _, _, _, .slice _ _ _ _ _, h => by simp [pl] at h
  | _, _, _, .range _ _, h => by simp [pl] at h
theorem rdL_reads {X P h} : ∀ {n : Nat} {vs : List Value} {ds : List PV}, RdL X P h vs ds → plL n ds = true → ∃ as, ReadsAll h vs (toPL ds) as
  | _, _, _, .nil, _ => by rw [toPL]; exact ⟨_, .nil⟩
  | n, _, _, .cons a r, hp => by
    rw [plL, Bool.and_eq_true] at hp
    obtain ⟨as, q⟩ := rd_reads a hp.1
    obtain ⟨bs, q'⟩ := rdL_reads r hp.2
    rw [toPL]; exact ⟨_, .cons q q'⟩
end
mutual
theorem pl_can : ∀ {n : Nat} {d : PV}, pl n d = true → (toP d).canLay0 = true ∧ (toP d).depth ≤ n
  | _, .none, _ => by rw [toP]; simp [PyData.canLay0, PyData.depth]
  | _, .bool _, _ => by rw [toP]; simp [PyData.canLay0, PyData.depth]
  | _, .int _, _ => by rw [toP]; simp [PyData.canLay0, PyData.depth]
  | _, .str x, h => by rw [toP]; rw [pl] at h; simp only [PyData.canLay0, PyData.depth, PyData.strOk, strL]; exact ⟨by simpa using h, Nat.zero_le _⟩
  | n + 1, .list xs, h => by
    rw [pl] at h; rw [toP]
    obtain ⟨a, b⟩ := plL_can (n := n) (ds := xs) h
    simp only [PyData.canLay0, PyData.depth]; exact ⟨a, Nat.succ_le_succ b⟩
  | n + 1, .tuple xs, h => by
    rw [pl] at h; rw [toP]
    obtain ⟨a, b⟩ := plL_can (n := n) (ds := xs) h
    simp only [PyData.canLay0, PyData.depth]; exact ⟨a, Nat.succ_le_succ b⟩
  | 0, .list xs, h => by simp [pl] at h
  | 0, .tuple xs, h => by simp [pl] at h
  | _, .raw _, h => by simp [pl] at h
  | _, .ext _ _, h => by simp [pl] at h
  | _, .slice _ _ _, h => by simp [pl] at h
  | _, .range _ _ _, h => by simp [pl] at h
theorem plL_can : ∀ {n : Nat} {ds : List PV}, plL n ds = true → PyData.canLayAll0 (toPL ds) = true ∧ PyData.depthAll (toPL ds) ≤ n
  | _, [], _ => by rw [toPL]; simp [PyData.canLayAll0, PyData.depthAll]
  | n, d :: r, h => by
    rw [plL, Bool.and_eq_true] at h
    obtain ⟨a, b⟩ := pl_can h.1
    obtain ⟨a', b'⟩ := plL_can h.2
    rw [toPL]; simp only [PyData.canLayAll0, PyData.depthAll, a, a']; exact ⟨rfl, Nat.max_le.mpr ⟨b, b'⟩⟩
end
noncomputable def peq (a b : PV) : Bool := PyData.eqv (toP a) (toP b)
noncomputable def peqL (a b : List PV) : Bool := PyData.eqvAll (toPL a) (toPL b)
theorem Op2.eq {C k σ a b K} (ha : pl 60 a = true) (hb : pl 60 b = true) (h : K (.bool (peq a b)) σ) : Op2 C k σ a b (compareOp .Eq) K := fun A P s v w hr H r₁ r₂ => by
  obtain ⟨_, q₁⟩ := rd_reads r₁ ha
  obtain ⟨_, q₂⟩ := rd_reads r₂ hb
  have c₁ := pl_can ha; have c₂ := pl_can hb
  exact SeqAt.compareEq_shaped q₁ q₂ (by unfold SeqAt.shaped; rw [c₁.1]; simp; lia) (by unfold SeqAt.shaped; rw [c₂.1]; simp; lia) (by have := hr.units; show A.units + 64 < 9900; lia) (Out.here' H (.bool _) h)
theorem Op2.ne {C k σ a b K} (ha : pl 60 a = true) (hb : pl 60 b = true) (h : K (.bool (!peq a b)) σ) : Op2 C k σ a b (compareOp .NotEq) K := fun A P s v w hr H r₁ r₂ => by
  obtain ⟨_, q₁⟩ := rd_reads r₁ ha
  obtain ⟨_, q₂⟩ := rd_reads r₂ hb
  have c₁ := pl_can ha; have c₂ := pl_can hb
  exact SeqAt.compareNe_shaped q₁ q₂ (by unfold SeqAt.shaped; rw [c₁.1]; simp; lia) (by unfold SeqAt.shaped; rw [c₂.1]; simp; lia) (by have := hr.units; show A.units + 64 < 9900; lia) (Out.here' H (.bool _) h)
theorem Op2.ne_l {C k σ a b xs ys K} (hl : LRead C σ a xs) (hl' : LRead C σ b ys) (ha : plL 59 xs = true) (hb : plL 59 ys = true) (h : K (.bool (!peqL xs ys)) σ) : Op2 C k σ a b (compareOp .NotEq) K := fun A P s v w hr H r₁ r₂ => by
  obtain ⟨a₁, vs, n, rfl, e, r⟩ := hl P s v H r₁
  obtain ⟨a₂, vs', n', rfl, e', r'⟩ := hl' P s w H r₂
  obtain ⟨_, q₁⟩ := rdL_reads r ha
  obtain ⟨_, q₂⟩ := rdL_reads r' hb
  have c₁ := plL_can ha; have c₂ := plL_can hb
  have d1 : ∀ l, (PyData.list l).depth = PyData.depthAll l + 1 := fun l => rfl
  exact SeqAt.compareNe_shaped (.list e rfl rfl q₁) (.list e' rfl rfl q₂) (by unfold SeqAt.shaped; rw [d1]; have : (PyData.list (toPL xs)).canLay0 = true := c₁.1; rw [this]; simp; lia) (by unfold SeqAt.shaped; rw [d1]; have : (PyData.list (toPL ys)).canLay0 = true := c₂.1; rw [this]; simp; lia) (by have := hr.units; show A.units + 64 < 9900; lia) (Out.here' H (.bool _) h)
noncomputable def datOf (h : Heap) (y : Value) : PyData := by
  classical
  exact if q : ∃ e as, e.canLay0 = true ∧ Reads h y e as then q.choose else .none
theorem datOf_eq {h : Heap} {y : Value} {e : PyData} {as} (r : Reads h y e as) (c : e.canLay0 = true) : datOf h y = e := by
  have q : ∃ e as, e.canLay0 = true ∧ Reads h y e as := ⟨e, as, c, r⟩
  unfold datOf
  rw [dif_pos q]
  obtain ⟨as', c', r'⟩ := q.choose_spec
  exact (PySem.Reads.unique r' _ _ r).1
theorem in_core {X : Ext} {k A P} {s : Shared} {d : PV} {w : Value} (hr : Room A k) (rx : Rd X P s.heap w d) (hb : pl 59 d = true) : ∀ {l : List Value} {xs : List PV}, RdL X P s.heap l xs → plL 59 xs = true →
    (∀ y, y ∈ l → SeqAt.EqAt A.in1 s y w (PyData.eqv (datOf s.heap y) (toP d))) ∧ (l.any fun y => PyData.eqv (datOf s.heap y) (toP d)) = xs.any fun y => peq y d
  | _, _, .nil, _ => ⟨fun y hy => (nomatch hy), rfl⟩
  | _, _, .cons (v := v) r rs, hp => by
    rw [plL, Bool.and_eq_true] at hp
    obtain ⟨_, q⟩ := rd_reads rx hb
    obtain ⟨_, q₁⟩ := rd_reads r hp.1
    have cb := pl_can hb
    have ca := pl_can hp.1
    have e := datOf_eq q₁ ca.1
    obtain ⟨h1, h2⟩ := in_core hr rx hb rs hp.2
    refine ⟨fun y hy => ?_, ?_⟩
    · rcases List.mem_cons.mp hy with rfl | hy
      · rw [e]; exact SeqAt.eqAt_reads _ _ _ _ _ _ _ _ q₁ q ca.1 cb.1 (by have := hr.units; show A.units + 1 + _ < 9900; lia)
      · exact h1 y hy
    · rw [List.any_cons, List.any_cons, h2, e]; rfl
theorem Op2.notIn {C k σ d a xs K} (hl : LRead C σ a xs) (ha : plL 59 xs = true) (hb : pl 59 d = true) (h : K (.bool (!xs.any fun y => peq y d)) σ) : Op2 C k σ d a (compareOp .NotIn) K := fun A P s v w hr H r₁ r₂ => by
  obtain ⟨a₁, vs, n, rfl, e, r⟩ := hl P s w H r₂
  obtain ⟨h1, h2⟩ := in_core hr r₁ hb r ha
  refine SeqAt.notIn_listAt _ (isList_of e) (fun y hy => h1 y (by simpa using hy)) ?_
  rw [← Array.any_toList, h2]; exact Out.here' H (.bool _) h
noncomputable def plainI : PV → Bool
  | .none | .bool _ => true
  | _ => false
noncomputable def pis : PV → PV → Bool
  | .none, .none => true
  | .bool a, .bool b => a == b
  | _, _ => false
theorem is_core {X P h} {v w : Value} {a b : PV} (r₁ : Rd X P h v a) (r₂ : Rd X P h w b) (hb : plainI b = true) (ha : ∀ x, a ≠ .raw x) (ha' : ∀ t x, a ≠ .ext t x) : PySem.plainIs v w = true ∧ (v == w) = pis a b := by
  cases r₂ <;> simp [plainI] at hb <;> cases r₁ <;> first | exact ⟨rfl, rfl⟩ | exact absurd rfl (ha _) | exact absurd rfl (ha' _ _) | skip
  rename_i b₂ b₁
  cases b₁ <;> cases b₂ <;> exact ⟨rfl, rfl⟩
noncomputable def notRaw : PV → Bool
  | .raw _ | .ext _ _ => false
  | _ => true
theorem Op2.is {C k σ a b K} (hb : plainI b = true) (ha : notRaw a = true) (h : K (.bool (pis a b)) σ) : Op2 C k σ a b (compareOp .Is) K := fun A P s v w hr H r₁ r₂ => by
  obtain ⟨h1, h2⟩ := is_core r₁ r₂ hb (by rintro x rfl; cases ha) (by rintro t x rfl; cases ha)
  exact wpAny_is_plain h1 (by rw [h2]; exact Out.here' H (.bool _) h)
theorem Op2.isNot {C k σ a b K} (hb : plainI b = true) (ha : notRaw a = true) (h : K (.bool (!pis a b)) σ) : Op2 C k σ a b (compareOp .IsNot) K := fun A P s v w hr H r₁ r₂ => by
  obtain ⟨h1, h2⟩ := is_core r₁ r₂ hb (by rintro x rfl; cases ha) (by rintro t x rfl; cases ha)
  exact wpAny_isNot_plain h1 (by rw [h2]; exact Out.here' H (.bool _) h)
end Mine
end C15
section C16
open PySem PySem.W PyProof.Rows
namespace Mine
theorem RdL.one {X P h vs d} (r : RdL X P h vs [d]) : ∃ v, vs = [v] ∧ Rd X P h v d := by
  cases r with
  | cons r₁ r₂ => cases r₂; exact ⟨_, rfl, r₁⟩
theorem RdL.two {X P h vs d e} (r : RdL X P h vs [d, e]) : ∃ v w, vs = [v, w] ∧ Rd X P h v d ∧ Rd X P h w e := by
  cases r with
  | cons r₁ r₂ => obtain ⟨w, rfl, r₃⟩ := RdL.one r₂; exact ⟨_, w, rfl, r₁, r₃⟩
theorem RdL.three {X P h vs d e f} (r : RdL X P h vs [d, e, f]) : ∃ v w u, vs = [v, w, u] ∧ Rd X P h v d ∧ Rd X P h w e ∧ Rd X P h u f := by
  cases r with
  | cons r₁ r₂ => obtain ⟨w, u, rfl, r₃, r₄⟩ := RdL.two r₂; exact ⟨_, w, u, rfl, r₁, r₃, r₄⟩
theorem Rd.str_inv {X P h v l} (r : Rd X P h v (.str l)) : ∃ y t, v = .str y t ∧ y.cps.toList = l := by
  generalize hd : PV.str l = d at r
  cases r <;> first | (cases hd; done) | skip
  · rename_i y t
    exact ⟨y, t, rfl, by injection hd with e; exact e.symm⟩
theorem str_toList (x y : Str) : (x ++ y).cps.toList = x.cps.toList ++ y.cps.toList := by
  show (x.cps ++ y.cps).toList = _
  simp
theorem str_len (x : Str) : x.length = x.cps.toList.length := by show x.cps.size = _; simp
section
variable {C : Cx} {k : Nat} {σ : Sto} {K : PV → Sto → Prop}
theorem Op2.adds {a b : List Nat} (hsz : a.length + b.length ≤ sizeLine) (h : K (.str (a ++ b)) σ) : Op2 C k σ (.str a) (.str b) (binaryOp .Add) K := fun A P s v w hr H r₁ r₂ => by
  cases r₁ with | str x t => cases r₂ with | str y u =>
  refine PyProof.Rows.add_str (fun t' tk => Out.here H ?_ h) (by rw [str_len, str_len]; exact hsz)
  rw [← str_toList]; exact .str _ _
theorem Op2.addl {a b : PV} {xs ys : List PV} (ha : LRead C σ a xs) (hb : LRead C σ b ys) (hsz : xs.length + ys.length ≤ sizeLine) (h : K (.list (xs ++ ys)) σ) : Op2 C k σ a b (binaryOp .Add) K := fun A P s v w hr H r₁ r₂ => by
  obtain ⟨l, vs, n, rfl, e, r⟩ := ha P s v H r₁
  obtain ⟨l', vs', n', rfl, e', r'⟩ := hb P s w H r₂
  have z := r.length; have z' := r'.length
  refine concat_meets ⟨_, e, rfl⟩ ⟨_, e', rfl⟩ noFill_list_add seq_list_add PySem.F.slot_list_add PySem.F.entry_list_add (PySem.F.args_list_add_2 _ _) (list_addW l l' vs vs' n n' _ _ _ _ (by simp at z z'; lia)) ⟨e, e', ?_⟩
  have o := Out.newList (C := C) (P := P) (K := K) (vs := vs.toList ++ vs'.toList) (tk := s.toks) H (r.append r') h
  have e2 : (vs.toList ++ vs'.toList).toArray = vs ++ vs' := by simp
  rw [e2] at o
  exact o
theorem OpL.len_l {a : PV} {xs : List PV} (ha : LRead C σ a xs) (hsz : xs.length < 2 ^ 60) (h : K (.int xs.length) σ) : OpL C k σ [a] (fun vs => PySem.call (.builtin "len") vs) K := fun A P s vs hr H r => by
  obtain ⟨v, rfl, r₁⟩ := r.one
  obtain ⟨l, vs, n, rfl, e, r⟩ := ha P s v H r₁
  have z : vs.size = xs.length := by rw [← r.length, Array.length_toList]
  exact Calls.call_len_list (isList_of e) (by rw [z]; lia) (by rw [z]; exact Out.here H (.int _ _) h)
theorem OpL.len_s {x : List Nat} (hsz : x.length < 2 ^ 60) (h : K (.int x.length) σ) : OpL C k σ [.str x] (fun vs => PySem.call (.builtin "len") vs) K := fun A P s vs hr H r => by
  obtain ⟨v, rfl, r₁⟩ := r.one
  cases r₁ with | str y t =>
  refine PySem.P.len_str (by have := str_len y; lia) ?_
  rw [str_len y]; exact Out.here H (.int _ _) h
theorem OpL.ord {c : Nat} (h : K (.int c) σ) : OpL C k σ [.str [c]] (fun vs => PySem.call (.builtin "ord") vs) K := fun A P s vs hr H r => by
  obtain ⟨v, rfl, r₁⟩ := r.one
  obtain ⟨y, t, rfl, hy⟩ := r₁.str_inv
  have : y = ⟨#[c]⟩ := by
    obtain ⟨z⟩ := y
    have : z.toList = [c] := hy
    have : z = #[c] := by rw [← Array.toArray_toList (xs := z), this]
    rw [this]
  subst this
  exact PySem.P.ord_of_char (Out.here H (.int _ _) h)
theorem OpL.chr {i : Int} (h0 : 0 ≤ i) (h1 : i ≤ 0x10FFFF) (h : K (.str [i.toNat]) σ) : OpL C k σ [.int i] (fun vs => PySem.call (.builtin "chr") vs) K := fun A P s vs hr H r => by
  obtain ⟨v, rfl, r₁⟩ := r.one
  obtain ⟨t, rfl⟩ := r₁.intE
  exact PySem.P.chr_of_int (by simp; lia) (Out.here H (.str _ _) h)
end
end Mine
end C16
section C17
open PySem PySem.W PyProof.Rows
set_option maxRecDepth 100000
namespace Mine
inductive Upd : Sto → Addr → AO → AO → Sto → Prop
  | here {a o n r} : Upd ((a, o) :: r) a o n ((a, n) :: r)
  | there {p r a o n r'} : Upd r a o n r' → Upd (p :: r) a o n (p :: r')
theorem Upd.mem {σ a o n σ'} (u : Upd σ a o n σ') : (a, o) ∈ σ := by
  induction u with
  | here => exact List.mem_cons_self
  | there _ ih => exact List.mem_cons_of_mem _ ih
theorem Upd.dom {σ a o n σ'} (u : Upd σ a o n σ') (h : o.more = n.more) : dom σ' = dom σ := by
  induction u with
  | here => simp only [Mine.dom, h]
  | there _ ih => simp only [Mine.dom]; rw [ih h]
theorem Upd.cases {σ a o n σ'} (u : Upd σ a o n σ') (hn : (Mine.dom σ).Nodup) : ∀ b ao, (b, ao) ∈ σ' → (b = a ∧ ao = n) ∨ ((b, ao) ∈ σ ∧ a ≠ b ∧ a ∉ ao.more) := by
  induction u with
  | here =>
    intro b ao hm
    rcases List.mem_cons.mp hm with e | hm
    · cases e; exact .inl ⟨rfl, rfl⟩
    · have h1 := (List.nodup_cons.mp hn).1
      have h2 : ∀ c, c = b ∨ c ∈ ao.more → c ∈ Mine.dom _ := mem_dom hm
      exact .inr ⟨List.mem_cons_of_mem _ hm, fun q => h1 (List.mem_append_right _ (h2 _ (.inl q))), fun q => h1 (List.mem_append_right _ (h2 _ (.inr q)))⟩
  | there u ih =>
    rename_i p r a o n r'
    intro b ao hm
    have hn' : (Mine.dom r).Nodup := by
      have := (List.nodup_cons.mp hn).2
      exact (List.nodup_append.mp this).2.1
    rcases List.mem_cons.mp hm with e | hm
    · subst e
      have ha : a ∈ Mine.dom r := mem_dom u.mem a (.inl rfl)
      refine .inr ⟨List.mem_cons_self, fun q => (List.nodup_cons.mp hn).1 (List.mem_append_right _ (q ▸ ha)), fun q => ?_⟩
      exact (List.nodup_append.mp (List.nodup_cons.mp hn).2).2.2 _ q _ ha rfl
    · rcases ih hn' b ao hm with h | h
      · exact .inl h
      · exact .inr ⟨List.mem_cons_of_mem _ h.1, h.2⟩
theorem After.mset {C P σ s σ' a xs ys} {h' : Heap} {n : Tok} {vs : Array Value} {m : Nat} (u : Upd σ a (.mlist xs) (.mlist ys) σ') (H : Hp C P σ s.heap) (hs : Heap.SameBut a s.heap h') (e : h'.get? a = some { cls := .type "list", data := .seq vs m })
    (r : RdL C.X P s.heap vs.toList ys) : After C P σ s σ' { s with heap := h', toks := n } := by
  have hd : dom σ' = dom σ := u.dom rfl
  have ha : a ∈ dom σ := mem_dom u.mem a (.inl rfl)
  have hP := H.pdom a ha
  have g : Pass P s.heap P h' := fun b o na x => ⟨hs.extBut b o (fun q => na (q ▸ hP.1)) x, na⟩
  have hpp : ∀ b, PP P σ' b → P b := fun b q => q.elim (fun q => q) fun q => (H.pdom b (hd ▸ q)).1
  refine ⟨⟨fun b o h1 _ _ x => hs.extBut b o (fun q => h1 (q ▸ ha)) x, Nat.le_of_eq hs.1.symm, fun b hb => .inl (hd ▸ hb), rfl, rfl⟩, ?_⟩
  refine ⟨C.keep H.gi (fun b o hb x => hs.extBut b o (fun q => hP.2.elim (fun z => Nat.not_lt.mpr z (q ▸ hb.1)) (fun z => hb.2 (q.symm ▸ z))) x) (Nat.le_of_eq hs.1.symm), fun b ao hm => ?_, fun b hb => .inl (H.ptb b hb), fun b hb => ⟨.inr hb, (H.pdom b (hd ▸ hb)).2⟩, hd ▸ H.nodup, fun b q => by show b < h'.objs.size; rw [hs.1]; exact H.plt b (hpp b q)⟩
  rcases u.cases H.nodup b ao hm with ⟨rfl, rfl⟩ | ⟨hm', hne, hno⟩
  · exact ⟨vs, m, e, r.pass' (g.trans (Pass.less hpp))⟩
  · refine (H.st b ao hm').pass (g.trans (Pass.less hpp)) fun c hc o x => hs.extBut c o (fun q => ?_) x
    subst q
    rcases hc with hc | hc
    · exact hne hc
    · exact hno hc
theorem upd_list {h : Heap} {l : Addr} {items : Array Value} {n : Nat} (f : Array Value → Array Value) (e : h.get? l = some { cls := .type "list", data := .seq items n }) :
    ∃ m, (h.update l (Obj.mapSeq f)).get? l = some { cls := .type "list", data := .seq (f items) m } := by
  obtain ⟨m, hm⟩ := Obj.data_mapSeq (o := { cls := .type "list", data := .seq items n }) rfl f
  have e2 := Heap.get?_update_self (Obj.mapSeq f) e (Obj.isFreed_of_seq hm)
  refine ⟨m, ?_⟩
  rw [e2]
  congr 1
  have hc := Obj.cls_mapSeq ({ cls := .type "list", data := .seq items n } : Obj) f
  unfold Obj.mapSeq at hm hc ⊢
  simp only at hm hc ⊢
  simp_all
section
variable {C : Cx} {k : Nat} {σ σ' : Sto} {K : PV → Sto → Prop} {a : Addr} {xs : List PV}
theorem OpL.extend {d : PV} {ys : List PV} (hd : LRead C σ d ys) (u : Upd σ a (.mlist xs) (.mlist (xs ++ ys)) σ') (hsz : xs.length + ys.length ≤ 2 ^ 20) (h : K .none σ') : OpL C k σ [.raw (.ref a), d] (fun vs => PySem.call (.builtin "list.extend") vs) K := fun A P s vs hr H r => by
  obtain ⟨v, w, rfl, r₁, r₂⟩ := r.two
  obtain rfl := r₁.rawE
  obtain ⟨vs, n, e, rl⟩ := H.st _ _ u.mem
  obtain ⟨b, vs', n', rfl, e', rl'⟩ := hd P s w H r₂
  have z : vs.size = xs.length := by rw [← rl.length, Array.length_toList]
  have z' : vs'.size = ys.length := by rw [← rl'.length, Array.length_toList]
  have hdoor : ¬(!vs.isEmpty && Builtin.List.listTooLong (vs.size + vs'.size)) = true := by
    have : Builtin.List.listTooLong (vs.size + vs'.size) = false := by unfold Builtin.List.listTooLong; simp [sizeLine]; lia
    rw [this]; simp
  refine call_meets F.slot_list_extend ⟨_, e, rfl⟩ F.entry_list_extend (F.args_list_extend_2 _ _) (AutoSeq1.list_extend_list_list_0 a vs n b vs' n' hdoor (by simp [sizeLine]; lia) (by simp [sizeLine]; lia)) ⟨e, e', ?_⟩
  obtain ⟨m, e2⟩ := upd_list (fun x => x ++ vs') e
  exact ⟨_, _, h, After.mset (n := s.toks) u H (Heap.SameBut.update ..) e2 (by rw [Array.toList_append]; exact rl.append rl'), .none⟩
theorem OpL.insert0 {d : PV} (u : Upd σ a (.mlist xs) (.mlist (d :: xs)) σ') (hsz : xs.length ≤ 2 ^ 20) (h : K .none σ') : OpL C k σ [.raw (.ref a), .int 0, d] (fun vs => PySem.call (.builtin "list.insert") vs) K := fun A P s vs hr H r => by
  obtain ⟨v, w, y, rfl, r₁, r₂, r₃⟩ := r.three
  obtain rfl := r₁.rawE
  obtain ⟨t, rfl⟩ := r₂.intE
  obtain ⟨vs, n, e, rl⟩ := H.st _ _ u.mem
  have z : vs.size = xs.length := by rw [← rl.length, Array.length_toList]
  refine call_meets F.slot_list_insert ⟨_, e, rfl⟩ F.entry_list_insert (F.args_list_insert_3 _ _ _) (AutoListH.list_insert_list_int_val_1 a vs n 0 t y (by decide) (by simp [sizeLine]; lia)) ⟨e, ?_⟩
  obtain ⟨m, e2⟩ := upd_list (fun xs => have k := if (0 : Int) < 0 then ((0 : Int) + ((xs.size : Nat) : Int)).toNat else min (0 : Int).toNat xs.size; (xs.extract 0 k).push y ++ xs.extract k) e
  refine ⟨_, _, h, After.mset (n := s.toks) u H (Heap.SameBut.update ..) e2 ?_, .none⟩
  have : ((vs.extract 0 0).push y ++ vs.extract 0).toList = y :: vs.toList := by simp
  have e3 : (have k := if (0 : Int) < 0 then ((0 : Int) + ((vs.size : Nat) : Int)).toNat else min (0 : Int).toNat vs.size; (vs.extract 0 k).push y ++ vs.extract k) = (vs.extract 0 0).push y ++ vs.extract 0 := by simp
  rw [e3, this]
  exact .cons r₃ rl
end
noncomputable def Op3u (C : Cx) (k : Nat) (σ : Sto) (a b c : PV) (f : Value → Value → Value → Sem Unit) (K : Sto → Prop) : Prop :=
  ∀ (A : Around) (P : Addr → Prop) (s : Shared) (v w x : Value), Room A k → Hp C P σ s.heap → Rd C.X P s.heap v a → Rd C.X P s.heap w b → Rd C.X P s.heap x c → wpAny (model C.prog C.w) A (f v w x) (fun _ s' => ∃ σ', K σ' ∧ After C P σ s σ' s') NoE s
theorem setItem_exact {prog w A E} {s : Shared} {l : Addr} {items : Array Value} {n : Nat} {k : Int} {t : Tok} {v : Value} {Q : Unit → Shared → Prop} (e : s.heap.get? l = some { cls := .type "list", data := .seq items n })
    (h0 : 0 ≤ k) (hfit : k < 2 ^ 63) (hn : k < items.size) (hQ : Q () { s with heap := s.heap.update l (Obj.mapSeq (·.setIfInBounds k.toNat v)) }) :
    wpAny (model prog w) A (setItem (.ref l) (.int k t) v) Q E s := by
  have hl := isList_of e
  obtain ⟨o, ho, hd, hQ⟩ : ∃ o, s.heap.get? l = some o ∧ o.data = .seq items n ∧ Q () { s with heap := s.heap.update l (Obj.mapSeq (·.setIfInBounds k.toNat v)) } := ⟨_, e, rfl, hQ⟩
  clear e
  unfold setItem
  try with_reducible refine wpAny_holding ?_
  first | refine wpAny_bind (wpAny_pure ?_) | skip
  refine wpAny_bind (wpAny_sequenceKey hl.typeIs (by decide) ?_)
  refine wpAny_bind (wpAny_callSpecial?_slot (name := Str.ofString "__setitem__") hl.typeIs slot_list_setitem
    (wpAny_call_entry slot_list_setitem hl.typeIs entry_list_setitem ?_ (args_list_setitem _ _ _)))
  show wpAny _ _ (Builtin.List.listSubscript? (.int k t) >>= _) _ _ s
  refine wpAny_bind (wpAny_listSubscript_int (fitsIndex_of h0 hfit) ?_)
  clear hfit
  obtain ⟨j, rfl⟩ := Int.eq_ofNat_of_zero_le h0
  have hj : j < items.size := by lia
  have hx' : items[j]? = some items[j] := Array.getElem?_eq_getElem hj
  show wpAny _ _ ((seqItemAt l j >>= fun r => pure (r.map (j, ·))) >>= _) _ _ s
  refine wpAny_bind (wpAny_bind (wpAny_seqItemAt ho hd (wpAny_pure ?_)))
  rw [hx']
  show wpAny _ _ (setSeqItemAt l j v >>= _) _ _ s
  refine wpAny_bind (wpAny_setSeqItemAt ho hd ?_)
  first
    | exact wpAny_bind (wpAny_pure (wpAny_pure ⟨.none, rfl, wpAny_pure hQ⟩))
    | exact wpAny_pure ⟨.none, rfl, wpAny_pure hQ⟩
theorem RdL.set {X P h} : ∀ {vs : List Value} {ds : List PV} {i : Nat} {v d}, RdL X P h vs ds → Rd X P h v d → RdL X P h (vs.set i v) (ds.set i d)
  | _, _, _, _, _, .nil, _ => .nil
  | _, _, 0, _, _, .cons r rs, r' => .cons r' rs
  | _, _, i + 1, _, _, .cons r rs, r' => .cons r (RdL.set rs r')
theorem Op3u.setList {C k σ σ' a xs i d K} (u : Upd σ a (.mlist xs) (.mlist (xs.set i d)) σ') (hi : i < xs.length) (hsz : xs.length < 2 ^ 60) (h : K σ') : Op3u C k σ (.raw (.ref a)) (.int (i : Nat)) d setItem K := fun A P s v w x hr H r₁ r₂ r₃ => by
  obtain rfl := r₁.rawE
  obtain ⟨t, rfl⟩ := r₂.intE
  obtain ⟨vs, n, e, rl⟩ := H.st _ _ u.mem
  have z : vs.size = xs.length := by rw [← rl.length, Array.length_toList]
  refine setItem_exact e (Int.natCast_nonneg i) (by lia) (by lia) ?_
  obtain ⟨m, e2⟩ := upd_list (fun y => y.setIfInBounds i x) e
  exact ⟨_, h, After.mset (n := s.toks) u H (Heap.SameBut.update ..) e2 (by rw [Array.toList_setIfInBounds]; exact rl.set r₃)⟩
theorem Ex1.setSub {C k sc ρ σ e o i p pos K} (h : Ev C k sc ρ σ e fun d σ₁ => Ev C k sc ρ σ₁ o fun a σ₂ => Ev C k sc ρ σ₂ i fun b σ₃ => Op3u C k σ₃ a b d setItem fun σ₄ => K .next ρ σ₄)
    (hs : ∀ env, swapsWith e (some (.Subscript o i p)) pos.line env = pure false) : Ex1 C k sc ρ σ (.Assign [.Subscript o i p] e pos) K := fun A P env s he hr I => by
  refine wpAny_Assign_Subscript (ev_one h he hr I fun v d σ₁ s₁ hK A₁ r₁ => ?_) (hs env)
  refine ev_one hK he hr (I.after A₁) fun v₂ d₂ σ₂ s₂ hK₂ A₂ r₂ => ?_
  have A12 := A₁.trans I.hp A₂
  refine ev_one hK₂ he hr (I.after A12) fun v₃ d₃ σ₃ s₃ hK₃ A₃ r₃ => ?_
  have A123 := A12.trans I.hp A₃
  have q₁ := (((r₁.pass' (A₂.pass A₁.hp)).down C.extOk).pass' (A₃.pass A12.hp)).down C.extOk
  have q₂ := (((r₂.down C.extOk)).pass' (A₃.pass A12.hp)).down C.extOk
  refine wpAny_mono (hK₃ A _ s₃ v₂ v₃ v hr A123.hp q₂ (r₃.down C.extOk) q₁) (fun _ s₄ o => ?_) fun _ _ x => x
  obtain ⟨σ₄, hK₄, A₄⟩ := o
  exact ⟨_, _, _, hK₄, .of I (A123.trans I.hp A₄), .next⟩
end Mine
end C17
section C18
open PySem PySem.W PyProof.Rows
set_option maxRecDepth 100000
namespace Mine
theorem After.kept {C P σ} {s : Shared} {h' : Heap} {n : Tok} (H : Hp C P σ s.heap) (k : ∀ b o, s.heap.get? b = some o → h'.get? b = some o) (hz : hsz s ≤ h'.objs.size) : After C P σ s σ { s with heap := h', toks := n } := by
  have g : Pass P s.heap P h' := fun a o na e => ⟨k a o e, na⟩
  exact ⟨⟨fun b o _ _ _ e => k b o e, hz, fun _ q => .inl q, rfl, rfl⟩,
    (Hp.pp (C := C) (P := P) (σ := σ) (h := h') ⟨C.keep H.gi (fun b o _ e => k b o e) hz, H.st.pass g (fun b _ o e => k b o e), H.ptb, H.pdom, H.nodup, fun a ha => Nat.lt_of_lt_of_le (H.plt a ha) hz⟩)⟩
theorem RdL.pick {X P h} {vs : List Value} {ds : List PV} (r : RdL X P h vs ds) : ∀ idx : List Nat, RdL X P h (idx.filterMap (vs[·]?)) (idx.filterMap (ds[·]?))
  | [] => .nil
  | i :: t => by
    rw [List.filterMap_cons, List.filterMap_cons]
    cases e : vs[i]? with
    | none =>
      have : ds[i]? = none := by
        rw [List.getElem?_eq_none_iff] at e ⊢
        rw [← r.length]; exact e
      rw [this]; exact r.pick t
    | some v =>
      obtain ⟨d, hd, rd⟩ := r.get e
      rw [hd]; exact .cons rd (r.pick t)
noncomputable def slcL {α : Type} (xs : List α) (lo hi st : Option Int) : List α := (sliceRange (sliceBounds lo hi st xs.length).1 (sliceBounds lo hi st xs.length).2.1 (sliceBounds lo hi st xs.length).2.2).filterMap (xs[·]?)
section
variable {C : Cx} {k : Nat} {σ : Sto} {K : PV → Sto → Prop}
theorem Op2.slice {value slice : Expr} {a : PV} {xs : List PV} {lo hi st : Option Int} (hl : LRead C σ a xs) (h0 : st ≠ some 0) (hsz : xs.length ≤ sizeLine) (h : K (.list (slcL xs lo hi st)) σ) : Op2 C k σ a (.slice lo hi st) (subscriptTail value slice) K := fun A P s v w hr H r₁ r₂ => by
  obtain ⟨b, vs, n, rfl, e, r⟩ := hl P s v H r₁
  cases r₂ with | slice na e2 p1 p2 p3 =>
  rename_i c vl vu vst
  have z : vs.size = xs.length := by rw [← r.length, Array.length_toList]
  obtain ⟨ops, ho⟩ := sub_ops slice (.ref b) (.ref c)
  refine tail_any (isList_of e).typeIs slot_list_getitem.lookup (wpAny_getItem_list_slice (isList_of e) ⟨_, e2, rfl, rfl⟩ p1 p2 p3 h0 ?_ (by rw [z]; exact hsz)) ho
  have e3 : (slicePick vs lo hi st).toList = (sliceRange (sliceBounds lo hi st vs.toList.length).1 (sliceBounds lo hi st vs.toList.length).2.1 (sliceBounds lo hi st vs.toList.length).2.2).filterMap (vs.toList[·]?) := by
    unfold slicePick; simp
  have q : RdL C.X P s.heap (slicePick vs lo hi st).toList (slcL xs lo hi st) := by
    rw [e3]; unfold slcL; rw [r.length]; exact r.pick _
  have o := Out.newList (tk := s.toks) H q h
  simpa using o
noncomputable def slcS (xs : List Nat) (lo hi st : Option Int) : List Nat := (Builtin.Str.strSliceIndices lo hi (st.getD 1) xs.length).filterMap (xs[·]?)
theorem range_pick (x : List Nat) : (List.range x.length).filterMap (x[·]?) = x := by
  apply List.ext_getElem?
  intro i
  have : (List.range x.length).filterMap (x[·]?) = (List.range x.length).map (fun i => x.getD i 0) := by
    have key : ∀ l : List Nat, (∀ i ∈ l, i < x.length) → l.filterMap (x[·]?) = l.map (fun i => x.getD i 0) := by
      intro l
      induction l with
      | nil => intro _; rfl
      | cons a t ih =>
        intro h
        have ha := h a List.mem_cons_self
        rw [List.filterMap_cons, List.map_cons, List.getElem?_eq_getElem ha]
        simp only [ih fun i hi => h i (List.mem_cons_of_mem _ hi), List.getD_eq_getElem?_getD, List.getElem?_eq_getElem ha, Option.getD_some]
    exact key _ fun i hi => List.mem_range.mp hi
  rw [this, List.getElem?_map]
  by_cases hi : i < x.length
  · rw [List.getElem?_range hi]; simp [List.getElem?_eq_getElem hi]
  · rw [List.getElem?_eq_none (by simpa using hi), List.getElem?_eq_none (by simpa using hi)]; rfl
theorem sr_one {a b : Int} {n : Nat} (a0 : 0 ≤ a) (bn : b ≤ n) (h : (sliceRange a b 1).length = n) : sliceRange a b 1 = List.range n := by
  unfold sliceRange at h ⊢
  simp only [List.length_map, List.length_range, Int.ediv_one, Int.one_mul, gt_iff_lt, show (0 : Int) < 1 from by decide, if_true] at h ⊢
  by_cases hab : a < b
  · rw [if_pos hab] at h ⊢
    have ha : a = 0 := by omega
    have hb : b = n := by omega
    subst ha; rw [h]
    apply List.ext_getElem?
    intro i
    simp
  · rw [if_neg hab] at h ⊢
    have : n = 0 := by simpa using h.symm
    rw [this]; rfl
theorem slcS_whole {x : List Nat} {lo hi st : Option Int} (h1 : st.getD 1 = 1) (h2 : (Builtin.Str.strSliceIndices lo hi (st.getD 1) x.length).length = x.length) : slcS x lo hi st = x := by
  unfold slcS
  have : Builtin.Str.strSliceIndices lo hi (st.getD 1) x.length = List.range x.length := by
    rw [h1] at h2 ⊢
    unfold Builtin.Str.strSliceIndices at h2 ⊢
    refine sr_one ?_ ?_ h2
    · cases lo <;> simp <;> omega
    · cases hi <;> simp <;> omega
  rw [this, range_pick]
theorem Op2.slice_s {value slice : Expr} {x : List Nat} {lo hi st : Option Int} (h0 : st.getD 1 ≠ 0) (hsz : (slcS x lo hi st).length ≤ sizeLine) (h : K (.str (slcS x lo hi st)) σ) : Op2 C k σ (.str x) (.slice lo hi st) (subscriptTail value slice) K := fun A P s v w hr H r₁ r₂ => by
  obtain ⟨y, t, rfl, rfl⟩ := r₁.str_inv
  cases r₂ with | slice na e2 p1 p2 p3 =>
  rename_i c vl vu vst
  have part : ∀ {v : Value} {p : Option Int}, IsPart v p → ∃ q : Option (Int × Tok), v = partValue q ∧ q.map (·.1) = p := fun hp => by
    cases hp with
    | none => exact ⟨none, rfl, rfl⟩
    | int i t => exact ⟨some (i, t), rfl, rfl⟩
  obtain ⟨l, rfl, rfl⟩ := part p1
  obtain ⟨u, rfl, rfl⟩ := part p2
  obtain ⟨q, rfl, rfl⟩ := part p3
  obtain ⟨ops, ho⟩ := sub_ops slice (.str y t) (.ref c)
  refine tail_any rfl F.slot_str_getitem.lookup (wpAny_getItem_str_slice ⟨_, e2, rfl, rfl⟩ (beq_false_of_ne h0) ?_) ho
  have hz : y.length = y.cps.toList.length := str_len y
  unfold sliceMade
  split
  · rename_i hc
    rw [Bool.and_eq_true] at hc
    have : slcS y.cps.toList (l.map (·.1)) (u.map (·.1)) (q.map (·.1)) = y.cps.toList := slcS_whole (eq_of_beq hc.1) (by
      have := eq_of_beq hc.2
      unfold slicePicked at this
      rw [hz] at this; exact this)
    rw [this] at h
    exact Out.here' H (.str _ _) h
  · have : (⟨((slicePicked y l u q).filterMap (y.cps[·]?)).toArray⟩ : Str).cps.toList = slcS y.cps.toList (l.map (·.1)) (u.map (·.1)) (q.map (·.1)) := by
      unfold slcS slicePicked
      rw [hz]; simp
    rw [← this] at h hsz
    exact ⟨by rw [str_len]; exact hsz, Out.here H (.str _ _) h⟩
theorem Op2.item_s {value slice : Expr} {x : List Nat} {i : Nat} {c : Nat} (hi : i < 2 ^ 60) (hx : x[i]? = some c) (h : K (.str [c]) σ) : Op2 C k σ (.str x) (.int (i : Nat)) (subscriptTail value slice) K := fun A P s v w hr H r₁ r₂ => by
  obtain ⟨y, t, rfl, rfl⟩ := r₁.str_inv
  obtain ⟨u, rfl⟩ := r₂.intE
  obtain ⟨ops, ho⟩ := sub_ops slice (.str y t) (.int (i : Nat) u)
  have hlt : i < y.cps.size := by
    have := (List.getElem?_eq_some_iff.mp hx).1
    simpa using this
  have hc : Txt.charAt y (i : Nat) = some c := by
    unfold Txt.charAt seqIndex?
    have h1 : ¬ ((i : Int) < 0) := by omega
    simp only [h1, if_false]
    have h2 : (decide (0 ≤ (i : Int)) && decide ((i : Int) < (y.length : Int))) = true := by
      rw [Bool.and_eq_true]; exact ⟨decide_eq_true (by omega), decide_eq_true (by show (i : Int) < (y.cps.size : Int); omega)⟩
    rw [if_pos h2]
    simpa using hx
  refine tail_any rfl F.slot_str_getitem.lookup (SB.getItem (by unfold PySem.fitsSsize; simp; omega) (by rw [hc]; rfl) ?_) ho
  have : Txt.item y (i : Nat) = ⟨#[c]⟩ := by unfold Txt.item; rw [hc]; rfl
  rw [this]; exact Out.here H (.str _ _) h
end
end Mine
end C18
section C19
open PySem PySem.W PyProof.Rows
set_option maxRecDepth 100000
namespace Mine
noncomputable def lowerL (x : List Nat) : List Nat := (Txt.lower (strL x)).cps.toList
theorem strL_eq {y : Str} {x : List Nat} (h : y.cps.toList = x) : y = strL x := by rw [← h, strL_toList]
section
variable {C : Cx} {k : Nat} {σ : Sto} {K : PV → Sto → Prop}
theorem OpL.lower {x : List Nat} (hsz : (lowerL x).length ≤ sizeLine) (h : K (.str (lowerL x)) σ) : OpL C k σ [.str x] (fun vs => PySem.call (.builtin "str.lower") vs) K := fun A P s vs hr H r => by
  obtain ⟨v, rfl, r₁⟩ := r.one
  obtain ⟨y, t, rfl, hy⟩ := r₁.str_inv
  have e := strL_eq hy
  subst e
  exact SC.lower (by unfold Builtin.Str.tooLong; rw [str_len]; exact decide_eq_false (Nat.not_lt.mpr hsz)) (Out.here H (.str _ _) h)
theorem strs_are {X : Ext} {P h} : ∀ {xs : List (List Nat)} {vs : List Value}, RdL X P h vs (xs.map .str) → ∃ ys, StrsAre vs ys ∧ ys.map (fun y => y.cps.toList) = xs
  | [], _, r => by cases r; exact ⟨[], .nil, rfl⟩
  | x :: xs, _, r => by
    rw [List.map_cons] at r
    cases r with
    | cons r₁ rs =>
      obtain ⟨y, t, rfl, hy⟩ := r₁.str_inv
      obtain ⟨ys, h1, h2⟩ := strs_are rs
      exact ⟨y :: ys, .cons y t h1, by rw [List.map_cons, hy, h2]⟩
theorem join_empty : ∀ ys : List Str, (Txt.join Str.empty ys).cps.toList = (ys.map fun y => y.cps.toList).flatten := by
  intro ys
  unfold Txt.join Builtin.Str.glued
  have key : ∀ (l : List Str) (acc : Array Nat), (l.foldl (fun acc p => acc ++ Str.empty.cps ++ p.cps) acc).toList = acc.toList ++ (l.map fun y => y.cps.toList).flatten := by
    intro l
    induction l with
    | nil => intro acc; simp
    | cons a t ih => intro acc; rw [List.foldl_cons, ih, List.map_cons, List.flatten_cons]; simp [Str.empty]
  cases ys with
  | nil => rfl
  | cons a t => simp only [List.drop_succ_cons, List.drop_zero, List.headD_cons]; rw [key, List.map_cons, List.flatten_cons]
theorem OpL.join0 {a : PV} {xs : List (List Nat)} (ha : LRead C σ a (xs.map .str)) (hsz : (xs.map List.length).sum ≤ 16777216) (h : K (.str xs.flatten) σ) : OpL C k σ [.str [], a] (fun vs => PySem.call (.builtin "str.join") vs) K := fun A P s vs hr H r => by
  obtain ⟨v, w, rfl, r₁, r₂⟩ := r.two
  obtain ⟨y, t, rfl, hy⟩ := r₁.str_inv
  obtain ⟨b, vs, n, rfl, e, rl⟩ := ha P s w H r₂
  obtain ⟨ys, h1, h2⟩ := strs_are rl
  have e1 : y = Str.empty := by have := strL_eq hy; rw [this]; rfl
  subst e1
  have hl : (ys.map fun y : Str => y.length) = xs.map List.length := by
    rw [← h2, List.map_map]; exact List.map_congr_left fun y _ => str_len y
  refine join_list (isList_of e) h1 (by rw [hl]; show _ + _ * 0 ≤ _; omega) fun t' tk => Out.here H ?_ h
  rw [← h2, ← join_empty]; exact .str _ _
theorem OpL.range1 {n : Int} (h : K (.range 0 n 1) σ) : OpL C k σ [.int n] (fun vs => PySem.call (.type "range") vs) K := fun A P s vs hr H r => by
  obtain ⟨v, rfl, r₁⟩ := r.one
  obtain ⟨t, rfl⟩ := r₁.intE
  refine call_range_1 ?_
  have A' := After.push (o := { cls := .type "range", data := .fields #[.int 0 s.toks, .int n t, .int 1 (s.toks + 1)] }) (n := s.toks + 1 + 1) H
  exact ⟨_, σ, h, A', .range H.fresh (IsRange.new ..)⟩
theorem OpL.range2 {a b : Int} (h : K (.range a b 1) σ) : OpL C k σ [.int a, .int b] (fun vs => PySem.call (.type "range") vs) K := fun A P s vs hr H r => by
  obtain ⟨v, w, rfl, r₁, r₂⟩ := r.two
  obtain ⟨t, rfl⟩ := r₁.intE
  obtain ⟨u, rfl⟩ := r₂.intE
  refine call_range_2 ?_
  have A' := After.push (o := { cls := .type "range", data := .fields #[.int a t, .int b u, .int 1 s.toks] }) (n := s.toks + 1) H
  exact ⟨_, σ, h, A', .range H.fresh (IsRange.new ..)⟩
theorem OpL.range3 {a b c : Int} (hc : c ≠ 0) (hp : Builtin.divisionGoesByPylong (b - a) c = false) (h : K (.range a b c) σ) : OpL C k σ [.int a, .int b, .int c] (fun vs => PySem.call (.type "range") vs) K := fun A P s vs hr H r => by
  obtain ⟨v, w, x, rfl, r₁, r₂, r₃⟩ := r.three
  obtain ⟨t, rfl⟩ := r₁.intE
  obtain ⟨u, rfl⟩ := r₂.intE
  obtain ⟨v, rfl⟩ := r₃.intE
  refine call_range_3 hc ?_ (.inl hp)
  have A' := After.push (o := { cls := .type "range", data := .fields #[.int a t, .int b u, .int c v] }) (n := s.toks) H
  exact ⟨_, σ, h, A', .range H.fresh (IsRange.new ..)⟩
theorem ints_items {X : Ext} {P h} : ∀ {ns : List Int} {vs : List Value}, RdL X P h vs (ns.map .int) → ∃ ps : List (Int × Tok), vs = ps.map (fun p => .int p.1 p.2) ∧ ps.map (·.1) = ns
  | [], _, r => by cases r; exact ⟨[], rfl, rfl⟩
  | n :: ns, _, r => by
    rw [List.map_cons] at r
    cases r with
    | cons r₁ rs =>
      cases r₁ with
      | int _ t =>
        obtain ⟨ps, h1, h2⟩ := ints_items rs
        exact ⟨(n, t) :: ps, by rw [h1]; rfl, by rw [List.map_cons, h2]⟩
theorem ints_arr {X : Ext} {P h} {ns : List Int} {vs : Array Value} (r : RdL X P h vs.toList (ns.map .int)) : ∃ xs : Array (Int × Tok), vs = intItems xs ∧ xs.toList.map (·.1) = ns := by
  obtain ⟨ps, h1, h2⟩ := ints_items r
  refine ⟨ps.toArray, ?_, by simpa using h2⟩
  unfold intItems
  rw [← Array.toArray_toList (xs := vs), h1]
  simp
theorem OpL.max {a : PV} {ns : List Int} (ha : LRead C σ a (ns.map .int)) (hne : ns ≠ []) (h : ∀ M, M ∈ ns → (∀ a ∈ ns, a ≤ M) → K (.int M) σ) : OpL C k σ [a] (fun vs => PySem.call (.builtin "max") vs) K := fun A P s vs hr H r => by
  obtain ⟨v, rfl, r₁⟩ := r.one
  obtain ⟨b, vs, n, rfl, e, rl⟩ := ha P s v H r₁
  obtain ⟨xs, rfl, hx⟩ := ints_arr rl
  have hsz : 0 < xs.size := by
    cases hh : xs.toList with
    | nil => rw [hh] at hx; exact absurd hx.symm hne
    | cons p t => have := congrArg List.length hh; simp at this; omega
  refine with_size (max_intList hr.handled (isList_of e) hsz fun v h' tk hv kp hz => ?_)
  obtain ⟨t, rfl⟩ := intItems_at hv
  obtain ⟨h1, h2⟩ := argBest_gt (numAt xs) (xs.size - 1)
  refine ⟨_, σ, h _ ?_ fun a ha => ?_, After.kept H kp hz, .int _ _⟩
  · rw [← hx, numAt_eq]; exact getD_mem (by rw [List.length_map, Array.length_toList]; omega)
  · rw [← hx] at ha
    obtain ⟨j, hj, rfl⟩ := mem_getD ha
    rw [List.length_map, Array.length_toList] at hj
    rw [← numAt_eq]; exact h2 j (by omega)
end
end Mine
end C19
section C20
open PySem PySem.W PyProof.Rows
set_option maxRecDepth 100000
namespace Mine
noncomputable def DictAt (C : Cx) (a : Addr) (D : List (PyData × PyData)) : Prop := ∀ h, C.gi h → IntTab C.prog C.w h a D
noncomputable def SetAt (C : Cx) (a : Addr) (S : Int → Bool) (n : Nat) : Prop := ∀ h, C.gi h → h.SetOf (intKind C.prog C.w) a S n
inductive PvOf : PyData → PV → Prop
  | none : PvOf .none .none
  | str (x : Str) : PvOf (.str x) (.str x.cps.toList)
theorem flat_rd {X P h v e d} (f : PyProof.V.Flat v e) (p : PvOf e d) : Rd X P h v d := by
  have r := f h
  cases p with
  | none => cases r; exact .none
  | str x => cases r; exact .str x _
section
variable {C : Cx} {k : Nat} {σ : Sto} {K : PV → Sto → Prop}
theorem OfType.dictAt {a D} (T : DictAt C a D) : OfType C σ (.raw (.ref a)) "dict" := fun P s v H r => by
  cases r
  obtain ⟨_, kvs, ⟨o, es, ep, ho, hd, _⟩, _⟩ := T _ H.gi
  exact ⟨⟨o, ho, hd.1⟩, fun b e => by cases e; exact ⟨o, ho, hd.2.1⟩⟩
theorem OpL.dget {a D} {i : Int} {d : PV} (T : DictAt C a D) (p : PvOf ((PySem.Spec.lookup (.int i) D).getD .none) d) (h : K d σ) : OpL C k σ [.raw (.ref a), .int i] (fun vs => PySem.call (.builtin "dict.get") vs) K := fun A P s vs hr H r => by
  obtain ⟨v, w, rfl, r₁, r₂⟩ := r.two
  cases r₁ with | raw =>
  cases r₂ with | int _ t =>
  exact call_get1_intTab (T _ H.gi) fun v f => Out.here H (flat_rd f p) h
theorem Op2.inSet {a S n} {i : Int} (T : SetAt C a S n) (h : K (.bool (S i)) σ) : Op2 C k σ (.int i) (.raw (.ref a)) (compareOp .In) K := fun A P s v w hr H r₁ r₂ => by
  cases r₁ with | int _ t =>
  cases r₂ with | raw =>
  refine wpAny_inSet_of (knd := intKind C.prog C.w) (k := i) ?_ ?_ (T _ H.gi) (Out.here H (.bool _) h)
  · show Value.isInt i (.int i t) = true
    simp [Value.isInt]
  · rfl
end
end Mine
end C20
section C21
open PySem PySem.W PyProof.Rows
set_option maxRecDepth 100000
namespace Mine
noncomputable def ClsOk (C : Cx) (N : Addr) (mN : Str → Option Value) : Prop := ∀ h, C.gi h → ClsAt h C.cls N mN
noncomputable def handed : PV → Bool
  | .raw (.builtin _) => false
  | .ext _ _ => false
  | _ => true
theorem handed_ok {X P h v d} (r : Rd X P h v d) (hd : handed d = true) : handedOut v = pure v := by
  cases r with
  | raw v => cases v <;> first | rfl | cases hd
  | ext => cases hd
  | _ => rfl
theorem inst_of {C : Cx} {P h a d fs} (r : AoIs C P h a (.inst d fs)) : ∃ mA, h.Inst a C.cls mA ∧ h.Ns1 d mA ∧ FieldsAre C.X P h mA fs := by
  obtain ⟨⟨o, e, hc, hd, hn⟩, hne, mA, ns, hf⟩ := r
  exact ⟨mA, ⟨o, e, hc, hn, .inr ⟨d, hd, hne, ns⟩⟩, ns, hf⟩
theorem Ev.attr {C k sc ρ σ e name pos K} (h : Ev C k sc ρ σ e fun a σ₁ => Op1 C k σ₁ a (fun v => getAttr v name true) K) (he' : ∀ env, eval (.Attribute e name pos) env = (do
      let o ← eval e env
      standAt pos.atName
      let r ← holding [o] (getAttr o name true)
      letTemporaryGo e o r
      pure r)) : Ev C k sc ρ σ (.Attribute e name pos) K := fun A P env s he hr I =>
  Attribute_any_ (ev_one h he hr I fun v d σ₁ s₁ hK hA r => wp_seq hA I.hp (hK A _ s₁ v hr hA.hp r)) (he' env)
section
variable {C : Cx} {k : Nat} {σ : Sto} {K : PV → Sto → Prop} {N : Addr} {mN : Str → Option Value}
theorem Op1.field {a d : Addr} {fs : List (String × PV)} {x : String} {dv : PV} (X : ClsOk C N mN) (hm : (a, AO.inst d fs) ∈ σ) (hx : fs.lookup x = some dv) (hh : handed dv = true) (h : K dv σ)
    (hng : mN "__getattribute__" = none) (hna : mN (Str.ofString x) = none) (hB : typeLookup (.type "object") (Str.ofString x) = pure none) : Op1 C k σ (.raw (.ref a)) (fun v => getAttr v (Str.ofString x) true) K := fun A P s v hr H r => by
  obtain rfl := r.rawE
  obtain ⟨mA, I, ns, hf⟩ := inst_of (H.st _ _ hm)
  obtain ⟨w, hw, rw'⟩ := hf.1 x dv hx
  have X' := X _ H.gi
  obtain ⟨hh', g, dd, t, os⟩ := s
  obtain ⟨nm, q, bs, sn, sub, col, ddd, k0, k1, k2, k3, k5, hC⟩ := X'.obj
  exact load_attr hC X'.ns hng hna hB I hw (handed_ok rw' hh) (Out.here (tk := t + 1) H rw' h)
end
noncomputable def setF (fs : List (String × PV)) (x : String) (d : PV) : List (String × PV) := (x, d) :: fs
theorem setF_lookup {fs : List (String × PV)} {x : String} {d : PV} (y : String) : (setF fs x d).lookup y = if y = x then some d else fs.lookup y := by
  unfold setF
  by_cases h : y = x
  · subst h; rw [List.lookup_cons_self, if_pos rfl]
  · rw [List.lookup_cons, beq_false_of_ne h, if_neg h]
theorem Upd.other {σ a o n σ'} (u : Upd σ a o n σ') (hn : (Mine.dom σ).Nodup) : ∀ b ao, (b, ao) ∈ σ' → (b = a ∧ ao = n) ∨ ((b, ao) ∈ σ ∧ ∀ c, (c = a ∨ c ∈ o.more) → c ≠ b ∧ c ∉ ao.more) := by
  induction u with
  | here =>
    intro b ao hm
    rename_i a o n r
    rcases List.mem_cons.mp hm with e | hm
    · cases e; exact .inl ⟨rfl, rfl⟩
    · refine .inr ⟨List.mem_cons_of_mem _ hm, fun c hc => ?_⟩
      have h2 : ∀ c, c = b ∨ c ∈ ao.more → c ∈ Mine.dom r := mem_dom hm
      have h1 : c ∉ Mine.dom r := by
        rcases hc with rfl | hc
        · exact fun q => (List.nodup_cons.mp hn).1 (List.mem_append_right _ q)
        · exact fun q => (List.nodup_append.mp (List.nodup_cons.mp hn).2).2.2 _ hc _ q rfl
      exact ⟨fun q => h1 (h2 _ (.inl q)), fun q => h1 (h2 _ (.inr q))⟩
  | there u ih =>
    rename_i p r a o n r'
    intro b ao hm
    have hn' : (Mine.dom r).Nodup := (List.nodup_append.mp (List.nodup_cons.mp hn).2).2.1
    rcases List.mem_cons.mp hm with e | hm
    · subst e
      refine .inr ⟨List.mem_cons_self, fun c hc => ?_⟩
      have ha : c ∈ Mine.dom r := mem_dom u.mem c hc
      refine ⟨fun q => (List.nodup_cons.mp hn).1 (List.mem_append_right _ (q ▸ ha)), fun q => ?_⟩
      exact (List.nodup_append.mp (List.nodup_cons.mp hn).2).2.2 _ q _ ha rfl
    · rcases ih hn' b ao hm with h | h
      · exact .inl h
      · exact .inr ⟨List.mem_cons_of_mem _ h.1, h.2⟩
theorem store_field {C : Cx} {k : Nat} {σ σ' : Sto} {N : Addr} {mN : Str → Option Value} {a d : Addr} {fs : List (String × PV)} {x : String} {dv : PV} {A P} {s : Shared} {w : Value} (X : ClsOk C N mN) (u : Upd σ a (.inst d fs) (.inst d (setF fs x dv)) σ') (H : Hp C P σ s.heap) (r : Rd C.X P s.heap w dv)
    (hcls : C.cls < C.base) (hns : mN "__setattr__" = none) (hna : mN (Str.ofString x) = none) (hB : typeLookup (.type "object") (Str.ofString x) = pure none) (hsz : fs.length ≤ sizeLine) {Q : Unit → Shared → Prop}
    (hQ : ∀ s', After C P σ s σ' s' → Q () s') : wpAny (model C.prog C.w) A (setAttr (.ref a) (Str.ofString x) w) Q NoE s := by
  have hd := u.dom rfl
  have hda : a ∈ dom σ := mem_dom u.mem a (.inl rfl)
  have hdd : d ∈ dom σ := mem_dom u.mem d (.inr List.mem_cons_self)
  have Pa := H.pdom a hda
  have Pd := H.pdom d hdd
  have aoi := H.st _ _ u.mem
  obtain ⟨⟨o, e, hc, hdict, hnc⟩, hne, mA, ns, hf⟩ := id aoi
  have I : s.heap.Inst a C.cls mA := ⟨o, e, hc, hnc, .inr ⟨d, hdict, hne, ns⟩⟩
  have X' := X _ H.gi
  obtain ⟨hh', g, dd, t, os⟩ := s
  obtain ⟨nm, q, bs, sn, sub, col, ddd, k0, k1, k2, k3, k5, hC⟩ := X'.obj
  have hxC : a ≠ C.cls := fun q => by
    have e2 := e
    rw [q, hC] at e2
    exact hnc _ (by rw [← Option.some.inj e2])
  have hw : Within mA (fs.map fun p => Str.ofString p.1) := fun y hy => by
    cases hm : mA y with
    | none => exact absurd hm hy
    | some v =>
      obtain ⟨z, dz, rfl, hz⟩ := hf.2 y v hm
      exact List.mem_map.mpr ⟨(z, dz), Mine.mem_of_lookup hz, rfl⟩
  refine with_size (store_attr PySem.F.store_object hC X'.ns hns hna hB hxC I (fun h' tk' I' hk hsame hz => hQ _ ?_) hw (by simpa using hsz))
  have kk : ∀ b o, b ≠ a → b ≠ d → hh'.get? b = some o → h'.get? b = some o := fun b o h1 h2 e' => hk b o h1 (fun o₀ d' e₀ ed => by
    obtain rfl := Option.some.inj (e.symm.trans e₀); obtain rfl := Option.some.inj (hdict.symm.trans ed); exact h2) e'
  obtain ⟨o₁, e₁, c₁, dt₁, _, dk₁⟩ := hsame o e
  have gp : Pass P hh' P h' := fun b o' na e' => ⟨kk b o' (fun q => na (q ▸ Pa.1)) (fun q => na (q ▸ Pd.1)) e', na⟩
  have hpp : ∀ b, PP P σ' b → P b := fun b q => q.elim (fun q => q) fun q => (H.pdom b (hd ▸ q)).1
  refine ⟨⟨fun b o' h1 _ _ e' => kk b o' (fun q => h1 (q ▸ hda)) (fun q => h1 (q ▸ hdd)) e', hz, fun b hb => .inl (hd ▸ hb), rfl, rfl⟩, ?_⟩
  refine ⟨C.keep H.gi (fun b o' hb e' => kk b o' (fun q => Pa.2.elim (fun z => Nat.not_lt.mpr z (q ▸ hb.1)) (fun z => hb.2 (q.symm ▸ z))) (fun q => Pd.2.elim (fun z => Nat.not_lt.mpr z (q ▸ hb.1)) (fun z => hb.2 (q.symm ▸ z))) e') hz, fun b ao hm => ?_, fun b hb => .inl (H.ptb b hb), fun b hb => ⟨.inr hb, (H.pdom b (hd ▸ hb)).2⟩, hd ▸ H.nodup, fun b q => Nat.lt_of_lt_of_le (H.plt b (hpp b q)) hz⟩
  rcases u.other H.nodup b ao hm with ⟨rfl, rfl⟩ | ⟨hm', hap⟩
  · obtain ⟨o', e', _, _, hd'⟩ := I'
    obtain rfl := Option.some.inj (e₁.symm.trans e')
    rcases hd' with ⟨hn0, _⟩ | ⟨d', hd', _, hns'⟩
    · rw [dk₁ d hdict] at hn0; cases hn0
    · obtain rfl := Option.some.inj ((dk₁ d hdict).symm.trans hd')
      have gp' : Pass P hh' (PP P σ') h' := gp.trans (Pass.less hpp)
      refine ⟨⟨o₁, e₁, c₁.trans hc, dk₁ _ hdict, fun c => dt₁ ▸ hnc c⟩, hne, _, hns', fun y dy hy => ?_, fun y v hy => ?_⟩
      · rw [setF_lookup] at hy
        by_cases hyx : y = x
        · subst hyx
          rw [if_pos rfl] at hy; cases hy
          exact ⟨w, if_pos rfl, r.pass' gp'⟩
        · rw [if_neg hyx] at hy
          obtain ⟨v, hv, rv⟩ := hf.1 y dy hy
          exact ⟨v, (if_neg fun q => hyx (ofString_inj q)).trans hv, rv.pass' gp'⟩
      · by_cases hyx : y = Str.ofString x
        · exact ⟨x, dv, hyx, by rw [setF_lookup, if_pos rfl]⟩
        · obtain ⟨z, dz, rfl, hz'⟩ := hf.2 y v ((if_neg hyx).symm.trans hy)
          exact ⟨z, dz, rfl, by rw [setF_lookup, if_neg fun q => hyx (by rw [q])]; exact hz'⟩
  · refine (H.st b ao hm').pass (gp.trans (Pass.less hpp)) fun c hc' o' e' => kk c o' (fun q => ?_) (fun q => ?_) e'
    · have := hap a (.inl rfl)
      rcases hc' with z | z
      · exact this.1 (q ▸ z)
      · exact this.2 (q ▸ z)
    · have := hap d (.inr List.mem_cons_self)
      rcases hc' with z | z
      · exact this.1 (q ▸ z)
      · exact this.2 (q ▸ z)
theorem Ex1.setAttr {C k sc ρ σ e o x p pos K N mN} (X : ClsOk C N mN) (h : Ev C k sc ρ σ e fun dv σ₁ => Ev C k sc ρ σ₁ o fun a σ₂ => ∃ b d fs σ₃, a = .raw (.ref b) ∧ Upd σ₂ b (.inst d fs) (.inst d (setF fs x dv)) σ₃ ∧ fs.length ≤ sizeLine ∧ K .next ρ σ₃)
    (hcls : C.cls < C.base) (hns : mN "__setattr__" = none) (hna : mN (Str.ofString x) = none) (hB : typeLookup (.type "object") (Str.ofString x) = pure none)
    (hs : ∀ env, swapsWith e (some (Expr.Attribute o (Str.ofString x) p)) pos.line env = pure false) (hw : ∀ env, swappedStores [Expr.Attribute o (Str.ofString x) p] e env = pure none) : Ex1 C k sc ρ σ (.Assign [Expr.Attribute o (Str.ofString x) p] e pos) K := fun A P env s he hr I => by
  refine wpAny_Assign_stores (ev_one h he hr I fun v d₁ σ₁ s₁ hK A₁ r₁ => ?_) (hs env) (hw env)
  show wpAny _ _ (PySem.assign (Expr.Attribute o (Str.ofString x) p) env v) _ _ _
  rw [arm_assign_Attribute]
  refine wpAny_bind (wpAny_holding (ev_one hK he hr (I.after A₁) fun v₂ d₂ σ₂ s₂ hK₂ A₂ r₂ => ?_))
  obtain ⟨b, d, fs, σ₃, rfl, u, hsz, hK₃⟩ := hK₂
  have A12 := A₁.trans I.hp A₂
  obtain rfl := r₂.rawE
  refine wpAny_bind (wpAny_standAt (wpAny_bind (wpAny_holding (store_field (k := k) X u A12.hp (((r₁.pass' (A₂.pass A₁.hp)).down C.extOk)) hcls hns hna hB hsz fun s' A₃ => ?_))))
  exact wpAny_release ⟨_, _, _, hK₃, .of I (A12.trans I.hp A₃), .next⟩
end Mine
end C21
section C22
open PySem PySem.W PyProof.Rows
set_option maxRecDepth 100000
namespace Mine
section
variable {prog : Program} {w : World} {A : Around} {E : Value → Shared → Prop} {h : Heap} {g : Array GenState} {d : Drawn} {t : Nat} {os : OsState}
variable {nm q : Str} {C N : Addr} {bs : List Value} {sn : List Str} {sub : List Value} {col : Option Bool} {dd : Option Addr} {k0 k1 k2 k3 k5 : Option Value} {newId : String}
noncomputable abbrev made (h : Heap) (C : Addr) : Heap := (h.push { cls := .type "dict", data := .dict #[] }).push { cls := .ref C, dict := some h.objs.size, data := .plain }
theorem type_call_made (F : ObjNewFacts newId) {mN : Str → Option Value} {rest : List Value} {fI : Addr} {oI : Obj} {Q : Fin → Shared → Prop}
    (hC : h.get? C = some (excClassObj nm q C N bs [.type "object"] true sn sub false col dd k0 k1 k2 k3 k5 newId)) (hn : h.Ns N mN) (hi : mN "__init__" = some (.ref fI))
    (hfI : h.get? fI = some oI) (hfc : oI.cls = .type "function")
    (hq : wpAny (model prog w) A (call (.ref fI) (.ref (h.objs.size + 1) :: rest)) (fun r s' => r = .none ∧ Q (.done (.ret (.ref (h.objs.size + 1)))) s') E ⟨made h C, g, d, t, os⟩) :
    wpAny (model prog w) A (Builtin.«type.__call__» ⟨.ref C :: rest, []⟩) Q E ⟨h, g, d, t, os⟩ := by
  have hmro : mroOf (.type "object") = pure [.type "object"] := by kernel_rfl
  have hlk : typeLookup (.type "object") "__init__" = pure (some (.builtin "object.__init__")) := by rw [typeLookup_type, builtinLookup_eq_fast]; kernel_rfl
  repeat (first | with_reducible refine wpAny_loadPart_at hC ?_ | with_reducible refine wpAny_madeBy_exc hC ?_ | wp_step)
  refine codeAny_call_builtin_code (Code.quiet_builtin _ F.quiet) (wpAny_check_obj_new F hC ?_)
  refine codeAny_obj_new F hC hn hi ?_
  show wpAny _ _ _ _ _ _
  have hC₁ := Heap.get?_push_of_some { cls := .ref C, dict := some h.objs.size, data := .plain } (Heap.get?_push_of_some { cls := .type "dict", data := .dict #[] } hC)
  have hfI₁ := Heap.get?_push_of_some { cls := .ref C, dict := some h.objs.size, data := .plain } (Heap.get?_push_of_some { cls := .type "dict", data := .dict #[] } hfI)
  have hn₁ : (made h C).Ns N mN := let ⟨o, es, ep, e, r⟩ := hn; ⟨o, es, ep, Heap.get?_push_of_some _ (Heap.get?_push_of_some _ e), r⟩
  have hget : (made h C).get? (h.objs.size + 1) = some { cls := .ref C, dict := some h.objs.size, data := .plain } := by heap_get
  have hcC : (Value.ref C :: [Value.type "object"]).contains (.ref C) = true := by simp
  unfold isInstance
  repeat (first | with_reducible refine wpAny_loadPart_at hget ?_ | (with_reducible refine wpAny_isSubtype_exc hC₁ ?_; rw [hcC]) | wp_step)
  show wpAny _ _ (typeLookup (.ref C) _) _ _ _
  refine wpAny_typeLookup_exc hC₁ hn₁ hmro hlk ?_
  rw [hi]
  refine wpAny_holding (wpAny_bind ?_)
  unfold bindSpecial
  refine wpAny_bind (wpAny_typeOf (T := "function") ⟨_, hfI₁, hfc⟩ ?_)
  rw [if_pos (by decide)]
  refine wpAny_pure (wpAny_bind (wpAny_mono hq (fun r s' hr => ?_) fun _ _ x => x))
  obtain ⟨rfl, hQ⟩ := hr
  wp_walk
  exact hQ
theorem call_made (F : ObjNewFacts newId) {mN : Str → Option Value} {rest : List Value} {fI : Addr} {oI : Obj} {Q : Value → Shared → Prop}
    (hC : h.get? C = some (excClassObj nm q C N bs [.type "object"] true sn sub false col dd k0 k1 k2 k3 k5 newId)) (hn : h.Ns N mN) (hi : mN "__init__" = some (.ref fI))
    (hfI : h.get? fI = some oI) (hfc : oI.cls = .type "function")
    (hq : wpAny (model prog w) (A.under (.builtin "type.__call__" ⟨.ref C :: rest, []⟩)) (call (.ref fI) (.ref (h.objs.size + 1) :: rest)) (fun r s' => r = .none ∧ Q (.ref (h.objs.size + 1)) s') E ⟨made h C, g, d, t, os⟩) :
    wpAny (model prog w) A (call (.ref C) rest) Q E ⟨h, g, d, t, os⟩ := by
  have f1 := tc_lookup
  have f2 := tc_bind (.ref C)
  have hT : (⟨h, g, d, t, os⟩ : Shared).TypeIs (.ref C) "type" := ⟨_, hC, rfl⟩
  refine wpAny_call (codeAny_of_tree ?_)
  show wpAny _ _ (callAny (.ref C) _) _ _ _
  repeat (any_goals (first | assumption | with_reducible refine wpAny_loadPart_at hC ?_ | wp_step))
  refine ⟨rfl, ?_⟩
  exact codeAny_call_builtin_at (Code.quiet_builtin _ (by decide +kernel)) entry_typeCall (wpAny_check_type_call_sub hC (type_call_made F hC hn hi hfI hfc hq))
end
theorem ClsOk.callable {C N mN} (X : ClsOk C N mN) : Callable C (.ref C.cls) := fun h g => ⟨.machine, .inr (.inl rfl), fun M A Q E s kp hq => by
  obtain ⟨hh, g', d, t, os⟩ := s
  obtain ⟨nm, q, bs, sn, sub, col, dd, k0, k1, k2, k3, k5, hC⟩ := ((X h g).keeps kp).obj
  have f1 := tc_lookup
  have hT : (⟨hh, g', d, t, os⟩ : Shared).TypeIs (.ref C.cls) "type" := ⟨_, hC, rfl⟩
  unfold keeperOf specialOf
  repeat (any_goals (first | assumption | with_reducible refine wpAny_loadPart_at hC ?_ | with_reducible refine wpAny_load' hC ?_ | wp_step))
  all_goals first | exact hq | (rw [if_pos (by rfl)]; exact hq)⟩
theorem OpL.make {C : Cx} {k : Nat} {σ : Sto} {K : PV → Sto → Prop} {N : Addr} {mN : Str → Option Value} {fI : Addr} (X : ClsOk C N mN) (hi : mN "__init__" = some (.ref fI)) (hf : ∀ h, C.gi h → ∃ o, h.get? fI = some o ∧ o.cls = .type "function")
    (h : ∀ a d, a ∉ dom σ → d ∉ dom σ → a ≠ d → OpL C k ((a, .inst d []) :: σ) [.raw (.ref a)] (fun vs => PySem.call (.ref fI) vs) fun r σ' => r = .none ∧ K (.raw (.ref a)) σ') :
    OpL C (k + 1) σ [] (fun vs => PySem.call (.ref C.cls) vs) K := fun A P s vs hr H r => by
  cases r
  obtain ⟨hh, g, d, t, os⟩ := s
  have X' := X _ H.gi
  obtain ⟨nm, q, bs, sn, sub, col, dd, k0, k1, k2, k3, k5, hC⟩ := X'.obj
  obtain ⟨oI, hfI, hfc⟩ := hf _ H.gi
  refine call_made PySem.F.objNew hC X'.ns hi hfI hfc ?_
  have hkeep : ∀ b o, hh.get? b = some o → (made hh C.cls).get? b = some o := fun b o e => Heap.get?_push_of_some _ (Heap.get?_push_of_some _ e)
  have hsz2 : (made hh C.cls).objs.size = hh.objs.size + 2 := by rw [Heap.size_push, Heap.size_push]
  have hget : (made hh C.cls).get? (hh.objs.size + 1) = some { cls := .ref C.cls, dict := some hh.objs.size, data := .plain } := by heap_get
  have hgd : (made hh C.cls).get? hh.objs.size = some { cls := .type "dict", data := .dict #[] } := Heap.get?_push_of_some _ (Heap.get?_push_at rfl rfl)
  have hns : (made hh C.cls).Ns1 hh.objs.size fun _ => none := Heap.Ns1.of_empty ⟨_, #[], _, hgd, rfl, fun e he => absurd he (by simp), fun _ => rfl⟩
  have hlo : C.base ≤ hh.objs.size := C.low H.gi
  have hP0 : ∀ i, hh.objs.size ≤ i → ¬ P i ∧ i ∉ dom σ := fun i hi => ⟨fun q => Nat.not_lt.mpr hi (H.plt i q), fun q => Nat.not_lt.mpr hi (H.lt i q)⟩
  let P' : Addr → Prop := fun b => P b ∨ b = hh.objs.size ∨ b = hh.objs.size + 1
  have gp : Pass P hh P' (made hh C.cls) := fun b o na e => ⟨hkeep b o e, fun q => q.elim na fun q => by
    have := Heap.lt_size e
    rcases q with q | q <;> (unfold Addr at *; lia)⟩
  have H' : Hp C P' ((hh.objs.size + 1, .inst hh.objs.size []) :: σ) (made hh C.cls) := by
    refine ⟨C.keep H.gi (fun b o _ e => hkeep b o e) (by rw [hsz2]; exact Nat.le_add_right _ _), fun b ao hm => ?_, fun b hb => .inl (H.ptb b hb), fun b hb => ?_, ?_, fun b q => ?_⟩
    · rcases List.mem_cons.mp hm with e | hm
      · cases e
        exact ⟨⟨_, hget, rfl, rfl, fun c => by simp⟩, Nat.ne_of_lt (Nat.lt_succ_self _), _, hns, And.intro (fun y e' (hy : ([] : List (String × PV)).lookup y = some e') => by cases hy) (fun y v (hy : (none : Option Value) = some v) => by cases hy)⟩
      · exact (H.st b ao hm).pass gp fun c _ o e => hkeep c o e
    · rcases List.mem_cons.mp hb with rfl | hb
      · exact ⟨.inr (.inr rfl), .inl (Nat.le_succ_of_le hlo)⟩
      · rcases List.mem_cons.mp hb with rfl | hb
        · exact ⟨.inr (.inl rfl), .inl hlo⟩
        · exact ⟨.inl (H.pdom b hb).1, (H.pdom b hb).2⟩
    · show ((hh.objs.size + 1) :: (hh.objs.size :: dom σ)).Nodup
      refine List.nodup_cons.mpr ⟨fun q => ?_, List.nodup_cons.mpr ⟨(hP0 _ (Nat.le_refl _)).2, H.nodup⟩⟩
      rcases List.mem_cons.mp q with q | q
      · exact absurd q (Nat.ne_of_gt (Nat.lt_succ_self _))
      · exact (hP0 _ (Nat.le_succ _)).2 q
    · rw [hsz2]
      rcases q with q | q | q
      · exact Nat.lt_of_lt_of_le (H.plt b q) (Nat.le_add_right _ _)
      · subst q; exact Nat.lt_add_of_pos_right (by decide)
      · subst q; exact Nat.lt_succ_self _
  have hc : (Code.builtin "type.__call__" ⟨[.ref C.cls], []⟩).cUnits ≤ 50 := Nat.le_of_ble_eq_true rfl
  have hr' : Room (A.under (.builtin "type.__call__" ⟨.ref C.cls :: [], []⟩)) k := by
    refine ⟨?_, ?_, hr.handled⟩
    · have := hr.depth
      show A.depth + 1 + k ≤ 900
      lia
    · have := hr.units
      show A.units + (Code.builtin "type.__call__" ⟨[.ref C.cls], []⟩).cUnits + 100 * k ≤ 9000
      lia
  refine wpAny_mono (h _ _ (hP0 _ (Nat.le_succ _)).2 (hP0 _ (Nat.le_refl _)).2 (Nat.ne_of_gt (Nat.lt_succ_self _)) _ P' ⟨made hh C.cls, g, d, t, os⟩ [.ref (hh.objs.size + 1)] hr' H' (.cons (.raw _) .nil)) (fun v s' o => ?_) fun _ _ x => x
  obtain ⟨dv, σ', ⟨rfl, hK⟩, A', rv⟩ := o
  cases rv
  refine ⟨rfl, _, σ', hK, ⟨⟨fun b o h1 h2 h3 e => A'.step.kept b o (fun q => ?_) h2 h3 (hkeep b o e), Nat.le_trans (by show hh.objs.size ≤ (made hh C.cls).objs.size; rw [hsz2]; exact Nat.le_add_right _ _) A'.step.size, fun b hb => ?_, A'.step.gens, A'.step.os⟩, ?_⟩, .raw _⟩
  · have := Heap.lt_size e
    rcases List.mem_cons.mp q with q | q
    · subst q; exact Nat.not_lt.mpr (Nat.le_succ _) this
    · rcases List.mem_cons.mp q with q | q
      · subst q; exact Nat.lt_irrefl _ this
      · exact h1 q
  · rcases A'.step.new b hb with q | q
    · rcases List.mem_cons.mp q with q | q
      · subst q; exact .inr (Nat.le_succ _)
      · rcases List.mem_cons.mp q with q | q
        · subst q; exact .inr (Nat.le_refl _)
        · exact .inl q
    · exact .inr (Nat.le_trans (by show hh.objs.size ≤ (made hh C.cls).objs.size; rw [hsz2]; exact Nat.le_add_right _ _) q)
  · exact A'.hp.weak (fun b q => q.elim (fun q => .inl (.inl q)) .inr) (fun b hb => .inl (H.ptb b hb)) (fun b hb => .inr hb)
end Mine
end C22
section C23
open PySem PySem.W PyProof.Rows
set_option maxRecDepth 100000
namespace Mine
theorem Ev.methodI {C k sc ρ σ o x apos pos es K N mN f} (X : ClsOk C N mN) (hfn : ∀ h, C.gi h → ∃ ob fd, h.get? f = some ob ∧ ob.cls = .type "function" ∧ ob.data = .func fd)
    (h : Ev C k sc ρ σ o fun a σ₁ => ∃ b d fs, a = .raw (.ref b) ∧ (b, AO.inst d fs) ∈ σ₁ ∧ fs.lookup x = Option.none ∧ EvL C k sc ρ σ₁ es fun ds σ₂ => OpL C k σ₂ (a :: ds) (fun vs => PySem.call (.ref f) vs) K)
    (hf : mN (Str.ofString x) = some (.ref f)) (hng : mN "__getattribute__" = Option.none) (hnh : mN "__getattr__" = Option.none) (hB : ∃ y, typeLookup (.type "object") (Str.ofString x) = pure y)
    (hp : es.all plainE = true) (hfew : es.length < 30) (hline : (apos.endLine == pos.line) = true) (hbase : ∀ env, attributeBase o (Str.ofString x) env (eval o env) = eval o env) :
    Ev C k sc ρ σ (.Call (.Attribute o (Str.ofString x) apos) es [] pos) K := fun A P env s he hr I => by
  rw [arm_eval_Call, hbase env]
  refine wpAny_bind (ev_one h he hr I fun v d₁ σ₁ s₁ hK hA r => ?_)
  obtain ⟨b, d, fs, rfl, hm, hlk, hK⟩ := hK
  obtain rfl := r.rawE
  refine wpAny_bind (wpAny_standAt ?_)
  have hform : methodCallForm (es.length + ([] : List Keyword).length) (backTo pos (starEach es env)) (backToKw pos (keywordEach [] env)) = true := by
    unfold methodCallForm
    rw [plain_trees' hp]
    simpa [keywordEach, backToKw] using hfew
  have hpos : methodCallPos true o env apos pos = pure pos := by unfold methodCallPos; simp [hline]
  unfold methodCall
  rw [hform]
  obtain ⟨mA, Ii, ns, hf'⟩ := inst_of (hA.hp.st _ _ hm)
  have hsh : mA (Str.ofString x) = Option.none := by
    cases hq : mA (Str.ofString x) with
    | none => rfl
    | some v =>
      obtain ⟨z, dz, e, hz⟩ := hf'.2 _ _ hq
      rw [← ofString_inj e, hlk] at hz; cases hz
  obtain ⟨ob, fd, hfo, hfc, hfd⟩ := hfn _ hA.hp.gi
  have hcal : Callable C (.ref f) := fun h g => by
    obtain ⟨o, fd, ho, _, hd⟩ := hfn h g
    refine ⟨.frame, .inl rfl, fun M => (Looks.ld (part := Option.none) ho).andThen ?_⟩
    rw [hd]; exact Looks.now
  have X' := X _ hA.hp.gi
  obtain ⟨y, hB⟩ := hB
  have fin := wp_seq hA I.hp (callWith_L (pos := pos) he hr (I.after hA) hcal (.cons (.raw (.ref b)) .nil) hK hp)
  obtain ⟨hh', g, dd, t, os⟩ := s₁
  obtain ⟨nm, q, bs, sn, sub, col, ddd, k0, k1, k2, k3, k5, hC⟩ := X'.obj
  exact wpAny_bind (wpAny_holding (PySem.method_of hC X'.ns hng hnh hf hfo hfc hB Ii hsh (wpAny_bind (wpAny_of_eq hpos fin))))
end Mine
end C23
section C24
open PySem PySem.W PyProof.Rows
set_option maxRecDepth 100000
namespace Mine
theorem RdL.reverse {X : Ext} {P h} : ∀ {vs : List Value} {ds : List PV}, RdL X P h vs ds → RdL X P h vs.reverse ds.reverse
  | _, _, .nil => .nil
  | _, _, .cons r rs => by rw [List.reverse_cons, List.reverse_cons]; exact rs.reverse.append (.cons r .nil)
theorem Inv.sub {C P env ρ ρ' σ h} (I : Inv C P env ρ σ h) (e : ∀ x d, ρ'.lookup x = some d → ρ.lookup x = some d) : Inv C P env ρ' σ h := ⟨I.hp, I.envOk, fun x d hx => I.vars x d (e x d hx), I.pown⟩
theorem zip_rev {α β : Type} : ∀ {a : List α} {b : List β}, a.length = b.length → (a.reverse.zip b.reverse).reverse = a.zip b
  | [], [], _ => rfl
  | x :: a, y :: b, h => by
    have h' : a.length = b.length := by simpa using h
    rw [List.reverse_cons, List.reverse_cons, List.zip_append (by simpa using h'), List.reverse_append, zip_rev h']
    rfl
theorem Ex1.swap {C k sc ρ σ ts x1 p vs x2 p2 pos K} {names : List String} (h : Ev C k sc ρ σ (.Tuple vs x2 p2) fun d σ₁ => ∃ ds, d = .tuple ds ∧ ds.length = names.length ∧ K .next ((names.zip ds) ++ ρ) σ₁)
    (hn : ∀ n ∈ names, sc.names.lookup (Str.ofString n) = some .local) (hs : ∀ env, env.scope = sc → swapsWith (.Tuple vs x2 p2) (some (.Tuple ts x1 p)) pos.line env = pure false)
    (hw : ∀ env, env.scope = sc → swappedStores [.Tuple ts x1 p] (.Tuple vs x2 p2) env = pure (some (names.map Str.ofString))) (hl : names.length = ts.length) : Ex1 C k sc ρ σ (.Assign [.Tuple ts x1 p] (.Tuple vs x2 p2) pos) K := fun A P env s he hr I => by
  rw [arm_exec_Assign]
  refine wpAny_bind (wpAny_standAt (wpAny_bind (wpAny_of_eq (show swapsWithSole [.Tuple ts x1 p] (.Tuple vs x2 p2) pos.line env = pure false from hs env he) ?_)))
  simp only [Bool.false_eq_true, if_false]
  refine wpAny_bind (ev_one h he hr I fun v d σ₁ s₁ hK hA r => ?_)
  obtain ⟨ds, rfl, hdl, hK⟩ := hK
  refine wpAny_bind (wpAny_of_eq (hw env he) ?_)
  have hF := AfterF.of I hA
  unfold assignStores
  refine wpAny_bind (wpAny_rule ?_)
  rw [List.length_map, ← hdl]
  refine wpAny_bind (unpack_it Iterable.tuple Unpackable.tuple hr hA.hp r fun ws h' tk hz hk rl => ?_)
  have I₂ := hF.inv.grown hk hz
  have S₂ : Step C σ σ₁ (own env) s { s₁ with heap := h', toks := tk } := hF.step.trans ⟨fun b o _ _ _ e => hk b o e, hz, fun _ q => .inl q, rfl, rfl⟩
  have run : ∀ (ns : List String) (es : List PV) (us : List Value) (ρ₀ : Lo) (s₀ : Shared), (∀ n ∈ ns, sc.names.lookup (Str.ofString n) = some .local) → ns.length = es.length → Step C σ σ₁ (own env) s s₀ → Inv C (PP P σ₁) env ρ₀ σ₁ s₀.heap → RdL C.X (PP P σ₁) s₀.heap us es →
      wpAny (model C.prog C.w) A (assignInOrder (ns.map fun n => bindName env (Str.ofString n)) us) (fun _ s' => ∃ ρ', (∀ y dy, (((ns.zip es).reverse) ++ ρ₀).lookup y = some dy → ρ'.lookup y = some dy) ∧ Step C σ σ₁ (own env) s s' ∧ Inv C (PP P σ₁) env ρ' σ₁ s'.heap) NoE s₀ := by
    intro ns
    induction ns with
    | nil => intro es us ρ₀ s₀ _ hl S V rr; exact wpAny_pure ⟨ρ₀, fun y dy hy => by simpa using hy, S, V⟩
    | cons n ns ih =>
      intro es us ρ₀ s₀ hloc hl S V rr
      cases rr with
      | nil => simp at hl
      | cons r₁ rs =>
      rename_i u us e es
      refine wpAny_assignInOrder_more (wpAny_bindName (inv_storeL he (hloc n List.mem_cons_self) V r₁ fun s' S' V' => ?_))
      have S1 : Step C σ₁ σ₁ (own env) s₀ s' := S'.weak fun a q => .inl q
      have g := pass_step S1 (fun a q => (V.pown a q).1) V.hp
      have gg : Pass (PP P σ₁) s₀.heap (PP P σ₁) s'.heap := g.trans (Pass.less fun a q => .inl q)
      refine wpAny_mono (ih es us _ s' (fun m hm => hloc m (List.mem_cons_of_mem _ hm)) (by simpa using hl) (S.trans S1) V' (rs.pass' gg)) (fun _ s'' o => ?_) fun _ _ x => x
      obtain ⟨ρ', h1, h2, h3⟩ := o
      refine ⟨ρ', fun y dy hy => h1 y dy ?_, h2, h3⟩
      simpa [List.zip_cons_cons, List.reverse_cons, List.append_assoc] using hy
  have go := run names.reverse ds.reverse ws.reverse ρ _ (fun n hm => hn n (List.mem_reverse.mp hm)) (by simpa using hdl.symm) S₂ I₂ rl.reverse
  have eq1 : ((names.map Str.ofString).reverse.map fun n => bindName env n) = names.reverse.map fun n => bindName env (Str.ofString n) := by
    rw [← List.map_reverse, List.map_map]; rfl
  rw [eq1]
  refine wpAny_bind (wpAny_mono go (fun _ s' o => ?_) fun _ _ x => x)
  obtain ⟨ρ', h1, h2, h3⟩ := o
  rw [zip_rev hdl.symm] at h1
  exact wpAny_pure ⟨.next, _, σ₁, hK, ⟨h2, h3.sub h1⟩, .next⟩
end Mine
end C24
section C25
open PySem PySem.W PyProof.Rows
set_option maxRecDepth 100000
namespace Mine
noncomputable abbrev LSub (ρ ρ' : Lo) : Prop := ∀ y d, ρ'.lookup y = some d → ρ.lookup y = some d
theorem Ev.lsub {C k sc ρ ρ' σ e K} (h : LSub ρ ρ') (q : Ev C k sc ρ' σ e K) : Ev C k sc ρ σ e K := fun A P env s h1 h2 h3 => q A P env s h1 h2 (h3.sub h)
theorem Tr.sub {C k sc ρ ρ' σ e K} (h : LSub ρ ρ') (q : Tr C k sc ρ' σ e K) : Tr C k sc ρ σ e K := fun A P env s h1 h2 h3 => q A P env s h1 h2 (h3.sub h)
theorem TrAll.sub {C k sc ρ ρ' op} (h : LSub ρ ρ') : ∀ {es σ K}, TrAll C k sc ρ' op σ es K → TrAll C k sc ρ op σ es K
  | [], _, _, q => q
  | e :: r, _, _, q => Tr.sub h (Tr.mono q fun b σ₁ z => by
      by_cases hb : b = (op == .And)
      · rw [if_pos hb] at z ⊢; exact TrAll.sub h z
      · rw [if_neg hb] at z ⊢; exact z)
theorem LSub.cons {ρ ρc : Lo} {t : String} {x : PV} (h : LSub ρ ρc) (ht : ρc.lookup t = none) : LSub ((t, x) :: ρ) ((t, x) :: ρc) := fun y d hy => by
  by_cases e : y = t
  · subst e; rw [List.lookup_cons_self] at hy ⊢; exact hy
  · rw [List.lookup_cons, beq_false_of_ne e] at hy ⊢; exact h y d hy
theorem LSub.skip {ρ ρc : Lo} {t : String} {x : PV} (h : LSub ρ ρc) (ht : ρc.lookup t = none) : LSub ((t, x) :: ρ) ρc := fun y d hy => by
  by_cases e : y = t
  · subst e; rw [ht] at hy; cases hy
  · rw [List.lookup_cons, beq_false_of_ne e]; exact h y d hy
theorem Comp.pure1 {C k sc ρc elt t p iter ifs scope xs σ} {K : List PV → Sto → Prop} (keep : PV → Bool) (f : PV → PV) (hx : (rel scope sc).names.lookup (Str.ofString t) = some .local) (ht0 : ρc.lookup t = none)
    (ht : ∀ x ∈ xs, ∀ K' : Bool → Sto → Prop, K' (keep x) σ → TrAll C k (rel scope sc) ((t, x) :: ρc) .And σ ifs K')
    (he : ∀ x ∈ xs, keep x = true → ∀ K' : PV → Sto → Prop, K' (f x) σ → Ev C k (rel scope sc) ((t, x) :: ρc) σ elt K')
    (hl : xs.length ≤ sizeLine) (h : K ((xs.filter keep).map f) σ) : Comp C k sc ρc elt ⟨.Name (Str.ofString t) p, iter, ifs, 0⟩ [] scope xs σ K := by
  refine ⟨fun rest acc ρ σ' => σ' = σ ∧ LSub ρ ρc ∧ ∃ done, done ++ rest = xs ∧ acc = (done.filter keep).map f, ⟨rfl, fun _ _ h => h, [], rfl, rfl⟩, ?_, ?_⟩
  · rintro x r acc ρ σ' ⟨rfl, hs, done, hd, rfl⟩
    have hm : x ∈ xs := hd ▸ List.mem_append_right _ List.mem_cons_self
    refine Bind.nameL hx (TrAll.sub (hs.cons ht0) (ht x hm _ ?_))
    cases hk : keep x with
    | false =>
      refine ⟨rfl, hs.skip ht0, done ++ [x], by simpa using hd, ?_⟩
      simp [List.filter_append, hk]
    | true =>
      refine Ev.lsub (hs.cons ht0) (he x hm hk _ ?_)
      refine ⟨?_, rfl, hs.skip ht0, done ++ [x], by simpa using hd, ?_⟩
      · have h1 : ((done.filter keep).map f).length ≤ done.length := by rw [List.length_map]; exact List.length_filter_le ..
        have h2 : done.length ≤ xs.length := by rw [← hd]; simp
        lia
      · simp [List.filter_append, hk]
  · rintro acc ρ σ' ⟨rfl, hs, done, hd, rfl⟩
    rw [List.append_nil] at hd
    rw [hd]; exact h
theorem Bind.pairF {C k sc ρ σ t₁ t₂ p₁ p₂ x1 pos a b K} (h1 : Storable sc t₁) (h2 : Storable sc t₂) (h : K ((t₂, b) :: (t₁, a) :: ρ) σ) :
    Bind C k sc ρ σ (.Tuple [.Name (Str.ofString t₁) p₁, .Name (Str.ofString t₂) p₂] x1 pos) (.tuple [a, b]) own K :=
  Bind.tuple Iterable.tuple Unpackable.tuple (Bind.name h1 (Bind.name h2 h)) rfl rfl fun env a q => q
end Mine
end C25
section C26
open PySem PySem.W PyProof.Rows
set_option maxRecDepth 100000
namespace Mine
theorem pick_range {α : Type} (xs : List α) (a : Nat) : ∀ n, a + n ≤ xs.length → ((List.range n).map fun k => a + k).filterMap (xs[·]?) = (xs.drop a).take n
  | 0, _ => by simp
  | n + 1, h => by
    rw [List.range_succ, List.map_append, List.filterMap_append, pick_range xs a n (by lia), List.take_add_one]
    have : xs[a + n]? = some xs[a + n] := List.getElem?_eq_getElem (by lia)
    simp [this]
theorem sr_up (a n : Nat) : sliceRange (a : Int) ((a + n : Nat) : Int) 1 = (List.range n).map fun k => a + k := by
  unfold sliceRange
  simp only [gt_iff_lt, show (0 : Int) < 1 from by decide, if_true, Int.ediv_one, Int.one_mul]
  by_cases h : n = 0
  · subst h; simp
  · rw [if_pos (by lia)]
    have : ((((a + n : Nat) : Int) - (a : Int) + 1 - 1)).toNat = n := by lia
    rw [this]
    exact List.map_congr_left fun k _ => by lia
theorem slcL_to {α : Type} (xs : List α) (n : Nat) : slcL xs none (some (n : Int)) none = xs.take n := by
  unfold slcL sliceBounds
  simp only [Option.getD_none, gt_iff_lt, show (0 : Int) < 1 from by decide, if_true]
  have h1 : ¬ ((n : Int) < 0) := by lia
  simp only [h1, if_false]
  have h2 : max (0 : Int) (min (n : Int) (xs.length : Int)) = ((0 + min n xs.length : Nat) : Int) := by lia
  rw [h2]
  have := sr_up 0 (min n xs.length)
  rw [Int.natCast_zero] at this
  rw [this, pick_range xs 0 _ (by lia), List.drop_zero]
  by_cases h : n ≤ xs.length
  · rw [Nat.min_eq_left h]
  · rw [Nat.min_eq_right (by lia), List.take_of_length_le (Nat.le_refl _), List.take_of_length_le (by lia)]
theorem slcL_from {α : Type} (xs : List α) (n : Nat) : slcL xs (some (n : Int)) none none = xs.drop n := by
  unfold slcL sliceBounds
  simp only [Option.getD_none, gt_iff_lt, show (0 : Int) < 1 from by decide, if_true]
  have h1 : ¬ ((n : Int) < 0) := by lia
  simp only [h1, if_false]
  have h2 : max (0 : Int) (min (n : Int) (xs.length : Int)) = ((min n xs.length : Nat) : Int) := by lia
  have h3 : ((xs.length : Nat) : Int) = ((min n xs.length + (xs.length - min n xs.length) : Nat) : Int) := by lia
  rw [h2, h3, sr_up, pick_range xs _ _ (by lia)]
  by_cases h : n ≤ xs.length
  · rw [Nat.min_eq_left h, List.take_of_length_le (by simp)]
  · rw [Nat.min_eq_right (by lia), List.drop_of_length_le (Nat.le_refl _), List.drop_of_length_le (by lia)]; simp
theorem slcL_mid {α : Type} (xs : List α) (a b : Nat) (h : a ≤ b) (hb : b ≤ xs.length) : slcL xs (some (a : Int)) (some (b : Int)) none = (xs.drop a).take (b - a) := by
  unfold slcL sliceBounds
  simp only [Option.getD_none, gt_iff_lt, show (0 : Int) < 1 from by decide, if_true]
  have h1 : ¬ ((a : Int) < 0) := by lia
  have h1' : ¬ ((b : Int) < 0) := by lia
  simp only [h1, h1', if_false]
  have h2 : max (0 : Int) (min (a : Int) (xs.length : Int)) = (a : Int) := by lia
  have h3 : max (0 : Int) (min (b : Int) (xs.length : Int)) = ((a + (b - a) : Nat) : Int) := by lia
  rw [h2, h3, sr_up, pick_range xs _ _ (by lia)]
theorem slcS_eq (xs : List Nat) (lo hi : Option Int) : slcS xs lo hi none = slcL xs lo hi none := by
  unfold slcS slcL Builtin.Str.strSliceIndices sliceBounds
  rfl
theorem small_up {a b : Int} (h1 : -(10 ^ 9) ≤ a) (h2 : a ≤ 10 ^ 9) (h3 : -(10 ^ 9) ≤ b) (h4 : b ≤ 10 ^ 9) : Builtin.Range.small a b 1 = true := by
  unfold Builtin.Range.small Builtin.Range.rangeFitsLong
  rw [PySem.rangeSize_one]
  split <;> simp <;> lia
end Mine
end C26
section C27
open PySem PySem.W PyProof.Rows
set_option maxRecDepth 100000
namespace Mine
noncomputable def constInts : List Expr → Option (List Int)
  | [] => some []
  | .Constant (.int i) _ _ :: r => (constInts r).map (i :: ·)
  | _ => none
theorem evL_ints {C k sc ρ σ} : ∀ {es : List Expr} {ns : List Int} {K : List PV → Sto → Prop}, constInts es = some ns → K (ns.map .int) σ → EvL C k sc ρ σ es K ∧ es.all plainE = true
  | [], ns, K, h, hK => by
    rw [constInts] at h; cases h; exact ⟨hK, rfl⟩
  | e :: r, ns, K, h, hK => by
    unfold constInts at h
    split at h
    · rename_i heq; cases heq
    · rename_i i a b r' heq
      cases heq
      cases hr : constInts r with
      | none => rw [hr] at h; cases h
      | some ms =>
        rw [hr] at h; cases h
        obtain ⟨h1, h2⟩ := evL_ints (C := C) (k := k) (sc := sc) (ρ := ρ) (σ := σ) (K := fun ds σ' => K (.int i :: ds) σ') hr hK
        exact ⟨Ev.int h1, by rw [List.all_cons, h2]; rfl⟩
    · cases h
theorem Ev.ints {C k sc ρ σ es pos K} (ns : List Int) (h : constInts es = some ns) (hl : ns.length ≤ 1000) (hK : K (.list (ns.map .int)) σ) : Ev C k sc ρ σ (.List es pos) K :=
  let ⟨a, b⟩ := evL_ints (K := fun ds σ' => ds.length ≤ sizeLine ∧ K (.list ds) σ') h ⟨by rw [List.length_map]; simp [sizeLine]; lia, hK⟩
  Ev.list a b
end Mine
end C27
section C28
open PySem PySem.W PyProof.Rows
set_option maxRecDepth 100000
namespace Mine
theorem setOf_as {prog : Program} {w : World} {h : Heap} {a : Addr} {S S' : Str → Bool} {n n' : Nat} (q : h.SetOf (strKind prog w) a S n) (e : ∀ k, S k = S' k) (en : n = n') : h.SetOf (strKind prog w) a S' n' := by
  have : S = S' := funext e
  subst this; subst en; exact q
section
variable {prog : Program} {w : World} {A : Around} {R : Result → Shared → Prop} {I : Addr} {fp wr : List Addr} {G : Array GenState → Array GenState → Prop} {P : Nat → Value → Prop} {St : Nat → Shared → Prop}
theorem strs_loop {ys : List Str} (W : WalksS prog w A.in1 I fp wr G ys.length P St) (D : Addr) (hD : D ∉ fp) (hv : ∀ i v, P i v → ∃ y t, ys[i]? = some y ∧ v = .str y t) (hb : ys.length + 1 < scanBound) :
    ∀ (todo i m : Nat) (s : Shared), i + todo = ys.length → m ≤ i → St i s → s.heap.SetOf (strKind prog w) D (fun y => decide (y ∈ ys.take i)) m →
      (∀ s', Moved (D :: wr) G s s' → (∃ m, s'.heap.SetOf (strKind prog w) D (fun y => decide (y ∈ ys)) m) → R (.ok (.ret .none)) s') →
      codeAny (model prog w) A (.builtin "set.update.loop" ⟨[.ref D, .ref I], []⟩) R s := by
  have hDw : D ∉ wr := fun q => hD (W.sub _ q)
  have up : ∀ b ∈ wr, b ∈ D :: wr := fun b q => List.mem_cons_of_mem _ q
  intro todo
  induction todo with
  | zero =>
    intro i m s hi hm st hS hR
    obtain rfl : i = ys.length := by lia
    refine codeAny_builtin PyProof.Rows.F.entry_set_update_loop ?_
    rw [Around.under_plainId PyProof.Rows.F.plain_set_update_loop _]
    show wpAny _ A.in1 (pyNext (.ref I) >>= _) _ _ s
    refine wpAny_bind (W.done s _ _ st fun s' mv => ?_)
    show wpAny _ A.in1 (ret Value.none) _ _ s'
    refine wpAny_pure (hR s' (mv.mono up) ⟨m, ?_⟩)
    obtain ⟨o, es, ep, t, ho, rest⟩ := hS
    rw [List.take_length] at rest
    exact ⟨o, es, ep, t, mv.heap D _ hDw ho, rest⟩
  | succ todo ih =>
    intro i m s hi hm st hS hR
    refine codeAny_builtin PyProof.Rows.F.entry_set_update_loop ?_
    rw [Around.under_plainId PyProof.Rows.F.plain_set_update_loop _]
    show wpAny _ A.in1 (pyNext (.ref I) >>= _) _ _ s
    refine wpAny_bind (W.item i s _ _ (by lia) st fun v s' hP st' mv => ?_)
    obtain ⟨y, t, hy, rfl⟩ := hv i v hP
    have hS' : s'.heap.SetOf (strKind prog w) D (fun y => decide (y ∈ ys.take i)) m := by
      obtain ⟨o, es, ep, tb, ho, rest⟩ := hS
      exact ⟨o, es, ep, tb, mv.heap D _ hDw ho, rest⟩
    show wpAny _ A.in1 (holding [Value.str y t] (setAdd D (.str y t)) >>= _) _ _ s'
    refine wpAny_bind (wpAny_holding ?_)
    unfold setAdd
    refine wpAny_holding ?_
    refine wpAny_bind ((strKind prog w).pyHash (k := y) (strKind_is _ _ _ _) ?_)
    refine wpAny_setAddHashed_of (knd := strKind prog w) (s := { s' with toks := s'.toks + 1 }) (strKind_is _ _ _ _) rfl hS' (by lia) fun h' sb hS2 => ?_
    have hS3 : ∃ m' ≤ i + 1, h'.SetOf (strKind prog w) D (fun y => decide (y ∈ ys.take (i + 1))) m' := by
      refine ⟨_, ?_, setOf_as hS2 (fun k => ?_) rfl⟩
      · split <;> lia
      · rw [List.take_add_one, hy]; simp [Bool.decide_or]
    obtain ⟨m', hm', hS3⟩ := hS3
    refine wpAny_pure ⟨plainId_quiet PyProof.Rows.F.plain_set_update_loop _, ih (i + 1) m' _ (by lia) hm' (W.frame _ s' _ _ st' (Nat.le_succ _) fun b hb o e => ?_) hS3 fun s'' mv'' q => hR s'' (Moved.trans W.gtrans ((mv.mono up).then_heap (Nat.le_succ _) fun b o hb e => ?_) mv'') q⟩
    · rw [sb.2 b (fun q : b = D => hD (by rw [← q]; exact hb))]; exact e
    · rw [sb.2 b (fun q : b = D => hb (by rw [q]; exact List.mem_cons_self))]; exact e
end
section
variable {prog : Program} {w : World} {A : Around} {E : Value → Shared → Prop} {s : Shared}
set_option maxHeartbeats 3200000 in
theorem set_of_strs {l : Addr} {items : Array Value} {ys : List Str} {Q : Value → Shared → Prop} (hh : A.handled = none) (hl : s.heap.IsList l items) (hi : StrsAre items.toList ys) (hb : ys.length + 1 < scanBound)
    (h : ∀ (h' : Heap) (tk : Nat) m, h'.SetOf (strKind prog w) s.heap.objs.size (fun y => decide (y ∈ ys)) m → (∀ b o, s.heap.get? b = some o → h'.get? b = some o) → Q (.ref s.heap.objs.size) { s with heap := h', toks := tk }) :
    wpAny (model prog w) A (call (.type "set") [.ref l]) Q E s := by
  have hz : items.size = ys.length := by rw [← hi.length, Array.length_toList]
  obtain ⟨c, tl, hmro⟩ := F.called_set.mro
  have hmade := F.called_set.made
  have hsub := F.called_set.sub
  refine wpAny_call (codeAny_of_tree ?_)
  show wpAny _ _ (callAny (.type "set") _) _ _ _
  refine wpAny_pure ⟨Code.quiet_builtin _ (by decide +kernel), codeAny_builtin F.entry_type_call ?_⟩
  rw [Around.under_plain (weight_type_call_type "set" [.ref l] []) rfl]
  have h1 := F.called_set.notType
  have h2 := F.called_set.canCreate
  have hct := F.typeCall_set_1 (.ref l)
  repeat (any_goals (first | assumption | wp_step))
  refine codeAny_mono (code_set_new_1 (.ref l) (E := E) (Q₁ := fun obj s₁ => ∃ led : Bool, obj = .ref s.heap.objs.size ∧ s₁ = { s with heap := s.heap.push { cls := .type "set", dict := none, data := .set #[] 0 (.fresh 0 0 led) } }) fun led => ⟨led, rfl, rfl⟩) fun r s₁ hr => ?_
  obtain _ | (_ | _ | _ | obj) := r
  · exact hr
  · exact hr.elim
  · exact hr.elim
  · exact hr.elim
  obtain ⟨led, rfl, rfl⟩ := hr
  generalize hH : s.heap.push { cls := .type "set", dict := none, data := .set #[] 0 (.fresh 0 0 led) } = H₁
  have hS : H₁.get? s.heap.objs.size = some { cls := .type "set", dict := none, data := .set #[] 0 (.fresh 0 0 led) } := hH ▸ Heap.get?_push_size _ rfl
  have hk₁ : ∀ b o, s.heap.get? b = some o → H₁.get? b = some o := fun b o e => hH ▸ Heap.get?_push_of_some _ e
  have hz₁ : H₁.objs.size = s.heap.objs.size + 1 := by rw [← hH, Heap.size_push]
  have hT : Shared.TypeIs { s with heap := H₁ } (.ref s.heap.objs.size) "set" := ⟨_, hS, rfl⟩
  have hli := F.called_set.init.lookup
  have hbi := F.called_set.init.bind (.ref s.heap.objs.size)
  repeat (any_goals (first | assumption | wp_step))
  refine codeAny_mono (codeAny_call_builtin (R := wants (fun r s₂ => r = .none ∧ ∃ h' tk m, s₂ = { s with heap := h', toks := tk } ∧ h'.SetOf (strKind prog w) s.heap.objs.size (fun y => decide (y ∈ ys)) m ∧ (∀ b o, s.heap.get? b = some o → h'.get? b = some o)) E)
    F.called_set.init.plain F.entry_set_init (check_set_init_1 hT ?_)) fun r₂ s₂ hr₂ => ?_
  · obtain ⟨ol, hol, hcl, nl, hdl⟩ := hl
    obtain ⟨ocls, odict, odata, oslots⟩ := ol
    simp only at hcl hdl
    subst hcl; subst hdl
    have hol' := hk₁ _ _ hol
    have hsls := F.sub_list_set
    have hslf := F.sub_list_frozenset
    have hne : (Value.type "list" == Value.type "dict") = false := by decide
    have hl1 : H₁.IsList l items := ⟨_, hol', rfl, nl, rfl⟩
    unfold Builtin.«set.__init__» noKeywords Builtin.Frozenset.updateFrom
    generalize hPI : pyIter = PI
    wp_walk
    subst hPI
    refine wpAny_pyIter_list hl1 ?_
    refine wpAny_bind (wpAny_runValue ?_)
    have hlS : l < s.heap.objs.size := Heap.lt_size hol
    have hh3 : A.in1.in1.in1.handled = none := by simp [hh]
    have hneI : l ≠ H₁.objs.size := by rw [hz₁]; exact Nat.ne_of_lt (Nat.lt_succ_of_lt hlS)
    have hSf : s.heap.objs.size ∉ [H₁.objs.size, l] := by
      rw [hz₁]; simp only [List.mem_cons, List.not_mem_nil, or_false, not_or]
      exact ⟨Nat.ne_of_lt (Nat.lt_succ_self _), Nat.ne_of_gt hlS⟩
    have hval : ∀ (i : Nat) (v : Value), items[i]? = some v → ∃ y t, ys[i]? = some y ∧ v = .str y t := fun i v hv => by
      have : items.toList[i]? = some v := by simpa using hv
      clear hz hb hl1 hol hol' h
      generalize items.toList = vs at hi this
      clear hv
      induction hi generalizing i with
      | nil => cases this
      | cons y t r ih =>
        cases i with
        | zero => exact ⟨y, t, rfl, by simpa using this.symm⟩
        | succ i => exact ih i (by simpa using this)
    have W := (Walks.list (prog := prog) (w := w) hh3 H₁.objs.size l hneI items).toS
    rw [hz] at W
    refine strs_loop W s.heap.objs.size hSf hval hb ys.length 0 0 _ (by lia) (Nat.le_refl _) ⟨⟨_, Heap.get?_push_size _ rfl, rfl, rfl⟩, (hl1.push _)⟩ ?_ fun s' mv q => ?_
    · exact setOf_as ((setObjOf_fresh (knd := strKind prog w) led).setOf (Heap.get?_push_of_some _ hS) (by unfold scanBound; lia)) (fun _ => by simp) rfl
    · obtain ⟨h', g', d', tk', os'⟩ := s'
      have eg : g' = s.gens := mv.gens
      have ed : d' = s.drawn := mv.drawn
      have eo : os' = s.os := mv.os
      subst eg; subst ed; subst eo
      obtain ⟨m, q⟩ := q
      show wpAny _ _ _ _ _ _
      refine wpAny_pure ?_
      show wpAny _ _ (ret Value.none) _ _ _
      refine wpAny_pure ⟨rfl, h', tk', m, rfl, q, fun b o e => mv.heap b o ?_ (Heap.get?_push_of_some _ (hk₁ b o e))⟩
      have hlt := Heap.lt_size e
      simp only [List.mem_cons, List.not_mem_nil, or_false, not_or]
      rw [hz₁]
      exact ⟨Nat.ne_of_lt hlt, Nat.ne_of_lt (Nat.lt_succ_of_lt hlt)⟩
  · obtain _ | (_ | _ | _ | r) := r₂
    · exact hr₂
    · exact hr₂.elim
    · exact hr₂.elim
    · exact hr₂.elim
    obtain ⟨rfl, h', tk, m, rfl, q, k⟩ := hr₂
    repeat (any_goals (first | assumption | wp_step))
    exact h _ _ _ q k
end
end Mine
end C28
section C29
open PySem PySem.W PyProof.Rows Builtin Builtin.ObjectAttr
set_option maxRecDepth 100000
namespace Mine
namespace G
theorem slot_set_ga : Slot "set" "__getattribute__" "set.__getattribute__" :=
  .of (owner := "set") (n := "__getattribute__") (by rw [typeLookup_type, builtinLookup_eq_fast]; kernel_rfl) (by decide +kernel) (by decide +kernel) (by decide +kernel)
    (by first | exact .inl (by decide +kernel) | exact .inr (by decide +kernel)) (by rw [isSubtype_type]; kernel_rfl)
theorem slot_md_get : Slot "method_descriptor" "__get__" "method_descriptor.__get__" :=
  .of (owner := "method_descriptor") (n := "__get__") (by rw [typeLookup_type, builtinLookup_eq_fast]; kernel_rfl) (by decide +kernel) (by decide +kernel) (by decide +kernel)
    (by first | exact .inl (by decide +kernel) | exact .inr (by decide +kernel)) (by rw [isSubtype_type]; kernel_rfl)
theorem lk_md_set : typeLookup (.type "method_descriptor") "__set__" = pure none := by rw [typeLookup_type, builtinLookup_eq_fast]; kernel_rfl
theorem lk_md_del : typeLookup (.type "method_descriptor") "__delete__" = pure none := by rw [typeLookup_type, builtinLookup_eq_fast]; kernel_rfl
theorem entry_sga : entryFor table "set.__getattribute__" = some Builtin.«object.__getattribute__» := entryFor_alias (id' := "object.__getattribute__") (by kernel_rfl) rfl (by decide +kernel) (by kernel_rfl)
theorem entry_mdget : entryFor table "method_descriptor.__get__" = some Builtin.«method_descriptor.__get__» := entryFor_of_tree (by kernel_rfl)
theorem args_sga (a b : Value) : argsOk "set.__getattribute__" ⟨[a, b], []⟩ := by unfold argsOk; kernel_rfl
theorem args_mdget (a b c : Value) : argsOk "method_descriptor.__get__" ⟨[a, b, c], []⟩ := by unfold argsOk; kernel_rfl
theorem told : Manifest.toldItsClass.contains "set.__contains__" = false := by decide +kernel
theorem own : ".".intercalate ("set.__contains__".cutAt '.').dropLast = "set" := by decide +kernel
end G
noncomputable def boundC (a : Addr) : Obj := { cls := .type "builtin_function_or_method", data := .fields #[.builtin "set.__contains__", .ref a] }
section
variable {prog : Program} {w : World} {A : Around} {E : Value → Shared → Prop} {s : Shared} {a : Addr}
theorem run_mdget {o : Obj} {P : Fin → Shared → Prop} (ho : s.heap.get? a = some o) (hc : o.cls = .type "set") (h : P (.done (.ret (.ref s.heap.objs.size))) { s with heap := s.heap.push (boundC a) }) :
    wpAny (model prog w) A (Builtin.«method_descriptor.__get__» ⟨[.builtin "set.__contains__", .ref a, .type "set"], []⟩) P E s := by
  unfold Builtin.«method_descriptor.__get__»
  refine wpAny_bind (wpAny_of_eq (a := (.builtin "set.__contains__", some (.ref a), some (.type "set"))) (by first | rfl | kernel_rfl) ?_)
  have ht : s.TypeIs (.ref a) "set" := ⟨o, ho, hc⟩
  have hsub : isSubtype (.type "set") (.type "set") = pure true := by rw [isSubtype_type]; kernel_rfl
  simp only [G.told]
  repeat wp_step
  rw [G.own]
  repeat wp_step
  exact h
theorem run_sga {es : Array (Int × Value)} {n : Nat} {tb : SetTable} {osl : Array (Option Value)} {tk : Tok} {P : Fin → Shared → Prop} (ho : s.heap.get? a = some { cls := .type "set", dict := none, data := .set es n tb, slots := osl }) (h : P (.done (.ret (.ref s.heap.objs.size))) { s with heap := s.heap.push (boundC a) }) :
    wpAny (model prog w) A (Builtin.«object.__getattribute__» ⟨[.ref a, .str (Str.ofString "__contains__") tk], []⟩) P E s := by
  have ht : s.TypeIs (.ref a) "set" := ⟨_, ho, rfl⟩
  have l2 := F.slot_set_contains.lookup
  have l3 := F.type_set_contains
  have l4 := G.slot_md_get.lookup
  have l5 := G.lk_md_set
  have l6 := G.lk_md_del
  unfold Builtin.«object.__getattribute__»
  have hf : ∀ {Q : Found → Shared → Prop}, Q (.bind (.builtin "method_descriptor.__get__") (.builtin "set.__contains__")) s → wpAny (model prog w) A (find (.ref a) (.type "set") (Str.ofString "__contains__")) Q E s := fun hq => by
    repeat wp_step
    exact hq
  refine wpAny_bind (wpAny_of_eq (a := (.ref a, [.str (Str.ofString "__contains__") tk])) (by rfl) ?_)
  refine wpAny_bind (wpAny_of_eq (a := Str.ofString "__contains__") (by rfl) ?_)
  refine wpAny_bind (wpAny_typeOf ht ?_)
  refine wpAny_bind (hf ?_)
  show wpAny _ _ (bindTo _ _ _ _) _ _ _
  unfold bindTo
  refine wpAny_bind (wpAny_holding (wpAny_call (codeAny_call_builtin G.slot_md_get.plain G.entry_mdget (G.slot_md_get.check _ _ _ _ _ _ _ _ (by exact F.type_set_contains) (G.args_mdget _ _ _) ?_))))
  exact run_mdget ho rfl (wpAny_pure h)
theorem set_bound {es : Array (Int × Value)} {n : Nat} {tb : SetTable} {osl : Array (Option Value)} {Q : Value → Shared → Prop} (ho : s.heap.get? a = some { cls := .type "set", dict := none, data := .set es n tb, slots := osl }) (h : Q (.ref s.heap.objs.size) { s with heap := s.heap.push (boundC a), toks := s.toks + 1 }) :
    wpAny (model prog w) A (getAttr (.ref a) "__contains__" true) Q E s := by
  have ht : s.TypeIs (.ref a) "set" := ⟨_, ho, rfl⟩
  have l1 := G.slot_set_ga.lookup
  have b1 := G.slot_set_ga.bind (.ref a)
  unfold getAttr getAttrBy
  repeat wp_step
  refine codeAny_call_builtin G.slot_set_ga.plain G.entry_sga (G.slot_set_ga.check _ _ _ _ _ _ _ _ ht (G.args_sga _ _) ?_)
  refine run_sga (s := { s with toks := s.toks + 1 }) ho ?_
  exact wpAny_pure h
theorem bm_kind : builtinKind "set.__contains__" = some .method := by decide +kernel
theorem bm_sig : Manifest.signature? "set.__contains__" = some ⟨.oneArg, "set.__contains__", "__contains__", .self, [⟨"object", .posOnly, true⟩]⟩ := by
  rw [PySem.F.owner_set |> signature?_of (id := "set.__contains__") (n := ['_', '_', 's', 'n', 'i', 'a', 't', 'n', 'o', 'c', '_', '_']) (o := ['t', 'e', 's']) (by kernel_rfl)]; kernel_rfl
theorem bm_va : Manifest.varargsMethods.contains "set.__contains__" = false := by decide +kernel
theorem set_mod : isSubtype (.type "set") (.type "module") = pure false := by rw [isSubtype_type]; kernel_rfl
theorem check_bound {es : Array (Int × Value)} {n : Nat} {tb : SetTable} {osl : Array (Option Value)} {v : Value} {Q : Unit → Shared → Prop} (ho : s.heap.get? a = some { cls := .type "set", dict := none, data := .set es n tb, slots := osl }) (hQ : Q () s) : wpAny (model prog w) A (checkBoundCall "set.__contains__" ⟨[.ref a, v], []⟩) Q E s := by
  have ht : s.TypeIs (.ref a) "set" := ⟨_, ho, rfl⟩
  have k3 := bm_va
  have k4 := set_mod
  unfold checkBoundCall
  rw [bm_kind, bm_sig]
  repeat wp_step
  exact hQ
theorem call_bound {b : Addr} {S : Str → Bool} {m : Nat} {x : Str} {t : Tok} {Q : Value → Shared → Prop} (hb : s.heap.get? b = some (boundC a)) (hS : s.heap.SetOf (strKind prog w) a S m) (h : Q (.bool (S x)) { s with toks := s.toks + 1 }) :
    wpAny (model prog w) A (call (.ref b) [.str x t]) Q E s := by
  obtain ⟨o, es, ep, tb, ho, hex, hd, r⟩ := id hS
  obtain ⟨oc, od, odata, osl⟩ := o
  obtain ⟨h1, h2, h3⟩ := hex
  simp only at h1 h2 hd
  subst h1; subst h2; subst hd
  refine wpAny_call (codeAny_of_tree ?_)
  show wpAny _ _ (callAny (.ref b) _) _ _ _
  unfold callAny
  refine wpAny_bind (wpAny_load hb ?_)
  show wpAny _ _ (checkBoundCall "set.__contains__" ⟨[.ref a, .str x t], []⟩ >>= fun _ => _) _ _ _
  refine wpAny_bind (check_bound ho ?_)
  refine wpAny_pure ⟨Code.quiet_builtin _ (by decide +kernel), codeAny_builtin entry_set_contains ?_⟩
  unfold Builtin.«frozenset.__contains__» Builtin.Frozenset.oneOther
  simp only [List.isEmpty_nil, bind_assoc]
  unfold Builtin.Frozenset.addrOf Builtin.Frozenset.withSetAsKey setContains
  refine wpAny_bind (wpAny_pure ?_)
  try dsimp only
  refine wpAny_bind (wpAny_pure ?_)
  try dsimp only
  refine wpAny_bind (wpAny_tryCatch ?_)
  refine wpAny_holding ?_
  refine wpAny_bind ((strKind prog w).pyHash (k := x) (strKind_is _ _ _ _) ?_)
  refine wpAny_bind (wpAny_setFind_of (s := { s with toks := s.toks + 1 }) (strKind_is _ _ _ _) rfl hS fun r hr => ?_)
  refine wpAny_pure ?_
  show wpAny _ _ (ret (Value.bool r.isSome)) _ _ _
  rw [hr]
  exact wpAny_pure h
end
end Mine
end C29
section C30
open PySem PySem.W PyProof.Rows Builtin
set_option maxRecDepth 100000
namespace Mine
namespace G
theorem slot_filter_init : Slot "filter" "__init__" "object.__init__" :=
  .of (owner := "object") (n := "__init__") (by rw [typeLookup_type, builtinLookup_eq_fast]; kernel_rfl) (by decide +kernel) (by decide +kernel) (by decide +kernel)
    (by first | exact .inl (by decide +kernel) | exact .inr (by decide +kernel)) (by rw [isSubtype_type]; kernel_rfl)
theorem slot_filter_iter : Slot "filter" "__iter__" "filter.__iter__" :=
  .of (owner := "filter") (n := "__iter__") (by rw [typeLookup_type, builtinLookup_eq_fast]; kernel_rfl) (by decide +kernel) (by decide +kernel) (by decide +kernel)
    (by first | exact .inl (by decide +kernel) | exact .inr (by decide +kernel)) (by rw [isSubtype_type]; kernel_rfl)
theorem slot_filter_next : Slot "filter" "__next__" "filter.__next__" :=
  .of (owner := "filter") (n := "__next__") (by rw [typeLookup_type, builtinLookup_eq_fast]; kernel_rfl) (by decide +kernel) (by decide +kernel) (by decide +kernel)
    (by first | exact .inl (by decide +kernel) | exact .inr (by decide +kernel)) (by rw [isSubtype_type]; kernel_rfl)
theorem entry_filter_next : entryFor table "filter.__next__" = some Builtin.«filter.__next__» := entryFor_of_tree (by kernel_rfl)
theorem entry_filter_iter : entryFor table "filter.__iter__" = some Builtin.«dict_keyiterator.__iter__» :=
  entryFor_alias (id' := "dict_keyiterator.__iter__") (by kernel_rfl) (by first | rfl | decide +kernel) (by decide +kernel) (by kernel_rfl)
theorem args_filter_next (a : Value) : argsOk "filter.__next__" ⟨[a], []⟩ := by unfold argsOk; kernel_rfl
theorem args_filter_iter (a : Value) : argsOk "filter.__iter__" ⟨[a], []⟩ := by unfold argsOk; kernel_rfl
theorem plain_filter_next : plainId "filter.__next__" = true := by decide +kernel
theorem mro_filter : mroOf (.type "filter") = pure [.type "filter", .type "object"] := by rw [mroOf_type]; kernel_rfl
theorem lookup_filter_new : typeLookup (.type "filter") "__new__" = pure (some (.builtin "filter.__new__")) := by rw [typeLookup_type, builtinLookup_eq_fast]; kernel_rfl
theorem sub_filter : isSubtype (.type "filter") (.type "filter") = pure true := by rw [isSubtype_type]; kernel_rfl
theorem called_filter : TypeCalled "filter" "filter.__new__" "object.__init__" :=
  ⟨by decide +kernel, by decide +kernel, ⟨_, _, mro_filter⟩, madeBy_type mro_filter lookup_filter_new (by decide +kernel), by decide +kernel, sub_filter, slot_filter_init⟩
theorem typeCall_filter (a b : Value) : checkTypeCall "filter" ⟨[a, b], []⟩ = pure () := by kernel_rfl
theorem newCall_filter (a b : Value) : checkBuiltinCall "filter.__new__" ⟨[.type "filter", a, b], []⟩ = pure () := by kernel_rfl
theorem entry_filter_new : entryFor table "filter.__new__" = some Builtin.«filter.__new__» := entryFor_of_tree (by kernel_rfl)
theorem no_len : typeLookup (.type "filter") "__len__" = pure none := by rw [typeLookup_type, builtinLookup_eq_fast]; kernel_rfl
theorem no_hint : typeLookup (.type "filter") "__length_hint__" = pure none := by rw [typeLookup_type, builtinLookup_eq_fast]; kernel_rfl
end G
end Mine
end C30
section C31
open PySem PySem.W PyProof.Rows Builtin
set_option maxRecDepth 100000
namespace Mine
section
variable {prog : Program} {w : World} {A : Around} {E : Value → Shared → Prop} {s : Shared} {it l : Addr} {j : Nat} {items : Array Value}
theorem iter_item {x : Value} {Q : Option Value → Shared → Prop} (hit : s.heap.IsListIter it l j) (hl : s.heap.IsList l items) (hx : items[j]? = some x)
    (hQ : ∀ h', h'.IsListIter it l (j + 1) → (∀ c o, c ≠ it → s.heap.get? c = some o → h'.get? c = some o) → Q (some x) { s with heap := h' }) : wpAny (model prog w) A (callSpecial? (.ref it) "__next__") Q E s := by
  obtain ⟨o, ho, hc, hd⟩ := id hit
  obtain ⟨ol, hol, _, nl, hdl⟩ := hl
  have hneq : ¬ ((Value.ref l == Value.none) = true) := Bool.false_ne_true
  refine wpAny_callSpecial?_slot hit.typeIs slot_listiter_next (wpAny_call_entry slot_listiter_next hit.typeIs entry_listiter_next ?_ (args_listiter_next _))
  refine wpAny_bind (m := field (.ref it) 0) (wpAny_field ho hd (x := .ref l) rfl ?_)
  dsimp only
  rw [if_neg hneq]
  refine wpAny_bind (m := field (.ref it) 1) (wpAny_field ho hd (x := .int j 0) rfl (wpAny_bind (m := seqItems? (.ref l)) (wpAny_seqItems hol hdl ?_)))
  simp only [Int.toNat_natCast, hx]
  refine wpAny_bind (wpAny_setField ho hd (by simp) (wpAny_pure ⟨x, rfl, hQ _ ⟨_, Heap.get?_update_self _ ho (Obj.isFreed_of_fields (Obj.data_mapFields hd _)), (Obj.cls_mapFields ..).trans hc, ?_⟩ fun c o hcn e => (Heap.SameBut.update ..).extBut c o hcn e⟩))
  rw [Obj.data_mapFields hd]; simp [rawInt]
theorem iter_end {Q : Option Value → Shared → Prop} (hh : A.handled = none) (hit : s.heap.IsListIter it l j) (hl : s.heap.IsList l items) (hx : items[j]? = none)
    (hE : ∀ h' e, (∀ c o, c ≠ it → s.heap.get? c = some o → h'.get? c = some o) → (∃ o, h'.get? e = some o ∧ o.cls = .type "StopIteration") → E (.ref e) { s with heap := h' }) : wpAny (model prog w) A (callSpecial? (.ref it) "__next__") Q E s := by
  obtain ⟨o, ho, hc, hd⟩ := id hit
  obtain ⟨ol, hol, _, nl, hdl⟩ := hl
  have hneq : ¬ ((Value.ref l == Value.none) = true) := Bool.false_ne_true
  refine wpAny_callSpecial?_slot hit.typeIs slot_listiter_next (wpAny_call_entry slot_listiter_next hit.typeIs entry_listiter_next ?_ (args_listiter_next _))
  refine wpAny_bind (m := field (.ref it) 0) (wpAny_field ho hd (x := .ref l) rfl ?_)
  dsimp only
  rw [if_neg hneq]
  refine wpAny_bind (m := field (.ref it) 1) (wpAny_field ho hd (x := .int j 0) rfl (wpAny_bind (m := seqItems? (.ref l)) (wpAny_seqItems hol hdl ?_)))
  simp only [Int.toNat_natCast, hx]
  refine wpAny_bind (wpAny_rule (wpAny_bind (wpAny_setField ho hd (by simp) ?_)))
  refine wpAny_bind (m := newExc (.type "StopIteration") []) ?_
  simp only [newExc, newTuple]
  refine wpAny_bind (wpAny_newObj_type ?_ (by size_fits))
  refine wpAny_bind (m := firstArgMember _ _) (wpAny_of_eq (a := Value.none) (by first | rfl | (simp only [firstArgMember]; rfl)) ?_)
  refine wpAny_newObj_type ?_ (by size_fits)
  simp only [raiseNew]
  refine wpAny_bind (wpAny_handled ?_)
  first | rw [show A.in1.handled = none from hh] | rw [hh]
  exact wpAny_bind (wpAny_pure (wpAny_throw (hE _ _ (fun c o hcn e => (((Heap.SameBut.update ..).extBut.push _).push _) c o hcn e) ⟨_, Heap.get?_push_size _ rfl, rfl⟩)))
end
noncomputable abbrev filtO (b it : Addr) : Obj := { cls := .type "filter", data := .fields #[.ref b, .ref it] }
noncomputable abbrev litO (l : Addr) : Obj := { cls := .type "list_iterator", data := .fields #[.ref l, .int 0 0] }
set_option genInjectivity false in
structure FiltAt (prog : Program) (w : World) (F it l b D : Addr) (items : Array Value) (S : Str → Bool) (m : Nat) (h : Heap) (j : Nat) : Prop where
  f : h.get? F = some (filtO b it)
  i : h.IsListIter it l j
  l : h.IsList l items
  b : h.get? b = some (boundC D)
  s : h.SetOf (strKind prog w) D S m
set_option genInjectivity false in
structure FiltApart (F it l b D : Addr) : Prop where
  f : it ≠ F
  l : it ≠ l
  b : it ≠ b
  d : it ≠ D
theorem FiltAt.keep {prog : Program} {w : World} {F it l b D : Addr} {items : Array Value} {S : Str → Bool} {m : Nat} {h h' : Heap} {j j' : Nat} (Z : FiltApart F it l b D) (q : FiltAt prog w F it l b D items S m h j) (hi : h'.IsListIter it l j')
    (k : ∀ c o, c ≠ it → h.get? c = some o → h'.get? c = some o) : FiltAt prog w F it l b D items S m h' j' :=
  ⟨k _ _ Z.f.symm q.f, hi, q.l.at fun o e => k _ _ Z.l.symm e, k _ _ Z.b.symm q.b, by obtain ⟨o, es, ep, t, ho, rest⟩ := q.s; exact ⟨o, es, ep, t, k _ _ Z.d.symm ho, rest⟩⟩
section
variable {prog : Program} {w : World} {A : Around} {E : Value → Shared → Prop} {s : Shared} {F it l b D : Addr} {items : Array Value} {ys : List Str} {S : Str → Bool} {m : Nat}
theorem filt_body {R : PySem.Result → Shared → Prop} (hh : A.handled = none) (Z : FiltApart F it l b D) (hi : ∀ (i : Nat) (v : Value), items[i]? = some v → ∃ y t, ys[i]? = some y ∧ v = .str y t) (hz : items.size = ys.length) : ∀ (todo j : Nat) (s : Shared), j + todo = ys.length → FiltAt prog w F it l b D items S m s.heap j →
    (∀ j' y t h' tk, j ≤ j' → ys[j']? = some y → S y = true → (∀ i x, j ≤ i → i < j' → ys[i]? = some x → S x = false) → h'.IsListIter it l (j' + 1) → (∀ c o, c ≠ it → s.heap.get? c = some o → h'.get? c = some o) → s.toks ≤ tk → R (.ok (.ret (Value.str y t))) { s with heap := h', toks := tk }) →
    ((∀ i x, j ≤ i → ys[i]? = some x → S x = false) → ∀ h' e tk, (∀ c o, c ≠ it → s.heap.get? c = some o → h'.get? c = some o) → s.toks ≤ tk → (∃ o, h'.get? e = some o ∧ o.cls = .type "StopIteration") → R (.error (.ref e)) { s with heap := h', toks := tk }) →
    wpAny (model prog w) A.in1 (Builtin.«filter.__next__» ⟨[.ref F], []⟩) (fun fin s' => match fin with | .done f => R (.ok f) s' | .again c' => c'.quiet = true ∧ codeAny (model prog w) A c' R s') (fun e s' => R (.error e) s') s := by
  intro todo
  induction todo with
  | zero =>
    intro j s hj Q hit miss
    unfold Builtin.«filter.__next__»
    refine wpAny_bind (wpAny_of_eq (a := (.ref F, [])) (by rfl) ?_)
    refine wpAny_bind (wpAny_field Q.f rfl (x := .ref b) rfl ?_)
    refine wpAny_bind (wpAny_field Q.f rfl (x := .ref it) rfl ?_)
    have hx : items[j]? = none := by rw [Array.getElem?_eq_none_iff]; lia
    refine wpAny_bind (iter_end (A := A.in1) hh Q.i Q.l hx fun h' e k he => miss (fun i x h1 h2 => ?_) h' e s.toks k (Nat.le_refl _) he)
    have := (List.getElem?_eq_some_iff.mp h2).1
    lia
  | succ todo ih =>
    intro j s hj Q hit miss
    have hlt : j < items.size := by lia
    obtain ⟨y, t, hy, hv⟩ := hi j _ (Array.getElem?_eq_getElem hlt)
    unfold Builtin.«filter.__next__»
    refine wpAny_bind (wpAny_of_eq (a := (.ref F, [])) (by rfl) ?_)
    refine wpAny_bind (wpAny_field Q.f rfl (x := .ref b) rfl ?_)
    refine wpAny_bind (wpAny_field Q.f rfl (x := .ref it) rfl ?_)
    refine wpAny_bind (iter_item Q.i Q.l (Array.getElem?_eq_getElem hlt) fun h' hi' k => ?_)
    rw [hv]
    have Q' := Q.keep Z hi' k
    dsimp only
    refine wpAny_bind (wpAny_holding ?_)
    rw [if_neg (by simp)]
    refine wpAny_bind (call_bound (s := { s with heap := h' }) Q'.b Q'.s ?_)
    refine wpAny_holding (wpAny_truthy_bool ?_)
    cases hS : S y with
    | true =>
      exact wpAny_pure (hit j y t h' (s.toks + 1) (Nat.le_refl _) hy hS (fun i x h1 h2 _ => absurd h1 (Nat.not_le.mpr h2)) hi' k (Nat.le_succ _))
    | false =>
      refine wpAny_pure ⟨plainId_quiet G.plain_filter_next _, codeAny_builtin G.entry_filter_next ?_⟩
      rw [Around.under_plainId G.plain_filter_next _]
      have less : ∀ i x, j ≤ i → (∀ i x, j + 1 ≤ i → ys[i]? = some x → S x = false) → ys[i]? = some x → S x = false := fun i x h1 h2 h3 => by
        rcases Nat.eq_or_lt_of_le h1 with rfl | h1
        · rw [hy] at h3; cases h3; exact hS
        · exact h2 i x h1 h3
      refine ih (j + 1) _ (by lia) Q' (fun j' y' t' h'' tk h1 h2 h3 h4 h5 h6 h7 => ?_) (fun h1 h'' e tk h2 h3 h4 => ?_)
      · refine hit j' y' t' h'' tk (by lia) h2 h3 (fun i x q1 q2 q3 => ?_) h5 (fun c o hc e => h6 c o hc (k c o hc e)) (Nat.le_trans (Nat.le_succ _) h7)
        rcases Nat.eq_or_lt_of_le q1 with rfl | q1
        · rw [hy] at q3; cases q3; exact hS
        · exact h4 i x q1 q2 q3
      · exact miss (fun i x q1 q2 => less i x q1 h1 q2) h'' e tk (fun c o hc e => h2 c o hc (k c o hc e)) (Nat.le_trans (Nat.le_succ _) h3) h4
end
end Mine
end C31
section C32
open PySem PySem.W PyProof.Rows Builtin
set_option maxRecDepth 100000
namespace Mine
theorem filter_at {ys : List Str} {S : Str → Bool} {j j' i : Nat} {y : Str} (hj : j ≤ j') (hy : ys[j']? = some y) (hS : S y = true) (hno : ∀ i x, j ≤ i → i < j' → ys[i]? = some x → S x = false) (hi : ((ys.take j).filter S).length = i) :
    (ys.filter S)[i]? = some y ∧ ((ys.take (j' + 1)).filter S).length = i + 1 := by
  have hlt := (List.getElem?_eq_some_iff.mp hy).1
  have h1 : (ys.take j').filter S = (ys.take j).filter S := by
    have e : ys.take j' = ys.take j ++ (ys.drop j).take (j' - j) := by
      rw [← List.take_append_drop j (ys.take j'), List.take_take, Nat.min_eq_left hj, List.drop_take]
    rw [e, List.filter_append]
    have : ((ys.drop j).take (j' - j)).filter S = [] := by
      rw [List.filter_eq_nil_iff]
      intro x hx
      obtain ⟨n, hn, rfl⟩ := List.getElem_of_mem hx
      simp only [List.length_take, List.length_drop] at hn
      have := hno (j + n) _ (by lia) (by lia) (List.getElem?_eq_getElem (by lia))
      simp only [List.getElem_take, List.getElem_drop]
      rw [this]; exact Bool.false_ne_true
    rw [this, List.append_nil]
  have h2 : ys.take (j' + 1) = ys.take j' ++ [y] := by rw [List.take_add_one, hy]; rfl
  have h3 : ys = ys.take (j' + 1) ++ ys.drop (j' + 1) := (List.take_append_drop _ _).symm
  refine ⟨?_, by rw [h2, List.filter_append, h1, List.length_append, hi]; simp [hS]⟩
  rw [h3, List.filter_append, h2, List.filter_append, h1]
  have : [y].filter S = [y] := by simp [hS]
  rw [this, List.getElem?_append_left (by rw [List.length_append, hi]; simp), List.getElem?_append_right (by lia), hi, Nat.sub_self]
  rfl
theorem filter_none {ys : List Str} {S : Str → Bool} {j i : Nat} (hno : ∀ i x, j ≤ i → ys[i]? = some x → S x = false) (hi : ((ys.take j).filter S).length = i) : (ys.filter S).length = i := by
  have h3 : ys = ys.take j ++ ys.drop j := (List.take_append_drop _ _).symm
  rw [h3, List.filter_append, List.length_append, hi]
  have : (ys.drop j).filter S = [] := by
    rw [List.filter_eq_nil_iff]
    intro x hx
    obtain ⟨n, hn, rfl⟩ := List.getElem_of_mem hx
    simp only [List.length_drop] at hn
    have := hno (j + n) _ (by lia) (List.getElem?_eq_getElem (by lia))
    simp only [List.getElem_drop]
    rw [this]; exact Bool.false_ne_true
  rw [this]; rfl
section
variable {prog : Program} {w : World} {A : Around} {E : Value → Shared → Prop} {s : Shared} {F it l b D : Addr} {items : Array Value} {ys : List Str} {S : Str → Bool} {m : Nat}
noncomputable def Kept (ys : List Str) (S : Str → Bool) (i : Nat) (v : Value) : Prop := ∃ y t, (ys.filter S)[i]? = some y ∧ v = Value.str y t
noncomputable def FSt (prog : Program) (w : World) (F it l b D : Addr) (items : Array Value) (ys : List Str) (S : Str → Bool) (m : Nat) (i : Nat) (s : Shared) : Prop := ∃ j, j ≤ ys.length ∧ FiltAt prog w F it l b D items S m s.heap j ∧ ((ys.take j).filter S).length = i
theorem FiltAt.type {j : Nat} (q : FiltAt prog w F it l b D items S m s.heap j) : s.TypeIs (.ref F) "filter" := ⟨_, q.f, rfl⟩
theorem filt_next {Q : Option Value → Shared → Prop} (hh : A.handled = none) (Z : FiltApart F it l b D) (hi : ∀ (i : Nat) (v : Value), items[i]? = some v → ∃ y t, ys[i]? = some y ∧ v = .str y t) (hz : items.size = ys.length) {j : Nat} (hj : j ≤ ys.length) (q : FiltAt prog w F it l b D items S m s.heap j)
    (hit : ∀ j' y t h' tk, j ≤ j' → ys[j']? = some y → S y = true → (∀ i x, j ≤ i → i < j' → ys[i]? = some x → S x = false) → h'.IsListIter it l (j' + 1) → (∀ c o, c ≠ it → s.heap.get? c = some o → h'.get? c = some o) → s.toks ≤ tk → Q (some (Value.str y t)) { s with heap := h', toks := tk })
    (miss : (∀ i x, j ≤ i → ys[i]? = some x → S x = false) → ∀ h' tk, (∀ c o, c ≠ it → s.heap.get? c = some o → h'.get? c = some o) → s.toks ≤ tk → Q none { s with heap := h', toks := tk }) : wpAny (model prog w) A (pyNext (.ref F)) Q E s := by
  unfold pyNext
  refine wpAny_bind (wpAny_attempt (wpAny_callSpecial?_slot (name := Str.ofString "__next__") q.type G.slot_filter_next ?_))
  refine wpAny_mono (Q := fun v s' => Q (some v) s') (E := fun e s' => ∃ o, ∃ a, e = .ref a ∧ s'.heap.get? a = some o ∧ o.cls = .type "StopIteration" ∧ Q none s') ?_ (fun v s' h => wpAny_pure h) fun e s' ⟨o, a, he, ho, hc, h⟩ => ?_
  · refine wpAny_call (codeAny_call_builtin G.slot_filter_next.plain G.entry_filter_next (G.slot_filter_next.check _ _ _ _ _ _ _ _ q.type (G.args_filter_next _) ?_))
    refine filt_body (R := wants (fun v s' => Q (some v) s') fun e s' => ∃ o, ∃ a, e = .ref a ∧ s'.heap.get? a = some o ∧ o.cls = .type "StopIteration" ∧ Q none s') (ys := ys) hh Z hi hz (ys.length - j) j s (by lia) q hit fun hno h' e' tk h2 h3 ⟨o, ho, hc⟩ => ?_
    exact ⟨o, e', rfl, ho, hc, miss hno h' tk h2 h3⟩
  · subst he
    exact wpAny_bind (wpAny_isInstance (T := "StopIteration") (b := true) ⟨o, ho, hc⟩ isSubtype_stop (wpAny_pure h))
theorem filt_walks (hh : A.handled = none) (Z : FiltApart F it l b D) (hi : ∀ (i : Nat) (v : Value), items[i]? = some v → ∃ y t, ys[i]? = some y ∧ v = .str y t) (hz : items.size = ys.length) :
    WalksS prog w A F [F, it, l, b, D] [it] (fun a b => b = a) (ys.filter S).length (Kept ys S) (FSt prog w F it l b D items ys S m) where
  sub := fun c hc => by simp at hc; simp [hc]
  grefl := fun _ => rfl
  gtrans := fun _ _ _ h1 h2 => h2.trans h1
  frame := fun i s h' tk ⟨j, hj, q, e⟩ _ k => ⟨j, hj, ⟨k F (by simp) _ q.f, q.i.at fun o e => k it (by simp) o e, q.l.at fun o e => k l (by simp) o e, k b (by simp) _ q.b, by obtain ⟨o, es, ep, t, ho, rest⟩ := q.s; exact ⟨o, es, ep, t, k D (by simp) _ ho, rest⟩⟩, e⟩
  item := fun i s Q E hlt ⟨j, hj, q, e⟩ hQ => by
    refine filt_next (ys := ys) hh Z hi hz hj q (fun j' y t h' tk h1 h2 h3 h4 h5 h6 h7 => ?_) fun hno h' tk h2 h3 => ?_
    · obtain ⟨p1, p2⟩ := filter_at h1 h2 h3 h4 e
      have hlt' := (List.getElem?_eq_some_iff.mp h2).1
      exact hQ _ _ ⟨y, t, p1, rfl⟩ ⟨j' + 1, hlt', q.keep Z h5 h6, p2⟩ ⟨fun c o hc ec => h6 c o (fun z => hc (by simp [z])) ec, rfl, rfl, rfl, h7⟩
    · have := filter_none hno e
      lia
  done := fun s Q E ⟨j, hj, q, e⟩ hQ => by
    refine filt_next (ys := ys) hh Z hi hz hj q (fun j' y t h' tk h1 h2 h3 h4 h5 h6 h7 => ?_) fun hno h' tk h2 h3 => ?_
    · obtain ⟨p1, p2⟩ := filter_at h1 h2 h3 h4 e
      have := (List.getElem?_eq_some_iff.mp p1).1
      lia
    · exact hQ _ ⟨fun c o hc ec => h2 c o (fun z => hc (by simp [z])) ec, rfl, rfl, rfl, h3⟩
  self := fun i s Q E ⟨j, hj, q, e⟩ hQ => by
    refine wpAny_pyIter_slot q.type G.slot_filter_iter (wpAny_call_entry G.slot_filter_iter q.type G.entry_filter_iter ?_ (G.args_filter_iter _))
    show wpAny _ _ (ret (.ref F)) _ _ s
    exact wpAny_pure ⟨_, rfl, "filter", _, q.type, G.slot_filter_next.lookup, hQ⟩
theorem meets_filter_new (b l : Addr) (xs : Array Value) :
    Meets (Builtin.«filter.__new__» ⟨[.type "filter", .ref b, .ref l], []⟩) (fun _ R s => s.heap.IsList l xs ∧ R (.ok (.ret (.ref (s.heap.push (litO l)).objs.size))) { s with heap := (s.heap.push (litO l)).push (filtO b s.heap.objs.size) }) :=
  .of_wp fun prog w A R s h => by
    obtain ⟨hp, g, d, tk, os⟩ := s; obtain ⟨hl1, h⟩ := h
    have hsub := G.sub_filter
    have hL1 : Heap.IsList (Shared.heap ⟨hp, g, d, tk, os⟩) l xs := hl1
    wp_walk using wpAny_pyIter_list hL1
    exact ⟨_, rfl, h⟩
theorem call_filter {Q : Value → Shared → Prop} (hl : s.heap.IsList l items) (h : Q (.ref (s.heap.objs.size + 1)) { s with heap := (s.heap.push (litO l)).push (filtO b s.heap.objs.size) }) : wpAny (model prog w) A (call (.type "filter") [.ref b, .ref l]) Q E s := by
  refine callType_new G.called_filter (by decide) (G.typeCall_filter _ _) (G.newCall_filter _ _) (fun obj => F.args_object_init_3 obj _ _) G.entry_filter_new (meets_filter_new b l items) ⟨hl, ?_⟩
  have z : (s.heap.push (litO l)).objs.size = s.heap.objs.size + 1 := Heap.size_push ..
  show _ ∧ _
  refine ⟨⟨_, Heap.get?_push_size _ rfl, rfl⟩, ?_⟩
  rw [z]; exact h
end
end Mine
end C32
section C33
open PySem PySem.W PyProof.Rows Builtin
set_option maxRecDepth 100000
namespace Mine
section
variable {prog : Program} {w : World} {A : Around} {E : Value → Shared → Prop} {s : Shared} {R : PySem.Result → Shared → Prop}
variable {I : Addr} {fp wr : List Addr} {Gn : Array GenState → Array GenState → Prop} {n : Nat} {P : Nat → Value → Prop} {St : Nat → Shared → Prop}
theorem extend_filt (W : WalksS prog w A.in1 I fp wr Gn n P St) (hT : ∀ i s, St i s → s.TypeIs (.ref I) "filter") (D : Addr) (st : St 0 s) (hD : D ∉ fp) (hI : I ∈ fp) {c₀ : Nat} (hS : s.heap.get? D = some { cls := .type "list", data := .seq #[] c₀ })
    (hR : ∀ s' acc' c', Moved (D :: wr) Gn s s' → s'.heap.get? D = some { cls := .type "list", dict := none, data := .seq acc' c', slots := #[] } → ItemsOf P acc' n → R (.ok (.ret .none)) s') (hn : n ≤ sizeLine) :
    wpAny (model prog w) A.in1 (Builtin.List.listExtendWith (.ref D) (.ref I) .none)
      (fun fin s' => match fin with | .done f => R (.ok f) s' | .again c' => c'.quiet = true ∧ codeAny (model prog w) A c' R s') (fun e s' => R (.error e) s') s := by
  have hne : D ≠ I := fun e => hD (e ▸ hI)
  have T0 := hT 0 _ st
  unfold Builtin.List.listExtendWith
  refine wpAny_bind (wpAny_typeOf T0 ?_)
  have h1 : Builtin.List.listSameRef (.ref D) (.ref I) = false := by simp [Builtin.List.listSameRef, hne]
  have h2 : (Value.type "filter" == Value.type "list") = false := by decide
  have h3 : (Value.type "filter" == Value.type "tuple") = false := by decide
  simp only [h1, h2, h3, Bool.or_false, Bool.false_eq_true, if_false]
  refine wpAny_bind (W.self 0 _ _ _ st (wpAny_bind (wpAny_holding ?_)))
  unfold Builtin.List.listLengthHint
  refine wpAny_bind (wpAny_specialOf T0 G.no_len ?_)
  show wpAny _ A.in1 (specialOf (Value.ref I) (Str.ofString "__length_hint__") >>= _) _ _ _
  refine wpAny_bind (wpAny_specialOf T0 G.no_hint (wpAny_pure ?_))
  show wpAny _ A.in1 (rule "list.extend.makes-room" >>= fun _ => Builtin.List.listTouch (.ref D) >>= fun _ =>
    again (.builtin "list.extend.loop" ⟨[.ref D, .ref I, .none], []⟩)) _ _ _
  refine wpAny_bind (wpAny_rule (wpAny_bind ?_))
  show wpAny _ A.in1 (updateSeq D (·.push .none) >>= fun _ => updateSeq D (·.pop)) _ _ _
  refine wpAny_bind (wpAny_updateSeq hS rfl ?_)
  have e₂ := Heap.get?_update_self (Obj.mapSeq (·.push Value.none)) hS rfl
  refine wpAny_updateSeq (hz := by seq_fits) e₂ rfl ?_
  have e₃ := Heap.get?_update_self (Obj.mapSeq (·.pop)) e₂ rfl
  have oth : ∀ b o, b ≠ D → s.heap.get? b = some o → ((s.heap.update D (Obj.mapSeq (·.push Value.none))).update D (Obj.mapSeq (·.pop))).get? b = some o :=
    fun b o hb e => (Heap.get?_update_other _ _ (Ne.symm hb)).trans ((Heap.get?_update_other _ _ (Ne.symm hb)).trans e)
  refine wpAny_pure ⟨plainId_quiet F.plain_extend_loop _, codeAny_extend_loopS W hn _ hD _ n 0 _ _ _ rfl (Nat.zero_le _)
    (W.frame 0 s _ s.toks st (Nat.le_refl _) fun b hb o e => oth b o (fun h => hD (h ▸ hb)) e) e₃ (ItemsOf.nil P) fun s' acc' c' mv hS' hacc => ?_⟩
  exact hR s' acc' c' (Moved.trans W.gtrans ((Moved.refl W.grefl).then_heap (Nat.le_refl _) fun b o hb e => oth b o (fun h => hb (h ▸ List.mem_cons_self)) e) mv) hS' hacc
theorem list_of_filt {Q : Value → Shared → Prop} (W : WalksS prog w A.in1.in1 I fp wr Gn n P St) (hT : ∀ i s, St i s → s.TypeIs (.ref I) "filter") (st : St 0 s) (hfp : ∀ b ∈ fp, b < s.heap.objs.size) (hI : I ∈ fp)
    (hQ : ∀ s' acc' c', Moved (s.heap.objs.size :: wr) Gn { s with heap := s.heap.push { cls := .type "list", data := .seq #[] } } s' →
      s'.heap.get? s.heap.objs.size = some { cls := .type "list", dict := none, data := .seq acc' c', slots := #[] } → ItemsOf P acc' n → Q (.ref s.heap.objs.size) s') (hn : n ≤ sizeLine) :
    wpAny (model prog w) A (call (.type "list") [.ref I]) Q E s := by
  have hD : s.heap.objs.size ∉ fp := fun hm => Nat.lt_irrefl _ (hfp _ hm)
  refine callType_codes (Q₁ := fun obj s₁ => obj = .ref s.heap.objs.size ∧ s₁ = { s with heap := s.heap.push { cls := .type "list", data := .seq #[] } }) F.called_list (F.typeCall_list_1 _) F.entry_list_init
    (code_list_new _ ⟨rfl, rfl⟩) fun obj s₁ h₁ => ?_
  obtain ⟨rfl, rfl⟩ := h₁
  have hS : (s.heap.push { cls := .type "list", data := .seq #[] }).get? s.heap.objs.size = some { cls := .type "list", data := .seq #[] } := Heap.get?_push_size _ rfl
  refine ⟨⟨_, hS, rfl⟩, F.args_list_init_2 _ _, ?_⟩
  have st₁ := W.frame 0 s (s.heap.push { cls := .type "list", data := .seq #[] }) s.toks st (Nat.le_refl _) fun b _ o e => Heap.get?_push_of_some _ e
  show wpAny _ A.in1.in1 (do let old ← Builtin.List.listItems (.ref s.heap.objs.size); Builtin.List.listUpdate (.ref s.heap.objs.size) (fun _ => #[]); letGo old.toList.reverse; Builtin.List.listExtendWith (.ref s.heap.objs.size) (.ref I) .none) _ _ _
  refine wpAny_bind ?_
  unfold Builtin.List.listItems
  refine wpAny_bind (wpAny_seqItems hS rfl (wpAny_pure ?_))
  show wpAny _ A.in1.in1 (updateSeq s.heap.objs.size (fun _ => #[]) >>= fun _ => letGo (#[] : Array Value).toList.reverse >>= fun _ => Builtin.List.listExtendWith (.ref s.heap.objs.size) (.ref I) .none) _ _ _
  refine wpAny_bind (wpAny_updateSeq hS rfl ?_)
  have e₂ := Heap.get?_update_self (Obj.mapSeq (fun _ => (#[] : Array Value))) hS rfl
  have oth : ∀ b o, b ≠ s.heap.objs.size → (s.heap.push { cls := .type "list", data := .seq #[] }).get? b = some o → ((s.heap.push { cls := .type "list", data := .seq #[] }).update s.heap.objs.size (Obj.mapSeq (fun _ => (#[] : Array Value)))).get? b = some o :=
    fun b o hb e => (Heap.get?_update_other _ _ (Ne.symm hb)).trans e
  refine wpAny_bind (wpAny_letGo ?_)
  refine extend_filt (s := { s with heap := (s.heap.push { cls := .type "list", data := .seq #[] }).update s.heap.objs.size (Obj.mapSeq (fun _ => (#[] : Array Value))) }) W hT _ (W.frame 0 { s with heap := s.heap.push { cls := .type "list", data := .seq #[] } } _ s.toks st₁ (Nat.le_refl _) fun b hb o e => oth b o (fun h => hD (h ▸ hb)) e) hD hI e₂ (fun s' acc' c' mv hS' hacc => ?_) hn
  exact ⟨rfl, hQ s' acc' c' (Moved.trans W.gtrans ((Moved.refl W.grefl).then_heap (Nat.le_refl _) fun b o hb e => oth b o (fun h => hb (h ▸ List.mem_cons_self)) e) mv) hS' hacc⟩
end
end Mine
end C33
section C34
open PySem PySem.W PyProof.Rows
set_option maxRecDepth 100000
namespace Mine
noncomputable def strIn (ys : List (List Nat)) (y : Str) : Bool := decide (y ∈ ys.map strL)
noncomputable def setX (prog : Program) (w : World) (ys : List (List Nat)) (P : Addr → Prop) (h : Heap) (v : Value) : Prop := ∃ a m, v = .ref a ∧ ¬ P a ∧ h.SetOf (strKind prog w) a (strIn ys) m
noncomputable def conX (prog : Program) (w : World) (ys : List (List Nat)) (P : Addr → Prop) (h : Heap) (v : Value) : Prop := ∃ b a m, v = .ref b ∧ ¬ P b ∧ ¬ P a ∧ h.get? b = some (boundC a) ∧ h.SetOf (strKind prog w) a (strIn ys) m
theorem setOf_pass {prog : Program} {w : World} {P P' : Addr → Prop} {h h' : Heap} {a : Addr} {S : Str → Bool} {m : Nat} (g : Pass P h P' h') (na : ¬ P a) (q : h.SetOf (strKind prog w) a S m) : h'.SetOf (strKind prog w) a S m ∧ ¬ P' a := by
  obtain ⟨o, es, ep, t, ho, rest⟩ := q
  exact ⟨⟨o, es, ep, t, (g a o na ho).1, rest⟩, (g a o na ho).2⟩
noncomputable def extX (prog : Program) (w : World) (X : Ext) : Ext := fun t x P h v => match t with
  | 2 => setX prog w x P h v
  | 3 => conX prog w x P h v
  | t => X t x P h v
theorem extX_ok {prog : Program} {w : World} {X : Ext} (hX : ExtOk X) : ExtOk (extX prog w X) := fun t x P h P' h' v q g => by
  unfold extX at q ⊢
  split at q
  · obtain ⟨a, m, rfl, na, q⟩ := q
    have r := setOf_pass g na q
    exact ⟨a, m, rfl, r.2, r.1⟩
  · obtain ⟨b, a, m, rfl, nb, na, e, q⟩ := q
    have r := setOf_pass g na q
    exact ⟨b, a, m, rfl, (g b _ nb e).2, r.2, (g b _ nb e).1, r.1⟩
  · exact hX _ _ _ _ _ _ _ q g
noncomputable def SetsX (C : Cx) : Prop := ∀ x P h v, (C.X 2 x P h v ↔ setX C.prog C.w x P h v) ∧ (C.X 3 x P h v ↔ conX C.prog C.w x P h v)
theorem strs_are' {X : Ext} {P h} {xs : List (List Nat)} {vs : List Value} (r : RdL X P h vs (xs.map .str)) : StrsAre vs (xs.map strL) := by
  obtain ⟨ys, h1, h2⟩ := strs_are r
  have : xs.map strL = ys := by
    rw [← h2, List.map_map]
    conv => rhs; rw [← List.map_id ys]
    exact List.map_congr_left fun y _ => strL_toList y
  rw [this]; exact h1
section
variable {C : Cx} {k : Nat} {σ : Sto} {K : PV → Sto → Prop}
theorem OpL.setNew {a : PV} {ys : List (List Nat)} (X : SetsX C) (ha : LRead C σ a (ys.map .str)) (hb : ys.length + 1 < 4096) (h : K (.ext 2 ys) σ) : OpL C k σ [a] (fun vs => PySem.call (.type "set") vs) K := fun A P s vs hr H r => by
  obtain ⟨v, rfl, r₁⟩ := r.one
  obtain ⟨l, vs, n, rfl, e, rl⟩ := ha P s v H r₁
  refine with_size (set_of_strs hr.handled (isList_of e) (strs_are' rl) (by rw [List.length_map]; exact hb) fun h' tk m hS k hz => ?_)
  exact ⟨_, σ, h, After.kept H k hz, .ext ((X _ _ _ _).1.mpr ⟨_, m, rfl, H.fresh, hS⟩)⟩
theorem Op1.contains {ys : List (List Nat)} (X : SetsX C) (h : K (.ext 3 ys) σ) : Op1 C k σ (.ext 2 ys) (fun v => getAttr v "__contains__" true) K := fun A P s v hr H r => by
  have q := r.extE
  obtain ⟨a, m, rfl, na, hS⟩ := (X _ _ _ _).1.mp q
  obtain ⟨o, es, ep, tb, ho, hex, hd, rest⟩ := id hS
  obtain ⟨oc, od, odata, osl⟩ := o
  obtain ⟨h1, h2, h3⟩ := id hex
  simp only at h1 h2 hd
  subst h1; subst h2; subst hd
  refine set_bound ho ?_
  have A' := After.push (o := boundC a) (n := s.toks + 1) H
  refine ⟨_, σ, h, A', .ext ((X _ _ _ _).2.mpr ⟨_, a, m, rfl, H.fresh, fun q => ?_, Heap.get?_push_size _ rfl, ⟨_, es, ep, tb, Heap.get?_push_of_some _ ho, hex, rfl, rest⟩⟩)⟩
  exact q.elim na fun q => na (H.pdom a q).1
end
theorem kept_rd {X : Ext} {P h} {ys xs : List (List Nat)} {acc : Array Value} (hi : ItemsOf (Kept (xs.map strL) (strIn ys)) acc ((xs.map strL).filter (strIn ys)).length) : RdL X P h acc.toList ((xs.filter fun x => decide (x ∈ ys)).map .str) := by
  have e0 : (xs.map strL).filter (strIn ys) = (xs.filter fun x => decide (x ∈ ys)).map strL := by
    rw [List.filter_map]
    congr 1
    apply List.filter_congr
    intro x _
    show strIn ys (strL x) = decide (x ∈ ys)
    unfold strIn
    have : strL x ∈ ys.map strL ↔ x ∈ ys := by
      constructor
      · intro q
        obtain ⟨z, hz, e⟩ := List.mem_map.mp q
        have := congrArg (fun s : Str => s.cps.toList) e
        simp [strL] at this
        exact this ▸ hz
      · exact fun q => List.mem_map_of_mem q
    simp [this]
  rw [e0, List.length_map] at hi
  unfold Kept at hi
  rw [e0] at hi
  generalize (xs.filter fun x => decide (x ∈ ys)) = zs at hi
  obtain ⟨hz, hi⟩ := hi
  obtain ⟨acc⟩ := acc
  simp only [List.size_toArray] at hz
  have hi' : ∀ (j : Nat) (v : Value), acc[j]? = some v → ∃ y t, (zs.map strL)[j]? = some y ∧ v = Value.str y t := fun j v e => hi j v (by simpa using e)
  clear hi e0
  show RdL X P h acc _
  induction acc generalizing zs with
  | nil =>
    cases zs with
    | nil => exact .nil
    | cons z zs => cases hz
  | cons v acc ih =>
    cases zs with
    | nil => cases hz
    | cons z zs =>
      obtain ⟨y, t, hy, rfl⟩ := hi' 0 v rfl
      simp at hy
      subst hy
      have : Rd X P h (Value.str (strL z) t) (.str (strL z).cps.toList) := .str _ _
      rw [show (strL z).cps.toList = z by simp [strL]] at this
      exact .cons this (ih zs (by simpa using hz) fun j v e => by simpa using hi' (j + 1) v (by simpa using e))
theorem Ev.listFilter {C : Cx} {k : Nat} {sc ρ σ K fe xe p1 p2 pos1 pos2} {ys xs : List (List Nat)} (X : SetsX C) (bl : C.mg "list" = Option.none ∧ C.mb "list" = some (.type "list")) (bf : C.mg "filter" = Option.none ∧ C.mb "filter" = some (.type "filter"))
    (hk1 : sc.names.lookup (Str.ofString "list") = some NameKind.globalImplicit) (hk2 : sc.names.lookup (Str.ofString "filter") = some NameKind.globalImplicit) (hp : [fe, xe].all plainE = true)
    (h : Ev C k sc ρ σ fe fun f σ₁ => f = .ext 3 ys ∧ Ev C k sc ρ σ₁ xe fun d σ₂ => LRead C σ₂ d (xs.map .str) ∧ xs.length ≤ 10000 ∧ K (.list ((xs.filter fun x => decide (x ∈ ys)).map .str)) σ₂) :
    Ev C k sc ρ σ (.Call (.Name "list" p1) [.Call (.Name "filter" p2) [fe, xe] [] pos2] [] pos1) K := fun A P env s he hr I => by
  have E1 : Ev C k sc ρ σ (.Name "list" p1) fun d σ' => d = .raw (.type "list") ∧ σ' = σ := Ev.builtin hk1 bl.1 bl.2 ⟨rfl, rfl⟩
  have E2 : Ev C k sc ρ σ (.Name "filter" p2) fun d σ' => d = .raw (.type "filter") ∧ σ' = σ := Ev.builtin hk2 bf.1 bf.2 ⟨rfl, rfl⟩
  refine Call_ (ev_one E1 he hr I fun v d σ₁ s₁ hK A₁ r => ?_) rfl
  obtain ⟨rfl, rfl⟩ := hK
  obtain rfl := r.rawE
  have I₁ := I.after A₁
  refine wp_seq A₁ I.hp ?_
  refine callWith_of (P := C.gi) rfl (fun h' g => let ⟨k, a, b⟩ := (Callable.type (C := C) (T := "list")) h' g; ⟨k, a, b _⟩) (evalArgs_of rfl ?_)
  refine Calls.spliced_cons ?_
  refine Call_ (ev_one E2 he hr I₁ fun v₂ d₂ σ₂ s₂ hK₂ A₂ r₂ => ?_) rfl
  obtain ⟨rfl, rfl⟩ := hK₂
  obtain rfl := r₂.rawE
  have A12 := A₂
  have I₂ := I₁.after A₂
  refine callWith_of (P := C.gi) (by rw [plain_trees hp]; rfl) (fun h' g => let ⟨k, a, b⟩ := (Callable.type (C := C) (T := "filter")) h' g; ⟨k, a, b _⟩) (evalArgs_of (plain_trees hp) ?_)
  have hL : EvL C k sc ρ σ₂ [fe, xe] fun ds σ₃ => ∃ d, ds = [.ext 3 ys, d] ∧ LRead C σ₃ d (xs.map .str) ∧ xs.length ≤ 10000 ∧ K (.list ((xs.filter fun x => decide (x ∈ ys)).map .str)) σ₃ :=
    Ev.mono h fun f σ₁ ⟨e, q⟩ => Ev.mono q fun d σ₂ q => ⟨d, by rw [e], q⟩
  refine wpAny_mono (evL_spliced he hr hL hp I₂) (fun vs s₃ o => ?_) fun _ _ x => x
  obtain ⟨ds, σ₃, ⟨d, rfl, hl, hn, hK⟩, A₃, r₃⟩ := o
  obtain ⟨vf, vx, rfl, rf, rx⟩ := r₃.two
  have q := rf.extE
  obtain ⟨b, D, m, rfl, nb, nD, hb, hS⟩ := (X _ _ _ _).2.mp q
  obtain ⟨l, vs, n, rfl, e, rl⟩ := hl _ s₃ vx A₃.hp rx
  refine ⟨A₃.hp.gi, ?_⟩
  refine call_filter (isList_of e) ?_
  have hlt : ∀ {c o}, s₃.heap.get? c = some o → c < s₃.heap.objs.size := fun e => Heap.lt_size e
  have hDlt : D < s₃.heap.objs.size := by obtain ⟨o, es, ep, t, ho, _⟩ := hS; exact hlt ho
  have k2 : ∀ c o, s₃.heap.get? c = some o → ((s₃.heap.push (litO l)).push (filtO b s₃.heap.objs.size)).get? c = some o := fun c o e => Heap.get?_push_of_some _ (Heap.get?_push_of_some _ e)
  have z2 : ((s₃.heap.push (litO l)).push (filtO b s₃.heap.objs.size)).objs.size = s₃.heap.objs.size + 2 := by rw [Heap.size_push, Heap.size_push]
  have e1 : (s₃.heap.push (litO l)).objs.size = s₃.heap.objs.size + 1 := Heap.size_push ..
  refine Calls.spliced_nil ?_
  have A₄ : After C (PP (PP P σ₂) σ₂) σ₂ s₂ σ₃ { s₃ with heap := (s₃.heap.push (litO l)).push (filtO b s₃.heap.objs.size) } := A₃.trans I₂.hp (After.kept A₃.hp k2 (by show s₃.heap.objs.size ≤ _; rw [z2]; lia))
  refine ⟨A₄.hp.gi, ?_⟩
  have Z : FiltApart (s₃.heap.objs.size + 1) s₃.heap.objs.size l b D := ⟨by unfold Addr at *; lia, (Nat.ne_of_gt (hlt e)), (Nat.ne_of_gt (hlt hb)), Nat.ne_of_gt hDlt⟩
  have hi := strs_are' rl
  have hz : vs.size = (xs.map strL).length := by rw [← hi.length, Array.length_toList]
  have hval : ∀ (i : Nat) (v : Value), vs[i]? = some v → ∃ y t, (xs.map strL)[i]? = some y ∧ v = .str y t := fun i v hv => by
    have : vs.toList[i]? = some v := by simpa using hv
    clear hz hv rl e hl
    generalize vs.toList = us at hi this
    generalize xs.map strL = zs at hi
    induction hi generalizing i with
    | nil => cases this
    | cons y t r ih =>
      cases i with
      | zero => exact ⟨y, t, rfl, by simpa using this.symm⟩
      | succ i => exact ih i (by simpa using this)
  have W := filt_walks (prog := C.prog) (w := C.w) (A := A.in1.in1) (F := s₃.heap.objs.size + 1) (it := s₃.heap.objs.size) (l := l) (b := b) (D := D) (items := vs) (ys := xs.map strL) (S := strIn ys) (m := m) hr.handled Z hval hz
  have st : FSt C.prog C.w (s₃.heap.objs.size + 1) s₃.heap.objs.size l b D vs (xs.map strL) (strIn ys) m 0 { s₃ with heap := (s₃.heap.push (litO l)).push (filtO b s₃.heap.objs.size) } := by
    refine ⟨0, Nat.zero_le _, ⟨?_, ⟨_, Heap.get?_push_of_some _ (Heap.get?_push_size _ rfl), rfl, rfl⟩, (isList_of (k2 _ _ e)), k2 _ _ hb, ?_⟩, by simp⟩
    · have : ((s₃.heap.push (litO l)).push (filtO b s₃.heap.objs.size)).get? (s₃.heap.push (litO l)).objs.size = some (filtO b s₃.heap.objs.size) := Heap.get?_push_size _ rfl
      rw [e1] at this; exact this
    · obtain ⟨o, es, ep, t, ho, rest⟩ := hS; exact ⟨o, es, ep, t, k2 _ _ ho, rest⟩
  have hfl : ((xs.map strL).filter (strIn ys)).length ≤ sizeLine := by
    have := List.length_filter_le (strIn ys) (xs.map strL)
    rw [List.length_map] at this
    simp [sizeLine]; lia
  refine with_size (list_of_filt W (fun i s ⟨j, _, q, _⟩ => q.type) st (fun c hc => ?_) (by simp) (fun s' acc c' mv hl' hit hzz => ?_) hfl)
  · show c < ((s₃.heap.push (litO l)).push (filtO b s₃.heap.objs.size)).objs.size
    rw [z2]
    have := hlt e; have := hlt hb
    simp only [List.mem_cons, List.not_mem_nil, or_false] at hc
    unfold Addr at *
    rcases hc with rfl | rfl | rfl | rfl | rfl <;> lia
  · obtain ⟨h', g', d', tk', os'⟩ := s'
    have eg : g' = s₃.gens := mv.gens
    have ed : d' = s₃.drawn := mv.drawn
    have eo : os' = s₃.os := mv.os
    subst eg; subst ed; subst eo
    have kk : ∀ c o, s₃.heap.get? c = some o → h'.get? c = some o := fun c o ec => mv.heap c o (by
      have := hlt ec
      simp only [List.mem_cons, List.not_mem_nil, or_false, not_or]
      show ¬ c = ((s₃.heap.push (litO l)).push (filtO b s₃.heap.objs.size)).objs.size ∧ _
      rw [z2]; unfold Addr at *; lia) (Heap.get?_push_of_some _ (k2 c o ec))
    have hszz : hsz s₃ ≤ h'.objs.size := by
      refine Nat.le_trans ?_ hzz
      show s₃.heap.objs.size ≤ ((s₃.heap.push (litO l)).push (filtO b s₃.heap.objs.size)).objs.size
      rw [z2]; lia
    have A₅ : After C (PP (PP P σ₂) σ₂) σ₂ s₂ σ₃ { s₃ with heap := h', toks := tk' } := A₃.trans I₂.hp (After.kept A₃.hp kk hszz)
    refine Out.seq A₂ I₁.hp ⟨_, σ₃, hK, A₅, .list (fun q => ?_) hl' (kept_rd hit)⟩
    have : ¬ PP (PP (PP P σ₂) σ₂) σ₃ s₃.heap.objs.size := fun q => Nat.lt_irrefl _ (A₃.hp.plt _ q)
    have lt2 := A₃.hp.plt _ q
    have : s₃.heap.objs.size + 2 < s₃.heap.objs.size := z2 ▸ lt2
    lia
end Mine
end C34
section P1
open PySem PySem.W PyProof.Rows
set_option maxRecDepth 100000
namespace Mine
noncomputable abbrev PR : Program := PySem.Challenge.pw_rs0172_01
noncomputable def stAt (i : Nat) : Stmt := PR.main.body.getD i (.Pass default)
noncomputable def fArgs : Stmt → Arguments | .FunctionDef _ a .. => a | _ => ⟨[], [], none, [], [], none, []⟩
noncomputable def fBody : Stmt → List Stmt | .FunctionDef _ _ b .. => b | _ => []
noncomputable def fScope : Stmt → Scope | .FunctionDef _ _ _ _ _ _ s .. => s | _ => default
noncomputable def inCls : Stmt → Nat → Stmt | .ClassDef _ _ _ b .., i => b.getD i (.Pass default) | s, _ => s
noncomputable abbrev sInit : Stmt := inCls (stAt 1) 0
noncomputable abbrev sApplies : Stmt := inCls (stAt 1) 2
noncomputable abbrev sAllow : Stmt := inCls (stAt 1) 3
noncomputable abbrev sMerge : Stmt := stAt 2
noncomputable abbrev sB1 : Stmt := stAt 5
noncomputable abbrev sB3 : Stmt := stAt 7
end Mine
end P1
section H1
open PySem PySem.W PyProof.Rows
set_option maxRecDepth 1000000
namespace Mine
noncomputable section
noncomputable def o11a (P : Params) : Obj := ⟨(.type "tuple"), none, (.seq ⟨[]⟩ 0), ⟨[]⟩⟩
noncomputable def o12a (P : Params) : Obj := ⟨.none, none, (.fields ⟨[]⟩), ⟨[]⟩⟩
noncomputable def o13a (P : Params) : Obj := ⟨(.type "code"), none, (.fields ⟨[(.str (Str.ofString "<module>") 182), (.str (Str.ofString "<module>") 183), (.str (Str.ofString "/claim/cut.py") 184), (.int (1) 0), (.int (0) 0), (.int (0) 0), (.int (0) 0), (.int (0) 0), (.ref 11), (.bool false), (.int (181) 0), (.ref 12), .none, .none, .none, .none, (.int (185) 0), (.int (1) 0), (.str (Str.ofString "/claim/cut.py") 186)]⟩), ⟨[]⟩⟩
noncomputable def o14a (P : Params) : Obj := ⟨(.type "frame"), none, .plain, ⟨[(some (.ref 13)), (some (.ref 3)), (some (.ref 3)), none, (some (.str (Str.ofString "__main__") 164)), none, (some (.ref 0))]⟩⟩
noncomputable def hpPre (P : Params) : Heap := ⟨⟨[boot_o_0 P, boot_o_1 P, boot_o_2 P, boot_o_3 P, boot_o_4 P, boot_o_5 P, boot_o_6 P, boot_o_7 P, boot_o_8 P, boot_o_9 P, boot_o_10 P, o11a P, o12a P, o13a P, o14a P]⟩, {}⟩
noncomputable def o3b (P : Params) : Obj := ⟨(.type "dict"), none, (.dict ⟨[⟨(PyData.keyHash P (Str.ofString "__name__")), (.str (Str.ofString "__name__") 165), (.str (Str.ofString "cpy313.stringprep") 260)⟩, ⟨(PyData.keyHash P (Str.ofString "__doc__")), (.str (Str.ofString "__doc__") 166), .none⟩, ⟨(PyData.keyHash P (Str.ofString "__package__")), (.str (Str.ofString "__package__") 167), .none⟩, ⟨(PyData.keyHash P (Str.ofString "__loader__")), (.str (Str.ofString "__loader__") 168), (.builtin "__main__.__loader__#opaque")⟩, ⟨(PyData.keyHash P (Str.ofString "__spec__")), (.str (Str.ofString "__spec__") 169), .none⟩, ⟨(PyData.keyHash P (Str.ofString "__annotations__")), (.str (Str.ofString "__annotations__") 170), (.ref 6)⟩, ⟨(PyData.keyHash P (Str.ofString "__builtins__")), (.str (Str.ofString "__builtins__") 171), (.ref 4)⟩, ⟨(PyData.keyHash P (Str.ofString "__file__")), (.str (Str.ofString "__file__") 173), (.str (Str.ofString "/claim/cut.py") 172)⟩, ⟨(PyData.keyHash P (Str.ofString "__cached__")), (.str (Str.ofString "__cached__") 174), .none⟩, ⟨(PyData.keyHash P (Str.ofString "Entry")), (.str (Str.ofString "Entry") 250), (.ref 52)⟩, ⟨(PyData.keyHash P (Str.ofString "merge_entries")), (.str (Str.ofString "merge_entries") 259), (.ref 63)⟩]⟩ 11), ⟨[]⟩⟩
noncomputable def o12b (P : Params) : Obj := ⟨.none, none, (.fields ⟨[(.int (2) 0), (.int (0) 0), (.ref 20), (.int (50) 0), (.int (0) 0), (.ref 62)]⟩), ⟨[]⟩⟩
noncomputable def o15b (P : Params) : Obj := ⟨(.type "tuple"), none, (.seq ⟨[]⟩ 0), ⟨[]⟩⟩
noncomputable def o16b (P : Params) : Obj := ⟨(.type "builtin_function_or_method"), none, (.fields ⟨[(.builtin "type.__prepare__"), (.type "type")]⟩), ⟨[]⟩⟩
noncomputable def o17b (P : Params) : Obj := ⟨(.type "dict"), none, (.dict ⟨[⟨(PyData.keyHash P (Str.ofString "__module__")), (.str (Str.ofString "__module__") 196), (.str (Str.ofString "cpy313.urllib.robotparser") 187)⟩, ⟨(PyData.keyHash P (Str.ofString "__qualname__")), (.str (Str.ofString "__qualname__") 198), (.str (Str.ofString "Entry") 197)⟩, ⟨(PyData.keyHash P (Str.ofString "__firstlineno__")), (.str (Str.ofString "__firstlineno__") 200), (.int (2) 199)⟩, ⟨(PyData.keyHash P (Str.ofString "__init__")), (.str (Str.ofString "__init__") 207), (.ref 28)⟩, ⟨(PyData.keyHash P (Str.ofString "__str__")), (.str (Str.ofString "__str__") 217), (.ref 35)⟩, ⟨(PyData.keyHash P (Str.ofString "applies_to")), (.str (Str.ofString "applies_to") 226), (.ref 42)⟩, ⟨(PyData.keyHash P (Str.ofString "allowance")), (.str (Str.ofString "allowance") 238), (.ref 49)⟩, ⟨(PyData.keyHash P (Str.ofString "__static_attributes__")), (.str (Str.ofString "__static_attributes__") 243), (.ref 50)⟩]⟩ 8), ⟨[]⟩⟩
noncomputable def o18b (P : Params) : Obj := ⟨(.type "tuple"), none, (.seq ⟨[]⟩ 0), ⟨[]⟩⟩
noncomputable def o19b (P : Params) : Obj := ⟨.none, none, (.fields ⟨[(.int (4) 0), (.int (4) 0), (.ref 27), (.int (10) 0), (.int (4) 0), (.ref 34), (.int (27) 0), (.int (4) 0), (.ref 41), (.int (38) 0), (.int (4) 0), (.ref 48)]⟩), ⟨[]⟩⟩
noncomputable def o20b (P : Params) : Obj := ⟨(.type "code"), none, (.fields ⟨[(.str (Str.ofString "Entry") 191), (.str (Str.ofString "Entry") 192), (.str (Str.ofString "/claim/cut.py") 193), (.int (2) 0), (.int (0) 0), (.int (0) 0), (.int (0) 0), (.int (0) 0), (.ref 18), (.bool false), (.int (181) 0), (.ref 19), .none, .none, .none, .none, (.int (194) 0), (.int (2) 0), (.str (Str.ofString "/claim/cut.py") 195)]⟩), ⟨[]⟩⟩
noncomputable def o21b (P : Params) : Obj := ⟨(.type "frame"), none, .plain, ⟨[(some (.ref 20)), (some (.ref 3)), (some (.ref 17)), none, (some (.str (Str.ofString "cpy313.urllib.robotparser") 187)), none, (some (.ref 0))]⟩⟩
noncomputable def o22b (P : Params) : Obj := ⟨(.type "tuple"), none, (.seq ⟨[]⟩ 0), ⟨[]⟩⟩
noncomputable def o23b (P : Params) : Obj := ⟨.none, none, (.fields ⟨[]⟩), ⟨[]⟩⟩
noncomputable def o24b (P : Params) : Obj := ⟨(.type "tuple"), none, (.seq ⟨[(.str (Str.ofString "self") 204)]⟩ 0), ⟨[]⟩⟩
noncomputable def o25b (P : Params) : Obj := ⟨(.type "tuple"), none, (.seq ⟨[]⟩ 0), ⟨[]⟩⟩
noncomputable def o26b (P : Params) : Obj := ⟨.none, none, (.func { name := (Str.ofString "__init__"), qualname := (Str.ofString "Entry.__init__"), params := fArgs (inCls (stAt 1) 0), body := .stmts (fBody (inCls (stAt 1) 0)), scope := fScope (inCls (stAt 1) 0), globals := 0, closure := [], defaults := .none, kwdefaults := .none, doc := .none, pyModule := .none, annotations := none, code := .none, closureTuple := .none, builtins := 0 }), ⟨[]⟩⟩
noncomputable def o27b (P : Params) : Obj := ⟨(.type "code"), none, (.fields ⟨[(.str (Str.ofString "__init__") 201), (.str (Str.ofString "Entry.__init__") 202), (.str (Str.ofString "/claim/cut.py") 203), (.int (4) 0), (.int (1) 0), (.int (0) 0), (.int (0) 0), (.int (3) 0), (.ref 22), (.bool true), (.int (181) 0), (.ref 23), .none, (.ref 24), (.ref 25), (.ref 26), (.int (205) 0), (.int (4) 0), (.str (Str.ofString "/claim/cut.py") 206)]⟩), ⟨[]⟩⟩
noncomputable def o28b (P : Params) : Obj := ⟨(.type "function"), none, (.func { name := (Str.ofString "__init__"), qualname := (Str.ofString "Entry.__init__"), params := fArgs (inCls (stAt 1) 0), body := .stmts (fBody (inCls (stAt 1) 0)), scope := fScope (inCls (stAt 1) 0), globals := 3, closure := [], defaults := .none, kwdefaults := .none, doc := .none, pyModule := (.str (Str.ofString "cpy313.urllib.robotparser") 187), annotations := none, code := (.ref 27), closureTuple := .none, builtins := 0 }), ⟨[]⟩⟩
noncomputable def o29b (P : Params) : Obj := ⟨(.type "tuple"), none, (.seq ⟨[]⟩ 0), ⟨[]⟩⟩
noncomputable def o30b (P : Params) : Obj := ⟨.none, none, (.fields ⟨[]⟩), ⟨[]⟩⟩
noncomputable def o31b (P : Params) : Obj := ⟨(.type "tuple"), none, (.seq ⟨[(.str (Str.ofString "self") 211), (.str (Str.ofString "ret") 212), (.str (Str.ofString "agent") 213), (.str (Str.ofString "rate") 214)]⟩ 0), ⟨[]⟩⟩
noncomputable def o32b (P : Params) : Obj := ⟨(.type "tuple"), none, (.seq ⟨[]⟩ 0), ⟨[]⟩⟩
noncomputable def o33b (P : Params) : Obj := ⟨.none, none, (.func { name := (Str.ofString "__str__"), qualname := (Str.ofString "Entry.__str__"), params := fArgs (inCls (stAt 1) 1), body := .stmts (fBody (inCls (stAt 1) 1)), scope := fScope (inCls (stAt 1) 1), globals := 0, closure := [], defaults := .none, kwdefaults := .none, doc := .none, pyModule := .none, annotations := none, code := .none, closureTuple := .none, builtins := 0 }), ⟨[]⟩⟩
noncomputable def o34b (P : Params) : Obj := ⟨(.type "code"), none, (.fields ⟨[(.str (Str.ofString "__str__") 208), (.str (Str.ofString "Entry.__str__") 209), (.str (Str.ofString "/claim/cut.py") 210), (.int (10) 0), (.int (1) 0), (.int (0) 0), (.int (0) 0), (.int (3) 0), (.ref 29), (.bool true), (.int (181) 0), (.ref 30), .none, (.ref 31), (.ref 32), (.ref 33), (.int (215) 0), (.int (10) 0), (.str (Str.ofString "/claim/cut.py") 216)]⟩), ⟨[]⟩⟩
noncomputable def o35b (P : Params) : Obj := ⟨(.type "function"), none, (.func { name := (Str.ofString "__str__"), qualname := (Str.ofString "Entry.__str__"), params := fArgs (inCls (stAt 1) 1), body := .stmts (fBody (inCls (stAt 1) 1)), scope := fScope (inCls (stAt 1) 1), globals := 3, closure := [], defaults := .none, kwdefaults := .none, doc := .none, pyModule := (.str (Str.ofString "cpy313.urllib.robotparser") 187), annotations := none, code := (.ref 34), closureTuple := .none, builtins := 0 }), ⟨[]⟩⟩
noncomputable def o36b (P : Params) : Obj := ⟨(.type "tuple"), none, (.seq ⟨[]⟩ 0), ⟨[]⟩⟩
noncomputable def o37b (P : Params) : Obj := ⟨.none, none, (.fields ⟨[]⟩), ⟨[]⟩⟩
noncomputable def o38b (P : Params) : Obj := ⟨(.type "tuple"), none, (.seq ⟨[(.str (Str.ofString "self") 221), (.str (Str.ofString "useragent") 222), (.str (Str.ofString "agent") 223)]⟩ 0), ⟨[]⟩⟩
noncomputable def o39b (P : Params) : Obj := ⟨(.type "tuple"), none, (.seq ⟨[]⟩ 0), ⟨[]⟩⟩
noncomputable def o40b (P : Params) : Obj := ⟨.none, none, (.func { name := (Str.ofString "applies_to"), qualname := (Str.ofString "Entry.applies_to"), params := fArgs (inCls (stAt 1) 2), body := .stmts (fBody (inCls (stAt 1) 2)), scope := fScope (inCls (stAt 1) 2), globals := 0, closure := [], defaults := .none, kwdefaults := .none, doc := .none, pyModule := .none, annotations := none, code := .none, closureTuple := .none, builtins := 0 }), ⟨[]⟩⟩
noncomputable def o41b (P : Params) : Obj := ⟨(.type "code"), none, (.fields ⟨[(.str (Str.ofString "applies_to") 218), (.str (Str.ofString "Entry.applies_to") 219), (.str (Str.ofString "/claim/cut.py") 220), (.int (27) 0), (.int (2) 0), (.int (0) 0), (.int (0) 0), (.int (3) 0), (.ref 36), (.bool true), (.int (181) 0), (.ref 37), .none, (.ref 38), (.ref 39), (.ref 40), (.int (224) 0), (.int (27) 0), (.str (Str.ofString "/claim/cut.py") 225)]⟩), ⟨[]⟩⟩
noncomputable def o42b (P : Params) : Obj := ⟨(.type "function"), none, (.func { name := (Str.ofString "applies_to"), qualname := (Str.ofString "Entry.applies_to"), params := fArgs (inCls (stAt 1) 2), body := .stmts (fBody (inCls (stAt 1) 2)), scope := fScope (inCls (stAt 1) 2), globals := 3, closure := [], defaults := .none, kwdefaults := .none, doc := .none, pyModule := (.str (Str.ofString "cpy313.urllib.robotparser") 187), annotations := none, code := (.ref 41), closureTuple := .none, builtins := 0 }), ⟨[]⟩⟩
noncomputable def o43b (P : Params) : Obj := ⟨(.type "tuple"), none, (.seq ⟨[]⟩ 0), ⟨[]⟩⟩
noncomputable def o44b (P : Params) : Obj := ⟨.none, none, (.fields ⟨[]⟩), ⟨[]⟩⟩
noncomputable def o45b (P : Params) : Obj := ⟨(.type "tuple"), none, (.seq ⟨[(.str (Str.ofString "self") 230), (.str (Str.ofString "filename") 231), (.str (Str.ofString "best_match") 232), (.str (Str.ofString "allowance") 233), (.str (Str.ofString "line") 234), (.str (Str.ofString "m") 235)]⟩ 0), ⟨[]⟩⟩
noncomputable def o46b (P : Params) : Obj := ⟨(.type "tuple"), none, (.seq ⟨[]⟩ 0), ⟨[]⟩⟩
noncomputable def o47b (P : Params) : Obj := ⟨.none, none, (.func { name := (Str.ofString "allowance"), qualname := (Str.ofString "Entry.allowance"), params := fArgs (inCls (stAt 1) 3), body := .stmts (fBody (inCls (stAt 1) 3)), scope := fScope (inCls (stAt 1) 3), globals := 0, closure := [], defaults := .none, kwdefaults := .none, doc := .none, pyModule := .none, annotations := none, code := .none, closureTuple := .none, builtins := 0 }), ⟨[]⟩⟩
noncomputable def o48b (P : Params) : Obj := ⟨(.type "code"), none, (.fields ⟨[(.str (Str.ofString "allowance") 227), (.str (Str.ofString "Entry.allowance") 228), (.str (Str.ofString "/claim/cut.py") 229), (.int (38) 0), (.int (2) 0), (.int (0) 0), (.int (0) 0), (.int (3) 0), (.ref 43), (.bool true), (.int (181) 0), (.ref 44), .none, (.ref 45), (.ref 46), (.ref 47), (.int (236) 0), (.int (38) 0), (.str (Str.ofString "/claim/cut.py") 237)]⟩), ⟨[]⟩⟩
noncomputable def o49b (P : Params) : Obj := ⟨(.type "function"), none, (.func { name := (Str.ofString "allowance"), qualname := (Str.ofString "Entry.allowance"), params := fArgs (inCls (stAt 1) 3), body := .stmts (fBody (inCls (stAt 1) 3)), scope := fScope (inCls (stAt 1) 3), globals := 3, closure := [], defaults := .none, kwdefaults := .none, doc := .none, pyModule := (.str (Str.ofString "cpy313.urllib.robotparser") 187), annotations := none, code := (.ref 48), closureTuple := .none, builtins := 0 }), ⟨[]⟩⟩
noncomputable def o50b (P : Params) : Obj := ⟨(.type "tuple"), none, (.seq ⟨[(.str (Str.ofString "delay") 239), (.str (Str.ofString "req_rate") 240), (.str (Str.ofString "rulelines") 241), (.str (Str.ofString "useragents") 242)]⟩ 0), ⟨[]⟩⟩
noncomputable def o51b (P : Params) : Obj := ⟨(.type "dict"), none, (.dict ⟨[⟨(PyData.keyHash P (Str.ofString "__module__")), (.str (Str.ofString "__module__") 196), (.str (Str.ofString "cpy313.urllib.robotparser") 187)⟩, ⟨(PyData.keyHash P (Str.ofString "__firstlineno__")), (.str (Str.ofString "__firstlineno__") 200), (.int (2) 199)⟩, ⟨(PyData.keyHash P (Str.ofString "__init__")), (.str (Str.ofString "__init__") 207), (.ref 28)⟩, ⟨(PyData.keyHash P (Str.ofString "__str__")), (.str (Str.ofString "__str__") 217), (.ref 35)⟩, ⟨(PyData.keyHash P (Str.ofString "applies_to")), (.str (Str.ofString "applies_to") 226), (.ref 42)⟩, ⟨(PyData.keyHash P (Str.ofString "allowance")), (.str (Str.ofString "allowance") 238), (.ref 49)⟩, ⟨(PyData.keyHash P (Str.ofString "__static_attributes__")), (.str (Str.ofString "__static_attributes__") 243), (.ref 50)⟩, ⟨(PyData.keyHash P (Str.ofString "__dict__")), (.str (Str.ofString "__dict__") 245), (.ref 53)⟩, ⟨(PyData.keyHash P (Str.ofString "__weakref__")), (.str (Str.ofString "__weakref__") 247), (.ref 54)⟩, ⟨(PyData.keyHash P (Str.ofString "__doc__")), (.str (Str.ofString "__doc__") 248), .none⟩]⟩ 4), ⟨[]⟩⟩
noncomputable def o52b (P : Params) : Obj := ⟨(.type "type"), none, (.cls { name := (Str.ofString "Entry"), bases := [(.type "object")], mro := [(.ref 52), (.type "object")], ns := 51, qualname := (Str.ofString "Entry"), hasDict := true, slotNames := [], subclasses := [], abstract := false, collection := none, hasDel := false }), ⟨[none, none, (some (.str (Str.ofString "Entry") 189)), (some (.str (Str.ofString "Entry") 197)), (some (.builtin "object.__new__")), (some (.bool true))]⟩⟩
noncomputable def o53b (P : Params) : Obj := ⟨(.type "getset_descriptor"), none, (.fields ⟨[(.str (Str.ofString "__dict__") 244), (.ref 52), (.builtin "function.__dict__"), (.builtin "function.__dict__#set")]⟩), ⟨[]⟩⟩
noncomputable def o54b (P : Params) : Obj := ⟨(.type "getset_descriptor"), none, (.fields ⟨[(.str (Str.ofString "__weakref__") 246), (.ref 52), (.builtin "ExceptionGroup.__weakref__"), .none]⟩), ⟨[]⟩⟩
noncomputable def o55b (P : Params) : Obj := ⟨(.type "super"), none, (.fields ⟨[(.ref 52), (.ref 52), (.ref 52)]⟩), ⟨[]⟩⟩
noncomputable def o56b (P : Params) : Obj := ⟨(.type "builtin_function_or_method"), none, (.fields ⟨[(.builtin "object.__init_subclass__"), (.ref 52)]⟩), ⟨[]⟩⟩
noncomputable def o57b (P : Params) : Obj := ⟨(.type "tuple"), none, (.seq ⟨[]⟩ 0), ⟨[]⟩⟩
noncomputable def o58b (P : Params) : Obj := ⟨.none, none, (.fields ⟨[]⟩), ⟨[]⟩⟩
noncomputable def o59b (P : Params) : Obj := ⟨(.type "tuple"), none, (.seq ⟨[(.str (Str.ofString "e1") 254), (.str (Str.ofString "e2") 255), (.str (Str.ofString "entry") 256)]⟩ 0), ⟨[]⟩⟩
noncomputable def o60b (P : Params) : Obj := ⟨(.type "tuple"), none, (.seq ⟨[]⟩ 0), ⟨[]⟩⟩
noncomputable def o61b (P : Params) : Obj := ⟨.none, none, (.func { name := (Str.ofString "merge_entries"), qualname := (Str.ofString "merge_entries"), params := fArgs (stAt 2), body := .stmts (fBody (stAt 2)), scope := fScope (stAt 2), globals := 0, closure := [], defaults := .none, kwdefaults := .none, doc := .none, pyModule := .none, annotations := none, code := .none, closureTuple := .none, builtins := 0 }), ⟨[]⟩⟩
noncomputable def o62b (P : Params) : Obj := ⟨(.type "code"), none, (.fields ⟨[(.str (Str.ofString "merge_entries") 251), (.str (Str.ofString "merge_entries") 252), (.str (Str.ofString "/claim/cut.py") 253), (.int (50) 0), (.int (2) 0), (.int (0) 0), (.int (0) 0), (.int (3) 0), (.ref 57), (.bool true), (.int (181) 0), (.ref 58), .none, (.ref 59), (.ref 60), (.ref 61), (.int (257) 0), (.int (50) 0), (.str (Str.ofString "/claim/cut.py") 258)]⟩), ⟨[]⟩⟩
noncomputable def o63b (P : Params) : Obj := ⟨(.type "function"), none, (.func { name := (Str.ofString "merge_entries"), qualname := (Str.ofString "merge_entries"), params := fArgs (stAt 2), body := .stmts (fBody (stAt 2)), scope := fScope (stAt 2), globals := 3, closure := [], defaults := .none, kwdefaults := .none, doc := .none, pyModule := (.str (Str.ofString "cpy313.urllib.robotparser") 187), annotations := none, code := (.ref 62), closureTuple := .none, builtins := 0 }), ⟨[]⟩⟩
noncomputable def hpB (P : Params) : Heap := ⟨⟨[boot_o_0 P, boot_o_1 P, boot_o_2 P, o3b P, boot_o_4 P, boot_o_5 P, boot_o_6 P, boot_o_7 P, boot_o_8 P, boot_o_9 P, boot_o_10 P, o11a P, o12b P, o13a P, o14a P, o15b P, o16b P, o17b P, o18b P, o19b P, o20b P, o21b P, o22b P, o23b P, o24b P, o25b P, o26b P, o27b P, o28b P, o29b P, o30b P, o31b P, o32b P, o33b P, o34b P, o35b P, o36b P, o37b P, o38b P, o39b P, o40b P, o41b P, o42b P, o43b P, o44b P, o45b P, o46b P, o47b P, o48b P, o49b P, o50b P, o51b P, o52b P, o53b P, o54b P, o55b P, o56b P, o57b P, o58b P, o59b P, o60b P, o61b P, o62b P, o63b P]⟩, {}⟩
noncomputable def o3c (P : Params) : Obj := ⟨(.type "dict"), none, (.dict ⟨[⟨(PyData.keyHash P (Str.ofString "__name__")), (.str (Str.ofString "__name__") 165), (.str (Str.ofString "cpy313.stringprep") 260)⟩, ⟨(PyData.keyHash P (Str.ofString "__doc__")), (.str (Str.ofString "__doc__") 166), .none⟩, ⟨(PyData.keyHash P (Str.ofString "__package__")), (.str (Str.ofString "__package__") 167), .none⟩, ⟨(PyData.keyHash P (Str.ofString "__loader__")), (.str (Str.ofString "__loader__") 168), (.builtin "__main__.__loader__#opaque")⟩, ⟨(PyData.keyHash P (Str.ofString "__spec__")), (.str (Str.ofString "__spec__") 169), .none⟩, ⟨(PyData.keyHash P (Str.ofString "__annotations__")), (.str (Str.ofString "__annotations__") 170), (.ref 6)⟩, ⟨(PyData.keyHash P (Str.ofString "__builtins__")), (.str (Str.ofString "__builtins__") 171), (.ref 4)⟩, ⟨(PyData.keyHash P (Str.ofString "__file__")), (.str (Str.ofString "__file__") 173), (.str (Str.ofString "/claim/cut.py") 172)⟩, ⟨(PyData.keyHash P (Str.ofString "__cached__")), (.str (Str.ofString "__cached__") 174), .none⟩, ⟨(PyData.keyHash P (Str.ofString "Entry")), (.str (Str.ofString "Entry") 250), (.ref 52)⟩, ⟨(PyData.keyHash P (Str.ofString "merge_entries")), (.str (Str.ofString "merge_entries") 259), (.ref 63)⟩, ⟨(PyData.keyHash P (Str.ofString "b1_set")), (.str (Str.ofString "b1_set") 321), (.ref 71)⟩]⟩ 12), ⟨[]⟩⟩
noncomputable def o64c (P : Params) : Obj := ⟨(.type "list"), none, (.seq ⟨[(.int (173) 262), (.int (847) 263), (.int (6150) 264), (.int (6155) 265), (.int (6156) 266), (.int (6157) 267), (.int (8203) 268), (.int (8204) 269), (.int (8205) 270), (.int (8288) 271), (.int (65279) 272)]⟩ 0), ⟨[]⟩⟩
noncomputable def o65c (P : Params) : Obj := ⟨(.type "range"), none, (.fields ⟨[(.int (65024) 273), (.int (65040) 274), (.int (1) 275)]⟩), ⟨[]⟩⟩
noncomputable def o66c (P : Params) : Obj := ⟨(.type "list"), none, (.seq ⟨[(.int (65024) 278), (.int (65025) 279), (.int (65026) 280), (.int (65027) 281), (.int (65028) 282), (.int (65029) 283), (.int (65030) 284), (.int (65031) 285), (.int (65032) 286), (.int (65033) 287), (.int (65034) 288), (.int (65035) 289), (.int (65036) 290), (.int (65037) 291), (.int (65038) 292), (.int (65039) 293)]⟩ 18), ⟨[]⟩⟩
noncomputable def o67c (P : Params) : Obj := ⟨(.type "range_iterator"), none, (.fields ⟨[(.int (65040) 0), (.int (0) 0), (.int (1) 0)]⟩), ⟨[]⟩⟩
noncomputable def o68c (P : Params) : Obj := ⟨(.type "tuple"), none, (.seq ⟨[]⟩ 0), ⟨[]⟩⟩
noncomputable def o69c (P : Params) : Obj := ⟨(.type "StopIteration"), none, (.fields ⟨[(.ref 68), .none, .none, .none, (.bool false), .none]⟩), ⟨[]⟩⟩
noncomputable def o70c (P : Params) : Obj := ⟨(.type "list"), none, (.seq ⟨[(.int (173) 262), (.int (847) 263), (.int (6150) 264), (.int (6155) 265), (.int (6156) 266), (.int (6157) 267), (.int (8203) 268), (.int (8204) 269), (.int (8205) 270), (.int (8288) 271), (.int (65279) 272), (.int (65024) 278), (.int (65025) 279), (.int (65026) 280), (.int (65027) 281), (.int (65028) 282), (.int (65029) 283), (.int (65030) 284), (.int (65031) 285), (.int (65032) 286), (.int (65033) 287), (.int (65034) 288), (.int (65035) 289), (.int (65036) 290), (.int (65037) 291), (.int (65038) 292), (.int (65039) 293)]⟩ 0), ⟨[]⟩⟩
noncomputable def o71c (P : Params) : Obj := ⟨(.type "set"), none, (.set ⟨[((65024), (.int (65024) 278)), ((65025), (.int (65025) 279)), ((65026), (.int (65026) 280)), ((65027), (.int (65027) 281)), ((65028), (.int (65028) 282)), ((65029), (.int (65029) 283)), ((6150), (.int (6150) 264)), ((65030), (.int (65030) 284)), ((65031), (.int (65031) 285)), ((65032), (.int (65032) 286)), ((65033), (.int (65033) 287)), ((6155), (.int (6155) 265)), ((6156), (.int (6156) 266)), ((6157), (.int (6157) 267)), ((8203), (.int (8203) 268)), ((8204), (.int (8204) 269)), ((8205), (.int (8205) 270)), ((65034), (.int (65034) 288)), ((65035), (.int (65035) 289)), ((65036), (.int (65036) 290)), ((65037), (.int (65037) 291)), ((65038), (.int (65038) 292)), ((65039), (.int (65039) 293)), ((173), (.int (173) 262)), ((847), (.int (847) 263)), ((8288), (.int (8288) 271)), ((65279), (.int (65279) 272))]⟩ 29 { mask := 127, place := ⟨[0, 1, 2, 3, 4, 5, 6, 7, 8, 9, 10, 11, 12, 13, 14, 15, 16, 17, 18, 19, 20, 21, 22, 45, 79, 96, 127]⟩, dummies := ⟨[]⟩, finger := 0, led := (!P.followText "set-order"), moves := 2, plain := true }), ⟨[]⟩⟩
noncomputable def o72c (P : Params) : Obj := ⟨(.type "list_iterator"), none, (.fields ⟨[.none, (.int (27) 0)]⟩), ⟨[]⟩⟩
noncomputable def o73c (P : Params) : Obj := ⟨(.type "tuple"), none, (.seq ⟨[]⟩ 0), ⟨[]⟩⟩
noncomputable def o74c (P : Params) : Obj := ⟨(.type "StopIteration"), none, (.fields ⟨[(.ref 73), .none, .none, .none, (.bool false), .none]⟩), ⟨[]⟩⟩
noncomputable def hpC (P : Params) : Heap := ⟨⟨[boot_o_0 P, boot_o_1 P, boot_o_2 P, o3c P, boot_o_4 P, boot_o_5 P, boot_o_6 P, boot_o_7 P, boot_o_8 P, boot_o_9 P, boot_o_10 P, o11a P, o12b P, o13a P, o14a P, o15b P, o16b P, o17b P, o18b P, o19b P, o20b P, o21b P, o22b P, o23b P, o24b P, o25b P, o26b P, o27b P, o28b P, o29b P, o30b P, o31b P, o32b P, o33b P, o34b P, o35b P, o36b P, o37b P, o38b P, o39b P, o40b P, o41b P, o42b P, o43b P, o44b P, o45b P, o46b P, o47b P, o48b P, o49b P, o50b P, o51b P, o52b P, o53b P, o54b P, o55b P, o56b P, o57b P, o58b P, o59b P, o60b P, o61b P, o62b P, o63b P, o64c P, o65c P, o66c P, o67c P, o68c P, o69c P, o70c P, o71c P, o72c P, o73c P, o74c P]⟩, {}⟩
noncomputable def o3d (P : Params) : Obj := ⟨(.type "dict"), none, (.dict ⟨[⟨(PyData.keyHash P (Str.ofString "__name__")), (.str (Str.ofString "__name__") 165), (.str (Str.ofString "cpy313.stringprep") 260)⟩, ⟨(PyData.keyHash P (Str.ofString "__doc__")), (.str (Str.ofString "__doc__") 166), .none⟩, ⟨(PyData.keyHash P (Str.ofString "__package__")), (.str (Str.ofString "__package__") 167), .none⟩, ⟨(PyData.keyHash P (Str.ofString "__loader__")), (.str (Str.ofString "__loader__") 168), (.builtin "__main__.__loader__#opaque")⟩, ⟨(PyData.keyHash P (Str.ofString "__spec__")), (.str (Str.ofString "__spec__") 169), .none⟩, ⟨(PyData.keyHash P (Str.ofString "__annotations__")), (.str (Str.ofString "__annotations__") 170), (.ref 6)⟩, ⟨(PyData.keyHash P (Str.ofString "__builtins__")), (.str (Str.ofString "__builtins__") 171), (.ref 4)⟩, ⟨(PyData.keyHash P (Str.ofString "__file__")), (.str (Str.ofString "__file__") 173), (.str (Str.ofString "/claim/cut.py") 172)⟩, ⟨(PyData.keyHash P (Str.ofString "__cached__")), (.str (Str.ofString "__cached__") 174), .none⟩, ⟨(PyData.keyHash P (Str.ofString "Entry")), (.str (Str.ofString "Entry") 250), (.ref 52)⟩, ⟨(PyData.keyHash P (Str.ofString "merge_entries")), (.str (Str.ofString "merge_entries") 259), (.ref 63)⟩, ⟨(PyData.keyHash P (Str.ofString "b1_set")), (.str (Str.ofString "b1_set") 321), (.ref 71)⟩, ⟨(PyData.keyHash P (Str.ofString "in_table_b1")), (.str (Str.ofString "in_table_b1") 328), (.ref 81)⟩]⟩ 13), ⟨[]⟩⟩
noncomputable def o12d (P : Params) : Obj := ⟨.none, none, (.fields ⟨[(.int (2) 0), (.int (0) 0), (.ref 20), (.int (50) 0), (.int (0) 0), (.ref 62), (.int (59) 0), (.int (0) 0), (.ref 80)]⟩), ⟨[]⟩⟩
noncomputable def o75d (P : Params) : Obj := ⟨(.type "tuple"), none, (.seq ⟨[]⟩ 0), ⟨[]⟩⟩
noncomputable def o76d (P : Params) : Obj := ⟨.none, none, (.fields ⟨[]⟩), ⟨[]⟩⟩
noncomputable def o77d (P : Params) : Obj := ⟨(.type "tuple"), none, (.seq ⟨[(.str (Str.ofString "code") 325)]⟩ 0), ⟨[]⟩⟩
noncomputable def o78d (P : Params) : Obj := ⟨(.type "tuple"), none, (.seq ⟨[]⟩ 0), ⟨[]⟩⟩
noncomputable def o79d (P : Params) : Obj := ⟨.none, none, (.func { name := (Str.ofString "in_table_b1"), qualname := (Str.ofString "in_table_b1"), params := fArgs (stAt 5), body := .stmts (fBody (stAt 5)), scope := fScope (stAt 5), globals := 0, closure := [], defaults := .none, kwdefaults := .none, doc := .none, pyModule := .none, annotations := none, code := .none, closureTuple := .none, builtins := 0 }), ⟨[]⟩⟩
noncomputable def o80d (P : Params) : Obj := ⟨(.type "code"), none, (.fields ⟨[(.str (Str.ofString "in_table_b1") 322), (.str (Str.ofString "in_table_b1") 323), (.str (Str.ofString "/claim/cut.py") 324), (.int (59) 0), (.int (1) 0), (.int (0) 0), (.int (0) 0), (.int (3) 0), (.ref 75), (.bool true), (.int (181) 0), (.ref 76), .none, (.ref 77), (.ref 78), (.ref 79), (.int (326) 0), (.int (59) 0), (.str (Str.ofString "/claim/cut.py") 327)]⟩), ⟨[]⟩⟩
noncomputable def o81d (P : Params) : Obj := ⟨(.type "function"), none, (.func { name := (Str.ofString "in_table_b1"), qualname := (Str.ofString "in_table_b1"), params := fArgs (stAt 5), body := .stmts (fBody (stAt 5)), scope := fScope (stAt 5), globals := 3, closure := [], defaults := .none, kwdefaults := .none, doc := .none, pyModule := (.str (Str.ofString "cpy313.stringprep") 260), annotations := none, code := (.ref 80), closureTuple := .none, builtins := 0 }), ⟨[]⟩⟩
noncomputable def hpD (P : Params) : Heap := ⟨⟨[boot_o_0 P, boot_o_1 P, boot_o_2 P, o3d P, boot_o_4 P, boot_o_5 P, boot_o_6 P, boot_o_7 P, boot_o_8 P, boot_o_9 P, boot_o_10 P, o11a P, o12d P, o13a P, o14a P, o15b P, o16b P, o17b P, o18b P, o19b P, o20b P, o21b P, o22b P, o23b P, o24b P, o25b P, o26b P, o27b P, o28b P, o29b P, o30b P, o31b P, o32b P, o33b P, o34b P, o35b P, o36b P, o37b P, o38b P, o39b P, o40b P, o41b P, o42b P, o43b P, o44b P, o45b P, o46b P, o47b P, o48b P, o49b P, o50b P, o51b P, o52b P, o53b P, o54b P, o55b P, o56b P, o57b P, o58b P, o59b P, o60b P, o61b P, o62b P, o63b P, o64c P, o65c P, o66c P, o67c P, o68c P, o69c P, o70c P, o71c P, o72c P, o73c P, o74c P, o75d P, o76d P, o77d P, o78d P, o79d P, o80d P, o81d P]⟩, {}⟩
noncomputable def dKeys : List (Option Expr) := match stAt 6 with | .Assign _ (.Dict ks _ _) _ => ks | _ => []
noncomputable def dVals : List Expr := match stAt 6 with | .Assign _ (.Dict _ vs _) _ => vs | _ => []
noncomputable def dTgt : List Expr := match stAt 6 with | .Assign ts _ _ => ts | _ => []
noncomputable def dPosD : Pos := match stAt 6 with | .Assign _ (.Dict _ _ q) _ => q | _ => default
noncomputable def dPosS : Pos := match stAt 6 with | .Assign _ _ q => q | _ => default
noncomputable def dPE : List PE := (dKeys.zip dVals).map peOf
noncomputable def mdict : Obj := dObj (ents 3 329 (dPE.take 17 ++ (chop 37 (dPE.drop 17)).flatten) ++ ents 2 (329 + 3 * 646) (dPE.drop 646)) 650
noncomputable def sdicts : List Obj := subsOf (329 + 51) (chop 37 (dPE.drop 17)) ++ [dObj (ents 2 (329 + 3 * 646) (dPE.drop 646)) 4]
noncomputable def sdict (i : Nat) : Obj := sdicts.getD i default
noncomputable def hpD2 (P : Params) : Heap := ⟨⟨[boot_o_0 P, boot_o_1 P, boot_o_2 P, o3d P, boot_o_4 P, boot_o_5 P, boot_o_6 P, boot_o_7 P, boot_o_8 P, boot_o_9 P, boot_o_10 P, o11a P, o12d P, o13a P, o14a P, o15b P, o16b P, o17b P, o18b P, o19b P, o20b P, o21b P, o22b P, o23b P, o24b P, o25b P, o26b P, o27b P, o28b P, o29b P, o30b P, o31b P, o32b P, o33b P, o34b P, o35b P, o36b P, o37b P, o38b P, o39b P, o40b P, o41b P, o42b P, o43b P, o44b P, o45b P, o46b P, o47b P, o48b P, o49b P, o50b P, o51b P, o52b P, o53b P, o54b P, o55b P, o56b P, o57b P, o58b P, o59b P, o60b P, o61b P, o62b P, o63b P, o64c P, o65c P, o66c P, o67c P, o68c P, o69c P, o70c P, o71c P, o72c P, o73c P, o74c P, o75d P, o76d P, o77d P, o78d P, o79d P, o80d P, o81d P, mdict, sdict 0, sdict 1, sdict 2, sdict 3, sdict 4, sdict 5, sdict 6, sdict 7, sdict 8, sdict 9, sdict 10, sdict 11, sdict 12, sdict 13, sdict 14, sdict 15, sdict 16, sdict 17, sdict 18, sdict 19, sdict 20, sdict 21, sdict 22, sdict 23, sdict 24, sdict 25, sdict 26, sdict 27, sdict 28, sdict 29, sdict 30, sdict 31, sdict 32, sdict 33, sdict 34, sdict 35, sdict 36, sdict 37]⟩, {}⟩
noncomputable def o3e (P : Params) : Obj := ⟨(.type "dict"), none, (.dict ⟨[⟨(PyData.keyHash P (Str.ofString "__name__")), (.str (Str.ofString "__name__") 165), (.str (Str.ofString "cpy313.stringprep") 260)⟩, ⟨(PyData.keyHash P (Str.ofString "__doc__")), (.str (Str.ofString "__doc__") 166), .none⟩, ⟨(PyData.keyHash P (Str.ofString "__package__")), (.str (Str.ofString "__package__") 167), .none⟩, ⟨(PyData.keyHash P (Str.ofString "__loader__")), (.str (Str.ofString "__loader__") 168), (.builtin "__main__.__loader__#opaque")⟩, ⟨(PyData.keyHash P (Str.ofString "__spec__")), (.str (Str.ofString "__spec__") 169), .none⟩, ⟨(PyData.keyHash P (Str.ofString "__annotations__")), (.str (Str.ofString "__annotations__") 170), (.ref 6)⟩, ⟨(PyData.keyHash P (Str.ofString "__builtins__")), (.str (Str.ofString "__builtins__") 171), (.ref 4)⟩, ⟨(PyData.keyHash P (Str.ofString "__file__")), (.str (Str.ofString "__file__") 173), (.str (Str.ofString "/claim/cut.py") 172)⟩, ⟨(PyData.keyHash P (Str.ofString "__cached__")), (.str (Str.ofString "__cached__") 174), .none⟩, ⟨(PyData.keyHash P (Str.ofString "Entry")), (.str (Str.ofString "Entry") 250), (.ref 52)⟩, ⟨(PyData.keyHash P (Str.ofString "merge_entries")), (.str (Str.ofString "merge_entries") 259), (.ref 63)⟩, ⟨(PyData.keyHash P (Str.ofString "b1_set")), (.str (Str.ofString "b1_set") 321), (.ref 71)⟩, ⟨(PyData.keyHash P (Str.ofString "in_table_b1")), (.str (Str.ofString "in_table_b1") 328), (.ref 81)⟩, ⟨(PyData.keyHash P (Str.ofString "b3_exceptions")), (.str (Str.ofString "b3_exceptions") 2279), (.ref 82)⟩]⟩ 14), ⟨[]⟩⟩
noncomputable def hpE (P : Params) : Heap := ⟨⟨[boot_o_0 P, boot_o_1 P, boot_o_2 P, o3e P, boot_o_4 P, boot_o_5 P, boot_o_6 P, boot_o_7 P, boot_o_8 P, boot_o_9 P, boot_o_10 P, o11a P, o12d P, o13a P, o14a P, o15b P, o16b P, o17b P, o18b P, o19b P, o20b P, o21b P, o22b P, o23b P, o24b P, o25b P, o26b P, o27b P, o28b P, o29b P, o30b P, o31b P, o32b P, o33b P, o34b P, o35b P, o36b P, o37b P, o38b P, o39b P, o40b P, o41b P, o42b P, o43b P, o44b P, o45b P, o46b P, o47b P, o48b P, o49b P, o50b P, o51b P, o52b P, o53b P, o54b P, o55b P, o56b P, o57b P, o58b P, o59b P, o60b P, o61b P, o62b P, o63b P, o64c P, o65c P, o66c P, o67c P, o68c P, o69c P, o70c P, o71c P, o72c P, o73c P, o74c P, o75d P, o76d P, o77d P, o78d P, o79d P, o80d P, o81d P, mdict, (sdict 0), (sdict 1), (sdict 2), (sdict 3), (sdict 4), (sdict 5), (sdict 6), (sdict 7), (sdict 8), (sdict 9), (sdict 10), (sdict 11), (sdict 12), (sdict 13), (sdict 14), (sdict 15), (sdict 16), (sdict 17), (sdict 18), (sdict 19), (sdict 20), (sdict 21), (sdict 22), (sdict 23), (sdict 24), (sdict 25), (sdict 26), (sdict 27), (sdict 28), (sdict 29), (sdict 30), (sdict 31), (sdict 32), (sdict 33), (sdict 34), (sdict 35), (sdict 36), (sdict 37)]⟩, {}⟩
noncomputable def o3f (P : Params) : Obj := ⟨(.type "dict"), none, (.dict ⟨[⟨(PyData.keyHash P (Str.ofString "__name__")), (.str (Str.ofString "__name__") 165), (.str (Str.ofString "law_rs0172_01") 2288)⟩, ⟨(PyData.keyHash P (Str.ofString "__doc__")), (.str (Str.ofString "__doc__") 166), .none⟩, ⟨(PyData.keyHash P (Str.ofString "__package__")), (.str (Str.ofString "__package__") 167), .none⟩, ⟨(PyData.keyHash P (Str.ofString "__loader__")), (.str (Str.ofString "__loader__") 168), (.builtin "__main__.__loader__#opaque")⟩, ⟨(PyData.keyHash P (Str.ofString "__spec__")), (.str (Str.ofString "__spec__") 169), .none⟩, ⟨(PyData.keyHash P (Str.ofString "__annotations__")), (.str (Str.ofString "__annotations__") 170), (.ref 6)⟩, ⟨(PyData.keyHash P (Str.ofString "__builtins__")), (.str (Str.ofString "__builtins__") 171), (.ref 4)⟩, ⟨(PyData.keyHash P (Str.ofString "__file__")), (.str (Str.ofString "__file__") 173), (.str (Str.ofString "/claim/cut.py") 172)⟩, ⟨(PyData.keyHash P (Str.ofString "__cached__")), (.str (Str.ofString "__cached__") 174), .none⟩, ⟨(PyData.keyHash P (Str.ofString "Entry")), (.str (Str.ofString "Entry") 250), (.ref 52)⟩, ⟨(PyData.keyHash P (Str.ofString "merge_entries")), (.str (Str.ofString "merge_entries") 259), (.ref 63)⟩, ⟨(PyData.keyHash P (Str.ofString "b1_set")), (.str (Str.ofString "b1_set") 321), (.ref 71)⟩, ⟨(PyData.keyHash P (Str.ofString "in_table_b1")), (.str (Str.ofString "in_table_b1") 328), (.ref 81)⟩, ⟨(PyData.keyHash P (Str.ofString "b3_exceptions")), (.str (Str.ofString "b3_exceptions") 2279), (.ref 82)⟩, ⟨(PyData.keyHash P (Str.ofString "map_table_b3")), (.str (Str.ofString "map_table_b3") 2287), (.ref 127)⟩, ⟨(PyData.keyHash P (Str.ofString "_law_cells")), (.str (Str.ofString "_law_cells") 2298), (.ref 134)⟩, ⟨(PyData.keyHash P (Str.ofString "_law_sign")), (.str (Str.ofString "_law_sign") 2314), (.ref 141)⟩, ⟨(PyData.keyHash P (Str.ofString "_law_prepared")), (.str (Str.ofString "_law_prepared") 2320), (.ref 146)⟩, ⟨(PyData.keyHash P (Str.ofString "_law_rule")), (.str (Str.ofString "_law_rule") 2330), (.ref 153)⟩, ⟨(PyData.keyHash P (Str.ofString "_law_record")), (.str (Str.ofString "_law_record") 2336), (.ref 158)⟩, ⟨(PyData.keyHash P (Str.ofString "_law_spoil")), (.str (Str.ofString "_law_spoil") 2344), (.ref 165)⟩, ⟨(PyData.keyHash P (Str.ofString "_law_rows")), (.str (Str.ofString "_law_rows") 2350), (.ref 170)⟩, ⟨(PyData.keyHash P (Str.ofString "law")), (.str (Str.ofString "law") 2356), (.ref 175)⟩]⟩ 23), ⟨[]⟩⟩
noncomputable def o12f (P : Params) : Obj := ⟨.none, none, (.fields ⟨[(.int (2) 0), (.int (0) 0), (.ref 20), (.int (50) 0), (.int (0) 0), (.ref 62), (.int (59) 0), (.int (0) 0), (.ref 80), (.int (62) 0), (.int (0) 0), (.ref 126), (.int (68) 0), (.int (0) 0), (.ref 133), (.int (73) 0), (.int (0) 0), (.ref 140), (.int (90) 0), (.int (0) 0), (.ref 145), (.int (92) 0), (.int (0) 0), (.ref 152), (.int (98) 0), (.int (0) 0), (.ref 157), (.int (105) 0), (.int (0) 0), (.ref 164), (.int (110) 0), (.int (0) 0), (.ref 169), (.int (112) 0), (.int (0) 0), (.ref 174)]⟩), ⟨[]⟩⟩
noncomputable def o121f (P : Params) : Obj := ⟨(.type "tuple"), none, (.seq ⟨[]⟩ 0), ⟨[]⟩⟩
noncomputable def o122f (P : Params) : Obj := ⟨.none, none, (.fields ⟨[]⟩), ⟨[]⟩⟩
noncomputable def o123f (P : Params) : Obj := ⟨(.type "tuple"), none, (.seq ⟨[(.str (Str.ofString "code") 2283), (.str (Str.ofString "r") 2284)]⟩ 0), ⟨[]⟩⟩
noncomputable def o124f (P : Params) : Obj := ⟨(.type "tuple"), none, (.seq ⟨[]⟩ 0), ⟨[]⟩⟩
noncomputable def o125f (P : Params) : Obj := ⟨.none, none, (.func { name := (Str.ofString "map_table_b3"), qualname := (Str.ofString "map_table_b3"), params := fArgs (stAt 7), body := .stmts (fBody (stAt 7)), scope := fScope (stAt 7), globals := 0, closure := [], defaults := .none, kwdefaults := .none, doc := .none, pyModule := .none, annotations := none, code := .none, closureTuple := .none, builtins := 0 }), ⟨[]⟩⟩
noncomputable def o126f (P : Params) : Obj := ⟨(.type "code"), none, (.fields ⟨[(.str (Str.ofString "map_table_b3") 2280), (.str (Str.ofString "map_table_b3") 2281), (.str (Str.ofString "/claim/cut.py") 2282), (.int (62) 0), (.int (1) 0), (.int (0) 0), (.int (0) 0), (.int (3) 0), (.ref 121), (.bool true), (.int (181) 0), (.ref 122), .none, (.ref 123), (.ref 124), (.ref 125), (.int (2285) 0), (.int (62) 0), (.str (Str.ofString "/claim/cut.py") 2286)]⟩), ⟨[]⟩⟩
noncomputable def o127f (P : Params) : Obj := ⟨(.type "function"), none, (.func { name := (Str.ofString "map_table_b3"), qualname := (Str.ofString "map_table_b3"), params := fArgs (stAt 7), body := .stmts (fBody (stAt 7)), scope := fScope (stAt 7), globals := 3, closure := [], defaults := .none, kwdefaults := .none, doc := .none, pyModule := (.str (Str.ofString "cpy313.stringprep") 260), annotations := none, code := (.ref 126), closureTuple := .none, builtins := 0 }), ⟨[]⟩⟩
noncomputable def o128f (P : Params) : Obj := ⟨(.type "tuple"), none, (.seq ⟨[]⟩ 0), ⟨[]⟩⟩
noncomputable def o129f (P : Params) : Obj := ⟨.none, none, (.fields ⟨[]⟩), ⟨[]⟩⟩
noncomputable def o130f (P : Params) : Obj := ⟨(.type "tuple"), none, (.seq ⟨[(.str (Str.ofString "script") 2293), (.str (Str.ofString "cells") 2294), (.str (Str.ofString "place") 2295)]⟩ 0), ⟨[]⟩⟩
noncomputable def o131f (P : Params) : Obj := ⟨(.type "tuple"), none, (.seq ⟨[]⟩ 0), ⟨[]⟩⟩
noncomputable def o132f (P : Params) : Obj := ⟨.none, none, (.func { name := (Str.ofString "_law_cells"), qualname := (Str.ofString "_law_cells"), params := fArgs (stAt 9), body := .stmts (fBody (stAt 9)), scope := fScope (stAt 9), globals := 0, closure := [], defaults := .none, kwdefaults := .none, doc := .none, pyModule := .none, annotations := none, code := .none, closureTuple := .none, builtins := 0 }), ⟨[]⟩⟩
noncomputable def o133f (P : Params) : Obj := ⟨(.type "code"), none, (.fields ⟨[(.str (Str.ofString "_law_cells") 2290), (.str (Str.ofString "_law_cells") 2291), (.str (Str.ofString "/claim/cut.py") 2292), (.int (68) 0), (.int (1) 0), (.int (0) 0), (.int (0) 0), (.int (3) 0), (.ref 128), (.bool true), (.int (181) 0), (.ref 129), .none, (.ref 130), (.ref 131), (.ref 132), (.int (2296) 0), (.int (68) 0), (.str (Str.ofString "/claim/cut.py") 2297)]⟩), ⟨[]⟩⟩
noncomputable def o134f (P : Params) : Obj := ⟨(.type "function"), none, (.func { name := (Str.ofString "_law_cells"), qualname := (Str.ofString "_law_cells"), params := fArgs (stAt 9), body := .stmts (fBody (stAt 9)), scope := fScope (stAt 9), globals := 3, closure := [], defaults := .none, kwdefaults := .none, doc := .none, pyModule := (.str (Str.ofString "law_rs0172_01") 2288), annotations := none, code := (.ref 133), closureTuple := .none, builtins := 0 }), ⟨[]⟩⟩
noncomputable def o135f (P : Params) : Obj := ⟨(.type "tuple"), none, (.seq ⟨[]⟩ 0), ⟨[]⟩⟩
noncomputable def o136f (P : Params) : Obj := ⟨.none, none, (.fields ⟨[]⟩), ⟨[]⟩⟩
noncomputable def o137f (P : Params) : Obj := ⟨(.type "tuple"), none, (.seq ⟨[(.str (Str.ofString "family") 2302), (.str (Str.ofString "cell") 2303), (.str (Str.ofString "letters") 2304), (.str (Str.ofString "kind") 2305), (.str (Str.ofString "pick") 2306), (.str (Str.ofString "fonts") 2307), (.str (Str.ofString "first") 2308), (.str (Str.ofString "codes") 2309), (.str (Str.ofString "texts") 2310), (.str (Str.ofString "lone") 2311)]⟩ 0), ⟨[]⟩⟩
noncomputable def o138f (P : Params) : Obj := ⟨(.type "tuple"), none, (.seq ⟨[]⟩ 0), ⟨[]⟩⟩
noncomputable def o139f (P : Params) : Obj := ⟨.none, none, (.func { name := (Str.ofString "_law_sign"), qualname := (Str.ofString "_law_sign"), params := fArgs (stAt 10), body := .stmts (fBody (stAt 10)), scope := fScope (stAt 10), globals := 0, closure := [], defaults := .none, kwdefaults := .none, doc := .none, pyModule := .none, annotations := none, code := .none, closureTuple := .none, builtins := 0 }), ⟨[]⟩⟩
noncomputable def o140f (P : Params) : Obj := ⟨(.type "code"), none, (.fields ⟨[(.str (Str.ofString "_law_sign") 2299), (.str (Str.ofString "_law_sign") 2300), (.str (Str.ofString "/claim/cut.py") 2301), (.int (73) 0), (.int (2) 0), (.int (0) 0), (.int (0) 0), (.int (3) 0), (.ref 135), (.bool true), (.int (181) 0), (.ref 136), .none, (.ref 137), (.ref 138), (.ref 139), (.int (2312) 0), (.int (73) 0), (.str (Str.ofString "/claim/cut.py") 2313)]⟩), ⟨[]⟩⟩
noncomputable def o141f (P : Params) : Obj := ⟨(.type "function"), none, (.func { name := (Str.ofString "_law_sign"), qualname := (Str.ofString "_law_sign"), params := fArgs (stAt 10), body := .stmts (fBody (stAt 10)), scope := fScope (stAt 10), globals := 3, closure := [], defaults := .none, kwdefaults := .none, doc := .none, pyModule := (.str (Str.ofString "law_rs0172_01") 2288), annotations := none, code := (.ref 140), closureTuple := .none, builtins := 0 }), ⟨[]⟩⟩
noncomputable def o142f (P : Params) : Obj := ⟨(.type "tuple"), none, (.seq ⟨[]⟩ 0), ⟨[]⟩⟩
noncomputable def o143f (P : Params) : Obj := ⟨.none, none, (.fields ⟨[]⟩), ⟨[]⟩⟩
noncomputable def o144f (P : Params) : Obj := ⟨.none, none, (.func { name := (Str.ofString "_law_prepared"), qualname := (Str.ofString "_law_prepared"), params := fArgs (stAt 11), body := .stmts (fBody (stAt 11)), scope := fScope (stAt 11), globals := 0, closure := [], defaults := .none, kwdefaults := .none, doc := .none, pyModule := .none, annotations := none, code := .none, closureTuple := .none, builtins := 0 }), ⟨[]⟩⟩
noncomputable def o145f (P : Params) : Obj := ⟨(.type "code"), none, (.fields ⟨[(.str (Str.ofString "_law_prepared") 2315), (.str (Str.ofString "_law_prepared") 2316), (.str (Str.ofString "/claim/cut.py") 2317), (.int (90) 0), (.int (1) 0), (.int (0) 0), (.int (0) 0), (.int (3) 0), (.ref 142), (.bool true), (.int (181) 0), (.ref 143), .none, .none, .none, (.ref 144), (.int (2318) 0), (.int (90) 0), (.str (Str.ofString "/claim/cut.py") 2319)]⟩), ⟨[]⟩⟩
noncomputable def o146f (P : Params) : Obj := ⟨(.type "function"), none, (.func { name := (Str.ofString "_law_prepared"), qualname := (Str.ofString "_law_prepared"), params := fArgs (stAt 11), body := .stmts (fBody (stAt 11)), scope := fScope (stAt 11), globals := 3, closure := [], defaults := .none, kwdefaults := .none, doc := .none, pyModule := (.str (Str.ofString "law_rs0172_01") 2288), annotations := none, code := (.ref 145), closureTuple := .none, builtins := 0 }), ⟨[]⟩⟩
noncomputable def o147f (P : Params) : Obj := ⟨(.type "tuple"), none, (.seq ⟨[]⟩ 0), ⟨[]⟩⟩
noncomputable def o148f (P : Params) : Obj := ⟨.none, none, (.fields ⟨[]⟩), ⟨[]⟩⟩
noncomputable def o149f (P : Params) : Obj := ⟨(.type "tuple"), none, (.seq ⟨[(.str (Str.ofString "front") 2324), (.str (Str.ofString "word") 2325), (.str (Str.ofString "rule") 2326)]⟩ 0), ⟨[]⟩⟩
noncomputable def o150f (P : Params) : Obj := ⟨(.type "tuple"), none, (.seq ⟨[(.str (Str.ofString "front") 2327)]⟩ 0), ⟨[]⟩⟩
noncomputable def o151f (P : Params) : Obj := ⟨.none, none, (.func { name := (Str.ofString "_law_rule"), qualname := (Str.ofString "_law_rule"), params := fArgs (stAt 12), body := .stmts (fBody (stAt 12)), scope := fScope (stAt 12), globals := 0, closure := [], defaults := .none, kwdefaults := .none, doc := .none, pyModule := .none, annotations := none, code := .none, closureTuple := .none, builtins := 0 }), ⟨[]⟩⟩
noncomputable def o152f (P : Params) : Obj := ⟨(.type "code"), none, (.fields ⟨[(.str (Str.ofString "_law_rule") 2321), (.str (Str.ofString "_law_rule") 2322), (.str (Str.ofString "/claim/cut.py") 2323), (.int (92) 0), (.int (2) 0), (.int (0) 0), (.int (0) 0), (.int (3) 0), (.ref 147), (.bool true), (.int (181) 0), (.ref 148), .none, (.ref 149), (.ref 150), (.ref 151), (.int (2328) 0), (.int (92) 0), (.str (Str.ofString "/claim/cut.py") 2329)]⟩), ⟨[]⟩⟩
noncomputable def o153f (P : Params) : Obj := ⟨(.type "function"), none, (.func { name := (Str.ofString "_law_rule"), qualname := (Str.ofString "_law_rule"), params := fArgs (stAt 12), body := .stmts (fBody (stAt 12)), scope := fScope (stAt 12), globals := 3, closure := [], defaults := .none, kwdefaults := .none, doc := .none, pyModule := (.str (Str.ofString "law_rs0172_01") 2288), annotations := none, code := (.ref 152), closureTuple := .none, builtins := 0 }), ⟨[]⟩⟩
noncomputable def o154f (P : Params) : Obj := ⟨(.type "tuple"), none, (.seq ⟨[]⟩ 0), ⟨[]⟩⟩
noncomputable def o155f (P : Params) : Obj := ⟨.none, none, (.fields ⟨[]⟩), ⟨[]⟩⟩
noncomputable def o156f (P : Params) : Obj := ⟨.none, none, (.func { name := (Str.ofString "_law_record"), qualname := (Str.ofString "_law_record"), params := fArgs (stAt 13), body := .stmts (fBody (stAt 13)), scope := fScope (stAt 13), globals := 0, closure := [], defaults := .none, kwdefaults := .none, doc := .none, pyModule := .none, annotations := none, code := .none, closureTuple := .none, builtins := 0 }), ⟨[]⟩⟩
noncomputable def o157f (P : Params) : Obj := ⟨(.type "code"), none, (.fields ⟨[(.str (Str.ofString "_law_record") 2331), (.str (Str.ofString "_law_record") 2332), (.str (Str.ofString "/claim/cut.py") 2333), (.int (98) 0), (.int (5) 0), (.int (0) 0), (.int (0) 0), (.int (3) 0), (.ref 154), (.bool true), (.int (181) 0), (.ref 155), .none, .none, .none, (.ref 156), (.int (2334) 0), (.int (98) 0), (.str (Str.ofString "/claim/cut.py") 2335)]⟩), ⟨[]⟩⟩
noncomputable def o158f (P : Params) : Obj := ⟨(.type "function"), none, (.func { name := (Str.ofString "_law_record"), qualname := (Str.ofString "_law_record"), params := fArgs (stAt 13), body := .stmts (fBody (stAt 13)), scope := fScope (stAt 13), globals := 3, closure := [], defaults := .none, kwdefaults := .none, doc := .none, pyModule := (.str (Str.ofString "law_rs0172_01") 2288), annotations := none, code := (.ref 157), closureTuple := .none, builtins := 0 }), ⟨[]⟩⟩
noncomputable def o159f (P : Params) : Obj := ⟨(.type "tuple"), none, (.seq ⟨[]⟩ 0), ⟨[]⟩⟩
noncomputable def o160f (P : Params) : Obj := ⟨.none, none, (.fields ⟨[]⟩), ⟨[]⟩⟩
noncomputable def o161f (P : Params) : Obj := ⟨(.type "tuple"), none, (.seq ⟨[(.str (Str.ofString "record") 2340), (.str (Str.ofString "rule") 2341)]⟩ 0), ⟨[]⟩⟩
noncomputable def o162f (P : Params) : Obj := ⟨(.type "tuple"), none, (.seq ⟨[]⟩ 0), ⟨[]⟩⟩
noncomputable def o163f (P : Params) : Obj := ⟨.none, none, (.func { name := (Str.ofString "_law_spoil"), qualname := (Str.ofString "_law_spoil"), params := fArgs (stAt 14), body := .stmts (fBody (stAt 14)), scope := fScope (stAt 14), globals := 0, closure := [], defaults := .none, kwdefaults := .none, doc := .none, pyModule := .none, annotations := none, code := .none, closureTuple := .none, builtins := 0 }), ⟨[]⟩⟩
noncomputable def o164f (P : Params) : Obj := ⟨(.type "code"), none, (.fields ⟨[(.str (Str.ofString "_law_spoil") 2337), (.str (Str.ofString "_law_spoil") 2338), (.str (Str.ofString "/claim/cut.py") 2339), (.int (105) 0), (.int (1) 0), (.int (0) 0), (.int (0) 0), (.int (3) 0), (.ref 159), (.bool true), (.int (181) 0), (.ref 160), .none, (.ref 161), (.ref 162), (.ref 163), (.int (2342) 0), (.int (105) 0), (.str (Str.ofString "/claim/cut.py") 2343)]⟩), ⟨[]⟩⟩
noncomputable def o165f (P : Params) : Obj := ⟨(.type "function"), none, (.func { name := (Str.ofString "_law_spoil"), qualname := (Str.ofString "_law_spoil"), params := fArgs (stAt 14), body := .stmts (fBody (stAt 14)), scope := fScope (stAt 14), globals := 3, closure := [], defaults := .none, kwdefaults := .none, doc := .none, pyModule := (.str (Str.ofString "law_rs0172_01") 2288), annotations := none, code := (.ref 164), closureTuple := .none, builtins := 0 }), ⟨[]⟩⟩
noncomputable def o166f (P : Params) : Obj := ⟨(.type "tuple"), none, (.seq ⟨[]⟩ 0), ⟨[]⟩⟩
noncomputable def o167f (P : Params) : Obj := ⟨.none, none, (.fields ⟨[]⟩), ⟨[]⟩⟩
noncomputable def o168f (P : Params) : Obj := ⟨.none, none, (.func { name := (Str.ofString "_law_rows"), qualname := (Str.ofString "_law_rows"), params := fArgs (stAt 15), body := .stmts (fBody (stAt 15)), scope := fScope (stAt 15), globals := 0, closure := [], defaults := .none, kwdefaults := .none, doc := .none, pyModule := .none, annotations := none, code := .none, closureTuple := .none, builtins := 0 }), ⟨[]⟩⟩
noncomputable def o169f (P : Params) : Obj := ⟨(.type "code"), none, (.fields ⟨[(.str (Str.ofString "_law_rows") 2345), (.str (Str.ofString "_law_rows") 2346), (.str (Str.ofString "/claim/cut.py") 2347), (.int (110) 0), (.int (1) 0), (.int (0) 0), (.int (0) 0), (.int (3) 0), (.ref 166), (.bool true), (.int (181) 0), (.ref 167), .none, .none, .none, (.ref 168), (.int (2348) 0), (.int (110) 0), (.str (Str.ofString "/claim/cut.py") 2349)]⟩), ⟨[]⟩⟩
noncomputable def o170f (P : Params) : Obj := ⟨(.type "function"), none, (.func { name := (Str.ofString "_law_rows"), qualname := (Str.ofString "_law_rows"), params := fArgs (stAt 15), body := .stmts (fBody (stAt 15)), scope := fScope (stAt 15), globals := 3, closure := [], defaults := .none, kwdefaults := .none, doc := .none, pyModule := (.str (Str.ofString "law_rs0172_01") 2288), annotations := none, code := (.ref 169), closureTuple := .none, builtins := 0 }), ⟨[]⟩⟩
noncomputable def o171f (P : Params) : Obj := ⟨(.type "tuple"), none, (.seq ⟨[]⟩ 0), ⟨[]⟩⟩
noncomputable def o172f (P : Params) : Obj := ⟨.none, none, (.fields ⟨[]⟩), ⟨[]⟩⟩
noncomputable def o173f (P : Params) : Obj := ⟨.none, none, (.func { name := (Str.ofString "law"), qualname := (Str.ofString "law"), params := fArgs (stAt 16), body := .stmts (fBody (stAt 16)), scope := fScope (stAt 16), globals := 0, closure := [], defaults := .none, kwdefaults := .none, doc := .none, pyModule := .none, annotations := none, code := .none, closureTuple := .none, builtins := 0 }), ⟨[]⟩⟩
noncomputable def o174f (P : Params) : Obj := ⟨(.type "code"), none, (.fields ⟨[(.str (Str.ofString "law") 2351), (.str (Str.ofString "law") 2352), (.str (Str.ofString "/claim/cut.py") 2353), (.int (112) 0), (.int (1) 0), (.int (0) 0), (.int (0) 0), (.int (3) 0), (.ref 171), (.bool true), (.int (181) 0), (.ref 172), .none, .none, .none, (.ref 173), (.int (2354) 0), (.int (112) 0), (.str (Str.ofString "/claim/cut.py") 2355)]⟩), ⟨[]⟩⟩
noncomputable def o175f (P : Params) : Obj := ⟨(.type "function"), none, (.func { name := (Str.ofString "law"), qualname := (Str.ofString "law"), params := fArgs (stAt 16), body := .stmts (fBody (stAt 16)), scope := fScope (stAt 16), globals := 3, closure := [], defaults := .none, kwdefaults := .none, doc := .none, pyModule := (.str (Str.ofString "law_rs0172_01") 2288), annotations := none, code := (.ref 174), closureTuple := .none, builtins := 0 }), ⟨[]⟩⟩
noncomputable def hpF (P : Params) : Heap := ⟨⟨[boot_o_0 P, boot_o_1 P, boot_o_2 P, o3f P, boot_o_4 P, boot_o_5 P, boot_o_6 P, boot_o_7 P, boot_o_8 P, boot_o_9 P, boot_o_10 P, o11a P, o12f P, o13a P, o14a P, o15b P, o16b P, o17b P, o18b P, o19b P, o20b P, o21b P, o22b P, o23b P, o24b P, o25b P, o26b P, o27b P, o28b P, o29b P, o30b P, o31b P, o32b P, o33b P, o34b P, o35b P, o36b P, o37b P, o38b P, o39b P, o40b P, o41b P, o42b P, o43b P, o44b P, o45b P, o46b P, o47b P, o48b P, o49b P, o50b P, o51b P, o52b P, o53b P, o54b P, o55b P, o56b P, o57b P, o58b P, o59b P, o60b P, o61b P, o62b P, o63b P, o64c P, o65c P, o66c P, o67c P, o68c P, o69c P, o70c P, o71c P, o72c P, o73c P, o74c P, o75d P, o76d P, o77d P, o78d P, o79d P, o80d P, o81d P, mdict, (sdict 0), (sdict 1), (sdict 2), (sdict 3), (sdict 4), (sdict 5), (sdict 6), (sdict 7), (sdict 8), (sdict 9), (sdict 10), (sdict 11), (sdict 12), (sdict 13), (sdict 14), (sdict 15), (sdict 16), (sdict 17), (sdict 18), (sdict 19), (sdict 20), (sdict 21), (sdict 22), (sdict 23), (sdict 24), (sdict 25), (sdict 26), (sdict 27), (sdict 28), (sdict 29), (sdict 30), (sdict 31), (sdict 32), (sdict 33), (sdict 34), (sdict 35), (sdict 36), (sdict 37), o121f P, o122f P, o123f P, o124f P, o125f P, o126f P, o127f P, o128f P, o129f P, o130f P, o131f P, o132f P, o133f P, o134f P, o135f P, o136f P, o137f P, o138f P, o139f P, o140f P, o141f P, o142f P, o143f P, o144f P, o145f P, o146f P, o147f P, o148f P, o149f P, o150f P, o151f P, o152f P, o153f P, o154f P, o155f P, o156f P, o157f P, o158f P, o159f P, o160f P, o161f P, o162f P, o163f P, o164f P, o165f P, o166f P, o167f P, o168f P, o169f P, o170f P, o171f P, o172f P, o173f P, o174f P, o175f P]⟩, {}⟩
noncomputable def tenv : Env := { scope := PR.main.scope, locals := mainNs, globals := mainNs, cells := [], code := .ref 13, frame := some 14 }
noncomputable def tcode : Code := .body (behindTheImports PR) tenv
noncomputable abbrev tB : List Frame := [topFrame ⟨0, 0, 0, 0⟩]
noncomputable abbrev tann : Option Value := some (.ref 6)
noncomputable def gA : List Stmt := PR.main.body.take 4
noncomputable def gB : List Stmt := [stAt 4]
noncomputable def gC : List Stmt := (PR.main.body.drop 5).take 1
noncomputable def gD : List Stmt := [stAt 6]
noncomputable def gE : List Stmt := PR.main.body.drop 7
theorem body_is : behindTheImports PR = gA ++ (gB ++ (gC ++ (gD ++ (gE ++ [])))) := by kernel_rfl
theorem pc_pre (w : World) (os : OsState) : topGo treeTable PR w 11 tann 12 ⟨boot_heap w.params, Array.mk [], boot_drawn, boot_toks, os⟩ (topStub PR) = some (⟨hpPre w.params, Array.mk [], boot_drawn, 187, os⟩, ⟨denote treeTable tcode, tcode, ⟨0, 0, 0, 0⟩, tB⟩) := by kernel_rfl
theorem pc_blk (w : World) (os : OsState) : segRun treeTable PR w 11 tann 1 1 ⟨hpPre w.params, Array.mk [], boot_drawn, 187, os⟩ (blockOf (behindTheImports PR) tenv tcode ⟨0, 0, 0, 0⟩ tB) = some (.next, ⟨hpPre w.params, Array.mk [], boot_drawn, 187, os⟩, tcode, ⟨0, 0, 0, 0⟩) := by kernel_rfl
theorem pc_A (w : World) (os : OsState) : segRun treeTable PR w 11 tann 1 377 ⟨hpPre w.params, Array.mk [], boot_drawn, 187, os⟩ (piecesOf gA tenv tcode ⟨0, 0, 0, 0⟩ tB) = some (.next, ⟨hpB w.params, Array.mk [], boot_drawn, 262, os⟩, tcode, ⟨57, 0, 57, 8⟩) := by
  rw [PySem.W.Fast.te14374325043358763698, PySem.W.Fast.te14364793385576792824]
  kernel_rfl
noncomputable def okB (w : World) : Prop := ∀ os : OsState, segRun treeTable PR w 11 tann 1 999 ⟨hpB w.params, Array.mk [], boot_drawn, 262, os⟩ (piecesOf gB tenv tcode ⟨57, 0, 57, 8⟩ tB) = some (.next, ⟨hpC w.params, Array.mk [], boot_drawn, 322, os⟩, tcode, ⟨58, 0, 58, 6⟩)
theorem pc_B_false_false (w : World) : okB ((w.withFollow "set-order" false).withFollow "special-get-raises" false) := by
  intro os
  rw [PySem.W.Fast.te14374325043358763698, PySem.W.Fast.te14364793385576792824]
  kernel_rfl
theorem pc_B_false_true (w : World) : okB ((w.withFollow "set-order" false).withFollow "special-get-raises" true) := by
  intro os
  rw [PySem.W.Fast.te14374325043358763698, PySem.W.Fast.te14364793385576792824]
  kernel_rfl
theorem pc_B_true_false (w : World) : okB ((w.withFollow "set-order" true).withFollow "special-get-raises" false) := by
  intro os
  rw [PySem.W.Fast.te14374325043358763698, PySem.W.Fast.te14364793385576792824]
  kernel_rfl
theorem pc_B_true_true (w : World) : okB ((w.withFollow "set-order" true).withFollow "special-get-raises" true) := by
  intro os
  rw [PySem.W.Fast.te14374325043358763698, PySem.W.Fast.te14364793385576792824]
  kernel_rfl
theorem pc_B : ∀ w : World, okB w := by
  intro w
  refine byRow2 "set-order" (fun w => ?_) (fun w => ?_) w
  · have : ∀ v : World, okB ((w.withFollow "set-order" false).withFollow "special-get-raises" (v.params.followText "special-get-raises")) := fun v => by
      cases v.params.followText "special-get-raises"
      · exact pc_B_false_false w
      · exact pc_B_false_true w
    have h := this (w.withFollow "set-order" false)
    rwa [World.withFollow_self] at h
  · have : ∀ v : World, okB ((w.withFollow "set-order" true).withFollow "special-get-raises" (v.params.followText "special-get-raises")) := fun v => by
      cases v.params.followText "special-get-raises"
      · exact pc_B_true_false w
      · exact pc_B_true_true w
    have h := this (w.withFollow "set-order" true)
    rwa [World.withFollow_self] at h
theorem pc_C (w : World) (os : OsState) : segRun treeTable PR w 11 tann 1 30 ⟨hpC w.params, Array.mk [], boot_drawn, 322, os⟩ (piecesOf gC tenv tcode ⟨58, 0, 58, 6⟩ tB) = some (.next, ⟨hpD w.params, Array.mk [], boot_drawn, 329, os⟩, tcode, ⟨59, 0, 60, 30⟩) := by
  rw [PySem.W.Fast.te14374325043358763698, PySem.W.Fast.te14364793385576792824]
  kernel_rfl
theorem d_stmt : stAt 6 = .Assign dTgt (.Dict (dPE.map fun a => some a.key) (dPE.map PE.val) dPosD) dPosS := by kernel_rfl
theorem d_len : dPE.length = 650 := by kernel_rfl
theorem d_incr : incrB 0 dPE = true := by kernel_rfl
theorem d_swaps (a : List (Option Expr)) (b : List Expr) (c : Pos) (l : Nat) : swapsWithSole dTgt (.Dict a b c) l tenv = pure false := by kernel_rfl
theorem d_swapped (a : List (Option Expr)) (b : List Expr) (c : Pos) : swappedStores dTgt (.Dict a b c) tenv = pure none := by kernel_rfl
theorem pc_tail (w : World) (os : OsState) (K : Flow → Sem PySem.Fin) (H : Value → Sem PySem.Fin) (gd : Bool → Bool) (lv : List Value → List Value) (code : Code) (f : Frame) (rest : List Frame) (pos : Pos) :
    topGo treeTable PR w 11 tann 7 ⟨hpD2 w.params, Array.mk [], boot_drawn, 2279, os⟩ ⟨(assignStores tenv (.ref 82) none ((assignEach dTgt tenv).map (·.2))).wrap K H gd lv, code, pos, f :: rest⟩ =
      some (⟨hpE w.params, Array.mk [], boot_drawn, 2280, os⟩, ⟨K .next, code, ⟨61, 0, 61, 13⟩, f :: rest⟩) := by
  rw [PySem.W.Fast.te15667345088766844465, PySem.W.Fast.te14364793385576792824]
  kernel_rfl
theorem sdicts_is : sdicts = [sdict 0, sdict 1, sdict 2, sdict 3, sdict 4, sdict 5, sdict 6, sdict 7, sdict 8, sdict 9, sdict 10, sdict 11, sdict 12, sdict 13, sdict 14, sdict 15, sdict 16, sdict 17, sdict 18, sdict 19, sdict 20, sdict 21, sdict 22, sdict 23, sdict 24, sdict 25, sdict 26, sdict 27, sdict 28, sdict 29, sdict 30, sdict 31, sdict 32, sdict 33, sdict 34, sdict 35, sdict 36, sdict 37] := by
  have h : sdicts.length = 38 := by
    show (subsOf (329 + 51) (chop 37 (dPE.drop 17)) ++ [_]).length = 38
    rw [List.length_append, subsOf_length, chop_length]; rfl
  exact list38 default sdicts h
theorem hN_list (xs l : List Obj) (life : Life) : hN ⟨⟨xs⟩, life⟩ l = ⟨⟨xs ++ l⟩, life⟩ := by simp [hN]
theorem hpD_size (P : Params) : (hpD P).objs.size = 82 := rfl
theorem d_heap (P : Params) : hN (hpD P) (mdict :: sdicts) = hpD2 P := by
  rw [sdicts_is]
  exact hN_list _ _ _
theorem d_heap0 (P : Params) : hN (hpD P) [] = hpD P := hN_list _ _ _
theorem tgx_D (w : World) (os : OsState) (pos : Pos) : TGx PR w 11 tann 40010 (exec (stAt 6) tenv) pos ⟨hpD w.params, Array.mk [], boot_drawn, 329, os⟩ .next ⟨61, 0, 61, 13⟩ ⟨hpE w.params, Array.mk [], boot_drawn, 2280, os⟩ := by
  rw [d_stmt, arm_exec_Assign]
  refine TGx.at (n := 40009) (k := fun u => (Sem.pure u).bind fun _ => _) ?_
  refine TGx.bind' (n := 0) (m := 40009) TGx.pure ?_
  rw [d_swaps]
  refine TGx.bindE (n := 0) (m := 40009) TGx.pure ?_ (by omega)
  rw [if_neg Bool.false_ne_true]
  obtain ⟨pos', k⟩ := tgx_650 (p := PR) (w := w) (ann := tann) (env := tenv) (q := dPosD) (pos := dPosD) (h := hpD w.params) (gens := Array.mk []) (drawn := boot_drawn) (toks := 329) (os := os) (L := dPE) d_len d_incr (by rw [hpD_size]; omega)
  rw [d_heap0, hpD_size] at k
  have k2 : hN (hpD w.params) (dObj (ents 3 329 (dPE.take 17 ++ (chop 37 (dPE.drop 17)).flatten) ++ ents 2 (329 + 3 * 646) (dPE.drop 646)) 650 :: (subsOf (329 + 51) (chop 37 (dPE.drop 17)) ++ [dObj (ents 2 (329 + 3 * 646) (dPE.drop 646)) 4])) = hpD2 w.params := d_heap w.params
  rw [k2] at k
  refine TGx.bindE (n := 40001) (m := 7) (a := .ref 82) (pos₁ := pos') (s₁ := ⟨hpD2 w.params, Array.mk [], boot_drawn, 2279, os⟩) ?_ ?_ (by omega)
  · rw [arm_eval_Dict]
    refine TGx.at (n := 40000) (k := fun u => (Sem.pure u).bind fun _ => _) ?_
    refine TGx.bind' (n := 0) (m := 40000) TGx.pure ?_
    have z := items_zip tenv dPosD dPE
    rw [z]
    exact k
  · rw [d_swapped]
    refine TGx.bindE (n := 0) (m := 7) TGx.pure ?_ (by omega)
    intro K H gd lv code f rest
    exact TG.ofGo (pc_tail w os K H gd lv code f rest pos')
theorem rest_D (w : World) (os : OsState) (pos : Pos) (rest : List Stmt) : TG PR w 11 tann 40010 ⟨hpD w.params, Array.mk [], boot_drawn, 329, os⟩ (restOf (gD ++ rest) tenv tcode pos tB) ⟨hpE w.params, Array.mk [], boot_drawn, 2280, os⟩ (restOf rest tenv tcode ⟨61, 0, 61, 13⟩ tB) := by
  have h := tgx_D w os pos (fun f => match f with | .next => (execs rest tenv).wrap doneF (leaveH tenv) id id | f => doneF f) (leaveH tenv) id id tcode (topFrame ⟨0, 0, 0, 0⟩) []
  unfold restOf
  show TG PR w 11 tann _ _ ⟨(execs (stAt 6 :: rest) tenv).wrap doneF (leaveH tenv) id id, _, _, _⟩ _ _
  rw [execs_cons_wrap]
  exact h
theorem pc_E (w : World) (os : OsState) : segRun treeTable PR w 11 tann 1 275 ⟨hpE w.params, Array.mk [], boot_drawn, 2280, os⟩ (piecesOf gE tenv tcode ⟨61, 0, 61, 13⟩ tB) = some (.next, ⟨hpF w.params, Array.mk [], boot_drawn, 2357, os⟩, tcode, ⟨112, 0, 156, 104⟩) := by
  rw [PySem.W.Fast.te14374325043358763698, PySem.W.Fast.te14364793385576792824]
  kernel_rfl
theorem pc_fin (w : World) (os : OsState) : topRun treeTable PR w 11 tann 2 ⟨hpF w.params, Array.mk [], boot_drawn, 2357, os⟩ ⟨doneF .next, tcode, ⟨112, 0, 156, 104⟩, tB⟩ = some ⟨hpF w.params, Array.mk [], boot_drawn, 2357, os⟩ := by kernel_rfl
theorem run_all (w : World) (os : OsState) : topRun treeTable PR w 11 tann (12 + (1 + (377 + (999 + (30 + (40010 + (275 + 2))))))) ⟨boot_heap w.params, Array.mk [], boot_drawn, boot_toks, os⟩ (topStub PR) = some ⟨hpF w.params, Array.mk [], boot_drawn, 2357, os⟩ := by
  refine go_top (pc_pre w os) ?_
  refine piece_block (pc_blk w os) ?_
  rw [body_is]
  refine piece_app (pc_A w os) (piece_app (pc_B w os) (piece_app (pc_C w os) ?_))
  refine rest_D w os _ _ _ _ ?_
  exact piece_app (pc_E w os) (piece_nil (pc_fin w os))
noncomputable def kAs : List Addr := [0, 1, 2, 3, 4, 5, 6, 7, 8, 9, 10, 11, 12, 13, 14, 15, 16, 17, 18, 19, 20, 21, 22, 23, 24, 25, 26, 27, 28, 29, 30, 31, 32, 33, 34, 35, 36, 37, 38, 39, 40, 41, 42, 43, 44, 45, 46, 47, 48, 49, 50, 51, 52, 53, 54, 55, 56, 57, 58, 59, 60, 61, 62, 63, 64, 65, 66, 67, 68, 69, 70, 71, 72, 73, 74, 75, 76, 77, 78, 79, 80, 81, 82, 121, 122, 123, 124, 125, 126, 127, 128, 129, 130, 131, 132, 133, 134, 135, 136, 137, 138, 139, 140, 141, 142, 143, 144, 145, 146, 147, 148, 149, 150, 151, 152, 153, 154, 155, 156, 157, 158, 159, 160, 161, 162, 163, 164, 165, 166, 167, 168, 169, 170, 171, 172, 173, 174, 175]
noncomputable def KF (P : Params) : Frag := [(0, boot_o_0 P), (1, boot_o_1 P), (2, boot_o_2 P), (3, o3f P), (4, boot_o_4 P), (5, boot_o_5 P), (6, boot_o_6 P), (7, boot_o_7 P), (8, boot_o_8 P), (9, boot_o_9 P), (10, boot_o_10 P), (11, o11a P), (12, o12f P), (13, o13a P), (14, o14a P), (15, o15b P), (16, o16b P), (17, o17b P), (18, o18b P), (19, o19b P), (20, o20b P), (21, o21b P), (22, o22b P), (23, o23b P), (24, o24b P), (25, o25b P), (26, o26b P), (27, o27b P), (28, o28b P), (29, o29b P), (30, o30b P), (31, o31b P), (32, o32b P), (33, o33b P), (34, o34b P), (35, o35b P), (36, o36b P), (37, o37b P), (38, o38b P), (39, o39b P), (40, o40b P), (41, o41b P), (42, o42b P), (43, o43b P), (44, o44b P), (45, o45b P), (46, o46b P), (47, o47b P), (48, o48b P), (49, o49b P), (50, o50b P), (51, o51b P), (52, o52b P), (53, o53b P), (54, o54b P), (55, o55b P), (56, o56b P), (57, o57b P), (58, o58b P), (59, o59b P), (60, o60b P), (61, o61b P), (62, o62b P), (63, o63b P), (64, o64c P), (65, o65c P), (66, o66c P), (67, o67c P), (68, o68c P), (69, o69c P), (70, o70c P), (71, o71c P), (72, o72c P), (73, o73c P), (74, o74c P), (75, o75d P), (76, o76d P), (77, o77d P), (78, o78d P), (79, o79d P), (80, o80d P), (81, o81d P), (82, mdict), (121, o121f P), (122, o122f P), (123, o123f P), (124, o124f P), (125, o125f P), (126, o126f P), (127, o127f P), (128, o128f P), (129, o129f P), (130, o130f P), (131, o131f P), (132, o132f P), (133, o133f P), (134, o134f P), (135, o135f P), (136, o136f P), (137, o137f P), (138, o138f P), (139, o139f P), (140, o140f P), (141, o141f P), (142, o142f P), (143, o143f P), (144, o144f P), (145, o145f P), (146, o146f P), (147, o147f P), (148, o148f P), (149, o149f P), (150, o150f P), (151, o151f P), (152, o152f P), (153, o153f P), (154, o154f P), (155, o155f P), (156, o156f P), (157, o157f P), (158, o158f P), (159, o159f P), (160, o160f P), (161, o161f P), (162, o162f P), (163, o163f P), (164, o164f P), (165, o165f P), (166, o166f P), (167, o167f P), (168, o168f P), (169, o169f P), (170, o170f P), (171, o171f P), (172, o172f P), (173, o173f P), (174, o174f P), (175, o175f P)]
theorem kf_addrs (P : Params) : kAs = (KF P).map (·.1) := by kernel_rfl
noncomputable def qV : Program := { PR with main := { PR.main with body := [stAt 16] } }
noncomputable def looseV : List Str := [Str.ofString "Entry", Str.ofString "merge_entries", Str.ofString "b1_set", Str.ofString "in_table_b1", Str.ofString "b3_exceptions", Str.ofString "map_table_b3", Str.ofString "_law_cells", Str.ofString "_law_sign", Str.ofString "_law_prepared", Str.ofString "_law_rule", Str.ofString "_law_record", Str.ofString "_law_spoil", Str.ofString "_law_rows"]
noncomputable abbrev kYf : Shared → List (Option Obj) := fun s => kAs.map s.heap.get?
noncomputable abbrev kYa : World → List (Option Obj) := fun w => (KF w.params).map fun p => some p.2
theorem size_ok (w : World) : ((boot_heap w.params).isNs mainGlobals && (Array.mk [] : Array GenState).size == 0, (boot_heap w.params).objs.size, (boot_heap w.params).nsMap mainGlobals "__annotations__") = (true, 11, tann) := by kernel_rfl
theorem open_ok : ∀ w : World, (fencedOpening treeTable PR w 100000).map (fun s => (s.heap, s.gens, s.drawn, s.toks)) = some (boot_heap w.params, Array.mk [], boot_drawn, boot_toks) :=
  boot_open (by kernel_rfl) (by kernel_rfl) fun s => (by kernel_rfl)
theorem looks_ok (w : World) : (fun os : OsState => ((staticsOk (importedModules PR.main.body) (boot_heap w.params) (hpF w.params) && namesBound PR (hpF w.params) && gensDone ⟨hpF w.params, Array.mk [], boot_drawn, 2357, os⟩ && laidKept (boot_heap w.params) (hpF w.params)),
        openSeen qV looseV (importedModules PR.main.body) (fun _ => true) true ⟨hpF w.params, Array.mk [], boot_drawn, 2357, os⟩, kYf ⟨hpF w.params, Array.mk [], boot_drawn, 2357, os⟩)) = fun _ => (true, openGood qV looseV, kYa w) := by
  kernel_rfl
theorem left_ok : LeftO PR qV looseV (fun _ => true) kYf kYa 100000 :=
  LeftO.of_pieces (H₀ := boot_heap) (H₁ := hpF) (k₁ := 2357) (m₀ := 11) (ann := tann) open_ok size_ok run_all (by kernel_rfl) looks_ok
end
end Mine
end H1
section C35
open PySem PySem.W PyProof.Rows
set_option maxRecDepth 100000
namespace Mine
theorem strL_cps (x : List Nat) : (strL x).cps.toList = x := by simp [strL]
noncomputable def splitL (x : List Nat) (c : Nat) : List (List Nat) := (Txt.split (strL x) ⟨#[c]⟩).map fun y => y.cps.toList
section
variable {C : Cx} {k : Nat} {σ : Sto} {K : PV → Sto → Prop}
theorem strs_rd {X : Ext} {P h} : ∀ {l : List (Str × Tok)}, RdL X P h (strValues l) (((l.map (·.1)).map fun y => y.cps.toList).map .str)
  | [] => .nil
  | p :: l => .cons (.str _ _) strs_rd
theorem OpL.split {x : List Nat} {c : Nat} (hsz : x.length ≤ 100000) (h : K (.list ((splitL x c).map .str)) σ) : OpL C k σ [.str x, .str [c]] (fun vs => PySem.call (.builtin "str.split") vs) K := fun A P s vs hr H r => by
  obtain ⟨v, w, rfl, r₁, r₂⟩ := r.two
  obtain ⟨y, t, rfl, hy⟩ := r₁.str_inv
  obtain ⟨z, u, rfl, hz⟩ := r₂.str_inv
  have e := strL_eq hy
  subst e
  have hzz : z = ⟨#[c]⟩ := by rw [strL_eq hz]; rfl
  subst hzz
  have hl : (strL x).length = x.length := by rw [str_len, strL_cps]
  have hn : (Builtin.Str.partsBetween (strL x) (Builtin.Str.occurrences (strL x) ⟨#[c]⟩ 0 (strL x).length ((strL x).length + 1)) (⟨#[c]⟩ : Str).length).length ≤ sizeLine := by
    have e1 := StrLaws.occ_length_le (strL x) ⟨#[c]⟩ 0 (strL x).length ((strL x).length + 1)
    rw [length_partsBetween]; simp [sizeLine]; omega
  unfold splitL at h
  have self : (decide ((strL x).length < (⟨#[c]⟩ : Str).length) || decide (Builtin.Str.strKind (strL x) < Builtin.Str.strKind ⟨#[c]⟩)) = true ∨ (Builtin.Str.occurrences (strL x) ⟨#[c]⟩ 0 (strL x).length ((strL x).length + 1)).isEmpty = true → Txt.split (strL x) ⟨#[c]⟩ = [strL x] := fun q => by
    unfold Txt.split
    rcases q with q | q
    · rw [if_pos q]
    · rw [q]; split <;> rfl
  have one : Txt.split (strL x) ⟨#[c]⟩ = [strL x] → wants (fun v s' => Out C P σ s K v s') NoE (.ok (.ret (.ref s.heap.objs.size))) { s with heap := s.heap.push { cls := .type "list", data := .seq #[.str (strL x) t] } } := fun q => by
    rw [q] at h
    exact Out.newList (tk := s.toks) (vs := [.str (strL x) t]) H (.cons (.str _ _) .nil) h
  cases h1 : (decide ((strL x).length < (⟨#[c]⟩ : Str).length) || decide (Builtin.Str.strKind (strL x) < Builtin.Str.strKind ⟨#[c]⟩))
  · cases hf : (Builtin.Str.occurrences (strL x) ⟨#[c]⟩ 0 (strL x).length ((strL x).length + 1)).isEmpty
    · refine call_meets F.slot_str_split (typeIs_str _ _ _) F.entry_str_split (F.args_str_split_2 _ _) (meets_str_split_sep (strL x) ⟨#[c]⟩ t u h1 rfl hf (by rw [hl]; simp [sizeLine]; omega) hn) ?_
      have q : Txt.split (strL x) ⟨#[c]⟩ = Builtin.Str.partsBetween (strL x) (Builtin.Str.occurrences (strL x) ⟨#[c]⟩ 0 (strL x).length ((strL x).length + 1)) (⟨#[c]⟩ : Str).length := by
        unfold Txt.split
        rw [if_neg (ne_true_of_eq_false h1), if_neg (ne_true_of_eq_false hf)]
      rw [q] at h
      refine Out.newList (vs := strsFrom s.toks _) H ?_ h
      rw [strsFrom_eq]
      have e2 := numbered_texts s.toks (Builtin.Str.partsBetween (strL x) (Builtin.Str.occurrences (strL x) ⟨#[c]⟩ 0 (strL x).length ((strL x).length + 1)) (⟨#[c]⟩ : Str).length)
      have e3 := strs_rd (X := C.X) (P := P) (h := s.heap) (l := numbered s.toks (Builtin.Str.partsBetween (strL x) (Builtin.Str.occurrences (strL x) ⟨#[c]⟩ 0 (strL x).length ((strL x).length + 1)) (⟨#[c]⟩ : Str).length))
      rw [e2] at e3
      exact e3
    · exact call_meets F.slot_str_split (typeIs_str _ _ _) F.entry_str_split (F.args_str_split_2 _ _) (meets_str_split_not_found (strL x) ⟨#[c]⟩ t u h1 rfl hf) (one (self (.inr hf)))
  · exact call_meets F.slot_str_split (typeIs_str _ _ _) F.entry_str_split (F.args_str_split_2 _ _) (meets_str_split_cannot_occur (strL x) ⟨#[c]⟩ t u h1) (one (self (.inl h1)))
end
end Mine
end C35
section C36
open PySem PySem.W PyProof.Rows
set_option maxRecDepth 100000
namespace Mine
end Mine
end C36
section C37
open PySem PySem.W PyProof.Rows
set_option maxRecDepth 100000
namespace Mine
theorem ite_dec {p : Prop} [Decidable p] {A B : Prop} (h1 : p → A) (h2 : ¬ p → B) : if decide p = true then A else B := by
  by_cases h : p
  · rw [if_pos (decide_eq_true h)]; exact h1 h
  · rw [if_neg (by simpa using h)]; exact h2 h
theorem ite_bool {b : Bool} {A B : Prop} (h1 : b = true → A) (h2 : b = false → B) : if b = true then A else B := by
  cases b
  · exact h2 rfl
  · exact h1 rfl
section
variable {C : Cx} {k : Nat} {σ : Sto} {a b : Nat} {K : PV → Sto → Prop}
theorem Op2.modN (hb : 0 < b) (h : K (.int ((a % b : Nat) : Int)) σ) : Op2 C k σ (.int (a : Nat)) (.int (b : Nat)) (binaryOp .Mod) K :=
  Op2.mod (by lia) (by rw [Int.natCast_emod] at h; exact h)
theorem Op2.divN (hb : 0 < b) (h : K (.int ((a / b : Nat) : Int)) σ) (hs : b < 2 ^ 30 := by decide) : Op2 C k σ (.int (a : Nat)) (.int (b : Nat)) (binaryOp .FloorDiv) K :=
  Op2.div (by lia) (by rw [Int.natCast_ediv] at h; exact h) (PyProof.noPylong_small (by lia))
theorem Op2.addN (h : K (.int ((a + b : Nat) : Int)) σ) : Op2 C k σ (.int (a : Nat)) (.int (b : Nat)) (binaryOp .Add) K :=
  Op2.add (by rw [Int.natCast_add] at h; exact h)
theorem Op2.ltN (h : K (.bool (decide (a < b))) σ) : Op2 C k σ (.int (a : Nat)) (.int (b : Nat)) (compareOp .Lt) K :=
  Op2.lt (by have e : decide ((a : Int) < (b : Int)) = decide (a < b) := by simp
             rw [e]; exact h)
theorem Op2.leN (h : K (.bool (decide (a ≤ b))) σ) : Op2 C k σ (.int (a : Nat)) (.int (b : Nat)) (compareOp .LtE) K :=
  Op2.le (by have e : decide ((a : Int) ≤ (b : Int)) = decide (a ≤ b) := by simp
             rw [e]; exact h)
theorem Op2.eqN (h : K (.bool (decide (a = b))) σ) : Op2 C k σ (.int (a : Nat)) (.int (b : Nat)) (compareOp .Eq) K :=
  Op2.eqi (by have e : ((a : Int) == (b : Int)) = decide (a = b) := by
                by_cases h : a = b
                · simp [h]
                · have : (a : Int) ≠ b := by lia
                  simp [h, this]
              rw [e]; exact h)
theorem OpL.chrN (h0 : a ≤ 0x10FFFF) (h : K (.str [a]) σ) : OpL C k σ [.int (a : Nat)] (fun vs => PySem.call (.builtin "chr") vs) K :=
  OpL.chr (by lia) (by lia) (by simpa using h)
theorem Op2.itemN {value slice : Expr} {d : PV} {l : PV} {xs : List PV} {i : Nat} (hl : LRead C σ l xs) (hx : xs[i]? = some d) (h : K d σ) (hs : xs.length < 2 ^ 60 := by decide) : Op2 C k σ l (.int (i : Nat)) (subscriptTail value slice) K := by
  have hi := (List.getElem?_eq_some_iff.mp hx).1
  exact Op2.item hl (by lia) (by lia) (by simpa using hx) h
noncomputable abbrev nums (l : List Nat) : List PV := (l.map fun (n : Nat) => (n : Int)).map .int
theorem nums_get {l : List Nat} {i : Nat} (hi : i < l.length) : (nums l)[i]? = some (.int ((l.getD i 0 : Nat) : Int)) := by
  simp [nums, List.getElem?_eq_getElem hi]
theorem Op2.pick {value slice : Expr} {l : List Nat} {i : Nat} (hi : i < l.length) (h : K (.int ((l.getD i 0 : Nat) : Int)) σ) (hs : l.length < 2 ^ 60 := by decide) : Op2 C k σ (.list (nums l)) (.int (i : Nat)) (subscriptTail value slice) K :=
  Op2.itemN .list (nums_get hi) h (by simpa using hs)
end
noncomputable def constStrs : List Expr → Option (List (List Nat))
  | [] => some []
  | .Constant (.str x) _ _ :: r => (constStrs r).map (x.cps.toList :: ·)
  | _ => none
theorem evL_strs {C k sc ρ σ} : ∀ {es : List Expr} {ns : List (List Nat)} {K : List PV → Sto → Prop}, constStrs es = some ns → K (ns.map .str) σ → EvL C k sc ρ σ es K ∧ es.all plainE = true
  | [], ns, K, h, hK => by
    rw [constStrs] at h; cases h; exact ⟨hK, rfl⟩
  | e :: r, ns, K, h, hK => by
    unfold constStrs at h
    split at h
    · rename_i heq; cases heq
    · rename_i x a b r' heq
      cases heq
      cases hr : constStrs r with
      | none => rw [hr] at h; cases h
      | some ms =>
        rw [hr] at h; cases h
        obtain ⟨h1, h2⟩ := evL_strs (C := C) (k := k) (sc := sc) (ρ := ρ) (σ := σ) (K := fun ds σ' => K (.str x.cps.toList :: ds) σ') hr hK
        exact ⟨Ev.str rfl h1, by rw [List.all_cons, h2]; rfl⟩
    · cases h
theorem Ev.strs {C k sc ρ σ es pos K} (ns : List (List Nat)) (h : constStrs es = some ns) (hl : ns.length ≤ 1000) (hK : K (.list (ns.map .str)) σ) : Ev C k sc ρ σ (.List es pos) K :=
  let ⟨a, b⟩ := evL_strs (K := fun ds σ' => ds.length ≤ sizeLine ∧ K (.list ds) σ') h ⟨by rw [List.length_map]; simp [sizeLine]; lia, hK⟩
  Ev.list a b
theorem Ev.nats {C k sc ρ σ es pos K} (ns : List Nat) (h : constInts es = some (ns.map fun (n : Nat) => (n : Int))) (hl : ns.length ≤ 1000) (hK : K (.list (nums ns)) σ) : Ev C k sc ρ σ (.List es pos) K :=
  Ev.ints _ h (by simpa using hl) hK
theorem Ev.tuple2 {C k sc ρ σ e₁ e₂ x pos K} (h : Ev C k sc ρ σ e₁ fun a σ₁ => Ev C k sc ρ σ₁ e₂ fun b σ₂ => K (.tuple [a, b]) σ₂) (hp : [e₁, e₂].all plainE = true) : Ev C k sc ρ σ (.Tuple [e₁, e₂] x pos) K :=
  Ev.tuple (Ev.mono h fun a σ₁ q => Ev.mono q fun b σ₂ q => ⟨by simp [sizeLine], q⟩) hp
theorem Ev.list1 {C k sc ρ σ e₁ pos K} (h : Ev C k sc ρ σ e₁ fun a σ₁ => K (.list [a]) σ₁) (hp : [e₁].all plainE = true) : Ev C k sc ρ σ (.List [e₁] pos) K :=
  Ev.list (Ev.mono h fun a σ₁ q => ⟨by simp [sizeLine], q⟩) hp
theorem Ev.list2 {C k sc ρ σ e₁ e₂ pos K} (h : Ev C k sc ρ σ e₁ fun a σ₁ => Ev C k sc ρ σ₁ e₂ fun b σ₂ => K (.list [a, b]) σ₂) (hp : [e₁, e₂].all plainE = true) : Ev C k sc ρ σ (.List [e₁, e₂] pos) K :=
  Ev.list (Ev.mono h fun a σ₁ q => Ev.mono q fun b σ₂ q => ⟨by simp [sizeLine], q⟩) hp
theorem Ev.list3 {C k sc ρ σ e₁ e₂ e₃ pos K} (h : Ev C k sc ρ σ e₁ fun a σ₁ => Ev C k sc ρ σ₁ e₂ fun b σ₂ => Ev C k sc ρ σ₂ e₃ fun c σ₃ => K (.list [a, b, c]) σ₃) (hp : [e₁, e₂, e₃].all plainE = true) : Ev C k sc ρ σ (.List [e₁, e₂, e₃] pos) K :=
  Ev.list (Ev.mono h fun a σ₁ q => Ev.mono q fun b σ₂ q => Ev.mono q fun c σ₃ q => ⟨by simp [sizeLine], q⟩) hp
theorem Ev.call1 {C k sc ρ σ x p e₁ pos id_ K} (b : C.mg x = Option.none ∧ C.mb x = some (.builtin id_)) (hk : sc.names.lookup x = some NameKind.globalImplicit) (h : Ev C k sc ρ σ e₁ fun a σ₁ => OpL C k σ₁ [a] (fun vs => PySem.call (.builtin id_) vs) K) (hp : [e₁].all plainE = true)
    (hd : (x == ("__debug__" : Str)) = false := by decide) : Ev C k sc ρ σ (.Call (.Name x p) [e₁] [] pos) K :=
  Ev.call (Ev.builtin hk b.1 b.2 ⟨_, rfl, Callable.builtin, h⟩ hd) hp fun _ => rfl
theorem Ev.call1t {C k sc ρ σ x p e₁ pos id_ K} (b : C.mg x = Option.none ∧ C.mb x = some (.type id_)) (hk : sc.names.lookup x = some NameKind.globalImplicit) (h : Ev C k sc ρ σ e₁ fun a σ₁ => OpL C k σ₁ [a] (fun vs => PySem.call (.type id_) vs) K) (hp : [e₁].all plainE = true)
    (hd : (x == ("__debug__" : Str)) = false := by decide) : Ev C k sc ρ σ (.Call (.Name x p) [e₁] [] pos) K :=
  Ev.call (Ev.builtin hk b.1 b.2 ⟨_, rfl, Callable.type, h⟩ hd) hp fun _ => rfl
theorem Ev.call2t {C k sc ρ σ x p e₁ e₂ pos id_ K} (b : C.mg x = Option.none ∧ C.mb x = some (.type id_)) (hk : sc.names.lookup x = some NameKind.globalImplicit) (h : Ev C k sc ρ σ e₁ fun a σ₁ => Ev C k sc ρ σ₁ e₂ fun c σ₂ => OpL C k σ₂ [a, c] (fun vs => PySem.call (.type id_) vs) K) (hp : [e₁, e₂].all plainE = true)
    (hd : (x == ("__debug__" : Str)) = false := by decide) : Ev C k sc ρ σ (.Call (.Name x p) [e₁, e₂] [] pos) K :=
  Ev.call (Ev.builtin hk b.1 b.2 ⟨_, rfl, Callable.type, h⟩ hd) hp fun _ => rfl
theorem Ex1.swap2 {C k sc ρ σ ts x1 p e₁ e₂ x2 p2 pos K} (x y : String) (h : Ev C k sc ρ σ e₁ fun a σ₁ => Ev C k sc ρ σ₁ e₂ fun b σ₂ => K .next ((x, a) :: (y, b) :: ρ) σ₂) (hp : [e₁, e₂].all plainE = true)
    (hn : ∀ n ∈ [x, y], sc.names.lookup (Str.ofString n) = some .local)
    (hw : ∀ env, env.scope = sc → swappedStores [.Tuple ts x1 p] (.Tuple [e₁, e₂] x2 p2) env = pure (some ([x, y].map Str.ofString))) (hl : [x, y].length = ts.length) : Ex1 C k sc ρ σ (.Assign [.Tuple ts x1 p] (.Tuple [e₁, e₂] x2 p2) pos) K :=
  Ex1.swap (names := [x, y]) (Ev.tuple2 (Ev.mono h fun a σ₁ q => Ev.mono q fun b σ₂ q => ⟨_, rfl, rfl, q⟩) hp) hn (fun env _ => rfl) hw hl
theorem Ex1.asgNats {ns : List Nat} {C k sc ρ σ x p es pos pos2 K} (hc : constInts es = some (ns.map fun (n : Nat) => (n : Int))) (hl : ns.length ≤ 1000 ∧ sc.names.lookup (Str.ofString x) = some .local) (h : K .next ((x, .list (nums ns)) :: ρ) σ) : Ex1 C k sc ρ σ (.Assign [.Name (Str.ofString x) p] (.List es pos) pos2) K :=
  Ex1.assign (Ev.nats ns hc hl.1 h) (.inl hl.2) fun _ => rfl
end Mine
end C37
section SB1
open PySem PySem.W PyProof.Rows
set_option maxRecDepth 100000
namespace Mine
noncomputable def Blt (C : Cx) (x : Str) (v : Value) : Prop := C.mg x = Option.none ∧ C.mb x = some v
theorem Ev.blt {C k sc ρ σ x pos v K} (b : Blt C x v) (h : K (.raw v) σ) (hk : sc.names.lookup x = some .globalImplicit) (hd : (x == ("__debug__" : Str)) = false := by decide) : Ev C k sc ρ σ (.Name x pos) K := Ev.builtin hk b.1 b.2 h hd
noncomputable def Fun (C : Cx) (x : Str) (names : List String) (st : Stmt) : Prop := ∃ a, C.mg x = some (.ref a) ∧ FnAt C a names (fScope st) (fBody st)
theorem Ev.callF {C k sc ρ σ x p es pos names st K} (F : Fun C x names st) (hk : sc.names.lookup x = some .globalImplicit)
    (h : EvL C (k + 1) sc ρ σ es fun ds σ₁ => ds.length = names.length ∧ (∀ a, FnAt C a names (fScope st) (fBody st) → OpL C (k + 1) σ₁ ds (fun vs => PySem.call (.ref a) vs) K)) (hp : es.all plainE = true)
    (hd : (x == ("__debug__" : Str)) = false := by decide) : Ev C (k + 1) sc ρ σ (.Call (.Name x p) es [] pos) K := by
  obtain ⟨a, ha, hf⟩ := F
  refine Ev.call (Ev.global hk ha ⟨_, rfl, hf.callable, EvL.mono h fun ds σ₁ q => q.2 a hf⟩ hd) hp fun env => rfl
theorem PvOf.inv {e d} (p : PvOf e d) : d = .none ∨ ∃ x, d = .str x := by cases p; exact .inl rfl; exact .inr ⟨_, rfl⟩
theorem w_b1 {C k σ} {c : Nat} {K : PV → Sto → Prop} {S : Int → Bool} {n : Nat} {bA : Addr} (o : Blt C "ord" (.builtin "ord")) (hb : C.mg "b1_set" = some (.ref bA)) (T : SetAt C bA S n) (h : K (.bool (S (c : Nat))) σ) :
    Ex C k (fScope sB1) [("code", .str [c])] σ (fBody sB1) (fun g _ σ' => match g with | .ret d => K d σ' | .next => K .none σ' | _ => False) := by
  refine Ex.cons (Ex1.ret (Ev.cmp (Ev.call (Ev.blt o ⟨_, rfl, Callable.builtin, ?_⟩ rfl) rfl fun _ => rfl) rfl))
  exact Ev.name (x := "code") rfl (OpL.ord (Ev.global rfl hb (Op2.inSet T h)))
noncomputable def b3res (d : PV) (c : Nat) : PV := match d with | .none => .str (lowerL [c]) | d => d
theorem w_b3 {C k σ} {c : Nat} {K : PV → Sto → Prop} {D : List (PyData × PyData)} {bA : Addr} {d : PV} (o : Blt C "ord" (.builtin "ord")) (hb : C.mg "b3_exceptions" = some (.ref bA)) (T : DictAt C bA D) (p : PvOf ((PySem.Spec.lookup (.int (c : Nat)) D).getD .none) d)
    (hl : (lowerL [c]).length ≤ sizeLine) (h : K (b3res d c) σ) :
    Ex C k (fScope sB3) [("code", .str [c])] σ (fBody sB3) (fun g _ σ' => match g with | .ret d => K d σ' | .next => K .none σ' | _ => False) := by
  refine Ex.cons (Ex1.assign (x := "r") (Ev.method (T := "dict") (id_ := "dict.get") (Ev.global rfl hb ⟨OfType.dictAt T, ?_⟩) F.plainAttrs_dict F.slot_dict_get F.type_dict_get rfl (by decide) rfl fun _ => rfl) (.inl rfl) fun _ => rfl)
  refine Ev.call (Ev.blt o ⟨_, rfl, Callable.builtin, Ev.name (x := "code") rfl (OpL.ord ?_)⟩ rfl) rfl fun _ => rfl
  refine OpL.dget T p ?_
  rcases p.inv with rfl | ⟨x, rfl⟩
  · refine Ex.cons (Ex1.if (Tr.cmp (Ev.name (x := "r") rfl (Ev.none (Op2.isNot rfl rfl (OpB.bool ?_)))) rfl))
    show Ex C k _ _ σ [] _
    refine Ex.nil ?_
    exact Ex.cons (Ex1.ret (Ev.method (T := "str") (id_ := "str.lower") (Ev.name (x := "code") rfl ⟨OfType.str, OpL.lower hl h⟩) F.plainAttrs_str F.slot_str_lower F.type_str_lower rfl (by decide) rfl fun _ => rfl))
  · refine Ex.cons (Ex1.if (Tr.cmp (Ev.name (x := "r") rfl (Ev.none (Op2.isNot rfl rfl (OpB.bool ?_)))) rfl))
    exact Ex.cons (Ex1.ret (Ev.name (x := "r") rfl h))
set_option genInjectivity false in
structure TopB (C : Cx) (S : Int → Bool) (D : List (PyData × PyData)) : Prop where
  ord : Blt C "ord" (.builtin "ord")
  b1s : ∃ a n, C.mg "b1_set" = some (.ref a) ∧ SetAt C a S n
  b3s : ∃ a, C.mg "b3_exceptions" = some (.ref a) ∧ DictAt C a D
  b1 : Fun C "in_table_b1" ["code"] sB1
  b3 : Fun C "map_table_b3" ["code"] sB3
noncomputable def b3of (D : List (PyData × PyData)) (c : Nat) : List Nat := match (PySem.Spec.lookup (.int (c : Nat)) D).getD .none with
  | .str x => x.cps.toList
  | _ => lowerL [c]
noncomputable def b3ok (D : List (PyData × PyData)) (c : Nat) : Bool := (match (PySem.Spec.lookup (.int (c : Nat)) D).getD .none with
  | .str _ | .none => true
  | _ => false) && decide ((lowerL [c]).length ≤ 3) && decide ((b3of D c).length ≤ 3)
section
variable {C : Cx} {S : Int → Bool} {D : List (PyData × PyData)} (T : TopB C S D)
include T
theorem op_b1 {k σ} {c : Nat} {K : PV → Sto → Prop} (h : K (.bool (S (c : Nat))) σ) : ∀ a, FnAt C a ["code"] (fScope sB1) (fBody sB1) → OpL C (k + 1) σ [.str [c]] (fun vs => PySem.call (.ref a) vs) K := fun a F => by
  obtain ⟨b, n, hb, hs⟩ := T.b1s
  exact Fn.call F (by decide +kernel) rfl (w_b1 T.ord hb hs h)
theorem op_b3 {k σ} {c : Nat} {K : PV → Sto → Prop} (ok : b3ok D c = true) (h : K (.str (b3of D c)) σ) : ∀ a, FnAt C a ["code"] (fScope sB3) (fBody sB3) → OpL C (k + 1) σ [.str [c]] (fun vs => PySem.call (.ref a) vs) K := fun a F => by
  obtain ⟨b, hb, hd⟩ := T.b3s
  unfold b3ok b3of at ok
  unfold b3of at h
  simp only [Bool.and_eq_true, decide_eq_true_eq] at ok
  have hl : (lowerL [c]).length ≤ sizeLine := by have := ok.1.2; simp [sizeLine]; omega
  have ok1 := ok.1.1
  cases hq : (PySem.Spec.lookup (.int (c : Nat)) D).getD .none with
  | none =>
    rw [hq] at h
    exact Fn.call F (by decide +kernel) rfl (w_b3 (d := .none) T.ord hb hd (by rw [hq]; exact .none) hl h)
  | str x =>
    rw [hq] at h
    exact Fn.call F (by decide +kernel) rfl (w_b3 (d := .str x.cps.toList) T.ord hb hd (by rw [hq]; exact .str x) hl h)
  | _ => rw [hq] at ok1; simp at ok1
end
end Mine
end SB1
section SE1
open PySem PySem.W PyProof.Rows
set_option maxRecDepth 100000
namespace Mine
noncomputable def IsFld (mN : Str → Option Value) (f : String) : Prop := mN (Str.ofString f) = none ∧ typeLookup (.type "object") (Str.ofString f) = pure none
noncomputable def IsMeth (C : Cx) (mN : Str → Option Value) (x : String) (names : List String) (st : Stmt) : Prop :=
  ∃ f, mN (Str.ofString x) = some (.ref f) ∧ (∀ h, C.gi h → ∃ ob fd, h.get? f = some ob ∧ ob.cls = .type "function" ∧ ob.data = .func fd) ∧ FnAt C f names (fScope st) (fBody st)
set_option genInjectivity false in
structure TopE (C : Cx) (N : Addr) (mN : Str → Option Value) : Prop where
  ok : ClsOk C N mN
  name : C.mg "Entry" = some (.ref C.cls)
  low : C.cls < C.base
  noGa : mN "__getattribute__" = none
  noGh : mN "__getattr__" = none
  noSa : mN "__setattr__" = none
  ua : IsFld mN "useragents"
  rl : IsFld mN "rulelines"
  dl : IsFld mN "delay"
  rr : IsFld mN "req_rate"
  init : ∃ f, mN "__init__" = some (.ref f) ∧ (∀ h, C.gi h → ∃ o, h.get? f = some o ∧ o.cls = .type "function") ∧ FnAt C f ["self"] (fScope sInit) (fBody sInit)
  appl : IsMeth C mN "applies_to" ["self", "useragent"] sApplies
  allow : IsMeth C mN "allowance" ["self", "filename"] sAllow
  setsX : SetsX C
  set : Blt C "set" (.type "set")
  list : Blt C "list" (.type "list")
  filter : Blt C "filter" (.type "filter")
  merge : Fun C "merge_entries" ["e1", "e2"] sMerge
theorem m3 {α : Type} {x p q r : α} {σ : List α} (h : x ∈ σ) : x ∈ p :: q :: r :: σ := List.mem_cons_of_mem _ (List.mem_cons_of_mem _ (List.mem_cons_of_mem _ h))
section
variable {C : Cx} {N : Addr} {mN : Str → Option Value} (T : TopE C N mN) {k : Nat} {sc : Scope} {ρ : Lo} {σ : Sto}
include T
theorem Ev.fld {x f : String} {p p2} {a d : Addr} {fs : List (String × PV)} {dv : PV} {K : PV → Sto → Prop} (hF : IsFld mN f) (hx : ρ.lookup x = some (.raw (.ref a))) (hm : (a, AO.inst d fs) ∈ σ) (hf : fs.lookup f = some dv) (h : K dv σ) (hh : handed dv = true := by rfl)
    (hd : (Str.ofString x == ("__debug__" : Str)) = false := by decide) (hn : (Str.ofString x == ("__classdict__" : Str)) = false := by decide) : Ev C k sc ρ σ (.Attribute (.Name (Str.ofString x) p) (Str.ofString f) p2) K :=
  Ev.attr (Ev.name hx (Op1.field T.ok hm hf hh h T.noGa hF.1 hF.2) hd hn) fun _ => rfl
theorem Ex1.setFld {x f : String} {p p2 e pos} {K : Fl → Lo → Sto → Prop} (hF : IsFld mN f) (h : Ev C k sc ρ σ e fun dv σ₁ => ∃ a d fs σ₂, ρ.lookup x = some (.raw (.ref a)) ∧ Upd σ₁ a (.inst d fs) (.inst d (setF fs f dv)) σ₂ ∧ fs.length ≤ 1000 ∧ K .next ρ σ₂)
    (hs : ∀ env, swapsWith e (some (Expr.Attribute (.Name (Str.ofString x) p) (Str.ofString f) p2)) pos.line env = pure false) (hw : ∀ env, swappedStores [Expr.Attribute (.Name (Str.ofString x) p) (Str.ofString f) p2] e env = pure none)
    (hd : (Str.ofString x == ("__debug__" : Str)) = false := by decide) (hn : (Str.ofString x == ("__classdict__" : Str)) = false := by decide) : Ex1 C k sc ρ σ (.Assign [.Attribute (.Name (Str.ofString x) p) (Str.ofString f) p2] e pos) K :=
  Ex1.setAttr T.ok (Ev.mono h fun dv σ₁ ⟨a, d, fs, σ₂, hx, u, hl, q⟩ => Ev.name hx ⟨a, d, fs, σ₂, rfl, u, by simp [sizeLine]; lia, q⟩ hd hn) T.low T.noSa hF.1 hF.2 hs hw
noncomputable abbrev fsNew (u r : Addr) : List (String × PV) := [("req_rate", .none), ("delay", .none), ("rulelines", .raw (.ref r)), ("useragents", .raw (.ref u))]
theorem w_init {a d : Addr} {K : PV → Sto → Prop} (h : ∀ u r, u ∉ dom ((a, .inst d []) :: σ) → r ∉ u :: dom ((a, .inst d []) :: σ) → K .none ((r, .mlist []) :: (u, .mlist []) :: (a, .inst d (fsNew u r)) :: σ)) :
    Ex C k (fScope sInit) [("self", .raw (.ref a))] ((a, .inst d []) :: σ) (fBody sInit) (fun g _ σ' => match g with | .ret d => K d σ' | .next => K .none σ' | _ => False) := by
  refine Ex.cons (Ex1.setFld T (x := "self") (f := "useragents") T.ua ?_ (fun _ => rfl) fun _ => rfl)
  refine Ev.mlist (es := []) ⟨by decide, fun u hu => ⟨a, d, _, _, rfl, .there .here, by decide, ?_⟩⟩ rfl
  refine Ex.cons (Ex1.setFld T (x := "self") (f := "rulelines") T.rl ?_ (fun _ => rfl) fun _ => rfl)
  refine Ev.mlist (es := []) ⟨by decide, fun r hr => ⟨a, d, _, _, rfl, .there (.there .here), by simp [setF], ?_⟩⟩ rfl
  refine Ex.cons (Ex1.setFld T (x := "self") (f := "delay") T.dl ?_ (fun _ => rfl) fun _ => rfl)
  refine Ev.none ⟨a, d, _, _, rfl, .there (.there .here), by simp [setF], ?_⟩
  refine Ex.cons (Ex1.setFld T (x := "self") (f := "req_rate") T.rr ?_ (fun _ => rfl) fun _ => rfl)
  refine Ev.none ⟨a, d, _, _, rfl, .there (.there .here), by simp [setF], ?_⟩
  exact Ex.nil (h u r hu hr)
theorem Ev.meth {x m : String} {p p2 p3 names st} {a d : Addr} {fs : List (String × PV)} {e₁ : Expr} {K : PV → Sto → Prop} (M : IsMeth C mN m names st) (hB : typeLookup (.type "object") (Str.ofString m) = pure Option.none) (hx : ρ.lookup x = some (.raw (.ref a))) (hm : (a, AO.inst d fs) ∈ σ) (hf : fs.lookup m = Option.none)
    (h : Ev C k sc ρ σ e₁ fun d₁ σ₁ => ∀ f, FnAt C f names (fScope st) (fBody st) → OpL C k σ₁ [.raw (.ref a), d₁] (fun vs => PySem.call (.ref f) vs) K) (hp : [e₁].all plainE = true) (hline : (p2.endLine == p3.line) = true) (hbase : ∀ env, attributeBase (.Name (Str.ofString x) p) (Str.ofString m) env (eval (.Name (Str.ofString x) p) env) = eval (.Name (Str.ofString x) p) env)
    (hd : (Str.ofString x == ("__debug__" : Str)) = false := by decide) (hn : (Str.ofString x == ("__classdict__" : Str)) = false := by decide) : Ev C k sc ρ σ (.Call (.Attribute (.Name (Str.ofString x) p) (Str.ofString m) p2) [e₁] [] p3) K := by
  obtain ⟨f, h1, h2, h3⟩ := M
  exact Ev.methodI T.ok h2 (Ev.name hx ⟨a, d, fs, rfl, hm, hf, Ev.mono h fun d₁ σ₁ q => q f h3⟩ hd hn) h1 T.noGa T.noGh ⟨_, hB⟩ hp (by simp) hline hbase
theorem Ev.entry {p pos} {K : PV → Sto → Prop} (hk : sc.names.lookup (Str.ofString "Entry") = some NameKind.globalImplicit)
    (h : ∀ a d u r, a ∉ dom σ → d ∉ dom σ → u ∉ dom σ → r ∉ dom σ → [r, u, a, d].Nodup → K (.raw (.ref a)) ((r, .mlist []) :: (u, .mlist []) :: (a, .inst d (fsNew u r)) :: σ)) : Ev C (k + 2) sc ρ σ (.Call (.Name (Str.ofString "Entry") p) [] [] pos) K := by
  refine Ev.call (Ev.global hk T.name ⟨_, rfl, T.ok.callable, ?_⟩) rfl fun _ => rfl
  obtain ⟨f, h1, h2, h3⟩ := T.init
  refine OpL.make T.ok h1 h2 fun a d ha hd hne => ?_
  refine Fn.call h3 (by decide +kernel) rfl ?_
  refine w_init T fun u r hu hr => ⟨rfl, h a d u r ha hd ?_ ?_ ?_⟩
  · exact fun q => hu (List.mem_cons_of_mem _ (List.mem_append_right _ q))
  · exact fun q => hr (List.mem_cons_of_mem _ (List.mem_cons_of_mem _ (List.mem_append_right _ q)))
  · have hu1 : u ≠ a := fun q => hu (q ▸ List.mem_cons_self)
    have hu2 : u ≠ d := fun q => hu (q ▸ List.mem_cons_of_mem _ List.mem_cons_self)
    have hr0 : r ≠ u := fun q => hr (q ▸ List.mem_cons_self)
    have hr1 : r ≠ a := fun q => hr (q ▸ List.mem_cons_of_mem _ List.mem_cons_self)
    have hr2 : r ≠ d := fun q => hr (q ▸ List.mem_cons_of_mem _ (List.mem_cons_of_mem _ List.mem_cons_self))
    simp [hu1, hu2, hr0, hr1, hr2, hne]
noncomputable def EntAt (σ : Sto) (a : Addr) (us : List (List Nat)) (rs : List PV) (dl rr : PV) : Prop :=
  ∃ d fs, (a, AO.inst d fs) ∈ σ ∧ (∃ u, fs.lookup "useragents" = some (.raw (.ref u)) ∧ (u, AO.mlist (us.map .str)) ∈ σ) ∧ (∃ r, fs.lookup "rulelines" = some (.raw (.ref r)) ∧ (r, AO.mlist rs) ∈ σ) ∧ fs.lookup "delay" = some dl ∧ fs.lookup "req_rate" = some rr
omit T in
theorem EntAt.mono {σ σ' : Sto} {a us rs dl rr} (h : EntAt σ a us rs dl rr) (e : ∀ p ∈ σ, p ∈ σ') : EntAt σ' a us rs dl rr :=
  let ⟨d, fs, h1, ⟨u, h2, h3⟩, ⟨r, h4, h5⟩, h6, h7⟩ := h; ⟨d, fs, e _ h1, ⟨u, h2, e _ h3⟩, ⟨r, h4, e _ h5⟩, h6, h7⟩
noncomputable def orP (a b : PV) : PV := if pis b .none then a else b
noncomputable abbrev fsMer (us : List (List Nat)) (rs : List PV) (dl rr : PV) (tl : List (String × PV)) : List (String × PV) := ("req_rate", rr) :: ("delay", dl) :: ("rulelines", .list rs) :: ("useragents", .list (us.map .str)) :: tl
theorem ev_or {a₁ a₂ d₁ d₂ : Addr} {fs₁ fs₂ : List (String × PV)} {dl dl' : PV} {f : String} {K : PV → Sto → Prop} {p₁ p₂ p₃ p₄ p₅ p₆ p₇ p₈ p₉ pa} (hF : IsFld mN f) (h1 : ρ.lookup "e1" = some (.raw (.ref a₁))) (h2 : ρ.lookup "e2" = some (.raw (.ref a₂))) (e₁ : (a₁, AO.inst d₁ fs₁) ∈ σ) (e₂ : (a₂, AO.inst d₂ fs₂) ∈ σ)
    (f₁ : fs₁.lookup f = some dl) (f₂ : fs₂.lookup f = some dl') (n : notRaw dl' = true) (n₁ : handed dl = true) (n₂ : handed dl' = true) (hK : K (orP dl dl') σ) :
    Ev C k sc ρ σ (.IfExp (.Compare (.Attribute (.Name (Str.ofString "e2") p₁) (Str.ofString f) p₂) [.Is] [.Constant .none p₃ p₄] p₅) (.Attribute (.Name (Str.ofString "e1") p₆) (Str.ofString f) p₇) (.Attribute (.Name (Str.ofString "e2") p₈) (Str.ofString f) p₉) pa) K := by
  refine Ev.ifexp (Tr.cmp (Ev.fld T (x := "e2") hF h2 e₂ f₂ (Ev.none (Op2.is rfl n (OpB.bool ?_))) n₂) rfl)
  unfold orP at hK
  cases hp : pis dl' .none with
  | true => rw [if_pos rfl]; rw [hp, if_pos rfl] at hK; exact Ev.fld T (x := "e1") hF h1 e₁ f₁ hK n₁
  | false => rw [if_neg (by simp)]; rw [hp, if_neg (by simp)] at hK; exact Ev.fld T (x := "e2") hF h2 e₂ f₂ hK n₂
theorem w_merge {a₁ a₂ : Addr} {us₁ us₂ : List (List Nat)} {rs₁ rs₂ : List PV} {dl₁ dl₂ rr₁ rr₂ : PV} {K : PV → Sto → Prop} (h₁ : EntAt σ a₁ us₁ rs₁ dl₁ rr₁) (h₂ : EntAt σ a₂ us₂ rs₂ dl₂ rr₂)
    (l₁ : us₁.length ≤ 1000) (l₂ : us₂.length ≤ 1000) (l₃ : rs₁.length + rs₂.length ≤ 1000) (n₁ : notRaw dl₂ = true) (n₂ : notRaw rr₂ = true) (n₃ : handed dl₁ = true) (n₄ : handed rr₁ = true) (n₅ : handed dl₂ = true) (n₆ : handed rr₂ = true)
    (h : ∀ a d tl, (∃ u r, tl = fsNew u r) → a ∉ dom σ → d ∉ dom σ → a ≠ d → K (.raw (.ref a)) ((a, .inst d (fsMer (us₁.filter fun x => decide (x ∈ us₂)) (rs₁ ++ rs₂) (orP dl₁ dl₂) (orP rr₁ rr₂) tl)) :: σ)) :
    Ex C (k + 2) (fScope sMerge) [("e1", .raw (.ref a₁)), ("e2", .raw (.ref a₂))] σ (fBody sMerge) (fun g _ σ' => match g with | .ret d => ∃ σ'', σ''.Sublist σ' ∧ K d σ'' | _ => False) := by
  obtain ⟨d₁, fs₁, m₁, ⟨u₁, fu₁, mu₁⟩, ⟨r₁, fr₁, mr₁⟩, fd₁, fq₁⟩ := h₁
  obtain ⟨d₂, fs₂, m₂, ⟨u₂, fu₂, mu₂⟩, ⟨r₂, fr₂, mr₂⟩, fd₂, fq₂⟩ := h₂
  refine Ex.cons (Ex1.assign (x := "entry") (Ev.entry T rfl fun a d u r ha hd hu hr hn => ?_) (.inl rfl) fun _ => rfl)
  have hne : a ≠ d := by simp at hn; exact hn.2.2
  refine Ex.cons (Ex1.setFld T (x := "entry") (f := "useragents") T.ua ?_ (fun _ => rfl) fun _ => rfl)
  refine Ev.listFilter (ys := us₂) (xs := us₁) T.setsX T.list T.filter rfl rfl rfl ?_
  refine Ev.attr (Ev.call (Ev.blt T.set ⟨_, rfl, Callable.type, ?_⟩ rfl) rfl fun _ => rfl) fun _ => rfl
  refine Ev.fld T (x := "e2") (f := "useragents") T.ua rfl (m3 m₂) fu₂ ?_
  refine OpL.setNew T.setsX (LRead.mut (m3 mu₂)) (by lia) ?_
  refine Op1.contains T.setsX ⟨rfl, ?_⟩
  refine Ev.fld T (x := "e1") (f := "useragents") T.ua rfl (m3 m₁) fu₁ ?_
  refine ⟨LRead.mut (m3 mu₁), by lia, a, d, _, _, rfl, .there (.there .here), by simp, ?_⟩
  refine Ex.cons (Ex1.setFld T (x := "entry") (f := "rulelines") T.rl ?_ (fun _ => rfl) fun _ => rfl)
  refine Ev.binop (Ev.fld T (x := "e1") (f := "rulelines") T.rl rfl (m3 m₁) fr₁ (Ev.fld T (x := "e2") (f := "rulelines") T.rl rfl (m3 m₂) fr₂ ?_))
  refine Op2.addl (LRead.mut (m3 mr₁)) (LRead.mut (m3 mr₂)) (by simp [sizeLine]; lia) ?_
  refine ⟨a, d, _, _, rfl, .there (.there .here), by simp [setF], ?_⟩
  refine Ex.cons (Ex1.setFld T (x := "entry") (f := "delay") T.dl ?_ (fun _ => rfl) fun _ => rfl)
  refine ev_or T T.dl rfl rfl (m3 m₁) (m3 m₂) fd₁ fd₂ n₁ n₃ n₅ ⟨a, d, _, _, rfl, .there (.there .here), by simp [setF], ?_⟩
  refine Ex.cons (Ex1.setFld T (x := "entry") (f := "req_rate") T.rr ?_ (fun _ => rfl) fun _ => rfl)
  refine ev_or T T.rr rfl rfl (m3 m₁) (m3 m₂) fq₁ fq₂ n₂ n₄ n₆ ⟨a, d, _, _, rfl, .there (.there .here), by simp [setF], ?_⟩
  refine Ex.cons (Ex1.ret (Ev.name (x := "entry") rfl ⟨_, ?_, h a d (fsNew u r) ⟨u, r, rfl⟩ ha hd hne⟩))
  exact .cons _ (.cons _ (.refl _))
theorem op_merge {a₁ a₂ : Addr} {us₁ us₂ : List (List Nat)} {rs₁ rs₂ : List PV} {dl₁ dl₂ rr₁ rr₂ : PV} {K : PV → Sto → Prop} (h₁ : EntAt σ a₁ us₁ rs₁ dl₁ rr₁) (h₂ : EntAt σ a₂ us₂ rs₂ dl₂ rr₂)
    (l₁ : us₁.length ≤ 1000) (l₂ : us₂.length ≤ 1000) (l₃ : rs₁.length + rs₂.length ≤ 1000) (n₁ : notRaw dl₂ = true) (n₂ : notRaw rr₂ = true) (n₃ : handed dl₁ = true) (n₄ : handed rr₁ = true) (n₅ : handed dl₂ = true) (n₆ : handed rr₂ = true)
    (h : ∀ a d tl, (∃ u r, tl = fsNew u r) → a ∉ dom σ → d ∉ dom σ → a ≠ d → K (.raw (.ref a)) ((a, .inst d (fsMer (us₁.filter fun x => decide (x ∈ us₂)) (rs₁ ++ rs₂) (orP dl₁ dl₂) (orP rr₁ rr₂) tl)) :: σ)) :
    ∀ f, FnAt C f ["e1", "e2"] (fScope sMerge) (fBody sMerge) → OpL C (k + 3) σ [.raw (.ref a₁), .raw (.ref a₂)] (fun vs => PySem.call (.ref f) vs) K := fun f F =>
  OpL.drop (Fn.call F (by decide +kernel) rfl (Ex.mono (w_merge T h₁ h₂ l₁ l₂ l₃ n₁ n₂ n₃ n₄ n₅ n₆ h) fun g ρ' σ' q => by
    cases g with
    | ret d => exact q
    | next => exact q.elim
    | brk => exact q.elim
    | cont => exact q.elim))
end
end Mine
end SE1
section SC1
open PySem PySem.W PyProof.Rows
set_option maxRecDepth 100000
namespace Mine
noncomputable def Frz (σ : Sto) (K : PV → Sto → Prop) (d : PV) (σ' : Sto) : Prop := ∃ a xs σ'', d = .raw (.ref a) ∧ (a, AO.mlist xs) ∈ σ' ∧ σ''.Sublist σ' ∧ a ∉ dom σ'' ∧ a ∉ dom σ ∧ K (.list xs) σ''
noncomputable def cellStep (m : Nat) (cs : List Int) (p : Int × Nat) : List Int := cs.set (p.2 % m) (cs.getD (p.2 % m) 0 + p.1 % 10 ^ 9)
noncomputable def cellsOf (init : List Int) (m : Nat) (s : List Int) : List Int := s.zipIdx.foldl (cellStep m) init
theorem cellsOf_snoc (init : List Int) (m : Nat) (s : List Int) (x : Int) : cellsOf init m (s ++ [x]) = cellStep m (cellsOf init m s) (x, s.length) := by
  unfold cellsOf
  rw [List.zipIdx_append, List.foldl_append]
  simp
theorem cellsOf_length (init : List Int) (m : Nat) (s : List Int) : (cellsOf init m s).length = init.length := by
  unfold cellsOf
  generalize s.zipIdx = l
  induction l generalizing init with
  | nil => rfl
  | cons p r ih => rw [List.foldl_cons, ih]; simp [cellStep]
theorem cellsOf_bound {init : List Int} {m : Nat} {s : List Int} (hi : ∀ c ∈ init, 0 ≤ c) : ∀ c ∈ cellsOf init m s, 0 ≤ c := by
  unfold cellsOf
  generalize s.zipIdx = l
  induction l generalizing init with
  | nil => exact hi
  | cons p r ih =>
    rw [List.foldl_cons]
    refine ih fun c hc => ?_
    unfold cellStep at hc
    rcases List.mem_or_eq_of_mem_set hc with h | h
    · exact hi c h
    · rw [h]
      have h1 : 0 ≤ init.getD (p.2 % m) 0 := by
        rw [List.getD_eq_getElem?_getD]
        cases hg : init[p.2 % m]? with
        | none => simp
        | some v => simpa using hi v (List.mem_of_getElem? hg)
      have h2 := Int.emod_nonneg p.1 (show (10 ^ 9 : Int) ≠ 0 by decide)
      lia
theorem range_size (n : Nat) : Builtin.Range.rangeSize 0 (n : Int) 1 = n := by
  rw [PySem.rangeSize_one]; split <;> lia
theorem rangeL_nat (n : Nat) : rangeL 0 (n : Int) 1 = (List.range n).map fun (i : Nat) => PV.int (i : Int) := by
  unfold rangeL
  rw [range_size]
  simp
theorem Ev.mints {C k sc ρ σ es pos K} {ns : List Int} (h : constInts es = some ns) (hl : ns.length ≤ 1000) (hK : ∀ a, a ∉ dom σ → K (.raw (.ref a)) ((a, .mlist (ns.map .int)) :: σ)) : Ev C k sc ρ σ (.List es pos) K :=
  let ⟨a, b⟩ := evL_ints (C := C) (k := k) (sc := sc) (ρ := ρ) (σ := σ) (K := fun ds σ₁ => ds.length ≤ sizeLine ∧ ∀ a, a ∉ dom σ₁ → K (.raw (.ref a)) ((a, .mlist ds) :: σ₁)) h ⟨by rw [List.length_map]; simp [sizeLine]; lia, hK⟩
  Ev.mlist a b
theorem Ex1.asgMInts {ns : List Int} {C k sc ρ σ x p es pos pos2 K} (hc : constInts es = some ns) (hl : ns.length ≤ 1000 ∧ sc.names.lookup (Str.ofString x) = some .local) (h : ∀ a, a ∉ dom σ → K .next ((x, .raw (.ref a)) :: ρ) ((a, .mlist (ns.map .int)) :: σ)) : Ex1 C k sc ρ σ (.Assign [.Name (Str.ofString x) p] (.List es pos) pos2) K :=
  Ex1.assign (Ev.mints hc hl.1 h) (.inl hl.2) fun _ => rfl
theorem w_cells {C k σ} {s : List Int} {K : PV → Sto → Prop} (len : Blt C "len" (.builtin "len")) (rng : Blt C "range" (.type "range")) (hs : s.length ≤ 1000) (h : K (.list ((cellsOf [32, 13, 7, 8, 52, 16, 79, 41, 34] 9 (s.take 60)).map .int)) σ) :
    Ex C k (fScope (stAt 9)) [("script", .list (s.map .int))] σ (fBody (stAt 9)) (fun g _ σ' => match g with | .ret d => Frz σ K d σ' | _ => False) := by
  refine Ex.cons ?_
  refine Ex1.asgMInts (x := "cells") (ns := [32, 13, 7, 8, 52, 16, 79, 41, 34]) ?_ ?_ ?_
  · kernel_rfl
  · decide +kernel
  intro a ha
  have hslc : slcL (s.map PV.int) none (some 60) none = (s.take 60).map PV.int := by
    rw [show (some (60 : Int)) = some ((60 : Nat) : Int) from rfl, slcL_to, List.map_take]
  refine Ex.cons (Ex1.for (J := fun rest ρ σ' => ∃ i : Nat, i ≤ (s.take 60).length ∧ rest = (((List.range (s.take 60).length).drop i).map fun (j : Nat) => PV.int (j : Int)) ∧ Has ρ [("cells", .raw (.ref a)), ("script", .list (s.map .int))] ∧
    σ' = (a, .mlist ((cellsOf [32, 13, 7, 8, 52, 16, 79, 41, 34] 9 (s.take i)).map .int)) :: σ) ?_ ?_ ?_ fun _ _ => rfl)
  · refine Ev.call (Ev.blt rng ⟨_, rfl, Callable.type, ?_⟩ rfl) rfl fun _ => rfl
    refine Ev.call (Ev.blt len ⟨_, rfl, Callable.builtin, ?_⟩ rfl) rfl fun _ => rfl
    refine Ev.sub (Ev.name (x := "script") rfl (Ev.slice (Ev.int ⟨_, _, _, .none, .int 60, .none, Op2.slice .list (by decide) (by simp [sizeLine]; lia) ?_⟩)))
    rw [hslc]
    refine OpL.len_l .list (by simp; lia) ?_
    rw [List.length_map]
    refine OpL.range1 ⟨_, Iterable.range ?_, 0, Nat.zero_le _, ?_, ⟨rfl, rfl, trivial⟩, ?_⟩
    · have := List.length_take_le 60 s
      exact small_up (by lia) (by lia) (by lia) (by lia)
    · rw [rangeL_nat]; rfl
    · rfl
  · rintro x r ρ' σ' ⟨i, hi, he, hh, rfl⟩
    have hlt : i < (s.take 60).length := by
      have := congrArg List.length he
      simp at this hi ⊢
      lia
    have hd : (List.range (s.take 60).length).drop i = i :: (List.range (s.take 60).length).drop (i + 1) := by
      rw [List.drop_eq_getElem_cons (by simpa using hlt)]; simp
    rw [hd, List.map_cons] at he
    obtain ⟨rfl, rfl⟩ : x = PV.int (i : Int) ∧ r = ((List.range (s.take 60).length).drop (i + 1)).map fun (j : Nat) => PV.int (j : Int) := by simpa using he
    have his : i < s.length := by have := List.length_take_le' 60 s; lia
    have e7 : (i : Int) % 9 = ((i % 9 : Nat) : Int) := by lia
    have hcl : (cellsOf [32, 13, 7, 8, 52, 16, 79, 41, 34] 9 (s.take i)).length = 9 := cellsOf_length _ _ _
    have hci : i % 9 < (cellsOf [32, 13, 7, 8, 52, 16, 79, 41, 34] 9 (s.take i)).length := by rw [hcl]; lia
    have htk : s.take (i + 1) = s.take i ++ [s[i]] := by rw [List.take_add_one, List.getElem?_eq_getElem his]; rfl
    refine Bind.name (x := "place") (.inl rfl) ?_
    refine Ex.has (ρ' := [("place", .int (i : Int)), ("cells", .raw (.ref a)), ("script", .list (s.map .int))]) ⟨rfl, hh.1, hh.2.1, trivial⟩ ?_
    refine Ex.cons (Ex1.setSub ?_ fun _ => rfl)
    refine Ev.binop (Ev.sub (Ev.name (x := "cells") rfl (Ev.binop (Ev.name (x := "place") rfl (Ev.int (Op2.mod (by decide) ?_))))))
    rw [e7]
    refine Op2.item (d := .int ((cellsOf [32, 13, 7, 8, 52, 16, 79, 41, 34] 9 (s.take i)).getD (i % 9) 0)) (LRead.mut List.mem_cons_self) (by lia) (by lia) (by rw [Int.toNat_natCast, List.getElem?_map, List.getElem?_eq_getElem hci, List.getD_eq_getElem?_getD, List.getElem?_eq_getElem hci]; rfl) ?_
    refine Ev.binop (Ev.sub (Ev.name (x := "script") rfl (Ev.name (x := "place") rfl (Op2.item (d := .int s[i]) .list (by lia) (by lia) (by rw [Int.toNat_natCast, List.getElem?_map, List.getElem?_eq_getElem his]; rfl) ?_))))
    refine Ev.binop (Ev.int (Ev.int (Op2.pow (by decide) (by decide) (Op2.mod (by decide) (Op2.add ?_)))))
    refine Ev.name (x := "cells") rfl (Ev.binop (Ev.name (x := "place") rfl (Ev.int (Op2.mod (by decide) ?_))))
    rw [e7]
    refine Op3u.setList .here (by rw [List.length_map]; exact hci) (by rw [List.length_map, hcl]; decide) ?_
    refine Ex.nil ⟨i + 1, hlt, rfl, ⟨rfl, rfl, trivial⟩, ?_⟩
    rw [htk, cellsOf_snoc, List.length_take, Nat.min_eq_left (Nat.le_of_lt his)]
    unfold cellStep
    rw [List.map_set]
    rfl
  · rintro ρ' σ' ⟨i, hi, he, hh, rfl⟩
    have : i = (s.take 60).length := by
      have := congrArg List.length he
      simp at this hi ⊢
      lia
    subst this
    refine Ex.has hh (Ex.cons (Ex1.ret (Ev.name (x := "cells") rfl ?_)))
    refine ⟨a, _, σ, rfl, List.mem_cons_self, List.sublist_cons_self _ _, ha, ha, ?_⟩
    have e : s.take (s.take 60).length = s.take 60 := by
      rw [List.length_take]
      by_cases h60 : 60 ≤ s.length
      · rw [Nat.min_eq_left h60]
      · rw [Nat.min_eq_right (by lia), List.take_of_length_le (Nat.le_refl _), List.take_of_length_le (by lia)]
    rw [e]; exact h
end Mine
end SC1
section C38
open PySem PySem.W PyProof.Rows
set_option maxRecDepth 100000
namespace Mine
theorem Comp.pure2 {C k sc ρc elt t₁ t₂ p₁ p₂ iter₁ iter₂ scope xs σ} {K : List PV → Sto → Prop} (ys : PV → List PV) (f : PV → PV → PV)
    (h₁ : (rel scope sc).names.lookup (Str.ofString t₁) = some .local) (h₂ : (rel scope sc).names.lookup (Str.ofString t₂) = some .local) (n₁ : ρc.lookup t₁ = none) (n₂ : ρc.lookup t₂ = none) (hne : t₂ ≠ t₁)
    (hi : ∀ x ∈ xs, ∀ K' : PV → Sto → Prop, (∀ a, Iterable C k σ a (ys x) → K' a σ) → Ev C k (rel scope sc) ((t₁, x) :: ρc) σ iter₂ K')
    (he : ∀ x ∈ xs, ∀ y ∈ ys x, ∀ K' : PV → Sto → Prop, K' (f x y) σ → Ev C k (rel scope sc) ((t₂, y) :: (t₁, x) :: ρc) σ elt K')
    (hl : (xs.flatMap fun x => (ys x).map (f x)).length ≤ sizeLine) (h : K (xs.flatMap fun x => (ys x).map (f x)) σ) : Comp C k sc ρc elt ⟨.Name (Str.ofString t₁) p₁, iter₁, [], 0⟩ [⟨.Name (Str.ofString t₂) p₂, iter₂, [], 0⟩] scope xs σ K := by
  refine ⟨fun rest acc ρ σ' => σ' = σ ∧ LSub ρ ρc ∧ ∃ done, done ++ rest = xs ∧ acc = done.flatMap fun x => (ys x).map (f x), ⟨rfl, fun _ _ h => h, [], rfl, rfl⟩, ?_, ?_⟩
  · rintro x r acc ρ σ' ⟨rfl, hs, done, hd, rfl⟩
    have hm : x ∈ xs := hd ▸ List.mem_append_right _ List.mem_cons_self
    refine Bind.nameL h₁ ?_
    show CompOk C k _ elt _ _ _ _ _
    refine Ev.lsub (hs.cons n₁) (hi x hm _ fun a ha => ⟨_, ha, fun rest acc ρ σ' => σ' = _ ∧ LSub ρ ((t₁, x) :: ρc) ∧ ∃ d, d ++ rest = ys x ∧ acc = (done.flatMap fun x => (ys x).map (f x)) ++ d.map (f x), ⟨rfl, hs.cons n₁, [], rfl, by simp⟩, ?_, ?_⟩)
    · rintro y r₂ acc ρ σ' ⟨rfl, hs₂, d, hd₂, rfl⟩
      have hy : y ∈ ys x := hd₂ ▸ List.mem_append_right _ List.mem_cons_self
      have n₂' : ((t₁, x) :: ρc).lookup t₂ = none := by rw [List.lookup_cons, beq_false_of_ne hne]; exact n₂
      refine Bind.nameL h₂ ?_
      show Ev C k _ _ _ elt _
      refine Ev.lsub (hs₂.cons n₂') (he x hm y hy _ ⟨?_, rfl, hs₂.skip n₂', d ++ [y], by simpa using hd₂, by simp⟩)
      refine Nat.le_trans ?_ hl
      rw [← hd, List.flatMap_append, List.flatMap_cons, ← hd₂]
      simp only [List.length_append, List.length_map, List.length_cons]
      lia
    · rintro acc ρ σ' ⟨rfl, hs₂, d, hd₂, rfl⟩
      rw [List.append_nil] at hd₂
      subst hd₂
      refine ⟨rfl, fun z dz hz => hs₂ z dz ?_, done ++ [x], by simpa using hd, by simp⟩
      by_cases e : z = t₁
      · subst e; rw [n₁] at hz; cases hz
      · rw [List.lookup_cons, beq_false_of_ne e]; exact hz
  · rintro acc ρ σ' ⟨rfl, hs, done, hd, rfl⟩
    rw [List.append_nil] at hd
    rw [hd]; exact h
section
variable {C : Cx} {k : Nat} {σ : Sto} {a b a' b' : PV} {K : PV → Sto → Prop}
end
mutual
theorem peq_refl : ∀ {n : Nat} {d : PV}, pl n d = true → peq d d = true
  | _, .none, _ => by simp [peq, toP, PyData.eqv]
  | _, .bool _, _ => by simp [peq, toP, PyData.eqv]
  | _, .int _, _ => by simp [peq, toP, PyData.eqv]
  | _, .str x, h => by simp [peq, toP, PyData.eqv]
  | n + 1, .list xs, h => by rw [pl] at h; rw [peq, toP, PyData.eqv]; exact peqL_refl h
  | n + 1, .tuple xs, h => by rw [pl] at h; rw [peq, toP, PyData.eqv]; exact peqL_refl h
  | 0, .list xs, h => by simp [pl] at h
  | 0, .tuple xs, h => by simp [pl] at h
  | _, .raw _, h => by simp [pl] at h
  | _, .ext _ _, h => by simp [pl] at h
  | _, .slice _ _ _, h => by simp [pl] at h
  | _, .range _ _ _, h => by simp [pl] at h
theorem peqL_refl : ∀ {n : Nat} {ds : List PV}, plL n ds = true → PyData.eqvAll (toPL ds) (toPL ds) = true
  | _, [], _ => by rw [toPL, PyData.eqvAll]
  | n, d :: r, h => by
    rw [plL, Bool.and_eq_true] at h
    rw [toPL, PyData.eqvAll, Bool.and_eq_true]
    exact ⟨peq_refl h.1, peqL_refl h.2⟩
end
theorem peq_str' (x y : List Nat) : peq (.str x) (.str y) = decide (x = y) := by
  unfold peq
  rw [toP, toP]
  show (strL x == strL y) = _
  by_cases h : x = y
  · subst h; simp
  · have : strL x ≠ strL y := fun q => h (by have := congrArg (fun s : Str => s.cps.toList) q; simpa [strL] using this)
    rw [beq_false_of_ne this]; simp [h]
theorem pl_str' {n : Nat} {x : List Nat} (h : ∀ c ∈ x, c < 0x110000) : pl n (.str x) = true := by rw [pl]; simpa using h
theorem peq_int (a b : Int) : peq (.int a) (.int b) = decide (a = b) := by
  unfold peq; rw [toP, toP, PyData.eqv]
  by_cases h : a = b <;> simp [h]
theorem peq_list (xs ys : List PV) : peq (.list xs) (.list ys) = PyData.eqvAll (toPL xs) (toPL ys) := by rw [peq, toP, toP, PyData.eqv]
theorem peq_cons (x y : PV) (xs ys : List PV) : peq (.list (x :: xs)) (.list (y :: ys)) = (peq x y && peq (.list xs) (.list ys)) := by
  rw [peq_list, peq_list, toPL, toPL, PyData.eqvAll]; rfl
theorem peq_nil : peq (.list []) (.list []) = true := by rw [peq_list]; rfl
theorem peq_nil_cons (y : PV) (ys : List PV) : peq (.list []) (.list (y :: ys)) = false := by rw [peq_list]; rfl
theorem peq_cons_nil (y : PV) (ys : List PV) : peq (.list (y :: ys)) (.list []) = false := by rw [peq_list]; rfl
theorem peq_map {α : Type} [DecidableEq α] {f : α → PV} (hf : ∀ a b, peq (f a) (f b) = decide (a = b)) : ∀ xs ys : List α, peq (.list (xs.map f)) (.list (ys.map f)) = decide (xs = ys)
  | [], [] => by rw [List.map_nil, peq_nil]; rfl
  | [], y :: ys => by rw [List.map_cons, List.map_nil, peq_nil_cons]; simp
  | x :: xs, [] => by rw [List.map_cons, List.map_nil, peq_cons_nil]; simp
  | x :: xs, y :: ys => by
    rw [List.map_cons, List.map_cons, peq_cons, hf, peq_map hf xs ys]
    by_cases h1 : x = y <;> by_cases h2 : xs = ys <;> simp [h1, h2]
theorem peq_strs (xs ys : List (List Nat)) : peq (.list (xs.map .str)) (.list (ys.map .str)) = decide (xs = ys) := peq_map peq_str' xs ys
theorem plL_map {α : Type} {f : α → PV} {n : Nat} : ∀ {xs : List α}, (∀ x ∈ xs, pl n (f x) = true) → plL n (xs.map f) = true
  | [], _ => by rw [List.map_nil, plL]
  | x :: r, h => by rw [List.map_cons, plL, Bool.and_eq_true]; exact ⟨h x List.mem_cons_self, plL_map fun y hy => h y (List.mem_cons_of_mem _ hy)⟩
theorem plL_strs {n : Nat} {xs : List (List Nat)} (h : ∀ x ∈ xs, ∀ c ∈ x, c < 0x110000) : plL n (xs.map .str) = true := plL_map fun x hx => pl_str' (h x hx)
section
variable {C : Cx} {k : Nat} {sc : Scope} {ρ : Lo} {σ : Sto} {K : PV → Sto → Prop} {o : Expr} {e₁ : Expr} {apos pos : Pos}
theorem Ev.split (h : Ev C k sc ρ σ o fun d σ₁ => ∃ x, d = .str x ∧ x.length ≤ 100000 ∧ Ev C k sc ρ σ₁ e₁ fun d₂ σ₂ => ∃ c, d₂ = .str [c] ∧ K (.list ((splitL x c).map .str)) σ₂) (hp : [e₁].all plainE = true) (hline : (apos.endLine == pos.line) = true) (hbase : ∀ env, attributeBase o (Str.ofString "split") env (eval o env) = eval o env) :
    Ev C k sc ρ σ (.Call (.Attribute o (Str.ofString "split") apos) [e₁] [] pos) K :=
  Ev.method (T := "str") (id_ := "str.split") (Ev.mono h fun d σ₁ ⟨x, e, hs, q⟩ => by subst e; exact ⟨OfType.str, Ev.mono q fun d₂ σ₂ ⟨c, e, q⟩ => by subst e; exact OpL.split hs q⟩) F.plainAttrs_str F.slot_str_split F.type_str_split hp (by simp) hline hbase
theorem Ev.join (h : Ev C k sc ρ σ e₁ fun d σ₁ => ∃ xs : List (List Nat), LRead C σ₁ d (xs.map .str) ∧ (xs.map List.length).sum ≤ 16777216 ∧ K (.str xs.flatten) σ₁) (hp : [e₁].all plainE = true) {kk p2} (hline : (apos.endLine == pos.line) = true) (hbase : ∀ env, attributeBase (.Constant (.str (Str.ofString "")) kk p2) (Str.ofString "join") env (eval (.Constant (.str (Str.ofString "")) kk p2) env) = eval (.Constant (.str (Str.ofString "")) kk p2) env) :
    Ev C k sc ρ σ (.Call (.Attribute (.Constant (.str (Str.ofString "")) kk p2) (Str.ofString "join") apos) [e₁] [] pos) K :=
  Ev.method (T := "str") (id_ := "str.join") (Ev.str (l := []) rfl ⟨OfType.str, Ev.mono h fun d σ₁ ⟨xs, hl, hs, q⟩ => OpL.join0 hl hs q⟩) F.plainAttrs_str F.slot_str_join F.type_str_join hp (by simp) hline hbase
theorem Ev.extend (h : Ev C k sc ρ σ o fun d σ₁ => ∃ a, d = .raw (.ref a) ∧ (∃ ys, (a, AO.mlist ys) ∈ σ₁) ∧ Ev C k sc ρ σ₁ e₁ fun d₂ σ₂ => ∃ xs zs σ₃, LRead C σ₂ d₂ zs ∧ Upd σ₂ a (.mlist xs) (.mlist (xs ++ zs)) σ₃ ∧ xs.length + zs.length ≤ 100000 ∧ K .none σ₃) (hp : [e₁].all plainE = true) (hline : (apos.endLine == pos.line) = true) (hbase : ∀ env, attributeBase o (Str.ofString "extend") env (eval o env) = eval o env) :
    Ev C k sc ρ σ (.Call (.Attribute o (Str.ofString "extend") apos) [e₁] [] pos) K :=
  Ev.method (T := "list") (id_ := "list.extend") (Ev.mono h fun d σ₁ ⟨a, e, ⟨ys, hm⟩, q⟩ => by subst e; exact ⟨OfType.list (LRead.mut hm), Ev.mono q fun d₂ σ₂ ⟨xs, zs, σ₃, hl, u, hs, q⟩ => OpL.extend hl u (by lia) q⟩) F.plainAttrs_list F.slot_list_extend F.type_list_extend hp (by simp) hline hbase
theorem Iterable.rangeN {a n : Nat} (h1 : a ≤ 1000000) (h2 : n ≤ 1000000) : Iterable C k σ (.range (a : Nat) ((a + n : Nat) : Int) 1) ((List.range n).map fun i => PV.int ((a + i : Nat) : Int)) := by
  have h := Iterable.range (C := C) (k := k) (σ := σ) (small_up (a := (a : Int)) (b := ((a + n : Nat) : Int)) (by lia) (by lia) (by lia) (by lia))
  have e : rangeL (a : Int) ((a + n : Nat) : Int) 1 = (List.range n).map fun i => PV.int ((a + i : Nat) : Int) := by
    unfold rangeL
    have z : Builtin.Range.rangeSize (a : Int) ((a + n : Nat) : Int) 1 = (n : Int) := by rw [PySem.rangeSize_one]; split <;> lia
    rw [z, Int.toNat_natCast]
    exact List.map_congr_left fun i _ => by simp
  rwa [e] at h
theorem Iterable.range0 {n : Nat} (h2 : n ≤ 1000000) : Iterable C k σ (.range 0 (n : Int) 1) ((List.range n).map fun (i : Nat) => PV.int (i : Int)) := by
  have h := Iterable.rangeN (C := C) (k := k) (σ := σ) (a := 0) (n := n) (by lia) h2
  simpa using h
end
section
variable {α : Type} {p₀ p₁ p₂ p₃ p₄ p₅ p₆ : α} {r : List α}
theorem at0 : p₀ ∈ p₀ :: r := List.mem_cons_self
theorem at1 : p₁ ∈ p₀ :: p₁ :: r := List.mem_cons_of_mem _ at0
theorem at2 : p₂ ∈ p₀ :: p₁ :: p₂ :: r := List.mem_cons_of_mem _ at1
theorem at3 : p₃ ∈ p₀ :: p₁ :: p₂ :: p₃ :: r := List.mem_cons_of_mem _ at2
theorem at4 : p₄ ∈ p₀ :: p₁ :: p₂ :: p₃ :: p₄ :: r := List.mem_cons_of_mem _ at3
theorem at5 : p₅ ∈ p₀ :: p₁ :: p₂ :: p₃ :: p₄ :: p₅ :: r := List.mem_cons_of_mem _ at4
theorem at6 : p₆ ∈ p₀ :: p₁ :: p₂ :: p₃ :: p₄ :: p₅ :: p₆ :: r := List.mem_cons_of_mem _ at5
end
theorem Tr.and2 {C k sc ρ σ e₁ e₂ pos K} (h : Tr C k sc ρ σ e₁ fun b σ₁ => if b = true then Tr C k sc ρ σ₁ e₂ K else K false σ₁) : Tr C k sc ρ σ (.BoolOp .And [e₁, e₂] pos) K :=
  Tr.boolop (Tr.mono h fun b σ₁ q => by
    cases b with
    | true => exact Tr.mono q fun b σ₂ q => by cases b <;> exact q
    | false => exact q)
theorem Tr.or2 {C k sc ρ σ e₁ e₂ pos K} (h : Tr C k sc ρ σ e₁ fun b σ₁ => if b = true then K true σ₁ else Tr C k sc ρ σ₁ e₂ K) : Tr C k sc ρ σ (.BoolOp .Or [e₁, e₂] pos) K :=
  Tr.boolop (Tr.mono h fun b σ₁ q => by
    cases b with
    | true => exact q
    | false => exact Tr.mono q fun b σ₂ q => by cases b <;> exact q)
end Mine
end C38
section C39
open PySem PySem.W PyProof.Rows
set_option maxRecDepth 100000
namespace Mine
theorem TrAll.one {C k sc ρ σ e} {K : Bool → Sto → Prop} (h : Tr C k sc ρ σ e K) : TrAll C k sc ρ .And σ [e] K :=
  Tr.mono h fun b σ₁ q => by
    cases b with
    | true => exact q
    | false => exact q
end Mine
end C39
section C40
open PySem PySem.W PyProof.Rows
set_option maxRecDepth 100000
namespace Mine
theorem Ex1.tgt {C k sc ρ σ ts x1 p e pos K} (h : Ev C k sc ρ σ e fun d σ₁ => Bind C k sc ρ σ₁ (.Tuple ts x1 p) d own fun ρ' σ' => K .next ρ' σ')
    (hs : ∀ env, env.scope = sc → swapsWithSole [.Tuple ts x1 p] e pos.line env = pure false) (hw : ∀ env, env.scope = sc → swappedStores [.Tuple ts x1 p] e env = pure none) : Ex1 C k sc ρ σ (.Assign [.Tuple ts x1 p] e pos) K := fun A P env s he hr I => by
  refine wpAny_Assign_stores (ev_one h he hr I fun v d σ₁ s₁ hK hA r => ?_) (hs env he) (hw env he)
  show wpAny _ _ (PySem.assign (.Tuple ts x1 p) env v) _ _ _
  have hF := AfterF.of I hA
  refine wpAny_mono (hK A _ env s₁ v he hr hF.inv r) (fun _ s' o => ?_) fun _ _ x => x
  obtain ⟨ρ', σ', hK', hS, I'⟩ := o
  exact ⟨.next, ρ', σ', hK', ⟨hF.step.trans hS, I'.down I.hp.ptb fun a ha => (I.pown a ha).1⟩, .next⟩
theorem Ev.call3t {C k sc ρ σ x p e₁ e₂ e₃ pos id_ K} (b : C.mg x = Option.none ∧ C.mb x = some (.type id_)) (hk : sc.names.lookup x = some NameKind.globalImplicit) (h : Ev C k sc ρ σ e₁ fun a σ₁ => Ev C k sc ρ σ₁ e₂ fun c σ₂ => Ev C k sc ρ σ₂ e₃ fun d σ₃ => OpL C k σ₃ [a, c, d] (fun vs => PySem.call (.type id_) vs) K) (hp : [e₁, e₂, e₃].all plainE = true)
    (hd : (x == ("__debug__" : Str)) = false := by decide) : Ev C k sc ρ σ (.Call (.Name x p) [e₁, e₂, e₃] [] pos) K :=
  Ev.call (Ev.builtin hk b.1 b.2 ⟨_, rfl, Callable.type, h⟩ hd) hp fun _ => rfl
end Mine
end C40
section U20
open PySem PySem.W PyProof.Rows
set_option maxRecDepth 100000
namespace Mine
noncomputable def fonts : List Nat := [119808, 119860, 119912, 120016, 120172, 120224, 120276, 120328, 120380, 120432]
noncomputable def lone : List Nat := [173, 847, 6150, 6155, 6156, 6157, 8203, 8204, 8205, 8288, 65279]
noncomputable def lettersT : List (List Nat) := [[115, 116], [102, 105], [102, 108], [107, 109], [104, 112], [109, 112], [107, 97], [109, 119]]
noncomputable def codesT : List (List Nat) := [[223, 64261, 64262], [64256, 64257, 64259], [64256, 64258, 64260], [13261, 13262], [13259, 13271], [13273], [13188, 13261], [13245, 13247]]
noncomputable def textsR : List (List Nat) := [[115, 115, 32, 115, 116, 32, 115, 116], [102, 102, 32, 102, 105, 32, 102, 102, 105], [102, 102, 32, 102, 108, 32, 102, 102, 108], [107, 107, 32, 107, 109], [104, 112, 32, 112, 104], [112, 112, 109], [107, 97, 32, 107, 107], [109, 119, 32, 109, 119]]
noncomputable def textsT : List (List (List Nat)) := [[[115, 115], [115, 116], [115, 116]], [[102, 102], [102, 105], [102, 102, 105]], [[102, 102], [102, 108], [102, 102, 108]], [[107, 107], [107, 109]], [[104, 112], [112, 104]], [[112, 112, 109]], [[107, 97], [107, 107]], [[109, 119], [109, 119]]]
noncomputable def letter (f i : Nat) : Nat := (lettersT.getD f []).getD i 0
noncomputable def signC (f c : Nat) : List Nat :=
  if c % 8 = 0 then []
  else if c % 8 < 3 then [letter f (c % 8 - 1)]
  else if c % 8 < 5 then [(if c % 8 = 3 then 65 else fonts.getD (c / 8 / 2 % 10) 0) + letter f (c / 8 % 2) - 97]
  else if c % 8 < 7 then [(codesT.getD f []).getD (c / 8 % (codesT.getD f []).length) 0]
  else [if c / 8 % 27 < 11 then lone.getD (c / 8 % 27) 0 else 65013 + c / 8 % 27]
noncomputable def signT (f c : Nat) : List Nat :=
  if c % 8 = 0 then []
  else if c % 8 < 3 then [letter f (c % 8 - 1)]
  else if c % 8 < 5 then [letter f (c / 8 % 2)]
  else if c % 8 < 7 then (textsT.getD f []).getD (c / 8 % (codesT.getD f []).length) []
  else []
theorem getD_lt {l : List Nat} {i m : Nat} (h : l.all (· ≤ m) = true) : l.getD i 0 ≤ m := by
  rw [List.getD_eq_getElem?_getD]
  cases e : l[i]? with
  | none => simp
  | some v => simpa using List.all_eq_true.mp h v (List.mem_of_getElem? e)
inductive IntsOk : List Expr → List (List Nat) → Prop
  | nil : IntsOk [] []
  | cons {es p r n ns} : constInts es = some (n.map fun (n : Nat) => (n : Int)) → n.length ≤ 1000 → IntsOk r ns → IntsOk (.List es p :: r) (n :: ns)
theorem evL_IL {C k sc ρ σ es ns} (h : IntsOk es ns) : ∀ {K : List PV → Sto → Prop}, K (ns.map fun l => .list (nums l)) σ → EvL C k sc ρ σ es K ∧ es.all plainE = true := by
  induction h with
  | nil => exact fun hK => ⟨hK, rfl⟩
  | cons h1 h2 _ ih =>
    intro K hK
    have q := ih (K := fun ds σ' => K (.list (nums _) :: ds) σ') hK
    exact ⟨Ev.nats _ h1 h2 q.1, by rw [List.all_cons, q.2]; rfl⟩
theorem splits : ∀ f, f < 8 → splitL (textsR.getD f []) 32 = textsT.getD f [] := fun f hf => by
  have h : ((List.range 8).all fun f => decide (splitL (textsR.getD f []) 32 = textsT.getD f [])) = true := by kernel_rfl
  exact of_decide_eq_true (List.all_eq_true.mp h f (List.mem_range.mpr hf))
theorem letters_len : ∀ f, f < 8 → (lettersT.getD f []).length = 2 ∧ 1 ≤ (codesT.getD f []).length ∧ (codesT.getD f []).length ≤ 3 ∧ (textsT.getD f []).length = (codesT.getD f []).length := fun f hf => by
  have h : ((List.range 8).all fun f => decide ((lettersT.getD f []).length = 2 ∧ 1 ≤ (codesT.getD f []).length ∧ (codesT.getD f []).length ≤ 3 ∧ (textsT.getD f []).length = (codesT.getD f []).length)) = true := by decide
  exact of_decide_eq_true (List.all_eq_true.mp h f (List.mem_range.mpr hf))
theorem letter_low (f i : Nat) : letter f i ≤ 119 := by
  unfold letter
  have h : lettersT.all (fun l => l.all (· ≤ 119)) = true := by decide
  rw [List.getD_eq_getElem?_getD (l := lettersT)]
  cases e : lettersT[f]? with
  | none => simp
  | some l => exact getD_lt (List.all_eq_true.mp h l (List.mem_of_getElem? e))
theorem letter_ge {f i : Nat} (hf : f < 8) (hi : i < 2) : 97 ≤ letter f i := by
  have h : ((List.range 8).all fun f => (List.range 2).all fun i => decide (97 ≤ letter f i)) = true := by decide
  exact of_decide_eq_true (List.all_eq_true.mp (List.all_eq_true.mp h f (List.mem_range.mpr hf)) i (List.mem_range.mpr hi))
theorem code_low (f i : Nat) : (codesT.getD f []).getD i 0 ≤ 64262 := by
  have h : codesT.all (fun l => l.all (· ≤ 64262)) = true := by decide
  rw [List.getD_eq_getElem?_getD (l := codesT)]
  cases e : codesT[f]? with
  | none => simp
  | some l => exact getD_lt (List.all_eq_true.mp h l (List.mem_of_getElem? e))
theorem Op2.letter {C : Cx} {k : Nat} {σ : Sto} {value slice : Expr} {f i : Nat} {K : PV → Sto → Prop} (hf : f < 8) (hi : i < 2) (h : K (.str [letter f i]) σ) : Op2 C k σ (.str (lettersT.getD f [])) (.int (i : Nat)) (subscriptTail value slice) K := by
  have hl := (letters_len f hf).1
  refine Op2.item_s (by lia) (c := Mine.letter f i) ?_ h
  unfold Mine.letter
  rw [List.getD_eq_getElem?_getD (l := lettersT.getD f []), List.getElem?_eq_getElem (by lia)]; rfl
theorem Ex1.asgPickIL {ns : List (List Nat)} {i : Nat} {C k sc ρ σ x y p p1 p2 p3 es pos K} (hc : IntsOk es ns) (hl : ns.length ≤ 1000 ∧ sc.names.lookup (Str.ofString x) = some .local ∧ i < ns.length) (hy : ρ.lookup y = some (.int (i : Nat))) (h : K .next ((x, .list (nums (ns.getD i []))) :: ρ) σ)
    (hd : (Str.ofString y == ("__debug__" : Str)) = false := by decide) (hn : (Str.ofString y == ("__classdict__" : Str)) = false := by decide) :
    Ex1 C k sc ρ σ (.Assign [.Name (Str.ofString x) p] (.Subscript (.List es p1) (.Name (Str.ofString y) p2) p3) pos) K := by
  obtain ⟨a, b⟩ := evL_IL (C := C) (k := k) (sc := sc) (ρ := ρ) (σ := σ) (K := fun ds σ₁ => ds.length ≤ sizeLine ∧ Ev C k sc ρ σ₁ (.Name (Str.ofString y) p2) fun b σ₂ => Op2 C k σ₂ (.list ds) b (subscriptTail (.List es p1) (.Name (Str.ofString y) p2)) fun d σ₃ => K .next ((x, d) :: ρ) σ₃) hc ⟨by rw [List.length_map]; simp [sizeLine]; lia, Ev.name hy (Op2.itemN .list (d := .list (nums (ns.getD i []))) (by rw [List.getElem?_map, List.getD_eq_getElem?_getD, List.getElem?_eq_getElem hl.2.2]; rfl) h (by rw [List.length_map]; lia)) hd hn⟩
  exact Ex1.assign (Ev.sub (Ev.list a b)) (.inl hl.2.1) fun _ => rfl
theorem Ex1.asgPickS {ns : List (List Nat)} {i : Nat} {C k sc ρ σ x y p p1 p2 p3 es pos K} (hc : constStrs es = some ns) (hl : ns.length ≤ 1000 ∧ sc.names.lookup (Str.ofString x) = some .local ∧ i < ns.length) (hy : ρ.lookup y = some (.int (i : Nat))) (h : K .next ((x, .str (ns.getD i [])) :: ρ) σ)
    (hd : (Str.ofString y == ("__debug__" : Str)) = false := by decide) (hn : (Str.ofString y == ("__classdict__" : Str)) = false := by decide) :
    Ex1 C k sc ρ σ (.Assign [.Name (Str.ofString x) p] (.Subscript (.List es p1) (.Name (Str.ofString y) p2) p3) pos) K :=
  Ex1.assign (Ev.sub (Ev.strs ns hc hl.1 (Ev.name hy (Op2.itemN .list (d := .str (ns.getD i [])) (by rw [List.getElem?_map, List.getD_eq_getElem?_getD, List.getElem?_eq_getElem hl.2.2]; rfl) h (by rw [List.length_map]; lia)) hd hn))) (.inl hl.2.1) fun _ => rfl
theorem Ex1.asgSplit {ns : List (List Nat)} {i : Nat} {C k sc ρ σ x y p p1 p2 p3 p4 p5 p6 kk es pos K} (hc : constStrs es = some ns) (hl : ns.length ≤ 1000 ∧ sc.names.lookup (Str.ofString x) = some .local ∧ i < ns.length ∧ (ns.getD i []).length ≤ 100000) (hy : ρ.lookup y = some (.int (i : Nat))) (h : K .next ((x, .list ((splitL (ns.getD i []) 32).map .str)) :: ρ) σ)
    (hline : (p4.endLine == p6.line) = true) (hd : (Str.ofString y == ("__debug__" : Str)) = false := by decide) (hn : (Str.ofString y == ("__classdict__" : Str)) = false := by decide) :
    Ex1 C k sc ρ σ (.Assign [.Name (Str.ofString x) p] (.Call (.Attribute (.Subscript (.List es p1) (.Name (Str.ofString y) p2) p3) (Str.ofString "split") p4) [.Constant (.str (Str.ofString " ")) kk p5] [] p6) pos) K :=
  Ex1.assign (Ev.split (Ev.sub (Ev.strs ns hc hl.1 (Ev.name hy (Op2.itemN .list (d := .str (ns.getD i [])) (by rw [List.getElem?_map, List.getD_eq_getElem?_getD, List.getElem?_eq_getElem hl.2.2.1]; rfl) ⟨_, rfl, hl.2.2.2, Ev.str (l := [32]) rfl ⟨32, rfl, h⟩⟩ (by rw [List.length_map]; lia)) hd hn))) rfl hline fun _ => rfl) (.inl hl.2.1) fun _ => rfl
theorem w_sign {C k σ} {f c : Nat} {K : PV → Sto → Prop} (chr : Blt C "chr" (.builtin "chr")) (ord : Blt C "ord" (.builtin "ord")) (len : Blt C "len" (.builtin "len")) (hf : f < 8) (h : K (.tuple [.str (signC f c), .str (signT f c)]) σ) :
    Ex C k (fScope (stAt 10)) [("family", .int f), ("cell", .int c)] σ (fBody (stAt 10)) (fun g _ σ' => match g with | .ret d => K d σ' | .next => K .none σ' | _ => False) := by
  obtain ⟨l1, l2, l3, l4⟩ := letters_len f hf
  refine Ex.cons ?_
  refine Ex1.asgPickS (x := "letters") (y := "family") (i := f) (ns := lettersT) ?_ ?_ ?_ ?_
  · kernel_rfl
  · exact ⟨by decide, by decide +kernel, hf⟩
  · rfl
  refine Ex.cons (Ex1.swap2 "kind" "pick" ?_ rfl (by decide +kernel) (fun env he => by cases env; dsimp only at he; subst he; rfl) rfl)
  refine Ev.binop (Ev.name (x := "cell") rfl (Ev.int (Op2.modN (b := 8) (by decide) ?_)))
  refine Ev.binop (Ev.name (x := "cell") rfl (Ev.int (Op2.divN (b := 8) (by decide) ?_)))
  have p8 : c % 8 < 8 := Nat.mod_lt _ (by decide)
  have p2 : c / 8 % 2 < 2 := Nat.mod_lt _ (by decide)
  unfold signC signT at h
  refine Ex.cons (Ex1.if (Tr.cmp (Ev.name (x := "kind") rfl (Ev.int (Op2.eqN (b := 0) (OpB.bool ?_)))) rfl))
  refine ite_dec (fun h0 => ?_) fun h0 => ?_
  · rw [if_pos h0, if_pos h0] at h
    exact Ex.cons (Ex1.ret (Ev.tuple2 (Ev.str (l := []) rfl (Ev.str (l := []) rfl h)) rfl))
  rw [if_neg h0, if_neg h0] at h
  refine Ex.nil ?_
  refine Ex.cons (Ex1.if (Tr.cmp (Ev.name (x := "kind") rfl (Ev.int (Op2.ltN (b := 3) (OpB.bool ?_)))) rfl))
  refine ite_dec (fun h3 => ?_) fun h3 => ?_
  · rw [if_pos h3, if_pos h3] at h
    have e1 : ((c % 8 : Nat) : Int) - 1 = ((c % 8 - 1 : Nat) : Int) := by lia
    refine Ex.cons (Ex1.ret (Ev.tuple2 (Ev.sub (Ev.name (x := "letters") rfl (Ev.binop (Ev.name (x := "kind") rfl (Ev.int (Op2.sub ?_)))))) rfl))
    rw [e1]
    refine Op2.letter hf (by lia) (Ev.sub (Ev.name (x := "letters") rfl (Ev.binop (Ev.name (x := "kind") rfl (Ev.int (Op2.sub ?_))))))
    rw [e1]
    exact Op2.letter hf (by lia) h
  rw [if_neg h3, if_neg h3] at h
  refine Ex.nil ?_
  refine Ex.cons (Ex1.if (Tr.cmp (Ev.name (x := "kind") rfl (Ev.int (Op2.ltN (b := 5) (OpB.bool ?_)))) rfl))
  refine ite_dec (fun h5 => ?_) fun h5 => ?_
  · rw [if_pos h5, if_pos h5] at h
    refine Ex.cons ?_
    refine Ex1.asgNats (x := "fonts") (ns := fonts) ?_ ?_ ?_
    · kernel_rfl
    · decide +kernel
    have hl1 := letter_low f (c / 8 % 2)
    have hl2 := letter_ge hf p2
    refine Ex.cons (Ex1.assign (x := "first") (Ev.ifexp (Tr.cmp (Ev.name (x := "kind") rfl (Ev.int (Op2.eqN (b := 3) (OpB.bool ?_)))) rfl)) (.inl rfl) fun _ => rfl)
    refine ite_dec (fun g3 => ?_) fun g3 => ?_
    · rw [if_pos g3] at h
      refine Ev.int ?_
      refine Ex.cons (Ex1.ret (Ev.tuple2 (Ev.call1 chr rfl (Ev.binop (Ev.binop (Ev.name (x := "first") rfl (Ev.call1 ord rfl (Ev.sub (Ev.name (x := "letters") rfl (Ev.binop (Ev.name (x := "pick") rfl (Ev.int (Op2.modN (b := 2) (by decide) (Op2.letter hf p2 (OpL.ord (Op2.addN (a := 65) (Ev.int (Op2.sub ?_))))))))))) rfl)))) rfl) rfl))
      rw [show ((65 + letter f (c / 8 % 2) : Nat) : Int) - 97 = ((65 + letter f (c / 8 % 2) - 97 : Nat) : Int) by lia]
      exact OpL.chrN (by lia) (Ev.sub (Ev.name (x := "letters") rfl (Ev.binop (Ev.name (x := "pick") rfl (Ev.int (Op2.modN (b := 2) (by decide) (Op2.letter hf p2 h)))))))
    · rw [if_neg g3] at h
      have hfo := getD_lt (l := fonts) (i := c / 8 / 2 % 10) (m := 120432) (by decide)
      refine Ev.sub (Ev.name (x := "fonts") rfl (Ev.binop (Ev.binop (Ev.name (x := "pick") rfl (Ev.int (Op2.divN (b := 2) (by decide) (Ev.int (Op2.modN (b := 10) (by decide) (Op2.pick (show _ < 10 from Nat.mod_lt _ (by decide)) ?_)))))))))
      generalize fonts.getD (c / 8 / 2 % 10) 0 = fo at *
      refine Ex.cons (Ex1.ret (Ev.tuple2 (Ev.call1 chr rfl (Ev.binop (Ev.binop (Ev.name (x := "first") rfl (Ev.call1 ord rfl (Ev.sub (Ev.name (x := "letters") rfl (Ev.binop (Ev.name (x := "pick") rfl (Ev.int (Op2.modN (b := 2) (by decide) (Op2.letter hf p2 (OpL.ord (Op2.addN (a := fo) (Ev.int (Op2.sub ?_))))))))))) rfl)))) rfl) rfl))
      rw [show ((fo + letter f (c / 8 % 2) : Nat) : Int) - 97 = ((fo + letter f (c / 8 % 2) - 97 : Nat) : Int) by lia]
      exact OpL.chrN (by lia) (Ev.sub (Ev.name (x := "letters") rfl (Ev.binop (Ev.name (x := "pick") rfl (Ev.int (Op2.modN (b := 2) (by decide) (Op2.letter hf p2 h)))))))
  rw [if_neg h5, if_neg h5] at h
  refine Ex.nil ?_
  refine Ex.cons (Ex1.if (Tr.cmp (Ev.name (x := "kind") rfl (Ev.int (Op2.ltN (b := 7) (OpB.bool ?_)))) rfl))
  refine ite_dec (fun h7 => ?_) fun h7 => ?_
  · rw [if_pos h7, if_pos h7] at h
    have hpm : c / 8 % (codesT.getD f []).length < (codesT.getD f []).length := Nat.mod_lt _ (by lia)
    refine Ex.cons ?_
    refine Ex1.asgPickIL (x := "codes") (y := "family") (i := f) (ns := codesT) ?_ ?_ ?_ ?_
    · exact .cons (by kernel_rfl) (by decide) (.cons (by kernel_rfl) (by decide) (.cons (by kernel_rfl) (by decide) (.cons (by kernel_rfl) (by decide) (.cons (by kernel_rfl) (by decide) (.cons (by kernel_rfl) (by decide) (.cons (by kernel_rfl) (by decide) (.cons (by kernel_rfl) (by decide) .nil)))))))
    · exact ⟨by decide, by decide +kernel, hf⟩
    · rfl
    refine Ex.cons ?_
    refine Ex1.asgSplit (x := "texts") (y := "family") (i := f) (ns := textsR) ?_ ?_ ?_ ?_ ?_
    · kernel_rfl
    · refine ⟨by decide, by decide +kernel, hf, ?_⟩
      have hb : textsR.all (fun l => decide (l.length ≤ 100)) = true := by decide
      rw [List.getD_eq_getElem?_getD, List.getElem?_eq_getElem (show f < textsR.length from hf)]
      have := of_decide_eq_true (List.all_eq_true.mp hb _ (List.getElem_mem (show f < textsR.length from hf)))
      show (textsR[f]).length ≤ _
      lia
    · rfl
    · rw [splits f hf]
      have hcl : (nums (codesT.getD f [])).length = (codesT.getD f []).length := by simp [nums]
      have hlow := code_low f (c / 8 % (codesT.getD f []).length)
      generalize hcs : codesT.getD f [] = cs at *
      generalize hts : textsT.getD f [] = ts at *
      refine Ex.cons (Ex1.ret (Ev.tuple2 (Ev.call1 chr rfl (Ev.sub (Ev.name (x := "codes") rfl (Ev.binop (Ev.name (x := "pick") rfl (Ev.call1 len rfl (Ev.name (x := "codes") rfl (OpL.len_l .list (by lia) ?_)) rfl))))) rfl) rfl))
      rw [hcl]
      refine Op2.modN (b := cs.length) (by lia) (Op2.itemN .list (nums_get hpm) (OpL.chrN (by lia) ?_) (by lia))
      refine Ev.sub (Ev.name (x := "texts") rfl (Ev.binop (Ev.name (x := "pick") rfl (Ev.call1 len rfl (Ev.name (x := "codes") rfl (OpL.len_l .list (by lia) ?_)) rfl))))
      rw [hcl]
      refine Op2.modN (b := cs.length) (by lia) (Op2.itemN .list (d := .str (ts.getD (c / 8 % cs.length) [])) ?_ h (by rw [List.length_map]; lia))
      rw [List.getElem?_map, List.getD_eq_getElem?_getD, List.getElem?_eq_getElem (by lia)]; rfl
    · rfl
  rw [if_neg h7, if_neg h7] at h
  refine Ex.nil ?_
  refine Ex.cons ?_
  refine Ex1.asgNats (x := "lone") (ns := lone) ?_ ?_ ?_
  · kernel_rfl
  · decide +kernel
  have p27 : c / 8 % 27 < 27 := Nat.mod_lt _ (by decide)
  refine Ex.cons (Ex1.ret (Ev.tuple2 (Ev.call1 chr rfl (Ev.ifexp (Tr.cmp (Ev.binop (Ev.name (x := "pick") rfl (Ev.int (Op2.modN (b := 27) (by decide) (Ev.int (Op2.ltN (b := 11) (OpB.bool ?_))))))) rfl)) rfl) rfl))
  refine ite_dec (fun h11 => ?_) fun h11 => ?_
  · rw [if_pos h11] at h
    refine Ev.sub (Ev.name (x := "lone") rfl (Ev.binop (Ev.name (x := "pick") rfl (Ev.int (Op2.modN (b := 27) (by decide) (Op2.pick h11 ?_))))))
    have := getD_lt (l := lone) (i := c / 8 % 27) (m := 65279) (by decide)
    exact OpL.chrN (by lia) (Ev.str (l := []) rfl h)
  · rw [if_neg h11] at h
    exact Ev.binop (Ev.int (Ev.binop (Ev.name (x := "pick") rfl (Ev.int (Op2.modN (b := 27) (by decide) (Op2.addN (a := 65013) (OpL.chrN (by lia) (Ev.str (l := []) rfl h))))))))
end Mine
end U20
section R1
open PySem PySem.W PyProof.Rows
set_option maxRecDepth 100000
namespace Mine
theorem fn_getattr : typeLookup (.type "function") "__getattr__" = pure none := by rw [typeLookup_type, builtinLookup_eq_fast]; kernel_rfl
theorem fn_slot_ga : Slot "function" "__getattribute__" "object.__getattribute__" :=
  .of (owner := "object") (n := "__getattribute__") (by rw [typeLookup_type, builtinLookup_eq_fast]; kernel_rfl) (by decide +kernel) (by decide +kernel) (by decide +kernel)
    (by first | exact .inl (by decide +kernel) | exact .inr (by decide +kernel)) (by rw [isSubtype_type]; kernel_rfl)
theorem fn_slot_sa : Slot "function" "__setattr__" "object.__setattr__" :=
  .of (owner := "object") (n := "__setattr__") (by rw [typeLookup_type, builtinLookup_eq_fast]; kernel_rfl) (by decide +kernel) (by decide +kernel) (by decide +kernel)
    (by first | exact .inl (by decide +kernel) | exact .inr (by decide +kernel)) (by rw [isSubtype_type]; kernel_rfl)
theorem fn_args_ga (a b : Value) : argsOk "object.__getattribute__" ⟨[a, b], []⟩ := by unfold argsOk; kernel_rfl
theorem fn_args_sa (a b c : Value) : argsOk "object.__setattr__" ⟨[a, b, c], []⟩ := by unfold argsOk; kernel_rfl
theorem fn_static : isSubtype (.type "function") (.type "staticmethod") = pure false := by rw [isSubtype_type]; kernel_rfl
theorem fn_classm : isSubtype (.type "function") (.type "classmethod") = pure false := by rw [isSubtype_type]; kernel_rfl
section
variable {prog : Program} {w : World} {A : Around} {E : Value → Shared → Prop} {h : Heap} {g : Array GenState} {d : Drawn} {t : Nat} {os : OsState}
variable {f D : Addr} {o : Obj} {fd : FuncData} {md : Str → Option Value} {name : Str} {v : Value}
theorem fn_ga_entry {tk : Tok} {Q : Fin → Shared → Prop} (hf : h.get? f = some o) (hc : o.cls = .type "function") (hd : o.dict = some D) (hdt : o.data = .func fd) (hD : h.Ns D md)
    (hnm : typeLookup (.type "function") name = pure none) (hv : md name = some v) (hq : Q (.done (.ret v)) ⟨h, g, d, t, os⟩) :
    wpAny (model prog w) A (Builtin.«object.__getattribute__» ⟨[.ref f, .str name tk], []⟩) Q E ⟨h, g, d, t, os⟩ := by
  obtain ⟨oc, od, odt, osl⟩ := o
  subst hc hd hdt
  have hT : (⟨h, g, d, t, os⟩ : Shared).TypeIs (.ref f) "function" := ⟨_, hf, rfl⟩
  have f1 := fn_static
  have f2 := fn_classm
  repeat (any_goals (first | assumption | with_reducible apply PySem.Flt.wpAny_nsGet_known | with_reducible apply PySem.Flt.wpAny_loadPart_known | wp_step))
theorem fn_load {ex : Bool} {Q : Value → Shared → Prop} (hf : h.get? f = some o) (hc : o.cls = .type "function") (hd : o.dict = some D) (hdt : o.data = .func fd) (hD : h.Ns D md)
    (hnm : typeLookup (.type "function") name = pure none) (hv : md name = some v) (hh : handedOut v = pure v) (hq : Q v ⟨h, g, d, t + 1, os⟩) :
    wpAny (model prog w) A (getAttr (.ref f) name ex) Q E ⟨h, g, d, t, os⟩ := by
  have hT : (⟨h, g, d, t, os⟩ : Shared).TypeIs (.ref f) "function" := ⟨_, hf, hc⟩
  have hT1 : (⟨h, g, d, t + 1, os⟩ : Shared).TypeIs (.ref f) "function" := ⟨_, hf, hc⟩
  have f1 := fn_slot_ga.lookup
  have f2 := fn_getattr
  have f4 := fn_slot_ga.bind (.ref f)
  cases ex
  all_goals (
    repeat (any_goals (first | assumption | (rw [if_neg (show ¬ (true && onTheHeap (Value.builtin "object.__getattribute__")) = true by decide)]) | wp_step))
    refine codeAny_call_builtin fn_slot_ga.plain F.entry_object_getattribute (fn_slot_ga.check _ _ _ _ _ _ _ _ hT1 (fn_args_ga _ _) (fn_ga_entry hf hc hd hdt hD hnm hv ?_))
    repeat (any_goals (first | assumption | wp_step)))
theorem fn_mro : mroOf (.type "function") = pure [.type "function", .type "object"] := by kernel_rfl
theorem fn_passes (self : Value) : refuseLoop self "__setattr__" [.type "function", .type "object"] = pure () := by kernel_rfl
noncomputable def OwnDict (h : Heap) (f : Addr) (o : Obj) (mA : Str → Option Value) : Prop := (o.dict = none ∧ ∀ n, mA n = none) ∨ ∃ d, o.dict = some d ∧ d ≠ f ∧ h.Ns1 d mA
theorem fn_sa_entry {mA : Str → Option Value} {tk : Tok} {Q : Fin → Shared → Prop} {ns : List Str} (hf : h.get? f = some o) (hc : o.cls = .type "function") (hdt : o.data = .func fd) (hdict : OwnDict h f o mA)
    (hnm : typeLookup (.type "function") name = pure none)
    (hq : ∀ h' tk' D', h'.get? f = some { cls := o.cls, dict := some D', data := o.data, slots := o.slots } → D' ≠ f → ((o.dict = none ∧ h.objs.size ≤ D') ∨ o.dict = some D') → h'.Ns1 D' (fun y => if y = name then some v else mA y) →
      (∀ b ob, b ≠ f → (∀ dx, o.dict = some dx → b ≠ dx) → h.get? b = some ob → h'.get? b = some ob) → h.objs.size ≤ h'.objs.size → Q (.done (.ret .none)) ⟨h', g, d, tk', os⟩)
    (hw : Within mA ns) (hsz : ns.length ≤ 100) :
    wpAny (model prog w) A (Builtin.«object.__setattr__» ⟨[.ref f, .str name tk, v], []⟩) Q E ⟨h, g, d, t, os⟩ := by
  have hT : (⟨h, g, d, t, os⟩ : Shared).TypeIs (.ref f) "function" := ⟨_, hf, hc⟩
  have hpass := fn_passes (.ref f)
  have hm := fn_mro
  unfold Builtin.«object.__setattr__»
  repeat (any_goals (first | assumption | rw [refuse_eq] | rw [hpass] | (with_reducible refine wpAny_loadPart_at hf ?_; rw [hc]) | wp_step))
  rcases hdict with ⟨hdn, hmA⟩ | ⟨dx, hdx, hne, hns⟩
  · rw [hdn, if_neg (by decide), hdt]
    have hx₁ : (h.push { cls := .type "dict", data := .dict #[] }).get? f = some o := Heap.get?_push_of_some _ hf
    have hxs : f ≠ h.objs.size := Nat.ne_of_lt (Heap.lt_size hf)
    refine wpAny_bind (wpAny_alloc' ?_)
    refine wpAny_bind (wpAny_update' hx₁ ?_)
    refine wpAny_pure ?_
    have hgd : ((h.push { cls := .type "dict", data := .dict #[] }).update f fun o => { cls := o.cls, dict := some h.objs.size, data := o.data, slots := o.slots }).get? h.objs.size
        = some { cls := .type "dict", data := .dict #[] } :=
      (Heap.get?_update_ne _ _ _ _ hxs.symm).trans (Heap.get?_push_at rfl rfl)
    have hnd : ((h.push { cls := .type "dict", data := .dict #[] }).update f fun o => { cls := o.cls, dict := some h.objs.size, data := o.data, slots := o.slots }).Ns h.objs.size (fun _ => none) :=
      ⟨_, #[], _, hgd, rfl, fun e he => absurd he (by simp), fun _ => rfl⟩
    show wpAny _ _ (Builtin.ObjectAttr.storeInDict h.objs.size (.str name tk) name v) _ _ _
    unfold Builtin.ObjectAttr.storeInDict Builtin.ObjectAttr.newKeyGuard
    refine wpAny_bind (wpAny_pure (wpAny_bind (wpAny_nsSet1 (Heap.Ns1.of_empty hnd) fun h' hn' hs => ?_)))
    obtain ⟨oD, esD, epD, hoD, hdD, hcD⟩ := hn'.count (Within.cons name v Within.nil)
    refine wpAny_bind (wpAny_lookBehind hoD (by rw [hdD]; exact pastItsLine_dict (Nat.le_trans hcD (by rw [List.length_cons, List.length_nil, sizeLine_eq]; omega))) ?_)
    wp_walk
    refine hq h' _ h.objs.size ?_ hxs.symm (.inl ⟨hdn, Nat.le_refl _⟩) ?_ (fun b ob hbx _ hb => ?_) ?_
    · refine (hs.2 f hxs).trans (Heap.get?_update_self _ hx₁ ?_)
      have hfr := (Heap.get?_some_iff.mp hf).2
      obtain ⟨oc, od, odt, osl⟩ := o
      cases odt <;> first | rfl | exact hfr
    · obtain ⟨o', es, ep, e1, e2, e3, eu, e4⟩ := hn'
      exact ⟨o', es, ep, e1, e2, e3, eu, fun y => by rw [e4 y]; by_cases hy : y = name <;> simp [hy, hmA]⟩
    · exact (hs.2 b (Nat.ne_of_lt (Heap.lt_size hb))).trans ((Heap.get?_update_ne _ _ _ _ hbx).trans (Heap.get?_push_of_some _ hb))
    · rw [hs.1, Heap.size_update, Heap.size_push]; exact Nat.le_succ _
  · rw [hdx]
    refine wpAny_pure ?_
    show wpAny _ _ (Builtin.ObjectAttr.storeInDict dx (.str name tk) name v) _ _ _
    unfold Builtin.ObjectAttr.storeInDict Builtin.ObjectAttr.newKeyGuard
    refine wpAny_bind (wpAny_pure (wpAny_bind (wpAny_nsSet1 hns fun h' hn' hs => ?_)))
    obtain ⟨oD, esD, epD, hoD, hdD, hcD⟩ := hn'.count (Within.cons name v hw)
    refine wpAny_bind (wpAny_lookBehind hoD (by rw [hdD]; exact pastItsLine_dict (Nat.le_trans hcD (by rw [List.length_cons, sizeLine_eq]; omega))) ?_)
    wp_walk
    refine hq h' _ dx ?_ hne (.inr hdx) hn' (fun b ob _ hbd hb => ?_) (Nat.le_of_eq hs.1.symm)
    · rw [← hdx]; exact (hs.2 f hne.symm).trans hf
    · exact (hs.2 b (hbd dx hdx)).trans hb
theorem fn_store {mA : Str → Option Value} {Q : Unit → Shared → Prop} {ns : List Str} (hf : h.get? f = some o) (hc : o.cls = .type "function") (hdt : o.data = .func fd) (hdict : OwnDict h f o mA)
    (hnm : typeLookup (.type "function") name = pure none)
    (hq : ∀ h' tk' D', h'.get? f = some { cls := o.cls, dict := some D', data := o.data, slots := o.slots } → D' ≠ f → ((o.dict = none ∧ h.objs.size ≤ D') ∨ o.dict = some D') → h'.Ns1 D' (fun y => if y = name then some v else mA y) →
      (∀ b ob, b ≠ f → (∀ dx, o.dict = some dx → b ≠ dx) → h.get? b = some ob → h'.get? b = some ob) → h.objs.size ≤ h'.objs.size → Q () ⟨h', g, d, tk', os⟩)
    (hw : Within mA ns) (hsz : ns.length ≤ 100) : wpAny (model prog w) A (setAttr (.ref f) name v) Q E ⟨h, g, d, t, os⟩ := by
  have hT : (⟨h, g, d, t, os⟩ : Shared).TypeIs (.ref f) "function" := ⟨_, hf, hc⟩
  have hT1 : (⟨h, g, d, t + 1, os⟩ : Shared).TypeIs (.ref f) "function" := ⟨_, hf, hc⟩
  have f1 := fn_slot_sa.lookup
  have f3 := fn_slot_sa.bind (.ref f)
  unfold setAttr callSpecial? specialOf
  repeat (any_goals (first | assumption | wp_step))
  refine codeAny_call_builtin fn_slot_sa.plain PySem.F.store_object.entry (fn_slot_sa.check _ _ _ _ _ _ _ _ hT1 (fn_args_sa _ _ _) (fn_sa_entry hf hc hdt hdict hnm (fun h' tk' D' a b c e k z => ?_) hw hsz))
  repeat (any_goals (first | assumption | wp_step))
  exact hq h' tk' D' a b c e k z
end
end Mine
end R1
section R2
open PySem PySem.W PyProof.Rows
set_option maxRecDepth 100000
namespace Mine
noncomputable def okLam (x y : String) (sc : Scope) : Bool :=
  sc.names.all (fun p => p.2 != .cell && (p.2 != .free || p.1 == Str.ofString y)) && sc.names.lookup (Str.ofString x) == some .local && sc.names.lookup (Str.ofString y) == some .free && !sc.isCoroutine && !sc.isGenerator && sc.kind == .function
theorem lam_call {C : Cx} {k : Nat} {σ : Sto} {K : PV → Sto → Prop} {sc : Scope} {body : Expr} {x y : String} {a b : List Nat} {i : Int} {A : Around} {P : Addr → Prop} {s : Shared} {g c : Addr} {og : Obj} {gd : FuncData} {v vf : Value}
    (hr : Room A (k + 1)) (H : Hp C P σ s.heap) (htb : C.tb = []) (hg : s.heap.get? g = some og) (hd : og.data = .func gd) (hcd : s.heap.CodeRec gd.code gd.qualname) (hbody : gd.body = .expr body) (hsc : gd.scope = sc)
    (hcl : gd.closure = [(Str.ofString y, c)]) (hgl : gd.globals = mainGlobals) (hbl : gd.builtins = builtinsNs) (hbind : bindArgs gd ⟨[v], []⟩ = pure [(Str.ofString x, v)]) (ok : okLam x y sc = true)
    (hv : ∀ P h, Rd C.X P h v (.str a)) (hvf : ∀ P h, Rd C.X P h vf (.str b)) (hc : s.heap.IsCell c (some vf)) (hlow : C.base ≤ c)
    (h : Ev C k sc [(x, .str a), (y, .str b)] [] body fun d σ' => σ' = [] ∧ d = .int i) (hK : K (.int i) σ) :
    wpAny (model C.prog C.w) A (PySem.call (.ref g) [v]) (Out C P σ s K) NoE s := by
  simp only [okLam, Bool.and_eq_true] at ok
  obtain ⟨⟨⟨⟨⟨ok1, ok2⟩, ok3⟩, ok4⟩, ok5⟩, ok6⟩ := ok
  have ok2 := eq_of_beq ok2
  have ok3 := eq_of_beq ok3
  have ok6 : sc.kind = .function := eq_of_beq ok6
  subst hsc
  have hxy : Str.ofString x ≠ Str.ofString y := fun q => by rw [q, ok3] at ok2; cases ok2
  have hxy' : y ≠ x := fun q => hxy (by rw [q])
  refine wpAny_call (kla_callFunE hr.limit hg hd (by simpa using ok4) (by simpa using ok5) hbody hcd ?_)
  rw [hbind]
  refine wpAny_pure (wpAny_newFunctionEnv (fun p hp => ?_) (fun p hp => ?_) (fun h₁ hns hsb => ?_) ok6)
  · have := List.all_eq_true.mp ok1 p hp
    simp only [Bool.and_eq_true] at this
    exact bne_iff_ne.mp this.1
  · rw [List.mem_singleton.mp hp]; exact ok2
  have hk₁ : ∀ b o, s.heap.get? b = some o → h₁.get? b = some o := fun b o e => hsb.extBut b o (Nat.ne_of_lt (Heap.lt_size e)) (Heap.get?_push_of_some _ e)
  have hz₁ : h₁.objs.size = s.heap.objs.size + 1 := by rw [hsb.1, Heap.size_push]
  refine ⟨(C.nolimit H.gi).keeps hk₁, ?_⟩
  generalize henv : newEnv gd.scope s.heap.objs.size gd.globals gd.closure (gd.qualname ++ ".<locals>.") (some g) gd.code none gd.builtins = env
  have e1 : env.scope = gd.scope := by rw [← henv]; rfl
  have e2 : env.locals = s.heap.objs.size := by rw [← henv]; rfl
  have e3 : env.cells = [(Str.ofString y, c)] := by rw [← henv]; exact hcl
  have hkd : env.kindOf = fun n => gd.scope.names.lookup n := by funext n; unfold Env.kindOf; rw [e1]
  obtain ⟨oc, hoc, hdc⟩ := hc
  have hlt : c < s.heap.objs.size := Heap.lt_size hoc
  have hcell : h₁.IsCell c (some vf) := ⟨oc, hk₁ _ _ hoc, hdc⟩
  have look : ∀ z c', env.cells.lookup z = some c' → z = Str.ofString y ∧ c' = c := fun z c' hz => by
    rw [e3] at hz
    by_cases q : z = Str.ofString y
    · subst q; rw [List.lookup_cons_self] at hz; exact ⟨rfl, (Option.some.inj hz).symm⟩
    · rw [List.lookup_cons, beq_false_of_ne q] at hz; cases hz
  have lookY : env.cells.lookup (Str.ofString y) = some c := by rw [e3]; exact List.lookup_cons_self
  have ns : h₁.Ns env.locals (fun x' => [(Str.ofString x, v)].reverse.lookup x') := e2 ▸ hns
  have E : EnvOk env h₁ := by
    refine ⟨by rw [e1]; exact ok6, by rw [← henv]; exact hgl, by rw [← henv]; exact hbl, ⟨_, ns⟩, fun z c' hz => ?_, fun z z' c' hz hz' => (look z c' hz).1.trans (look z' c' hz').1.symm, fun z hz => ?_⟩
    · obtain ⟨_, rfl⟩ := look z c' hz
      exact ⟨by rw [e2]; exact Nat.ne_of_lt hlt, _, hcell⟩
    · rw [hkd] at hz
      rcases hz with hz | hz
      · have := List.all_eq_true.mp ok1 _ (Mine.mem_of_lookup hz)
        simp at this
      · have := List.all_eq_true.mp ok1 _ (Mine.mem_of_lookup hz)
        simp at this
        exact ⟨c, by rw [this]; exact lookY⟩
  have gi₁ : C.gi h₁ := C.keep H.gi (fun b o _ e => hk₁ b o e) (by rw [hz₁]; exact Nat.le_succ _)
  have lo : C.base ≤ s.heap.objs.size := C.low H.gi
  have I : Inv C (fun a => a < h₁.objs.size) env [(x, .str a), (y, .str b)] [] h₁ := by
    refine ⟨⟨gi₁, fun a ao hm => absurd hm List.not_mem_nil, (fun a ha => by rw [htb] at ha; cases ha), (fun a ha => by cases ha), List.nodup_nil, fun a q => q⟩, E, fun z d hz => ?_, fun a ha => ?_⟩
    · by_cases q : z = x
      · subst q
        rw [List.lookup_cons_self] at hz; cases hz
        exact ⟨v, .loc (by rw [hkd]; exact ok2) ns (by simp), hv _ _⟩
      · rw [List.lookup_cons, beq_false_of_ne q] at hz
        by_cases q : z = y
        · subst q
          rw [List.lookup_cons_self] at hz; cases hz
          exact ⟨vf, .cell (.inr (by rw [hkd]; exact ok3)) lookY hcell, hvf _ _⟩
        · rw [List.lookup_cons, beq_false_of_ne q] at hz; cases hz
    · rcases ha with ha | ⟨z, hz⟩
      · subst ha
        exact ⟨by rw [e2, hz₁]; exact Nat.lt_succ_self _, by rw [e2]; exact lo, fun q => by cases q⟩
      · obtain ⟨_, rfl⟩ := look z a hz
        exact ⟨by rw [hz₁]; exact Nat.lt_succ_of_lt hlt, hlow, fun q => by cases q⟩
  refine kla_codeExpr (wpAny_mono (h (A.deeper env) _ env _ e1 (hr.deeper env) I) (fun w s' o => ?_) fun _ _ x => x.elim)
  obtain ⟨d, σ', ⟨rfl, rfl⟩, hA, rw'⟩ := o
  have kk : ∀ b o, s.heap.get? b = some o → s'.heap.get? b = some o := fun b o e => hA.step.kept b o (fun q => by cases q) (fun q => by rw [htb] at q; cases q) (fun q => q) (hk₁ b o e)
  have zz : s.heap.objs.size ≤ s'.heap.objs.size := Nat.le_trans (by rw [hz₁]; exact Nat.le_succ _) hA.step.size
  obtain ⟨t, rfl⟩ := rw'.intE
  have AA := After.kept (n := s'.toks) H kk zz
  refine ⟨.int i, σ, hK, ⟨⟨fun b o _ _ _ e => kk b o e, zz, fun _ q => .inl q, hA.step.gens, hA.step.os⟩, AA.hp⟩, .int i t⟩
end Mine
end R2
section R3
open PySem PySem.W PyProof.Rows
set_option maxRecDepth 100000
namespace Mine
noncomputable def IsS (w : Value) (l : List Nat) : Prop := ∃ x t, w = .str x t ∧ x.cps.toList = l
theorem IsS.rd {X P h w l} (q : IsS w l) : Rd X P h w (.str l) := by obtain ⟨x, t, rfl, rfl⟩ := q; exact .str x t
theorem Rd.isS {X P h w l} (r : Rd X P h w (.str l)) : IsS w l := by cases r with | str x t => exact ⟨x, t, rfl, rfl⟩
set_option genInjectivity false in
structure LamT where
  prm : Arguments
  bdy : Expr
  sc : Scope
set_option genInjectivity false in
structure RuleAt (base : Nat) (T : LamT) (fr vd : List Nat) (path : Option (List Nat)) (P : Addr → Prop) (h : Heap) (f D g c cc : Addr) : Prop where
  ap : ¬ P f ∧ ¬ P D ∧ ¬ P g ∧ ¬ P c ∧ ¬ P cc
  low : base ≤ c
  fo : ∃ o fd, h.get? f = some o ∧ o.cls = .type "function" ∧ o.dict = some D ∧ o.data = .func fd
  ne : D ≠ f
  md : ∃ md, h.Ns1 D md ∧ (∃ ns, Within md ns ∧ ns.length ≤ 50) ∧ md (Str.ofString "applies_to") = some (.ref g) ∧ (∃ w, md (Str.ofString "allowance") = some w ∧ IsS w vd) ∧ ∀ p, path = some p → ∃ w, md (Str.ofString "path") = some w ∧ IsS w p
  go : ∃ nm qual pm ctv, h.get? g = some (kla_obj nm qual T.prm T.bdy T.sc [(Str.ofString "front", c)] pm cc ctv) ∧ h.CodeRec (.ref cc) qual
  cell : ∃ w, h.IsCell c (some w) ∧ IsS w fr
noncomputable def RuleIs (base : Nat) (T : LamT) (x : List (List Nat)) (P : Addr → Prop) (h : Heap) (v : Value) : Prop :=
  ∃ fr vd rest f D g c cc, x = fr :: vd :: rest ∧ v = .ref f ∧ RuleAt base T fr vd rest.head? P h f D g c cc
theorem RuleAt.pass {base T fr vd path P h P' h' f D g c cc} (r : RuleAt base T fr vd path P h f D g c cc) (q : Pass P h P' h') : RuleAt base T fr vd path P' h' f D g c cc := by
  obtain ⟨⟨n1, n2, n3, n4, n5⟩, low, ⟨o, fd, ho, hc, hd, hdt⟩, ne, ⟨md, hD, mw, m1, m2, m3⟩, ⟨nm, qual, pm, ctv, hg, hcr⟩, ⟨w, ⟨ow, how, hdw⟩, hw⟩⟩ := r
  have hD' : h'.Ns1 D md := hD.at fun o e => (q _ _ n2 e).1
  obtain ⟨oD, es, ep, hoD, rest⟩ := hD.ns
  obtain ⟨cc', oc, vs, tq, e, hoc, hcd, hq⟩ := hcr
  have e' : cc = cc' := Value.ref.inj e
  subst e'
  exact ⟨⟨(q _ _ n1 ho).2, (q _ _ n2 hoD).2, (q _ _ n3 hg).2, (q _ _ n4 how).2, (q _ _ n5 hoc).2⟩, low, ⟨o, fd, (q _ _ n1 ho).1, hc, hd, hdt⟩, ne, ⟨md, hD', mw, m1, m2, m3⟩,
    ⟨nm, qual, pm, ctv, (q _ _ n3 hg).1, cc, oc, vs, tq, rfl, (q _ _ n5 hoc).1, hcd, hq⟩, ⟨w, ⟨ow, (q _ _ n4 how).1, hdw⟩, hw⟩⟩
theorem RuleIs.pass {base T x P h P' h' v} (r : RuleIs base T x P h v) (q : Pass P h P' h') : RuleIs base T x P' h' v :=
  let ⟨fr, vd, rest, f, D, g, c, cc, e1, e2, r⟩ := r; ⟨fr, vd, rest, f, D, g, c, cc, e1, e2, r.pass q⟩
noncomputable def RulesX (C : Cx) (T : LamT) : Prop := ∀ x P h v, C.X 0 x P h v ↔ RuleIs C.base T x P h v
section
variable {C : Cx} {T : LamT} {k : Nat} {σ : Sto} {K : PV → Sto → Prop} {fr vd : List Nat} {rest : List (List Nat)}
theorem Op1.allowance (X : RulesX C T) (hnm : typeLookup (.type "function") (Str.ofString "allowance") = pure none) (h : K (.str vd) σ) : Op1 C k σ (.ext 0 (fr :: vd :: rest)) (fun v => getAttr v (Str.ofString "allowance") true) K := fun A P s v hr H r => by
  have q := r.extE
  obtain ⟨fr', vd', rest', f, D, g, c, cc, e, rfl, R⟩ := (X _ _ _ _).mp q
  cases e
  obtain ⟨o, fd, ho, hc, hd, hdt⟩ := R.fo
  obtain ⟨md, hD, mw, m1, ⟨w, hw, hs⟩, m3⟩ := R.md
  obtain ⟨hh, g', dd, t, os⟩ := s
  have hh2 : handedOut w = pure w := by obtain ⟨x, t, rfl, _⟩ := hs; rfl
  exact fn_load ho hc hd hdt hD.ns hnm hw hh2 (Out.here (tk := t + 1) H hs.rd h)
theorem Op1.path {p : List Nat} (X : RulesX C T) (hnm : typeLookup (.type "function") (Str.ofString "path") = pure none) (h : K (.str p) σ) : Op1 C k σ (.ext 0 [fr, vd, p]) (fun v => getAttr v (Str.ofString "path") true) K := fun A P s v hr H r => by
  have q := r.extE
  obtain ⟨fr', vd', rest', f, D, g, c, cc, e, rfl, R⟩ := (X _ _ _ _).mp q
  cases e
  obtain ⟨o, fd, ho, hc, hd, hdt⟩ := R.fo
  obtain ⟨md, hD, mw, m1, m2, m3⟩ := R.md
  obtain ⟨w, hw, hs⟩ := m3 p rfl
  obtain ⟨hh, g', dd, t, os⟩ := s
  have hh2 : handedOut w = pure w := by obtain ⟨x, t, rfl, _⟩ := hs; rfl
  exact fn_load ho hc hd hdt hD.ns hnm hw hh2 (Out.here (tk := t + 1) H hs.rd h)
end
theorem fn_no_allow : typeLookup (.type "function") (Str.ofString "allowance") = pure none := by rw [typeLookup_type, builtinLookup_eq_fast]; kernel_rfl
theorem fn_no_path : typeLookup (.type "function") (Str.ofString "path") = pure none := by rw [typeLookup_type, builtinLookup_eq_fast]; kernel_rfl
theorem fn_no_applies : typeLookup (.type "function") (Str.ofString "applies_to") = pure none := by rw [typeLookup_type, builtinLookup_eq_fast]; kernel_rfl
theorem fn_canon : (Manifest.canonical "object.__getattribute__" != "object.__getattribute__") = false := by decide +kernel
section
variable {prog : Program} {w : World} {A : Around} {E : Value → Shared → Prop} {h : Heap} {g : Array GenState} {d : Drawn} {t : Nat} {os : OsState}
variable {f D : Addr} {o : Obj} {fd : FuncData} {md : Str → Option Value} {name : Str} {v : Value}
theorem fn_method {pl : Sem Bool} {Q : Value × List Value → Shared → Prop} (hf : h.get? f = some o) (hc : o.cls = .type "function") (hd : o.dict = some D) (hdt : o.data = .func fd) (hD : h.Ns D md)
    (hnm : typeLookup (.type "function") name = pure none) (hv : md name = some v) (hh : handedOut v = pure v) (hq : Q (v, []) ⟨h, g, d, t + 1, os⟩) :
    wpAny (model prog w) A (getMethod (.ref f) name pl) Q E ⟨h, g, d, t, os⟩ := by
  have hT : (⟨h, g, d, t, os⟩ : Shared).TypeIs (.ref f) "function" := ⟨_, hf, hc⟩
  have f1 := fn_slot_ga.lookup
  have f2 := fn_getattr
  unfold getMethod
  refine wpAny_bind (wpAny_specialOf hT f1 ?_)
  show wpAny _ A (if (Manifest.canonical "object.__getattribute__" != "object.__getattribute__") = true then _ else _) Q E _
  rw [fn_canon, if_neg (by decide)]
  refine wpAny_bind (wpAny_specialOf hT f2 ?_)
  show wpAny _ A _ Q E _
  refine wpAny_bind (wpAny_specialOf hT hnm ?_)
  exact wpAny_bind (fn_load hf hc hd hdt hD hnm hv hh (wpAny_pure hq))
end
noncomputable def applN (fr nm : List Nat) : Nat := if nm.take fr.length = fr then fr.length + 1 else 0
theorem Ev.applies {C : Cx} {T : LamT} {k : Nat} {sc : Scope} {ρ : Lo} {σ : Sto} {o : Expr} {apos pos : Pos} {e₁ : Expr} {K : PV → Sto → Prop} (X : RulesX C T) (htb : C.tb = [])
    (hlam : ∀ fr nm : List Nat, fr.length ≤ 10000 → (∀ c ∈ fr, c < 0x110000) → nm.length ≤ 10000 → (∀ c ∈ nm, c < 0x110000) → Ev C k T.sc [("name", .str nm), ("front", .str fr)] [] T.bdy fun d σ' => σ' = [] ∧ d = .int (applN fr nm : Nat))
    (ok : okLam "name" "front" T.sc = true) (hbind : ∀ nm qual cl pm cc ctv v, bindArgs (kla_fn nm qual T.prm T.bdy T.sc cl pm cc ctv) ⟨[v], []⟩ = pure [(Str.ofString "name", v)])
    (h : Ev C (k + 1) sc ρ σ o fun a σ₁ => ∃ fr vd rest, a = .ext 0 (fr :: vd :: rest) ∧ fr.length ≤ 10000 ∧ (∀ c ∈ fr, c < 0x110000) ∧ Ev C (k + 1) sc ρ σ₁ e₁ fun d σ₂ => ∃ nm, d = .str nm ∧ nm.length ≤ 10000 ∧ (∀ c ∈ nm, c < 0x110000) ∧ K (.int (applN fr nm : Nat)) σ₂)
    (hp : [e₁].all plainE = true) (hline : (apos.endLine == pos.line) = true) (hbase : ∀ env, attributeBase o (Str.ofString "applies_to") env (eval o env) = eval o env) :
    Ev C (k + 1) sc ρ σ (.Call (.Attribute o (Str.ofString "applies_to") apos) [e₁] [] pos) K := fun A P env s he hr I => by
  rw [arm_eval_Call, hbase env]
  refine wpAny_bind (ev_one h he hr I fun v d₁ σ₁ s₁ hK hA r => ?_)
  obtain ⟨fr, vd, rest, rfl, hfl, hfc, hK⟩ := hK
  have q := r.extE
  obtain ⟨fr', vd', rest', f, D, g, c, cc, e, rfl, R⟩ := (X _ _ _ _).mp q
  cases e
  refine wpAny_bind (wpAny_standAt ?_)
  have hform : methodCallForm ([e₁].length + ([] : List Keyword).length) (backTo pos (starEach [e₁] env)) (backToKw pos (keywordEach [] env)) = true := by
    unfold methodCallForm
    rw [plain_trees' hp]
    simp [keywordEach, backToKw]
  have hpos : methodCallPos true o env apos pos = pure pos := by unfold methodCallPos; simp [hline]
  unfold methodCall
  rw [hform]
  obtain ⟨of, fd, ho, hc, hd, hdt⟩ := R.fo
  obtain ⟨md, hD, mw, m1, m2, m3⟩ := R.md
  have I₁ := I.after hA
  have hL : EvL C (k + 1) sc ρ σ₁ [e₁] fun ds σ₂ => ∃ nm, ds = [.str nm] ∧ nm.length ≤ 10000 ∧ (∀ c ∈ nm, c < 0x110000) ∧ K (.int (applN fr nm : Nat)) σ₂ :=
    Ev.mono hK fun d σ₂ ⟨nm, e, q⟩ => ⟨nm, by rw [e], q⟩
  have fin : ∀ tk, wpAny (model C.prog C.w) A (callWith pos (.ref g) [] (backTo pos (starEach [e₁] env)) []) (Out C P σ s K) NoE { s₁ with toks := tk } := fun tk => by
    refine callWith_of (P := fun h' => ∃ o fd, h'.get? g = some o ∧ o.data = .func fd) (by rw [plain_trees hp]; rfl) (fun h' ⟨og, gd, hog, hgd⟩ => ⟨.frame, .inl rfl, (Looks.ld (part := Option.none) hog).andThen (by rw [hgd]; exact Looks.now)⟩) (evalArgs_of (plain_trees hp) ?_)
    have hAt : After C P σ s σ₁ { s₁ with toks := tk } := hA.trans I.hp (After.toks hA.hp)
    refine wpAny_mono (evL_spliced he hr hL hp (I.after hAt)) (fun vs s₂ out => ?_) fun _ _ x => x
    obtain ⟨ds, σ₂, ⟨nm, rfl, hnl, hnc, hK₂⟩, hA₂, r₂⟩ := out
    have hA₃ := hAt.trans I.hp hA₂
    have R₂ := (R.pass (hA₂.pass hAt.hp)).pass (Pass.less PP_up)
    obtain ⟨nmm, qual, pm, ctv, hg, hcr⟩ := R₂.go
    obtain ⟨w, hcell, hw⟩ := R₂.cell
    refine ⟨⟨_, _, hg, rfl⟩, ?_⟩
    cases r₂ with | cons r₂ r₃ =>
    cases r₃
    refine wp_seq hA₃ I.hp ?_
    exact lam_call (i := (applN fr nm : Nat)) hr hA₃.hp htb hg rfl hcr rfl rfl rfl rfl rfl (hbind ..) ok (fun P h => r₂.isS.rd) (fun P h => hw.rd) hcell R₂.low (hlam fr nm hfl hfc hnl hnc) hK₂
  obtain ⟨hh, g', dd, t, os⟩ := s₁
  exact wpAny_bind (wpAny_holding (fn_method ho hc hd hdt hD.ns fn_no_applies m1 rfl (wpAny_bind (wpAny_of_eq hpos (fin _)))))
end Mine
end R3
section R4
open PySem PySem.W PyProof.Rows
set_option maxRecDepth 100000
namespace Mine
noncomputable def TabAt (qual : Str) (P : Addr → Prop) (h : Heap) (T : Addr) : Prop :=
  ∃ ps, h.get? T = some (tabObj ps) ∧ TriplesOk ps.toList ∧ ∀ pos cv, codeAmong pos ps.toList = some cv → ∃ cc, cv = .ref cc ∧ ¬ P cc ∧ cc ≠ T ∧ h.CodeRec (.ref cc) qual
theorem codeRec_kept {h h' : Heap} {cc : Addr} {q : Str} (r : h.CodeRec (.ref cc) q) (k : ∀ o, h.get? cc = some o → h'.get? cc = some o) : h'.CodeRec (.ref cc) q := by
  obtain ⟨cc', oc, vs, tq, e, hoc, hcd, hq⟩ := r
  have e' : cc = cc' := Value.ref.inj e
  subst e'
  exact ⟨cc, oc, vs, tq, rfl, k _ hoc, hcd, hq⟩
theorem codeRec_lt {h : Heap} {cc : Addr} {q : Str} (r : h.CodeRec (.ref cc) q) : ∃ o, h.get? cc = some o := by
  obtain ⟨cc', oc, vs, tq, e, hoc, hcd, hq⟩ := r
  have e' : cc = cc' := Value.ref.inj e
  subst e'
  exact ⟨oc, hoc⟩
theorem TabAt.pass {q : Str} {P P' : Addr → Prop} {h h' : Heap} {T : Addr} (t : TabAt q P h T) (g : Pass P h P' h') (k : ∀ o, h.get? T = some o → h'.get? T = some o) : TabAt q P' h' T := by
  obtain ⟨ps, e, tr, c⟩ := t
  refine ⟨ps, k _ e, tr, fun pos cv hcv => ?_⟩
  obtain ⟨cc, rfl, n, nT, r⟩ := c pos cv hcv
  obtain ⟨o, ho⟩ := codeRec_lt r
  exact ⟨cc, rfl, (g _ _ n ho).2, nT, codeRec_kept r fun o ho => (g _ _ n ho).1⟩
theorem TabAt.lt {q : Str} {P : Addr → Prop} {h : Heap} {T : Addr} (t : TabAt q P h T) : T < h.objs.size := let ⟨_, e, _⟩ := t; Heap.lt_size e
theorem codeAmong_more {pos pos' : Pos} {c' cv : Value} (l : List Value) (h : TriplesOk l) (e : codeAmong pos (l ++ [rawInt pos'.line, rawInt pos'.col, c']) = some cv) : codeAmong pos l = some cv ∨ cv = c' := by
  fun_induction TriplesOk l with
  | case1 =>
    simp only [List.nil_append, codeAmong, rawInt] at e
    split at e
    · exact .inr (Option.some.inj e).symm
    · cases e
  | case2 a t b u x rest ih =>
    simp only [List.cons_append, codeAmong] at e ⊢
    split at e
    · rename_i hc; rw [if_pos hc]; exact .inl e
    · rename_i hc; rw [if_neg hc]; exact ih h e
  | case3 l h1 h2 => exact h.elim
section
variable {M : Model} {A : Around} {E : Value → Shared → Prop} {s : Shared} {qual : Str} {params : Arguments} {body : Expr} {scope : Scope} {env : Env} {c T : Addr} {pos : Pos} {mg : Str → Option Value} {clos : List (Str × Addr)} {Q : Value → Shared → Prop} {P : Addr → Prop}
theorem lam_make (hdef : defaultsOf params env = ([], [])) (hq : env.qual ++ "<lambda>" = qual) (hcl : closureFor scope env = pure clos) (hge0 : env.globals = mainGlobals) (hg : s.heap.Ns mainGlobals mg) (hcode : env.code = .ref c) (H : CodeHd s.heap c T)
    (tab : TabAt qual P s.heap T) (hgT : mainGlobals ≠ T) (hb : s.heap.BuiltinsAt mg T) (plt : ∀ a, P a → a < s.heap.objs.size)
    (h : ∀ h' tk cc ctv, (∀ b o, b ≠ T → s.heap.get? b = some o → h'.get? b = some o) → s.heap.objs.size ≤ h'.objs.size → TabAt qual P h' T → h'.CodeRec (.ref cc) qual → ¬ P cc → cc ≠ T →
      Q (.ref h'.objs.size) { s with heap := h'.push (kla_obj "<lambda>" qual params body scope clos ((mg "__name__").getD .none) cc ctv), toks := tk }) :
    wpAny M A (eval (.Lambda params body scope pos) env) Q E s := by
  refine kla_eval hdef ?_
  rw [hq]
  obtain ⟨ps, hP, ht, hc⟩ := id tab
  cases hca : codeAmong pos ps.toList with
  | none =>
    refine kla_makeFunction hcl hge0 hg hcode H hP ht hca hgT hb fun c' ctv h' tk hx hge hlt hrec htb => ?_
    have hcT : c' ≠ T := Nat.ne_of_gt (Nat.lt_of_lt_of_le (Heap.lt_size hP) hge)
    have hsz : s.heap.objs.size ≤ h'.objs.size := Nat.le_of_lt (Nat.lt_of_le_of_lt hge hlt)
    have nP : ¬ P c' := fun q => Nat.not_lt.mpr hge (plt c' q)
    refine h h' tk c' ctv (fun b o hb' e => hx b o hb' e) hsz ⟨_, htb, ?_, fun pos' cv hcv => ?_⟩ hrec nP hcT
    · have e : (ps ++ #[rawInt pos.line, rawInt pos.col, Value.ref c']).toList = ps.toList ++ [rawInt pos.line, rawInt pos.col, .ref c'] := by simp
      rw [e]; exact TriplesOk_snoc _ _ _ _ ht
    · have e : (ps ++ #[rawInt pos.line, rawInt pos.col, Value.ref c']).toList = ps.toList ++ [rawInt pos.line, rawInt pos.col, .ref c'] := by simp
      rw [e] at hcv
      rcases codeAmong_more _ ht hcv with q | q
      · obtain ⟨cc, rfl, n, nT, r⟩ := hc pos' cv q
        exact ⟨cc, rfl, n, nT, codeRec_kept r fun o ho => hx _ _ nT ho⟩
      · exact ⟨c', q, nP, hcT, hrec⟩
  | some cv =>
    obtain ⟨cc, rfl, n, nT, r⟩ := hc pos cv hca
    refine kla_makeFunctionHit hcl hge0 hg hcode H hP ht hca hb fun ctv h' tk hk hsz => ?_
    exact h h' tk cc ctv (fun b o _ e => hk b o e) hsz ⟨ps, hk _ _ hP, ht, fun pos' cv hcv => let ⟨cc, e, n, nT, r⟩ := hc pos' cv hcv; ⟨cc, e, n, nT, r.keeps hk⟩⟩ (r.keeps hk) n nT
end
theorem mem_other : ∀ {σ : Sto} {a : Addr} {ao : AO}, (a, ao) ∈ σ → (dom σ).Nodup → ∀ b ao', (b, ao') ∈ σ → (b = a ∧ ao' = ao) ∨ ((b, ao') ∈ σ ∧ a ≠ b ∧ a ∉ ao'.more)
  | p :: r, a, ao, hm, hn, b, ao', hb => by
    have hn' : (Mine.dom r).Nodup := (List.nodup_append.mp (List.nodup_cons.mp hn).2).2.1
    rcases List.mem_cons.mp hm with e | hm2
    · subst e
      rcases List.mem_cons.mp hb with e | hb'
      · cases e; exact .inl ⟨rfl, rfl⟩
      · refine .inr ⟨hb, ?_⟩
        have h1 : a ∉ Mine.dom r := fun q => (List.nodup_cons.mp hn).1 (List.mem_append_right _ q)
        exact ⟨fun q => h1 (mem_dom hb' _ (.inl q)), fun q => h1 (mem_dom hb' _ (.inr q))⟩
    · rcases List.mem_cons.mp hb with e | hb'
      · refine .inr ⟨hb, ?_⟩
        subst e
        have ha : a ∈ Mine.dom r := mem_dom (σ := r) hm2 a (.inl rfl)
        refine ⟨fun q => (List.nodup_cons.mp hn).1 (List.mem_append_right _ (q ▸ ha)), fun q => ?_⟩
        exact (List.nodup_append.mp (List.nodup_cons.mp hn).2).2.2 _ q _ ha rfl
      · rcases mem_other hm2 hn' b ao' hb' with h | h
        · exact .inl h
        · exact .inr ⟨hb, h.2⟩
theorem After.tab {C : Cx} {P : Addr → Prop} {σ : Sto} {s s' : Shared} {T : Addr} (H : Hp C P σ s.heap) (hT : (T, AO.tab) ∈ σ) (htab : C.tab T) (k : ∀ b o, b ≠ T → s.heap.get? b = some o → s'.heap.get? b = some o) (hz : s.heap.objs.size ≤ s'.heap.objs.size)
    (t : C.T (PP P σ) s'.heap T) (hg : s'.gens = s.gens) (ho : s'.os = s.os) : After C P σ s σ s' := by
  have hd : T ∈ dom σ := mem_dom hT T (.inl rfl)
  have g : Pass P s.heap (PP P σ) s'.heap := fun a o na e => ⟨k a o (fun q => na (q ▸ (H.pdom T hd).1)) e, fun q => q.elim na fun q => na (H.pdom a q).1⟩
  refine ⟨⟨fun b o h1 _ _ e => k b o (fun q => h1 (q ▸ hd)) e, hz, fun a ha => .inl ha, hg, ho⟩, ?_⟩
  refine ⟨C.keep H.gi (fun b o hb e => k b o (fun q => hb.2 (q ▸ htab)) e) hz, fun a ao hm => ?_, fun a ha => .inl (H.ptb a ha), fun a ha => ⟨.inr ha, (H.pdom a ha).2⟩, H.nodup, fun a q => Nat.lt_of_lt_of_le (H.pplt a q) hz⟩
  rcases mem_other hT H.nodup a ao hm with ⟨rfl, rfl⟩ | ⟨_, h1, h2⟩
  · exact t
  · exact (H.st a ao hm).pass g fun b hb o e => k b o (fun q => by
      rcases hb with q' | q'
      · exact h1 (q ▸ q')
      · exact h2 (q ▸ q')) e
end Mine
end R4
section R5
open PySem PySem.W PyProof.Rows
set_option maxRecDepth 100000
namespace Mine
theorem TabAt.kept {q : Str} {P : Addr → Prop} {h h' : Heap} {T : Addr} (t : TabAt q P h T) (k : ∀ b o vs, o.data = .fields vs → h.get? b = some o → h'.get? b = some o) : TabAt q P h' T := by
  obtain ⟨ps, e, tr, c⟩ := t
  refine ⟨ps, k _ _ _ rfl e, tr, fun pos cv hcv => ?_⟩
  obtain ⟨cc, rfl, n, nT, r⟩ := c pos cv hcv
  obtain ⟨cc', oc, vs, tq, e, hoc, hcd, hq⟩ := id r
  have e' : cc = cc' := Value.ref.inj e
  subst e'
  exact ⟨cc, rfl, n, nT, codeRec_kept r fun o ho => k _ _ vs (by rw [← Option.some.inj (hoc.symm.trans ho)]; exact hcd) ho⟩
theorem codeRec_kept' {h h' : Heap} {cc : Addr} {q : Str} (r : h.CodeRec (.ref cc) q) (k : ∀ b o vs, o.data = .fields vs → h.get? b = some o → h'.get? b = some o) : h'.CodeRec (.ref cc) q := by
  obtain ⟨cc', oc, vs, tq, e, hoc, hcd, hq⟩ := r
  have e' : cc = cc' := Value.ref.inj e
  subst e'
  exact ⟨cc, oc, vs, tq, rfl, k _ _ vs hcd hoc, hcd, hq⟩
theorem ns_not_fields {h : Heap} {L : Addr} {m : Str → Option Value} (n : h.Ns L m) : ∀ b o vs, o.data = .fields vs → h.get? b = some o → b ≠ L := fun b o vs hd hb q => by
  obtain ⟨oL, es, ep, hL, hdL, _⟩ := n
  rw [q, hL] at hb; cases hb; rw [hdL] at hd; cases hd
set_option genInjectivity false in
structure RS (T L c : Addr) (s₀ : Shared) (v1 : Value) (q : Str) (P : Addr → Prop) (m : Str → Option Value) (s : Shared) : Prop where
  keep : ∀ b o, b ≠ T → s₀.heap.get? b = some o → s.heap.get? b = some o
  size : L < s.heap.objs.size
  loc : s.heap.Ns L m
  cell : s.heap.IsCell c (some v1)
  tab : TabAt q P s.heap T
  gens : s.gens = s₀.gens
  os : s.os = s₀.os
set_option genInjectivity false in
structure FS (L c : Addr) (s₀ : Shared) (f : Addr) (md : Str → Option Value) (s : Shared) : Prop where
  lo : L < f ∧ f ≠ c
  ob : ∃ o fd, s.heap.get? f = some o ∧ o.cls = .type "function" ∧ o.data = .func fd ∧ OwnDict s.heap f o md ∧ ∀ D, o.dict = some D → L < D ∧ D ≠ c
section
variable {C : Cx} {A : Around} {E : Value → Shared → Prop} {T L c f : Addr} {s₀ s : Shared} {v1 v : Value} {q : Str} {P : Addr → Prop} {m md : Str → Option Value} {x : String}
theorem rs_store {Q : Unit → Shared → Prop} {ns : List Str} (R : RS T L c s₀ v1 q P m s) (F : FS L c s₀ f md s) (hL : s₀.heap.objs.size ≤ L) (hT : T < s₀.heap.objs.size) (hc : L < c ∧ c < s.heap.objs.size) (hnm : typeLookup (.type "function") (Str.ofString x) = pure none)
    (hw : Within md ns) (hsz : ns.length ≤ 100)
    (h : ∀ s', RS T L c s₀ v1 q P m s' → FS L c s₀ f (fun y => if y = Str.ofString x then some v else md y) s' → s.heap.objs.size ≤ s'.heap.objs.size →
      (∃ o D, s'.heap.get? f = some o ∧ o.dict = some D ∧ s'.heap.Ns1 D (fun y => if y = Str.ofString x then some v else md y)) →
      (∀ b o, b ≠ f → (∀ es ep, o.data ≠ .dict es ep) → s.heap.get? b = some o → s'.heap.get? b = some o) → Q () s') :
    wpAny (model C.prog C.w) A (setAttr (.ref f) (Str.ofString x) v) Q E s := by
  obtain ⟨o, fd, ho, hcl, hdt, hdict, hD⟩ := F.ob
  obtain ⟨hh, g, d, t, os⟩ := s
  refine fn_store ho hcl hdt hdict hnm (fun h' tk' D' hf' hne hlow hns hk hz => ?_) hw hsz
  have hDd : ∀ D, o.dict = some D → ∃ oD es ep, hh.get? D = some oD ∧ oD.data = .dict es ep := fun D e => by
    rcases hdict with ⟨n, _⟩ | ⟨d', e', _, n1⟩
    · rw [n] at e; cases e
    · rw [e'] at e; cases e
      obtain ⟨oD, es, ep, h1, h2, _⟩ := n1.ns
      exact ⟨oD, es, ep, h1, h2⟩
  have kk : ∀ b ob, b ≠ f → (∀ es ep, ob.data ≠ .dict es ep) → hh.get? b = some ob → h'.get? b = some ob := fun b ob hb hnd e => hk b ob hb (fun D eD q => by
    obtain ⟨oD, es, ep, h1, h2⟩ := hDd D eD
    subst q
    rw [e] at h1; cases h1
    exact hnd _ _ h2) e
  have kf : ∀ b ob vs, ob.data = .fields vs → hh.get? b = some ob → h'.get? b = some ob := fun b ob vs hd e => kk b ob (fun q => by subst q; rw [ho] at e; cases e; rw [hdt] at hd; cases hd) (fun es ep q => by rw [q] at hd; cases hd) e
  have kb : ∀ b ob, b ≠ f → (∀ D, o.dict = some D → b ≠ D) → hh.get? b = some ob → h'.get? b = some ob := hk
  have hLD : ∀ D, o.dict = some D → L ≠ D := fun D e => Nat.ne_of_lt (hD D e).1
  have hcD : ∀ D, o.dict = some D → c ≠ D := fun D e => (hD D e).2.symm
  obtain ⟨oc, hoc, hdc⟩ := R.cell
  have hsz' : hh.objs.size ≤ h'.objs.size := hz
  have hD' : L < D' ∧ D' ≠ c := by
    rcases hlow with ⟨_, q⟩ | q
    · exact ⟨Nat.lt_of_lt_of_le (Nat.lt_trans hc.1 hc.2) q, fun z => Nat.lt_irrefl _ (Nat.lt_of_lt_of_le (z ▸ hc.2) q)⟩
    · exact hD _ q
  refine h ⟨h', g, d, tk', os⟩ ⟨fun b ob hb e => ?_, Nat.lt_of_lt_of_le R.size hz, R.loc.at fun ob e => kb L ob (Nat.ne_of_lt F.lo.1) hLD e, ⟨oc, kb c oc F.lo.2.symm hcD hoc, hdc⟩, R.tab.kept kf, R.gens, R.os⟩
    ⟨F.lo, _, fd, hf', hcl, hdt, .inr ⟨D', rfl, hne, hns⟩, fun D e => by cases e; exact hD'⟩ hz ⟨_, D', hf', rfl, hns⟩ kk
  have hbl : b < s₀.heap.objs.size := Heap.lt_size e
  have hbL : b < L := Nat.lt_of_lt_of_le hbl hL
  exact kb b ob (Nat.ne_of_lt (Nat.lt_trans hbL F.lo.1)) (fun D eD => Nat.ne_of_lt (Nat.lt_trans hbL (hD D eD).1)) (R.keep b ob hb e)
end
end Mine
end R5
section R6
open PySem PySem.W PyProof.Rows
set_option maxRecDepth 100000
namespace Mine
noncomputable def qLam : Str := Str.ofString "_law_rule.<locals>.<lambda>"
set_option genInjectivity false in
structure RuleFn (C : Cx) (LT : LamT) (T a : Addr) (names : List String) (scope : Scope) (body : List Stmt) : Prop where
  fn : ∀ h, C.gi h → ∃ o fd c, h.get? a = some o ∧ o.data = .func fd ∧ h.CodeRec fd.code fd.qualname ∧ fd.body = .stmts body ∧ fd.scope = scope ∧ fd.closure = [] ∧ fd.globals = mainGlobals ∧ fd.builtins = builtinsNs ∧ fd.qualname = Str.ofString "_law_rule" ∧ fd.code = .ref c ∧ CodeHd h c T ∧
    ∀ vals : List Value, vals.length = names.length → bindArgs fd ⟨vals, []⟩ = pure ((names.map Str.ofString).zip vals)
  tab : C.tab T
  tIs : ∀ P h, C.T P h T ↔ TabAt qLam P h T
  ne : mainGlobals ≠ T
  blt : ∀ h, C.gi h → h.BuiltinsAt C.mg T
  tb : C.tb = []
section
variable {C : Cx} {A : Around} {E : Value → Shared → Prop} {T c : Addr} {s₀ s : Shared} {v1 v : Value} {P : Addr → Prop} {m md : Str → Option Value} {x : String} {env : Env}
theorem rs_lam {Q : Value → Shared → Prop} {params : Arguments} {body : Expr} {scope : Scope} {pos : Pos} {clos : List (Str × Addr)} {c0 : Addr} {mg : Str → Option Value} (R : RS T env.locals c s₀ v1 qLam P m s) (hL : s₀.heap.objs.size ≤ env.locals) (hlt : T < s₀.heap.objs.size) (hc : c < s.heap.objs.size)
    (hcT : c ≠ T) (hdef : defaultsOf params env = ([], [])) (hq : env.qual ++ "<lambda>" = qLam) (hcl : closureFor scope env = pure clos) (hge0 : env.globals = mainGlobals) (hg : s.heap.Ns mainGlobals mg) (hcode : env.code = .ref c0) (H : CodeHd s.heap c0 T)
    (hgT : mainGlobals ≠ T) (hb : s.heap.BuiltinsAt mg T) (plt : ∀ a, P a → a < s.heap.objs.size)
    (h : ∀ s' f cc ctv, s.heap.objs.size ≤ f → f < s'.heap.objs.size → s'.heap.get? f = some (kla_obj "<lambda>" qLam params body scope clos ((mg "__name__").getD .none) cc ctv) → RS T env.locals c s₀ v1 qLam P m s' → s'.heap.CodeRec (.ref cc) qLam → ¬ P cc →
      (∀ b o, b ≠ T → s.heap.get? b = some o → s'.heap.get? b = some o) → Q (.ref f) s') :
    wpAny (model C.prog C.w) A (eval (.Lambda params body scope pos) env) Q E s := by
  refine lam_make hdef hq hcl hge0 hg hcode H R.tab hgT hb plt fun h' tk cc ctv hk hz htab hrec hn hT => ?_
  obtain ⟨hh, g, d, t, os⟩ := s
  have hLT : env.locals ≠ T := Nat.ne_of_gt (Nat.lt_of_lt_of_le hlt hL)
  have kk : ∀ b o, b ≠ T → hh.get? b = some o → (h'.push (kla_obj "<lambda>" qLam params body scope clos ((mg "__name__").getD .none) cc ctv)).get? b = some o := fun b o hb e => Heap.get?_push_of_some _ (hk b o hb e)
  obtain ⟨oc, hoc, hdc⟩ := R.cell
  refine h ⟨_, g, d, tk, os⟩ h'.objs.size cc ctv hz (by rw [Heap.size_push]; exact Nat.lt_succ_self _) (Heap.get?_push_size _ rfl) ⟨fun b o hb e => kk b o hb (R.keep b o hb e), ?_, R.loc.at fun o e => kk _ o hLT e, ⟨oc, kk _ _ hcT hoc, hdc⟩, htab.kept fun b o vs _ e => Heap.get?_push_of_some _ e, R.gens, R.os⟩ (hrec.push _) hn kk
  show _ < (h'.push _).objs.size
  rw [Heap.size_push]
  exact Nat.lt_succ_of_lt (Nat.lt_of_lt_of_le R.size hz)
theorem rs_name {Q : Value → Shared → Prop} {p : Pos} (R : RS T env.locals c s₀ v1 qLam P m s) (hk : env.scope.kind = .function) (hx : env.kindOf (Str.ofString x) = some .local) (hm : m (Str.ofString x) = some v) (hd : (Str.ofString x == ("__debug__" : Str)) = false) (h : Q v s) :
    wpAny (model C.prog C.w) A (eval (.Name (Str.ofString x) p) env) Q E s := wpAny_Name (wpAny_loadName_local hk hx R.loc hm h) hd
theorem rs_bind {Q : Unit → Shared → Prop} (R : RS T env.locals c s₀ v1 qLam P m s) (hL : s₀.heap.objs.size ≤ env.locals) (hcL : c ≠ env.locals) (hk : env.scope.kind = .function) (hx : env.kindOf (Str.ofString x) = some .local)
    (h : ∀ s', RS T env.locals c s₀ v1 qLam P (fun y => if y = Str.ofString x then some v else m y) s' → (∀ b o, b ≠ env.locals → s.heap.get? b = some o → s'.heap.get? b = some o) → s'.heap.objs.size = s.heap.objs.size → Q () s') :
    wpAny (model C.prog C.w) A (storeName env (Str.ofString x) v) Q E s := by
  obtain ⟨hh, g, d, t, os⟩ := s
  refine wpAny_storeName_local hx R.loc (fun h' hn' hs => h _ ?_ (fun b o hb e => hs.extBut b o hb e) hs.1) (by rw [hk]; rfl)
  obtain ⟨oc, hoc, hdc⟩ := R.cell
  exact ⟨fun b o hb e => hs.extBut b o (Nat.ne_of_lt (Nat.lt_of_lt_of_le (Heap.lt_size e) hL)) (R.keep b o hb e), hn'.lt, hn', ⟨oc, hs.extBut _ _ hcL hoc, hdc⟩,
    R.tab.kept fun b o vs hd e => hs.extBut b o (ns_not_fields R.loc b o vs hd e) e, R.gens, R.os⟩
end
end Mine
end R6
section R7
open PySem PySem.W PyProof.Rows
set_option maxRecDepth 100000
namespace Mine
set_option maxHeartbeats 1000000 in
theorem op_ruleP {C : Cx} {LT : LamT} {T a : Addr} {nv : String} {scope : Scope} {k : Nat} {σ : Sto} {fr vd : List Nat} {K : PV → Sto → Prop} {p1 p2 p3 p4 p5 q2 q3 q3' q5 q5' l0 l2 r1 r2 r3 r4 r5 : Pos} {b0 : Expr} {sc0 : Scope}
    (F : RuleFn C LT T a ["front", nv] scope [.Assign [.Name (Str.ofString "rule") p1] (.Lambda ⟨[], [], none, [], [], none, []⟩ b0 sc0 l0) r1, .Assign [.Attribute (.Name (Str.ofString "rule") p2) (Str.ofString "applies_to") q2] (.Lambda LT.prm LT.bdy LT.sc l2) r2,
      .Assign [.Attribute (.Name (Str.ofString "rule") p3) (Str.ofString "allowance") q3] (.Name (Str.ofString nv) q3') r3, .Assign [.Attribute (.Name (Str.ofString "rule") p5) (Str.ofString "path") q5] (.Name (Str.ofString "front") q5') r5, .Return (some (.Name (Str.ofString "rule") p4)) r4])
    (X : RulesX C LT) (hsc0 : sc0.names = []) (hdef : LT.prm.defaults = [] ∧ LT.prm.kw_defaults = []) (hcl : ∀ env c, env.cells.lookup (Str.ofString "front") = some c → closureFor LT.sc env = pure [(Str.ofString "front", c)])
    (hs1 : scope.names.lookup (Str.ofString "front") = some .cell) (hs2 : scope.names.lookup (Str.ofString nv) = some .local) (hs3 : scope.names.lookup (Str.ofString "rule") = some .local) (hs4 : scope.kind = .function) (hs5 : scope.isCoroutine = false) (hs6 : scope.isGenerator = false)
    (hnv : (Str.ofString nv == ("__debug__" : Str)) = false) (hnv2 : Str.ofString nv ≠ Str.ofString "rule") (hT : (T, AO.tab) ∈ σ) (h : K (.ext 0 [fr, vd, fr]) σ) : OpL C (k + 1) σ [.str fr, .str vd] (fun vs => PySem.call (.ref a) vs) K := fun A P s vs hr H r => by
  obtain ⟨o, fd, c0, ho, hd, hcd, hbody, hsc, hclo, hgl, hbl, hqn, hcode, CH, hbind⟩ := F.fn s.heap H.gi
  cases r with | cons ra r =>
  cases r with | cons rb r =>
  cases r
  rename_i va vb
  subst hsc
  have hTt : TabAt qLam (PP P σ) s.heap T := (F.tIs _ _).mp (H.pp.st _ _ hT)
  have hTlt := hTt.lt
  refine wpAny_call (codeAny_call_cells hr.limit ho hd (C.nolimit H.gi) hcd hbody (hbind _ rfl) hclo (fun x hx => ?_) (fun s₁ x => ?_) hs5 hs6 hs4)
  · rcases List.mem_cons.mp hx with rfl | hx
    · refine .inr ⟨hs1, ?_⟩
      obtain ⟨c, hc⟩ := cellsFrom_has (n := s.heap.objs.size + 1) (acc := []) (Mine.mem_of_lookup hs1)
      obtain ⟨d, hd⟩ := Mine.lookup_of_mem hc
      rw [hd]; rfl
    · rw [List.mem_singleton.mp hx]; exact .inl hs2
  generalize henv : callEnvC fd s.heap.objs.size a = env at x ⊢
  have hloc : env.locals = s.heap.objs.size := by rw [← henv]; rfl
  have hscp : env.scope = fd.scope := by rw [← henv]; rfl
  have hcells : env.cells = cellsFrom (s.heap.objs.size + 1) fd.scope.names [] := by rw [← henv]; rfl
  have hkd : env.kindOf = fun n => fd.scope.names.lookup n := by funext n; unfold Env.kindOf; rw [hscp]
  have hge : env.globals = mainGlobals := by rw [← henv]; exact hgl
  have hco : env.code = .ref c0 := by rw [← henv]; exact hcode
  have hq : env.qual ++ "<lambda>" = qLam := by
    have : env.qual = fd.qualname ++ ".<locals>." := by rw [← henv]; rfl
    rw [this, hqn]; kernel_rfl
  have hkr : env.kindOf (Str.ofString "rule") = some .local := by rw [hkd]; exact hs3
  have hkv : env.kindOf (Str.ofString nv) = some .local := by rw [hkd]; exact hs2
  have hkf : env.kindOf (Str.ofString "front") = some .cell := by rw [hkd]; exact hs1
  have hfn : env.scope.kind = .function := by rw [hscp]; exact hs4
  obtain ⟨c, hc⟩ : ∃ c, env.cells.lookup (Str.ofString "front") = some c := by
    rw [hcells]
    obtain ⟨c, hc⟩ := cellsFrom_has (n := s.heap.objs.size + 1) (acc := []) (Mine.mem_of_lookup hs1)
    exact Mine.lookup_of_mem hc
  have hLc : env.locals < c := x.above _ c (Mine.mem_of_lookup hc)
  have hL : s.heap.objs.size ≤ env.locals := Nat.le_of_eq hloc.symm
  have nd : ((((List.map Str.ofString ["front", nv]).zip [va, vb])).map (·.1)).Nodup := by
    have : Str.ofString "front" ≠ Str.ofString nv := fun q => by rw [← q, hkf] at hkv; cases hkv
    simpa using this
  obtain ⟨h₁, tk, rfl, kp⟩ := x.done
  have cell₁ : h₁.IsCell c (some va) := (bindC_get (m := fun _ => none) nd List.mem_cons_self hkf) ▸ x.cell _ c hc
  have ns₁ := x.toInCall.ns
  generalize hm : bindL env.kindOf _ (fun _ => none) = m at ns₁
  have hmv : m (Str.ofString nv) = some vb := by rw [← hm]; exact bindL_get nd (List.mem_cons_of_mem _ List.mem_cons_self) hkv
  have R₁ : RS T env.locals c s va qLam (PP P σ) m { s with heap := h₁, toks := tk } := ⟨fun b o _ e => kp b o e, ns₁.lt, ns₁, cell₁, hTt.kept fun b o vs _ e => kp b o e, rfl, rfl⟩
  have hclt : c < h₁.objs.size := let ⟨_, e, _⟩ := cell₁; Heap.lt_size e
  have hcT : c ≠ T := Nat.ne_of_gt (Nat.lt_of_lt_of_le hTlt (Nat.le_trans hL (Nat.le_of_lt hLc)))
  have hbT := F.blt _ H.gi
  have keepB : ∀ h' : Heap, (∀ b o, b ≠ T → s.heap.get? b = some o → h'.get? b = some o) → h'.BuiltinsAt C.mg T := fun h' k => by
    obtain ⟨bm, ob, b1, b2, b3, b4, b5, b6⟩ := hbT
    exact ⟨bm, ob, b1, b2, b3, b4, k _ _ b4 b5, b6⟩
  have keepG : ∀ h' : Heap, (∀ b o, b ≠ T → s.heap.get? b = some o → h'.get? b = some o) → h'.Ns mainGlobals C.mg := fun h' k => (C.g H.gi).at fun o e => k _ o F.ne e
  have keepC : ∀ h' : Heap, (∀ b o, b ≠ T → s.heap.get? b = some o → h'.get? b = some o) → CodeHd h' c0 T := fun h' k => by
    obtain ⟨o, vs, file, tf, flags, tg, inF, text, tt, e, e1, e2, e3, e4, e5, e6, e7, e8, hne⟩ := CH
    exact ⟨o, vs, file, tf, flags, tg, inF, text, tt, k _ _ hne e, e1, e2, e3, e4, e5, e6, e7, e8, hne⟩
  have pl : ∀ n, s.heap.objs.size ≤ n → ∀ a, PP P σ a → a < n := fun n hn a q => Nat.lt_of_lt_of_le (H.pplt a q) hn
  refine wpAny_execs_cons (wpAny_Assign_Name (rs_lam (mg := C.mg) (clos := []) R₁ hL hTlt hclt hcT rfl hq ?_ hge (keepG _ R₁.keep) hco (keepC _ R₁.keep) F.ne (keepB _ R₁.keep) (pl _ (Nat.le_of_lt (Nat.lt_of_le_of_lt hL R₁.size))) fun s₂ f cc ctv hf hf' hfo R₂ hrec hncc k₂ => ?_) rfl)
  · unfold closureFor; rw [hsc0]; rfl
  have hcL : c ≠ env.locals := Nat.ne_of_gt hLc
  have hLT : env.locals ≠ T := Nat.ne_of_gt (Nat.lt_of_lt_of_le hTlt hL)
  have hfL : env.locals < f := Nat.lt_of_lt_of_le R₁.size hf
  have hfc : f ≠ c := Nat.ne_of_gt (Nat.lt_of_lt_of_le hclt hf)
  refine rs_bind R₂ hL hcL hfn hkr fun s₃ R₃ k₃ z₃ => ?_
  have hfo₃ := k₃ _ _ (Nat.ne_of_gt hfL) hfo
  have F₃ : FS env.locals c s f (fun _ => none) s₃ := ⟨⟨hfL, hfc⟩, _, _, hfo₃, rfl, rfl, .inl ⟨rfl, fun _ => rfl⟩, fun D e => by cases e⟩
  have hc₃ : c < s₃.heap.objs.size := let ⟨_, e, _⟩ := R₃.cell; Heap.lt_size e
  refine wpAny_execs_cons (wpAny_Assign_stores (rs_lam (mg := C.mg) (clos := [(Str.ofString "front", c)]) R₃ hL hTlt hc₃ hcT ?_ hq (hcl env c hc) hge (keepG _ R₃.keep) hco (keepC _ R₃.keep) F.ne (keepB _ R₃.keep) (pl _ (Nat.le_of_lt (Nat.lt_of_le_of_lt hL R₃.size))) fun s₄ g cg ctg hg hg' hgo R₄ hrecg hncg k₄ => ?_) rfl rfl)
  · obtain ⟨prm, bdy, sc⟩ := LT
    obtain ⟨a1, a2, a3, a4, a5, a6, a7⟩ := prm
    obtain ⟨rfl, rfl⟩ := hdef
    rfl
  show wpAny _ _ (PySem.assign (Expr.Attribute _ (Str.ofString "applies_to") _) env _) _ _ _
  rw [arm_assign_Attribute]
  refine wpAny_bind (wpAny_holding (rs_name R₄ hfn hkr (by rw [if_pos rfl]) (by decide) ?_))
  have hfT : f ≠ T := Nat.ne_of_gt (Nat.lt_of_lt_of_le hTlt (Nat.le_trans hL (Nat.le_of_lt hfL)))
  have hfo₄ := k₄ _ _ hfT hfo₃
  have F₄ : FS env.locals c s f (fun _ => none) s₄ := ⟨⟨hfL, hfc⟩, _, _, hfo₄, rfl, rfl, .inl ⟨rfl, fun _ => rfl⟩, fun D e => by cases e⟩
  have hc₄ : c < s₄.heap.objs.size := let ⟨_, e, _⟩ := R₄.cell; Heap.lt_size e
  refine wpAny_bind (wpAny_standAt (wpAny_bind (wpAny_holding (rs_store (C := C) R₄ F₄ hL hTlt ⟨hLc, hc₄⟩ fn_no_applies Within.nil (by simp) fun s₅ R₅ F₅ z₅ _ k₅ => wpAny_release ?_))))
  have hgf : g ≠ f := Nat.ne_of_gt (Nat.lt_of_lt_of_le (Heap.lt_size hfo₃) hg)
  have hgo₅ := k₅ g _ hgf (fun es ep q => by cases q) hgo
  have hcr₅ := codeRec_kept' hrecg (fun b o vs hd e => k₅ b o (fun q => by subst q; rw [hfo₄] at e; cases e; cases hd) (fun es ep q => by rw [q] at hd; cases hd) e)
  have hc₅ : c < s₅.heap.objs.size := let ⟨_, e, _⟩ := R₅.cell; Heap.lt_size e
  refine wpAny_execs_cons (wpAny_Assign_stores (rs_name R₅ hfn hkv (by rw [if_neg hnv2]; exact hmv) hnv ?_) rfl rfl)
  show wpAny _ _ (PySem.assign (Expr.Attribute _ (Str.ofString "allowance") _) env _) _ _ _
  rw [arm_assign_Attribute]
  refine wpAny_bind (wpAny_holding (rs_name R₅ hfn hkr (by rw [if_pos rfl]) (by decide) ?_))
  refine wpAny_bind (wpAny_standAt (wpAny_bind (wpAny_holding (rs_store (C := C) R₅ F₅ hL hTlt ⟨hLc, hc₅⟩ fn_no_allow (Within.cons _ _ Within.nil) (by simp) fun s₆ R₆ F₆ z₆ ⟨o₆, D, hfo₆, hD₆, hns₆⟩ k₆ => wpAny_release ?_))))
  obtain ⟨o₅, fd₅, hfo₅, _, hdt₅, _⟩ := F₅.ob
  have hgo₆ := k₆ g _ hgf (fun es ep q => by cases q) hgo₅
  have hcr₆ := codeRec_kept' hcr₅ (fun b o vs hd e => k₆ b o (fun q => by subst q; rw [hfo₅] at e; cases e; rw [hdt₅] at hd; cases hd) (fun es ep q => by rw [q] at hd; cases hd) e)
  have hc₆ : c < s₆.heap.objs.size := let ⟨_, e, _⟩ := R₆.cell; Heap.lt_size e
  refine wpAny_execs_cons (wpAny_Assign_stores (wpAny_Name (wpAny_loadName_cell hfn hkf hc R₆.cell ?_) (by decide)) rfl rfl)
  show wpAny _ _ (PySem.assign (Expr.Attribute _ (Str.ofString "path") _) env _) _ _ _
  rw [arm_assign_Attribute]
  refine wpAny_bind (wpAny_holding (rs_name R₆ hfn hkr (by rw [if_pos rfl]) (by decide) ?_))
  refine wpAny_bind (wpAny_standAt (wpAny_bind (wpAny_holding (rs_store (C := C) R₆ F₆ hL hTlt ⟨hLc, hc₆⟩ fn_no_path (Within.cons _ _ (Within.cons _ _ Within.nil)) (by simp) fun s₈ R₈ F₈ z₈ ⟨o₈, D₈, hfo₈, hD₈, hns₈⟩ k₈ => wpAny_release ?_))))
  obtain ⟨o₆', fd₆, hfo₆', _, hdt₆, _⟩ := F₆.ob
  have hgo₈ := k₈ g _ hgf (fun es ep q => by cases q) hgo₆
  have hcr₈ := codeRec_kept' hcr₆ (fun b o vs hd e => k₈ b o (fun q => by subst q; rw [hfo₆'] at e; cases e; rw [hdt₆] at hd; cases hd) (fun es ep q => by rw [q] at hd; cases hd) e)
  refine wpAny_execs_cons (wpAny_Return_some (rs_name R₈ hfn hkr (by rw [if_pos rfl]) (by decide) ?_))
  have A₆ : After C P σ s σ s₈ := After.tab H hT F.tab R₈.keep (Nat.le_trans hL (Nat.le_of_lt R₈.size)) ((F.tIs _ _).mpr R₈.tab) R₈.gens R₈.os
  have nPP : ∀ b, s.heap.objs.size ≤ b → ¬ PP P σ b := fun b hb q => Nat.not_lt.mpr hb (H.pplt b q)
  obtain ⟨o₇, fd₇, hfo₇, hcl₇, hdt₇, hdict₇, hDlow⟩ := F₈.ob
  obtain rfl : o₈ = o₇ := Option.some.inj (hfo₈.symm.trans hfo₇)
  have hDf : D₈ ≠ f := by
    rcases hdict₇ with ⟨q, _⟩ | ⟨d', e', hne, _⟩
    · rw [hD₈] at q; cases q
    · rw [hD₈] at e'; cases e'; exact hne
  have hLs : ∀ b, env.locals < b → s.heap.objs.size ≤ b := fun b hb => Nat.le_trans hL (Nat.le_of_lt hb)
  refine ⟨.ext 0 [fr, vd, fr], σ, h, A₆, .ext ((X _ _ _ _).mpr ⟨fr, vd, [fr], f, D₈, g, c, cg, rfl, rfl, ⟨⟨nPP f (hLs f hfL), nPP D₈ (hLs D₈ (hDlow D₈ hD₈).1), nPP g (hLs g (Nat.lt_trans hfL (Nat.lt_of_lt_of_le (Heap.lt_size hfo₃) hg))), nPP c (hLs c hLc), hncg⟩, Nat.le_trans (C.low H.gi) (hLs c hLc), ⟨_, _, hfo₈, hcl₇, hD₈, hdt₇⟩, hDf,
    ⟨_, hns₈, ⟨_, Within.cons _ _ (Within.cons _ _ (Within.cons _ _ Within.nil)), by simp⟩, ?_, ⟨vb, ?_, rb.isS⟩, fun p e => ⟨va, ?_, ?_⟩⟩, ⟨_, _, _, _, hgo₈, hcr₈⟩, ⟨va, R₈.cell, ra.isS⟩⟩⟩)⟩
  · rw [if_neg (by decide), if_neg (by decide), if_pos rfl]
  · rw [if_neg (by decide), if_pos rfl]
  · rw [if_pos rfl]
  · cases e; exact ra.isS
end Mine
end R7
section U24
open PySem PySem.W PyProof.Rows
set_option maxRecDepth 100000
namespace Mine
noncomputable def lam1 : LamT := match fBody (stAt 12) with | _ :: .Assign _ (.Lambda p b s _) _ :: _ => ⟨p, b, s⟩ | _ => ⟨⟨[], [], none, [], [], none, []⟩, .Constant .none 0 default, default⟩
theorem lam1_eval {C : Cx} (len : Blt C "len" (.builtin "len")) {k : Nat} {fr nm : List Nat} (h1 : fr.length ≤ 10000) (h2 : ∀ c ∈ fr, c < 0x110000) (h3 : nm.length ≤ 10000) (h4 : ∀ c ∈ nm, c < 0x110000) :
    Ev C k lam1.sc [("name", .str nm), ("front", .str fr)] [] lam1.bdy fun d σ' => σ' = [] ∧ d = .int (applN fr nm : Nat) := by
  refine Ev.ifexp (Tr.cmp (Ev.sub (Ev.name (x := "name") rfl (Ev.slice (Ev.call1 len rfl (Ev.name (x := "front") rfl (OpL.len_s (by lia) ⟨_, _, _, .none, .int _, .none, Op2.slice_s (by decide) ?z1 ?_⟩)) rfl)))) rfl)
  case z1 => rw [slcS_eq, slcL_to]; simp [sizeLine]; lia
  rw [slcS_eq, slcL_to]
  refine Ev.name (x := "front") rfl (Op2.eq (pl_str' fun c hc => h4 c (List.mem_of_mem_take hc)) (pl_str' h2) (OpB.bool ?_))
  rw [peq_str']
  unfold applN
  refine ite_bool (fun h => ?_) fun h => ?_
  · rw [if_pos (of_decide_eq_true h)]
    exact Ev.binop (Ev.call1 len rfl (Ev.name (x := "front") rfl (OpL.len_s (by lia) (Ev.int (Op2.addN (b := 1) ⟨rfl, rfl⟩)))) rfl)
  · rw [if_neg (of_decide_eq_false h)]
    exact Ev.int ⟨rfl, rfl⟩
theorem lam1_ok : okLam "name" "front" lam1.sc = true := by decide +kernel
theorem lam1_bind (nm qual cl pm cc ctv v) : bindArgs (kla_fn nm qual lam1.prm lam1.bdy lam1.sc cl pm cc ctv) ⟨[v], []⟩ = pure [(Str.ofString "name", v)] := by rfl
theorem lam1_clos (env : Env) (c : Addr) (h : env.cells.lookup (Str.ofString "front") = some c) : closureFor lam1.sc env = pure [(Str.ofString "front", c)] := by
  have hc : cellOf env (Str.ofString "front") = pure c := by unfold cellOf; rw [h]
  have hn : lam1.sc.names = [(Str.ofString "name", .local), (Str.ofString "front", .free), (Str.ofString "len", .globalImplicit)] := rfl
  unfold closureFor
  rw [hn]
  simp only [List.forIn_cons, List.forIn_nil, hc, show (NameKind.local == NameKind.free) = false from rfl, show (NameKind.free == NameKind.free) = true from rfl, show (NameKind.globalImplicit == NameKind.free) = false from rfl, if_true, if_false, pure_bind, Bool.false_eq_true]
theorem op_rule1 {C : Cx} {T a : Addr} {k : Nat} {σ : Sto} {fr vd : List Nat} {K : PV → Sto → Prop} (F : RuleFn C lam1 T a ["front", "word"] (fScope (stAt 12)) (fBody (stAt 12))) (X : RulesX C lam1) (hT : (T, AO.tab) ∈ σ) (h : K (.ext 0 [fr, vd, fr]) σ) :
    OpL C (k + 1) σ [.str fr, .str vd] (fun vs => PySem.call (.ref a) vs) K :=
  op_ruleP (nv := "word") F X rfl ⟨rfl, rfl⟩ lam1_clos rfl rfl rfl rfl rfl rfl (by decide) (by decide) hT h
end Mine
end U24
section SA1
open PySem PySem.W PyProof.Rows
set_option maxRecDepth 100000
namespace Mine
noncomputable abbrev Rule := List Nat × List Nat × List (List Nat)
noncomputable def Rule.pv (r : Rule) : PV := .ext 0 (r.1 :: r.2.1 :: r.2.2)
noncomputable def Rule.ok (r : Rule) : Prop := r.1.length ≤ 10000 ∧ (∀ c ∈ r.1, c < 0x110000) ∧ r.2.1.length ≤ 10000
noncomputable def stepA (nm : List Nat) (st : Int × Option (List Nat)) (r : Rule) : Int × Option (List Nat) :=
  if applN r.1 nm = 0 then st else if st.1 < (applN r.1 nm : Nat) then ((applN r.1 nm : Nat), some r.2.1) else if ((applN r.1 nm : Nat) : Int) = st.1 ∧ st.2 = some [] then (st.1, some r.2.1) else st
noncomputable def allowF (nm : List Nat) (rs : List Rule) : Option (List Nat) := (rs.foldl (stepA nm) (-1, none)).2
noncomputable def alP : Option (List Nat) → PV
  | none => .bool true
  | some x => .str x
theorem tr_al {C : Cx} {k : Nat} {σ : Sto} {o : Option (List Nat)} (h : ∀ x, o = some x → x.length ≤ 10000) {K : Bool → Sto → Prop} (hK : K (!decide (o = some [])) σ) : OpB C k σ (alP o) truthy K := by
  cases o with
  | none => exact OpB.bool (by simpa using hK)
  | some x =>
    refine OpB.str (by have := h x rfl; lia) ?_
    cases x with
    | nil => simpa using hK
    | cons a r => simpa using hK
section
variable {C : Cx} {N : Addr} {mN : Str → Option Value} (T : TopE C N mN) (X : RulesX C lam1) (htb : C.tb = []) (len : Blt C "len" (.builtin "len")) {k : Nat} {σ : Sto}
include T X htb len
theorem w_allow {a d : Addr} {fs : List (String × PV)} {rs : List Rule} {nm : List Nat} {K : PV → Sto → Prop} (hm : (a, AO.inst d fs) ∈ σ) (hf : fs.lookup "rulelines" = some (.list (rs.map Rule.pv))) (hok : ∀ r ∈ rs, r.ok) (hnl : nm.length ≤ 10000) (hnc : ∀ c ∈ nm, c < 0x110000)
    (h : K (alP (allowF nm rs)) σ) :
    Ex C (k + 1) (fScope sAllow) [("self", .raw (.ref a)), ("filename", .str nm)] σ (fBody sAllow) (fun g _ σ' => match g with | .ret d => K d σ' | .next => K .none σ' | _ => False) := by
  refine Ex.cons (Ex1.assign (x := "best_match") (Ev.unary (Ev.int (Op1.neg ?_))) (.inl rfl) fun _ => rfl)
  refine Ex.cons (Ex1.assign (x := "allowance") (Ev.bool ?_) (.inl rfl) fun _ => rfl)
  refine Ex.cons (Ex1.for (J := fun rest ρ σ' => ∃ (todo : List Rule) (st : Int × Option (List Nat)), rest = todo.map Rule.pv ∧ (∀ r ∈ todo, r.ok) ∧ (∀ x, st.2 = some x → x.length ≤ 10000) ∧ allowF nm rs = (todo.foldl (stepA nm) st).2 ∧
      Has ρ [("allowance", alP st.2), ("best_match", .int st.1), ("filename", .str nm), ("self", .raw (.ref a))] ∧ σ' = σ) ?_ ?_ ?_ fun _ _ => rfl)
  · exact Ev.fld T (x := "self") (f := "rulelines") T.rl rfl hm hf ⟨_, Iterable.list, rs, (-1, none), rfl, hok, (fun x e => by cases e), rfl, ⟨rfl, rfl, rfl, rfl, trivial⟩, rfl⟩
  · rintro x r ρ' σ' ⟨todo, st, he, hin, hst, ha, hh, rfl⟩
    cases todo with
    | nil => cases he
    | cons z todo =>
    obtain ⟨rfl, rfl⟩ : x = z.pv ∧ r = todo.map Rule.pv := by simpa using he
    obtain ⟨z1, z2, z3⟩ := hin z List.mem_cons_self
    obtain ⟨fr, vd, more⟩ := z
    obtain ⟨best, al⟩ := st
    refine Bind.name (x := "line") (.inl rfl) ?_
    refine Ex.has (ρ' := [("line", Rule.pv (fr, vd, more)), ("allowance", alP al), ("best_match", .int best), ("filename", .str nm), ("self", .raw (.ref a))]) ⟨rfl, hh.1, hh.2.1, hh.2.2.1, hh.2.2.2.1, trivial⟩ ?_
    rw [List.foldl_cons] at ha
    have back : ∀ st' ρ'', stepA nm (best, al) (fr, vd, more) = st' → (∀ x, st'.2 = some x → x.length ≤ 10000) → Has ρ'' [("allowance", alP st'.2), ("best_match", .int st'.1), ("filename", .str nm), ("self", .raw (.ref a))] →
        ∃ (todo' : List Rule) (st : Int × Option (List Nat)), todo.map Rule.pv = todo'.map Rule.pv ∧ (∀ r ∈ todo', r.ok) ∧ (∀ x, st.2 = some x → x.length ≤ 10000) ∧ allowF nm rs = (todo'.foldl (stepA nm) st).2 ∧ Has ρ'' [("allowance", alP st.2), ("best_match", .int st.1), ("filename", .str nm), ("self", .raw (.ref a))] ∧ σ' = σ' :=
      fun st' ρ'' e hx hh' => ⟨todo, st', rfl, fun r hr => hin r (List.mem_cons_of_mem _ hr), hx, by rw [ha, e], hh', rfl⟩
    have hs1 : ∀ x, (some vd : Option (List Nat)) = some x → x.length ≤ 10000 := fun x e => by cases e; exact z3
    refine Ex.cons (Ex1.assign (x := "m") (Ev.applies X htb (fun fr nm h1 h2 h3 h4 => lam1_eval len h1 h2 h3 h4) lam1_ok lam1_bind (Ev.name (x := "line") rfl ⟨fr, vd, more, rfl, z1, z2, Ev.name (x := "filename") rfl ⟨nm, rfl, hnl, hnc, ?_⟩⟩) rfl rfl fun _ => rfl) (.inl rfl) fun _ => rfl)
    refine Ex.cons (Ex1.if (Tr.value (Ev.name (x := "m") rfl (OpB.int ?_)) fun _ _ => rfl))
    refine ite_bool (fun h1 => ?_) fun h1 => ?_
    · have h0 : applN fr nm ≠ 0 := by simpa using h1
      refine Ex.cons (Ex1.if (Tr.cmp (Ev.name (x := "m") rfl (Ev.name (x := "best_match") rfl (Op2.gt (OpB.bool ?_)))) rfl))
      refine ite_bool (fun h2 => ?_) fun h2 => ?_
      · have h2 := of_decide_eq_true h2
        refine Ex.cons (Ex1.assign (x := "best_match") (Ev.name (x := "m") rfl ?_) (.inl rfl) fun _ => rfl)
        refine Ex.cons (Ex1.assign (x := "allowance") (Ev.attr (Ev.name (x := "line") rfl (Op1.allowance X fn_no_allow ?_)) fun _ => rfl) (.inl rfl) fun _ => rfl)
        exact Ex.nil (Ex.nil (Ex.nil (back ((applN fr nm : Nat), some vd) _ (by unfold stepA; rw [if_neg h0, if_pos h2]) hs1 ⟨rfl, rfl, rfl, rfl, trivial⟩)))
      · have h2 := of_decide_eq_false h2
        refine Ex.cons (Ex1.if (Tr.and2 (Tr.cmp (Ev.name (x := "m") rfl (Ev.name (x := "best_match") rfl (Op2.eq rfl rfl (OpB.bool ?_)))) rfl)))
        rw [peq_int]
        refine ite_bool (fun h3 => ?_) fun h3 => ?_
        · have h3 := of_decide_eq_true h3
          refine Tr.not (Tr.value (Ev.name (x := "allowance") rfl (tr_al hst ?_)) fun _ _ => rfl)
          rw [Bool.not_not]
          refine ite_bool (fun h4 => ?_) fun h4 => ?_
          · have h4 := of_decide_eq_true h4
            refine Ex.cons (Ex1.assign (x := "allowance") (Ev.attr (Ev.name (x := "line") rfl (Op1.allowance X fn_no_allow ?_)) fun _ => rfl) (.inl rfl) fun _ => rfl)
            exact Ex.nil (Ex.nil (Ex.nil (Ex.nil (back (best, some vd) _ (by unfold stepA; rw [if_neg h0, if_neg h2, if_pos ⟨h3, h4⟩]) hs1 ⟨rfl, rfl, rfl, rfl, trivial⟩))))
          · have h4 := of_decide_eq_false h4
            exact Ex.nil (Ex.nil (Ex.nil (Ex.nil (back (best, al) _ (by unfold stepA; rw [if_neg h0, if_neg h2, if_neg fun q => h4 q.2]) hst ⟨rfl, rfl, rfl, rfl, trivial⟩))))
        · have h3 := of_decide_eq_false h3
          exact Ex.nil (Ex.nil (Ex.nil (Ex.nil (back (best, al) _ (by unfold stepA; rw [if_neg h0, if_neg h2, if_neg fun q => h3 q.1]) hst ⟨rfl, rfl, rfl, rfl, trivial⟩))))
    · have h0 : applN fr nm = 0 := by simpa using h1
      exact Ex.nil (Ex.nil (back (best, al) _ (by unfold stepA; rw [if_pos h0]) hst ⟨rfl, rfl, rfl, rfl, trivial⟩))
  · rintro ρ' σ' ⟨todo, st, he, hin, hst, ha, hh, rfl⟩
    have : todo = [] := by cases todo with | nil => rfl | cons c r => cases he
    subst this
    refine Ex.cons (Ex1.ret (Ev.name hh.1 ?_))
    rw [ha] at h; exact h
end
end Mine
end SA1
section U21
open PySem PySem.W PyProof.Rows
set_option maxRecDepth 100000
namespace Mine
section
variable {C : Cx} {S : Int → Bool} {D : List (PyData × PyData)} (T : TopB C S D)
include T
noncomputable def prep (S : Int → Bool) (D : List (PyData × PyData)) (x : List Nat) : List Nat := ((x.filter fun c => !S (c : Nat)).map (b3of D)).flatten
theorem w_prep {k σ} {x : List Nat} {K : PV → Sto → Prop} (ok : ∀ c ∈ x, b3ok D c = true) (hl : x.length ≤ 10000) (h : K (.str (prep S D x)) σ) :
    Ex C (k + 1) (fScope (stAt 11)) [("text", .str x)] σ (fBody (stAt 11)) (fun g _ σ' => match g with | .ret d => K d σ' | .next => K .none σ' | _ => False) := by
  refine Ex.cons (Ex1.ret (Ev.method (T := "str") (id_ := "str.join") (Ev.str (l := []) rfl ⟨OfType.str, ?_⟩) F.plainAttrs_str F.slot_str_join F.type_str_join rfl (by decide) rfl fun _ => rfl))
  refine Ev.listComp [] trivial (by decide +kernel) rfl (fun g hg => by cases List.mem_singleton.mp hg; exact ⟨rfl, fun _ _ => rfl⟩) ?_
  refine Ev.name (x := "text") rfl ⟨_, Iterable.str, ?_⟩
  refine Comp.pure1 (t := "sign") (fun v => match v with | .str [c] => !S (c : Nat) | _ => false) (fun v => match v with | .str [c] => .str (b3of D c) | _ => .none) rfl rfl ?_ ?_ (by simp [sizeLine]; omega) ?_
  · intro v hv K' hK'
    obtain ⟨c, hc, rfl⟩ := List.mem_map.mp hv
    refine Tr.not (Tr.value (Ev.callF T.b1 rfl (Ev.name (x := "sign") rfl ⟨rfl, op_b1 T (OpB.bool ?_)⟩) rfl) fun _ _ => rfl)
    cases hS : S (c : Nat) <;> (simp only [hS] at hK' ⊢; exact hK')
  · intro v hv hk K' hK'
    obtain ⟨c, hc, rfl⟩ := List.mem_map.mp hv
    exact Ev.callF T.b3 rfl (Ev.name (x := "sign") rfl ⟨rfl, op_b3 T (ok c hc) hK'⟩) rfl
  · have e : (((x.map fun c => PV.str [c]).filter fun v => match v with | .str [c] => !S (c : Nat) | _ => false).map fun v => match v with | .str [c] => .str (b3of D c) | _ => .none) = ((x.filter fun c => !S (c : Nat)).map (b3of D)).map PV.str := by
      rw [List.filter_map, List.map_map, List.map_map]
      rfl
    rw [e]
    refine OpL.join0 .list ?_ h
    have hle : ∀ l : List Nat, (∀ c ∈ l, b3ok D c = true) → ((l.map (b3of D)).map List.length).sum ≤ 3 * l.length := by
      intro l
      induction l with
      | nil => intro _; simp
      | cons c t ih =>
        intro hh
        have h1 := hh c List.mem_cons_self
        unfold b3ok at h1
        simp only [Bool.and_eq_true, decide_eq_true_eq] at h1
        have h2 := ih fun c hc => hh c (List.mem_cons_of_mem _ hc)
        simp only [List.map_cons, List.sum_cons, List.length_cons]
        omega
    have h3 := hle (x.filter fun c => !S (c : Nat)) fun c hc => ok c (List.mem_filter.mp hc).1
    have h4 := List.length_filter_le (fun c => !S (c : Nat)) x
    omega
end
end Mine
end U21
section R8
open PySem PySem.W PyProof.Rows
set_option maxRecDepth 100000
namespace Mine
theorem rule_fresh {C : Cx} {LT : LamT} {T a : Addr} {k : Nat} {σ : Sto} {fr vd : List Nat} {A : Around} {P : Addr → Prop} {s : Shared} {va vb : Value} (X : RulesX C LT) (htab : C.tab T) (tIs : ∀ P h, C.T P h T ↔ TabAt qLam P h T) (htb : C.tb = [])
    (hop : ∀ (σ : Sto) (K : PV → Sto → Prop), (T, AO.tab) ∈ σ → K (.ext 0 [fr, vd, fr]) σ → OpL C k σ [.str fr, .str vd] (fun vs => PySem.call (.ref a) vs) K) (hr : Room A k) (H : Hp C P σ s.heap) (hT : (T, AO.tab) ∈ σ) (ra : IsS va fr) (rb : IsS vb vd) :
    wpAny (model C.prog C.w) A (PySem.call (.ref a) [va, vb]) (fun v s₁ => ∃ f D g c cc, v = .ref f ∧ s.heap.objs.size ≤ f ∧ s.heap.objs.size ≤ D ∧ (∀ b o, b ≠ T → s.heap.get? b = some o → s₁.heap.get? b = some o) ∧ s.heap.objs.size ≤ s₁.heap.objs.size ∧
      TabAt qLam (PP P σ) s₁.heap T ∧ RuleAt C.base LT fr vd (some fr) (PP P σ) s₁.heap f D g c cc ∧ s₁.gens = s.gens ∧ s₁.os = s.os) NoE s := by
  have hd : T ∈ dom σ := mem_dom hT T (.inl rfl)
  have hTt : TabAt qLam (PP P σ) s.heap T := (tIs _ _).mp (H.pp.st _ _ hT)
  let Q : Addr → Prop := fun b => PP P σ b ∨ (b < s.heap.objs.size ∧ ∀ o vs, s.heap.get? b = some o → o.data ≠ .fields vs)
  have hQT : Q T := .inl (.inr hd)
  have tQ : TabAt qLam Q s.heap T := by
    obtain ⟨ps, e, tr, cs⟩ := hTt
    refine ⟨ps, e, tr, fun pos cv hcv => ?_⟩
    obtain ⟨cc, rfl, n, nT, r⟩ := cs pos cv hcv
    refine ⟨cc, rfl, fun q => q.elim n fun q => ?_, nT, r⟩
    obtain ⟨c', oc, vs, tq, e', hoc, hcd, hq⟩ := id r
    obtain rfl : cc = c' := Value.ref.inj e'
    exact q.2 oc vs hoc hcd
  have H' : Hp C Q [(T, .tab)] s.heap := ⟨H.gi, (fun a ao h => by cases List.mem_singleton.mp h; exact (tIs _ _).mpr tQ), (fun a h => by rw [htb] at h; cases h), (fun a h => by cases List.mem_singleton.mp h; exact ⟨hQT, .inr htab⟩), (by simp [dom, AO.more]),
    (fun a h => h.elim (H.pplt a) fun h => h.1)⟩
  have op := hop [(T, .tab)] (fun d σ' => d = .ext 0 [fr, vd, fr] ∧ σ' = [(T, .tab)]) List.mem_cons_self ⟨rfl, rfl⟩
  refine wpAny_mono (op A Q s [va, vb] hr H' (.cons ra.rd (.cons rb.rd .nil))) (fun v s₁ o => ?_) fun _ _ x => x
  obtain ⟨d, σ', ⟨rfl, rfl⟩, hA, r⟩ := o
  have q := r.extE
  obtain ⟨fr', vd', rest, f, D, g, c, cc, e, rfl, R⟩ := (X _ _ _ _).mp q
  cases e
  have keep : ∀ b o, b ≠ T → s.heap.get? b = some o → s₁.heap.get? b = some o := fun b o hb e => hA.step.kept b o (fun q => hb (List.mem_singleton.mp q)) (fun q => by rw [htb] at q; cases q) (fun q => q) e
  have less : ∀ b, PP P σ b → PP Q [(T, .tab)] b := fun b h => .inl (.inl h)
  have new : ∀ b o, ¬ PP Q [(T, .tab)] b → s₁.heap.get? b = some o → (∀ vs, o.data ≠ .fields vs) → s.heap.objs.size ≤ b := fun b o nb hb hnf => by
    refine Nat.le_of_not_lt fun hlt => nb (.inl (.inr ⟨hlt, fun o' vs ho' hd' => ?_⟩))
    have hbT : b ≠ T := fun q => nb (by rw [q]; exact .inl hQT)
    obtain rfl := Option.some.inj ((keep b o' hbT ho').symm.trans hb)
    exact hnf vs hd'
  obtain ⟨of, fd, hof, hcf, hdf, hdt⟩ := R.fo
  obtain ⟨md, hD, mw, m1, m2, m3⟩ := id R.md
  obtain ⟨oD, es, ep, hoD, hdD, _⟩ := hD.ns
  refine ⟨f, D, g, c, cc, rfl, new f of R.ap.1 hof (fun vs q => by rw [hdt] at q; cases q), new D oD R.ap.2.1 hoD (fun vs q => by rw [hdD] at q; cases q), keep, hA.step.size, ?_, R.pass (Pass.less less), hA.step.gens, hA.step.os⟩
  have t1 : TabAt qLam (PP Q [(T, .tab)]) s₁.heap T := (tIs _ _).mp (hA.hp.st _ _ List.mem_cons_self)
  exact t1.pass (Pass.less less) fun _ e => e
end Mine
end R8
section C41
open PySem PySem.W PyProof.Rows
namespace Mine
noncomputable def FnAtC (C : Cx) (a c : Addr) (q : Str) (names : List String) (scope : Scope) (body : List Stmt) : Prop :=
  ∀ h, C.gi h → ∃ o fd, h.get? a = some o ∧ o.data = .func fd ∧ h.CodeRec fd.code fd.qualname ∧ fd.body = .stmts body ∧ fd.scope = scope ∧ fd.closure = [] ∧ fd.globals = mainGlobals ∧ fd.builtins = builtinsNs ∧ fd.qualname = q ∧ fd.code = .ref c ∧
    ∀ vals : List Value, vals.length = names.length → bindArgs fd ⟨vals, []⟩ = pure ((names.map Str.ofString).zip vals)
theorem FnAtC.fn {C a c q names scope body} (F : FnAtC C a c q names scope body) : FnAt C a names scope body := fun h g => by
  obtain ⟨o, fd, ho, hd, hcd, hbody, hsc, hclo, hgl, hbl, _, _, hbind⟩ := F h g
  exact ⟨o, fd, ho, hd, hcd, hbody, hsc, hclo, hgl, hbl, hbind⟩
theorem Fn.callE {C k a c q names scope body σ ds K} (F : FnAtC C a c q names scope body) (ok : okFn names scope = true) (hl : ds.length = names.length)
    (h : ∀ (A : Around) (P : Addr → Prop) (env : Env) (s : Shared), env.scope = scope → env.qual = q ++ ".<locals>." → env.code = .ref c → Room A k → Inv C P env (names.zip ds) σ s.heap →
      wpAny (model C.prog C.w) A (execs body env) (OutF C P env σ s fun g _ σ' => match g with | .ret d => K d σ' | .next => K .none σ' | _ => False) NoE s) :
    OpL C (k + 1) σ ds (fun vs => PySem.call (.ref a) vs) K := fun A P s vs hr H r => by
  obtain ⟨o, fd, ho, hd, hcd, hbody, hsc, hclo, hgl, hbl, hqn, hcode, hbind⟩ := F s.heap H.gi
  simp only [okFn, Bool.and_eq_true] at ok
  obtain ⟨⟨⟨⟨⟨ok1, ok2⟩, ok3⟩, ok4⟩, ok5⟩, ok6⟩ := ok
  have ok3 : names.Nodup := of_decide_eq_true ok3
  have ok6 : scope.kind = .function := eq_of_beq ok6
  subst hsc
  have hlv : vs.length = names.length := r.length.trans hl
  have hnd : (((names.map Str.ofString).zip vs).map (·.1)).Nodup := by
    rw [List.map_fst_zip (by simp [hlv])]
    exact nodup_names ok3
  have hin : ∀ x ∈ (names.map Str.ofString).zip vs, fd.scope.names.lookup x.1 = some .local ∨ fd.scope.names.lookup x.1 = some .cell := fun x hx => by
    have := (List.of_mem_zip hx).1
    obtain ⟨n, hn, e⟩ := List.mem_map.mp this
    have := List.all_eq_true.mp ok2 n hn
    rw [Bool.or_eq_true, beq_iff_eq, beq_iff_eq] at this
    rw [← e]; exact this
  refine wpAny_call (codeAny_call_cells hr.limit ho hd (C.nolimit H.gi) hcd hbody (hbind vs hlv) hclo (fun x hx => ?_) (fun s₁ hin₁ => ?_) (by simpa using ok4) (by simpa using ok5) ok6)
  · rcases hin x hx with q | q
    · exact .inl q
    · refine .inr ⟨q, ?_⟩
      obtain ⟨c, hc⟩ := cellsFrom_has (n := s.heap.objs.size + 1) (acc := []) (Mine.mem_of_lookup q)
      obtain ⟨d, hd⟩ := Mine.lookup_of_mem hc
      rw [hd]; rfl
  · generalize henv : callEnvC fd s.heap.objs.size a = env at hin₁ ⊢
    have hloc : env.locals = s.heap.objs.size := by rw [← henv]; rfl
    have hscp : env.scope = fd.scope := by rw [← henv]; rfl
    have hcells : env.cells = cellsFrom (s.heap.objs.size + 1) fd.scope.names [] := by rw [← henv]; rfl
    have hkd : env.kindOf = fun n => fd.scope.names.lookup n := by funext n; unfold Env.kindOf; rw [hscp]
    obtain ⟨h', tk, hs₁, kp⟩ := hin₁.done
    subst hs₁
    have ns := hin₁.toInCall.ns
    have cellAt : ∀ x c, env.cells.lookup x = some c → s.heap.objs.size < c := fun x c hx => hloc ▸ hin₁.above x c (Mine.mem_of_lookup hx)
    have ownF : ∀ b, own env b → s.heap.objs.size ≤ b := fun b q => by
      rcases q with q | ⟨x, hx⟩
      · rw [q, hloc]; exact Nat.le_refl _
      · exact Nat.le_of_lt (cellAt x b hx)
    have hsz1 : s.heap.objs.size ≤ h'.objs.size := by have := ns.lt; rw [hloc] at this; exact Nat.le_of_lt this
    have E : EnvOk env h' := by
      refine ⟨by rw [hscp]; exact ok6, by rw [← henv]; exact hgl, by rw [← henv]; exact hbl, ⟨_, ns⟩, fun x c hx => ⟨fun q => ?_, _, hin₁.cell x c hx⟩, fun x y c hx hy => ?_, fun x hx => ?_⟩
      · have := cellAt x c hx
        rw [q, hloc] at this
        exact Nat.lt_irrefl _ this
      · exact name_of_addr hin₁.apart (Mine.mem_of_lookup hx) (Mine.mem_of_lookup hy)
      · rw [hkd] at hx
        rcases hx with hx | hx
        · rw [hcells]
          obtain ⟨c, hc⟩ := cellsFrom_has (n := s.heap.objs.size + 1) (acc := []) (Mine.mem_of_lookup hx)
          exact Mine.lookup_of_mem hc
        · have := List.all_eq_true.mp ok1 _ (Mine.mem_of_lookup hx)
          simp at this
    have g : Pass P s.heap (fun b => P b ∨ own env b) h' := fun b x na e => ⟨kp b x e, fun q => q.elim na fun q => absurd (Heap.lt_size e) (Nat.not_lt.mpr (ownF b q))⟩
    have I : Inv C (fun b => P b ∨ own env b) env (names.zip ds) σ h' := by
      refine ⟨⟨C.keep H.gi (fun b x _ e => kp b x e) hsz1, H.st.pass g (fun b _ x e => kp b x e), fun b hb => .inl (H.ptb b hb), fun b hb => ⟨.inl (H.pdom b hb).1, (H.pdom b hb).2⟩, H.nodup, fun b q => q.elim (fun q => Nat.lt_of_lt_of_le (H.plt b q) hsz1) fun q => E.lt b q⟩, E, fun x d hx => ?_, fun b q => ⟨.inr q, Nat.le_trans (C.low H.gi) (ownF b q), fun hd => absurd (H.lt b hd) (Nat.not_lt.mpr (ownF b q))⟩⟩
      obtain ⟨v, hm, rv⟩ := zip_rd r hx
      refine ⟨v, ?_, rv.pass' g⟩
      rcases hin _ hm with q | q
      · have q' : env.kindOf (Str.ofString x) = some .local := by rw [hkd]; exact q
        exact .loc q' ns (bindL_get hnd hm q')
      · have q' : env.kindOf (Str.ofString x) = some .cell := by rw [hkd]; exact q
        obtain ⟨c, hc⟩ := E.has _ (.inl q')
        exact .cell (.inl q') hc (bindC_get hnd hm q' ▸ hin₁.cell _ c hc)
    refine wpAny_mono (h (A.deeper env) _ env _ hscp (by rw [← henv, ← hqn]; rfl) (by rw [← henv]; exact hcode) (hr.deeper env) I) (fun f s' o => ?_) fun _ _ x => x.elim
    obtain ⟨fl, ρ', σ', hK, hA, hf⟩ := o
    have S : Step C σ σ' noOwn s s' := ⟨fun b x h1 h2 _ e => hA.step.kept b x h1 h2 (fun q => absurd (Heap.lt_size e) (Nat.not_lt.mpr (ownF b q))) (kp b x e), Nat.le_trans hsz1 hA.step.size, fun b hb => (hA.step.new b hb).elim .inl fun q => .inr (Nat.le_trans hsz1 q), hA.step.gens, hA.step.os⟩
    have less : ∀ b, PP P σ' b → PP (fun b => P b ∨ own env b) σ' b := fun b q => q.elim (fun q => .inl (.inl q)) .inr
    have Af : After C P σ s σ' s' := ⟨S, hA.inv.hp.weak less (fun b hb => .inl (H.ptb b hb)) (fun b hb => .inr hb)⟩
    cases hf with
    | next => exact ⟨_, _, hK, Af, .none⟩
    | brk => exact hK.elim
    | cont => exact hK.elim
    | ret rv => exact ⟨_, _, hK, Af, rv.pass' (Pass.less less)⟩
end Mine
end C41
section R9
open PySem PySem.W PyProof.Rows
set_option maxRecDepth 100000
namespace Mine
noncomputable def RuleV (x : List (List Nat)) (P : Addr → Prop) (h : Heap) (v : Value) : Prop :=
  ∃ vd p f D o fd md, x = [vd, p] ∧ v = .ref f ∧ ¬ P f ∧ ¬ P D ∧ h.get? f = some o ∧ o.cls = .type "function" ∧ o.dict = some D ∧ o.data = .func fd ∧ h.Ns D md ∧ (∃ w, md (Str.ofString "allowance") = some w ∧ IsS w vd) ∧ ∃ w, md (Str.ofString "path") = some w ∧ IsS w p
theorem RuleV.pass {x P h P' h' v} (r : RuleV x P h v) (q : Pass P h P' h') : RuleV x P' h' v := by
  obtain ⟨vd, p, f, D, o, fd, md, e1, e2, n1, n2, ho, hc, hd, hdt, hD, m1, m2⟩ := r
  have hD' : h'.Ns D md := hD.at fun o e => (q _ _ n2 e).1
  obtain ⟨oD, es, ep, hoD, rest⟩ := hD
  exact ⟨vd, p, f, D, o, fd, md, e1, e2, (q _ _ n1 ho).2, (q _ _ n2 hoD).2, (q _ _ n1 ho).1, hc, hd, hdt, hD', m1, m2⟩
noncomputable def RulesV (C : Cx) : Prop := ∀ x P h v, C.X 1 x P h v ↔ RuleV x P h v
section
variable {C : Cx} {k : Nat} {σ : Sto} {K : PV → Sto → Prop} {vd p : List Nat}
theorem Op1.allowanceV (X : RulesV C) (h : K (.str vd) σ) : Op1 C k σ (.ext 1 [vd, p]) (fun v => getAttr v (Str.ofString "allowance") true) K := fun A P s v hr H r => by
  obtain ⟨vd', p', f, D, o, fd, md, e1, rfl, n1, n2, ho, hc, hd, hdt, hD, ⟨w, hw, hs⟩, m2⟩ := (X _ _ _ _).mp r.extE
  cases e1
  obtain ⟨hh, g', dd, t, os⟩ := s
  have hh2 : handedOut w = pure w := by obtain ⟨x, t, rfl, _⟩ := hs; rfl
  exact fn_load ho hc hd hdt hD fn_no_allow hw hh2 (Out.here (tk := t + 1) H hs.rd h)
theorem Op1.pathV (X : RulesV C) (h : K (.str p) σ) : Op1 C k σ (.ext 1 [vd, p]) (fun v => getAttr v (Str.ofString "path") true) K := fun A P s v hr H r => by
  obtain ⟨vd', p', f, D, o, fd, md, e1, rfl, n1, n2, ho, hc, hd, hdt, hD, m1, ⟨w, hw, hs⟩⟩ := (X _ _ _ _).mp r.extE
  cases e1
  obtain ⟨hh, g', dd, t, os⟩ := s
  have hh2 : handedOut w = pure w := by obtain ⟨x, t, rfl, _⟩ := hs; rfl
  exact fn_load ho hc hd hdt hD fn_no_path hw hh2 (Out.here (tk := t + 1) H hs.rd h)
end
set_option maxHeartbeats 1000000 in
theorem ex_spoil {C : Cx} {LT : LamT} {T1 a1 T2 c2 : Addr} {k : Nat} {σ : Sto} {ρ : Lo} {fr vd : List Nat} {qSp : Str} {sc sc2 : Scope} {e₁ e₂ b2 : Expr} {p1 p2 p3 r1 q1 q2 l2 r2 : Pos} {prm : Arguments} {rest : List Stmt} {K : Fl → Lo → Sto → Prop} {A : Around} {P : Addr → Prop} {env : Env} {s : Shared}
    (X : RulesX C LT) (V : RulesV C) (htb : C.tb = []) (tab1 : C.tab T1) (tIs1 : ∀ P h, C.T P h T1 ↔ TabAt qLam P h T1) (hop : ∀ (σ : Sto) (K : PV → Sto → Prop), (T1, AO.tab) ∈ σ → K (.ext 0 [fr, vd, fr]) σ → OpL C k σ [.str fr, .str vd] (fun vs => PySem.call (.ref a1) vs) K)
    (hcal : Callable C (.ref a1)) (hg : C.mg (Str.ofString "_law_rule") = some (.ref a1)) (tab2 : C.tab T2) (tIs2 : ∀ P h, C.T P h T2 ↔ TabAt qSp P h T2) (CH2 : ∀ h, C.gi h → CodeHd h c2 T2) (ne2 : mainGlobals ≠ T2) (blt2 : ∀ h, C.gi h → h.BuiltinsAt C.mg T2)
    (hT1 : (T1, AO.tab) ∈ σ) (hT2 : (T2, AO.tab) ∈ σ) (he : env.scope = sc) (hq : env.qual ++ "<lambda>" = qSp) (hcode : env.code = .ref c2) (hr : Room A k) (I : Inv C P env ρ σ s.heap)
    (hk : sc.names.lookup (Str.ofString "_law_rule") = some NameKind.globalImplicit) (hkr : Storable sc "rule") (hL : EvL C k sc ρ σ [e₁, e₂] fun ds σ' => ds = [.str fr, .str vd] ∧ σ' = σ) (hp : [e₁, e₂].all plainE = true)
    (hdef : ∀ env, defaultsOf prm env = ([], [])) (hsc2 : ∀ env, closureFor sc2 env = pure []) (h : Ex C k sc (("rule", .ext 1 [vd, fr]) :: ρ) σ rest K) :
    wpAny (model C.prog C.w) A (execs (.Assign [.Name (Str.ofString "rule") p1] (.Call (.Name (Str.ofString "_law_rule") p2) [e₁, e₂] [] p3) r1 :: .Assign [.Attribute (.Name (Str.ofString "rule") q1) (Str.ofString "applies_to") q2] (.Lambda prm b2 sc2 l2) r2 :: rest) env) (OutF C P env σ s K) NoE s := by
  have hd1 : T1 ∈ dom σ := mem_dom hT1 T1 (.inl rfl)
  have hd2 : T2 ∈ dom σ := mem_dom hT2 T2 (.inl rfl)
  have hnm : Ev C k sc ρ σ (.Name (Str.ofString "_law_rule") p2) fun d σ' => d = .raw (.ref a1) ∧ σ' = σ := Ev.global hk hg ⟨rfl, rfl⟩ (by decide)
  refine wpAny_execs_cons (wpAny_Assign_Name (Call_ (ev_one hnm he hr I fun v₀ d₀ σ₀ s₁ hK₀ hA₁ r₀ => ?_) rfl) rfl)
  obtain ⟨rfl, rfl⟩ := hK₀
  obtain rfl := r₀.rawE
  have I₁ := I.after hA₁
  refine callWith_of (P := C.gi) (by rw [plain_trees hp]; rfl) (fun h' g => let ⟨k, a, b⟩ := hcal h' g; ⟨k, a, b _⟩) (evalArgs_of (plain_trees hp) ?_)
  refine wpAny_mono (evL_spliced he hr hL hp I₁) (fun vs s₂ o => ?_) fun _ _ x => x
  obtain ⟨ds, σ', ⟨rfl, rfl⟩, hA₂, r₂⟩ := o
  refine ⟨hA₂.hp.gi, ?_⟩
  obtain ⟨va, vb, rfl, ra, rb⟩ := r₂.two
  have hA := hA₁.trans I.hp hA₂
  have I₂ : Inv C (PP P σ') env ρ σ' s₂.heap := I.after hA
  refine wpAny_mono (rule_fresh X tab1 tIs1 htb hop hr I₂.hp hT1 ra.isS rb.isS) (fun v s₃ o => ?_) fun _ _ x => x
  obtain ⟨f, D, g, c, cc, rfl, hf, hDl, k₃, z₃, t₃, R, gn₃, os₃⟩ := o
  let Q : Addr → Prop := fun b => PP (PP P σ') σ' b ∨ b = f ∨ b = D
  have A₃ : After C (PP P σ') σ' s₂ σ' s₃ := After.tab I₂.hp hT1 tab1 k₃ z₃ ((tIs1 _ _).mpr t₃) gn₃ os₃
  have I₃ := I₂.after A₃
  obtain ⟨of, fdf, hof, hcf, hdf, hdtf⟩ := R.fo
  obtain ⟨md, hD, ⟨ns, hw, hns⟩, m1, m2, m3⟩ := R.md
  have ltS : ∀ b, PP (PP P σ') σ' b → b < s₂.heap.objs.size := I₂.hp.pplt
  have lo2 : C.base ≤ s₂.heap.objs.size := C.low I₂.hp.gi
  have gQ : Pass (PP P σ') s₂.heap Q s₃.heap := fun a o na e => by
    have haT : a ≠ T1 := fun q => na (q ▸ .inr hd1)
    refine ⟨k₃ a o haT e, fun q => ?_⟩
    rcases q with q | rfl | rfl
    · rcases q with q | q
      · exact na q
      · exact na (.inr q)
    · exact Nat.not_lt.mpr hf (Heap.lt_size e)
    · exact Nat.not_lt.mpr hDl (Heap.lt_size e)
  obtain ⟨oD, es, ep, hoD, _⟩ := hD.ns
  have tQ : TabAt qLam Q s₃.heap T1 := by
    obtain ⟨ps, e, tr, cs⟩ := t₃
    refine ⟨ps, e, tr, fun pos cv hcv => ?_⟩
    obtain ⟨cc', rfl, n, nT, r⟩ := cs pos cv hcv
    obtain ⟨c', oc, vs, tq, e', hoc, hcd, hq'⟩ := id r
    obtain rfl : cc' = c' := Value.ref.inj e'
    refine ⟨cc', rfl, fun q => ?_, nT, r⟩
    rcases q with q | rfl | rfl
    · exact n q
    · rw [hof] at hoc; cases hoc; rw [hdtf] at hcd; cases hcd
    · obtain ⟨oD', es', ep', hoD', hdD', _⟩ := hD.ns
      rw [hoD'] at hoc; cases hoc; rw [hdD'] at hcd; cases hcd
  have I₃' : Inv C Q env ρ σ' s₃.heap := by
    refine ⟨⟨I₃.hp.gi, fun a ao hm => ?_, (fun a ha => by rw [htb] at ha; cases ha), fun a ha => ⟨.inl (.inr ha), (I₃.hp.pdom a ha).2⟩, I₃.hp.nodup, fun a q => ?_⟩, I₃.envOk, fun x d hx => ?_, fun a ha => ⟨.inl (I₃.pown a ha).1, (I₃.pown a ha).2⟩⟩
    · rcases mem_other hT1 I₃.hp.nodup a ao hm with ⟨rfl, rfl⟩ | ⟨_, h1, h2⟩
      · exact (tIs1 _ _).mpr tQ
      · exact (I₂.hp.st a ao hm).pass gQ fun b hb o e => k₃ b o (fun q => by
          rcases hb with q' | q'
          · exact h1 (q ▸ q')
          · exact h2 (q ▸ q')) e
    · rcases q with q | rfl | rfl
      · exact Nat.lt_of_lt_of_le (ltS a q) z₃
      · exact Heap.lt_size hof
      · exact Heap.lt_size hoD
    · obtain ⟨v, hv, rv⟩ := I₂.vars x d hx
      refine ⟨v, hv.keep fun b o hb e => k₃ b o (fun q => ?_) e, rv.pass' gQ⟩
      exact (I₂.pown b hb).2.2 (q ▸ hd1)
  have ownLt : ∀ b, own env b → b < s₂.heap.objs.size := fun b hb => I₂.envOk.lt b hb
  have domLt : ∀ b ∈ dom σ', b < s₂.heap.objs.size := fun b hb => I₂.hp.lt b hb
  have nof : ¬ own env f := fun q => Nat.not_lt.mpr hf (ownLt f q)
  have noD : ¬ own env D := fun q => Nat.not_lt.mpr hDl (ownLt D q)
  have ndf : f ∉ dom σ' := fun q => Nat.not_lt.mpr hf (domLt f q)
  have ndD : D ∉ dom σ' := fun q => Nat.not_lt.mpr hDl (domLt D q)
  have ntb : ∀ b, b ∉ C.tb := fun b q => by rw [htb] at q; cases q
  refine inv_store he hkr I₃' (d := .raw (.ref f)) (.raw _) fun s₄ S₄ I₄ => ?_
  have hof₄ := S₄.kept f of ndf (ntb f) nof hof
  have hD₄ : s₄.heap.Ns1 D md := hD.at fun o e => S₄.kept D o ndD (ntb D) noD e
  refine wpAny_execs_cons (wpAny_Assign_stores (lam_make (P := Q) (mg := C.mg) (clos := []) (hdef env) hq ?_ I₄.envOk.glob (C.g I₄.hp.gi) hcode (CH2 _ I₄.hp.gi) ((tIs2 _ _).mp (I₄.hp.st _ _ hT2)) ne2 (blt2 _ I₄.hp.gi) I₄.hp.plt fun h' tk cg ctg hk' hz' htab' hrec' hn' hT' => ?_) rfl rfl)
  · exact hsc2 env
  show wpAny _ _ (PySem.assign (Expr.Attribute _ (Str.ofString "applies_to") _) env _) _ _ _
  rw [arm_assign_Attribute]
  generalize hs₅ : ({ s₄ with heap := h'.push (kla_obj "<lambda>" qSp prm b2 sc2 [] ((C.mg "__name__").getD .none) cg ctg), toks := tk } : Shared) = s₅
  have k₅ : ∀ b o, b ≠ T2 → s₄.heap.get? b = some o → s₅.heap.get? b = some o := fun b o hb e => by rw [← hs₅]; exact Heap.get?_push_of_some _ (hk' b o hb e)
  have z₅ : s₄.heap.objs.size ≤ s₅.heap.objs.size := by rw [← hs₅]; show _ ≤ (h'.push _).objs.size; rw [Heap.size_push]; exact Nat.le_succ_of_le hz'
  have t₅ : TabAt qSp (PP Q σ') s₅.heap T2 := by
    have t' : TabAt qSp Q s₅.heap T2 := by rw [← hs₅]; exact htab'.kept fun b o vs _ e => Heap.get?_push_of_some _ e
    exact t'.pass (Pass.less fun a q => q.elim id fun q => (I₄.hp.pdom a q).1) fun _ e => e
  have A₅ : After C Q σ' s₄ σ' s₅ := After.tab I₄.hp hT2 tab2 k₅ z₅ ((tIs2 _ _).mpr t₅) (by rw [← hs₅]) (by rw [← hs₅])
  have I₅ := I₄.after A₅
  have T2lt : T2 < s₂.heap.objs.size := domLt T2 hd2
  have hfT : f ≠ T2 := Nat.ne_of_gt (Nat.lt_of_lt_of_le T2lt hf)
  have hDT : D ≠ T2 := Nat.ne_of_gt (Nat.lt_of_lt_of_le T2lt hDl)
  have hnr : Ev C k sc (("rule", .raw (.ref f)) :: ρ) σ' (.Name (Str.ofString "rule") q1) fun d σ'' => d = .raw (.ref f) ∧ σ'' = σ' := Ev.name (x := "rule") List.lookup_cons_self ⟨rfl, rfl⟩ (by decide) (by decide)
  clear hs₅
  refine wpAny_bind (wpAny_holding (ev_one hnr he hr I₅ fun v₆ d₆ σ₆ s₆ hK₆ A₆ r₆ => ?_))
  obtain ⟨rfl, rfl⟩ := hK₆
  obtain rfl := r₆.rawE
  have I₆ := I₅.after A₆
  have hof₆ := A₆.step.kept f of ndf (ntb f) (fun q => q) (k₅ f of hfT hof₄)
  have hD₆ : s₆.heap.Ns1 D md := hD₄.at fun o e => A₆.step.kept D o ndD (ntb D) (fun q => q) (k₅ D o hDT e)
  have g₆ := A₆.step.gens
  have o₆ := A₆.step.os
  have k₆ := A₆.step.kept
  have z₆ := A₆.step.size
  obtain ⟨hh, gg, dd, tt, oo⟩ := s₆
  refine wpAny_bind (wpAny_standAt (wpAny_bind (wpAny_holding (fn_store hof₆ hcf hdtf (.inr ⟨D, hdf, R.ne, hD₆⟩) fn_no_applies (fun h₇ tk₇ D' hf₇ hne₇ hlow₇ hns₇ hk₇ hz₇ => wpAny_release ?_) hw (by lia)))))
  obtain rfl : D = D' := by
    rcases hlow₇ with ⟨q, _⟩ | q
    · rw [hdf] at q; cases q
    · rw [hdf] at q; cases q; rfl
  have hof₇ : h₇.get? f = some of := by
    rw [hf₇]
    obtain ⟨oc, od, odt, osl⟩ := of
    dsimp only at hdf
    subst hdf
    rfl
  have k₇ : ∀ b o, b ≠ D → hh.get? b = some o → h₇.get? b = some o := fun b o hb e => by
    by_cases hbf : b = f
    · subst hbf
      obtain rfl := Option.some.inj (hof₆.symm.trans e)
      exact hof₇
    · exact hk₇ b o hbf (fun dx edx => by rw [hdf] at edx; cases edx; exact hb) e
  have I₇ : Inv C (PP (PP Q σ₆) σ₆) env (("rule", .raw (.ref f)) :: ρ) σ₆ h₇ := I₆.moved k₇ hz₇ ⟨.inl (.inl (.inr (.inr rfl))), Nat.le_trans lo2 hDl, ndD, noD⟩
  have up : ∀ a, PP P σ₆ a → PP (PP Q σ₆) σ₆ a := fun a q => .inl (.inl (.inl (.inl q)))
  have I₈ := I₇.less up (fun a ha => by rw [htb] at ha; cases ha) (fun a ha => .inr ha) (fun a ha => .inl (I.pown a ha).1)
  have nf : ¬ PP P σ₆ f := fun q => Nat.not_lt.mpr hf (I₂.hp.plt f q)
  have nD : ¬ PP P σ₆ D := fun q => Nat.not_lt.mpr hDl (I₂.hp.plt D q)
  have AF : AfterF C P env σ₆ s (("rule", .ext 1 [vd, fr]) :: ρ) σ₆ ⟨h₇, gg, dd, tk₇, oo⟩ := by
    refine ⟨⟨fun b o h1 h2 h3 e => ?_, ?_, fun _ q => .inl q, ?_, ?_⟩, ⟨I₈.hp, I₈.envOk, fun x d hx => ?_, I₈.pown⟩⟩
    · have e2 := hA.step.kept b o h1 h2 (fun q => q) e
      have hb2 := Heap.lt_size e2
      have n1 : b ≠ T1 := fun q => h1 (q ▸ hd1)
      have n2 : b ≠ T2 := fun q => h1 (q ▸ hd2)
      exact k₇ b o (Nat.ne_of_lt (Nat.lt_of_lt_of_le hb2 hDl)) (k₆ b o h1 h2 (fun q => q) (k₅ b o n2 (S₄.kept b o h1 h2 h3 (k₃ b o n1 e2))))
    · exact Nat.le_trans hA.step.size (Nat.le_trans z₃ (Nat.le_trans S₄.size (Nat.le_trans z₅ (Nat.le_trans z₆ hz₇))))
    · exact (g₆.trans (A₅.step.gens.trans (S₄.gens.trans (gn₃.trans hA.step.gens))))
    · exact (o₆.trans (A₅.step.os.trans (S₄.os.trans (os₃.trans hA.step.os))))
    · by_cases hxr : x = "rule"
      · subst hxr
        rw [List.lookup_cons_self] at hx; cases hx
        obtain ⟨v, hv, rv⟩ := I₈.vars "rule" _ List.lookup_cons_self
        obtain rfl := rv.rawE
        refine ⟨_, hv, .ext ((V _ _ _ _).mpr ⟨vd, fr, f, D, of, fdf, _, rfl, rfl, nf, nD, hof₇, hcf, hdf, hdtf, hns₇.ns, ?_, ?_⟩)⟩
        · rw [if_neg (by decide)]; exact m2
        · rw [if_neg (by decide)]; exact m3 fr rfl
      · exact I₈.vars x d (by rw [List.lookup_cons, beq_false_of_ne hxr] at hx ⊢; exact hx)
  exact wp_seqF AF I (h A _ env _ he hr AF.inv)
end Mine
end R9
section U25
open PySem PySem.W PyProof.Rows
set_option maxRecDepth 100000
namespace Mine
noncomputable def qSp : Str := Str.ofString "_law_spoil.<locals>.<lambda>"
set_option genInjectivity false in
structure Top1 (C : Cx) (N : Addr) (mN : Str → Option Value) (S : Int → Bool) (D : List (PyData × PyData)) (tT tA uT uA uc : Addr) : Prop where
  B : TopB C S D
  E : TopE C N mN
  chr : Blt C "chr" (.builtin "chr")
  len : Blt C "len" (.builtin "len")
  range : Blt C "range" (.type "range")
  max : Blt C "max" (.builtin "max")
  cells : Fun C "_law_cells" ["script"] (stAt 9)
  sign : Fun C "_law_sign" ["family", "cell"] (stAt 10)
  prep : Fun C "_law_prepared" ["text"] (stAt 11)
  rule : RuleFn C lam1 tT tA ["front", "word"] (fScope (stAt 12)) (fBody (stAt 12))
  ruleAt : C.mg (Str.ofString "_law_rule") = some (.ref tA)
  record : Fun C "_law_record" ["agents", "fronts", "word", "delay", "rate"] (stAt 13)
  spoil : FnAtC C uA uc (Str.ofString "_law_spoil") ["record"] (fScope (stAt 14)) (fBody (stAt 14))
  spoilAt : C.mg (Str.ofString "_law_spoil") = some (.ref uA)
  rows : Fun C "_law_rows" ["record"] (stAt 15)
  X : RulesX C lam1
  V : RulesV C
  tab2 : C.tab uT
  tIs2 : ∀ P h, C.T P h uT ↔ TabAt qSp P h uT
  ch2 : ∀ h, C.gi h → CodeHd h uc uT
  ne2 : mainGlobals ≠ uT
  blt2 : ∀ h, C.gi h → h.BuiltinsAt C.mg uT
theorem RuleFn.callable {C LT T a names scope body} (F : RuleFn C LT T a names scope body) : Callable C (.ref a) := fun h g => by
  obtain ⟨o, fd, c, ho, hd, _⟩ := F.fn h g
  refine ⟨.frame, .inl rfl, fun M => (Looks.ld (part := Option.none) ho).andThen ?_⟩
  rw [hd]; exact Looks.now
noncomputable def pRule (vd fr : List Nat) : Rule := (fr, vd, [fr])
noncomputable def fRuleW (vd : List Nat) : PV → PV
  | .str x => (pRule vd x).pv
  | _ => .none
noncomputable def rowPV : PV → PV
  | .ext 0 [_, v, p] => .tuple [.str p, .str v]
  | .ext 1 [v, p] => .tuple [.str p, .str v]
  | _ => .none
noncomputable def IsRow (d : PV) : Prop := (∃ f v p, d = .ext 0 [f, v, p]) ∨ ∃ v p, d = .ext 1 [v, p]
section
variable {C : Cx} {N : Addr} {mN : Str → Option Value} {S : Int → Bool} {D : List (PyData × PyData)} {tT tA uT uA uc : Addr} (T : Top1 C N mN S D tT tA uT uA uc) {k : Nat} {σ : Sto}
include T
theorem ev_rule {sc : Scope} {ρ : Lo} {e₁ e₂ : Expr} {p pos : Pos} {K : PV → Sto → Prop} (hk : sc.names.lookup (Str.ofString "_law_rule") = some NameKind.globalImplicit)
    (h : Ev C (k + 1) sc ρ σ e₁ fun d₁ σ₁ => Ev C (k + 1) sc ρ σ₁ e₂ fun d₂ σ₂ => ∃ fr vd, d₁ = .str fr ∧ d₂ = .str vd ∧ (tT, AO.tab) ∈ σ₂ ∧ K (.ext 0 [fr, vd, fr]) σ₂) (hp : [e₁, e₂].all plainE = true) :
    Ev C (k + 1) sc ρ σ (.Call (.Name (Str.ofString "_law_rule") p) [e₁, e₂] [] pos) K := by
  refine Ev.call (Ev.global hk T.ruleAt ⟨_, rfl, T.rule.callable, ?_⟩) hp fun _ => rfl
  refine Ev.mono h fun d₁ σ₁ q => Ev.mono q fun d₂ σ₂ q => ?_
  obtain ⟨fr, vd, rfl, rfl, hT, hK⟩ := q
  exact @op_rule1 C tT tA k σ₂ fr vd K T.rule T.X hT hK
theorem w_record {ags fronts : List (List Nat)} {word : List Nat} {dl rr : PV} {K : PV → Sto → Prop} (hT : (tT, AO.tab) ∈ σ) (ha : ags.length ≤ 10000) (hf : fronts.length ≤ 10000)
    (h : ∀ a d u r, [r, u, a, d].Nodup → a ∉ dom σ → d ∉ dom σ → u ∉ dom σ → r ∉ dom σ → K (.raw (.ref a)) ((r, .mlist (fronts.map fun f => (pRule word f).pv)) :: (u, .mlist (ags.map .str)) :: (a, .inst d (setF (setF (fsNew u r) "delay" dl) "req_rate" rr)) :: σ)) :
    Ex C (k + 2) (fScope (stAt 13)) [("agents", .list (ags.map .str)), ("fronts", .list (fronts.map .str)), ("word", .str word), ("delay", dl), ("rate", rr)] σ (fBody (stAt 13)) (fun g _ σ' => match g with | .ret d => K d σ' | .next => K .none σ' | _ => False) := by
  refine Ex.cons (Ex1.assign (x := "record") (Ev.entry T.E rfl fun a d u r ha' hd' hu' hr' hn => ?_) (.inl rfl) fun _ => rfl)
  refine Ex.cons (Ex1.expr (Ev.extend (Ev.fld T.E (x := "record") (f := "useragents") T.E.ua rfl at2 rfl ⟨u, rfl, ⟨_, at1⟩, Ev.name (x := "agents") rfl ⟨[], _, _, .list, .there .here, by simp; lia, ?_⟩⟩) rfl rfl fun _ => rfl) fun _ => rfl)
  refine Ex.cons (Ex1.expr (Ev.extend (Ev.fld T.E (x := "record") (f := "rulelines") T.E.rl rfl at2 rfl ⟨r, rfl, ⟨_, at0⟩, Ev.listComp [("word", .str word)] ⟨⟨rfl, rfl⟩, trivial⟩ (by decide +kernel) rfl (fun g hg => by cases List.mem_singleton.mp hg; exact ⟨rfl, fun _ _ => rfl⟩) ?_⟩) rfl rfl fun _ => rfl) fun _ => rfl)
  refine Ev.name (x := "fronts") rfl ⟨_, Iterable.list, ?_⟩
  refine Comp.pure1 (t := "front") (fun _ => true) (fRuleW word) rfl rfl (fun v hv K' hK' => hK') ?_ (by rw [List.length_map]; simp [sizeLine]; lia) ?_
  · intro v hv _ K' hK'
    obtain ⟨x, hx, rfl⟩ := List.mem_map.mp hv
    exact ev_rule T rfl (Ev.name (x := "front") rfl (Ev.name (x := "word") rfl ⟨_, _, rfl, rfl, .tail _ (.tail _ (.tail _ hT)), hK'⟩)) rfl
  rw [List.filter_eq_self.mpr (fun _ _ => rfl), show (fronts.map PV.str).map (fRuleW word) = fronts.map fun f => (pRule word f).pv by rw [List.map_map]; rfl]
  refine ⟨[], _, _, .list, .here, by simp; lia, ?_⟩
  simp only [List.nil_append]
  refine Ex.cons (Ex1.setFld T.E (x := "record") (f := "delay") T.E.dl (Ev.name (x := "delay") rfl ⟨a, d, _, _, rfl, .there (.there .here), by simp, ?_⟩) (fun _ => rfl) fun _ => rfl)
  refine Ex.cons (Ex1.setFld T.E (x := "record") (f := "req_rate") T.E.rr (Ev.name (x := "rate") rfl ⟨a, d, _, _, rfl, .there (.there .here), by simp [setF], ?_⟩) (fun _ => rfl) fun _ => rfl)
  exact Ex.cons (Ex1.ret (Ev.name (x := "record") rfl (h a d u r hn ha' hd' hu' hr')))
theorem w_rows {a d : Addr} {fs : List (String × PV)} {xs : List PV} {K : PV → Sto → Prop} (hm : (a, AO.inst d fs) ∈ σ) (hf : fs.lookup "rulelines" = some (.list xs)) (hx : ∀ x ∈ xs, IsRow x) (hl : xs.length ≤ 10000) (h : K (.list (xs.map rowPV)) σ) :
    Ex C k (fScope (stAt 15)) [("record", .raw (.ref a))] σ (fBody (stAt 15)) (fun g _ σ' => match g with | .ret d => K d σ' | .next => K .none σ' | _ => False) := by
  refine Ex.cons (Ex1.ret (Ev.listComp [] trivial (by decide +kernel) rfl (fun g hg => by cases List.mem_singleton.mp hg; exact ⟨rfl, fun _ _ => rfl⟩) ?_))
  refine Ev.fld T.E (x := "record") (f := "rulelines") T.E.rl rfl hm hf ⟨_, Iterable.list, ?_⟩
  refine Comp.pure1 (t := "rule") (fun _ => true) rowPV rfl rfl (fun v hv K' hK' => hK') ?_ (by simp [sizeLine]; lia) ?_
  · intro v hv _ K' hK'
    rcases hx v hv with ⟨f, w, p, rfl⟩ | ⟨w, p, rfl⟩
    · exact Ev.tuple2 (Ev.attr (Ev.name (x := "rule") rfl (Op1.path T.X fn_no_path (Ev.attr (Ev.name (x := "rule") rfl (Op1.allowance T.X fn_no_allow hK')) fun _ => rfl))) fun _ => rfl) rfl
    · exact Ev.tuple2 (Ev.attr (Ev.name (x := "rule") rfl (Op1.pathV T.V (Ev.attr (Ev.name (x := "rule") rfl (Op1.allowanceV T.V hK')) fun _ => rfl))) fun _ => rfl) rfl
  · rw [List.filter_eq_self.mpr (fun _ _ => rfl)]; exact h
end
end Mine
end U25
section U26
open PySem PySem.W PyProof.Rows
set_option maxRecDepth 100000
namespace Mine
theorem Ev.insert0 {C : Cx} {k : Nat} {sc : Scope} {ρ : Lo} {σ : Sto} {o e₁ e₂ : Expr} {apos pos : Pos} {K : PV → Sto → Prop} (h : Ev C k sc ρ σ o fun d σ₁ => ∃ a, d = .raw (.ref a) ∧ (∃ ys, (a, AO.mlist ys) ∈ σ₁) ∧ Ev C k sc ρ σ₁ e₁ fun d₁ σ₂ => d₁ = .int 0 ∧ Ev C k sc ρ σ₂ e₂ fun d₂ σ₃ => ∃ xs σ₄, Upd σ₃ a (.mlist xs) (.mlist (d₂ :: xs)) σ₄ ∧ xs.length ≤ 100000 ∧ K .none σ₄) (hp : [e₁, e₂].all plainE = true) (hline : (apos.endLine == pos.line) = true) (hbase : ∀ env, attributeBase o (Str.ofString "insert") env (eval o env) = eval o env) :
    Ev C k sc ρ σ (.Call (.Attribute o (Str.ofString "insert") apos) [e₁, e₂] [] pos) K :=
  Ev.method (T := "list") (id_ := "list.insert") (Ev.mono h fun d σ₁ ⟨a, e, ⟨ys, hm⟩, q⟩ => by subst e; exact ⟨OfType.list (LRead.mut hm), Ev.mono q fun d₁ σ₂ ⟨e1, q⟩ => by subst e1; exact Ev.mono q fun d₂ σ₃ ⟨xs, σ₄, u, hs, q⟩ => OpL.insert0 u (by lia) q⟩) F.plainAttrs_list F.slot_list_insert F.type_list_insert hp (by simp) hline hbase
section
variable {C : Cx} {N : Addr} {mN : Str → Option Value} {S : Int → Bool} {D : List (PyData × PyData)} {tT tA uT uA uc : Addr} (T : Top1 C N mN S D tT tA uT uA uc) {k : Nat} {σ : Sto}
include T
noncomputable abbrev moreL : List Nat := [109, 111, 114, 101]
noncomputable abbrev spoilP : PV := .ext 1 [moreL, []]
theorem w_spoil2 {a d r u : Addr} {fs : List (String × PV)} {rs : List PV} {us : List (List Nat)} {σ₁ σ₂ : Sto} {K : Fl → Lo → Sto → Prop} (hm : (a, AO.inst d fs) ∈ σ) (hr : fs.lookup "rulelines" = some (.raw (.ref r))) (hu : fs.lookup "useragents" = some (.raw (.ref u)))
    (hR : (r, AO.mlist rs) ∈ σ) (U₁ : Upd σ r (.mlist rs) (.mlist (spoilP :: rs)) σ₁) (hm₁ : (a, AO.inst d fs) ∈ σ₁) (hU : (u, AO.mlist (us.map .str)) ∈ σ₁) (U₂ : Upd σ₁ u (.mlist (us.map .str)) (.mlist (.str moreL :: us.map .str)) σ₂) (l1 : rs.length ≤ 10000) (l2 : us.length ≤ 10000)
    (h : ∀ ρ', K .next ρ' σ₂) : Ex C (k + 1) (fScope (stAt 14)) [("rule", spoilP), ("record", .raw (.ref a))] σ ((fBody (stAt 14)).drop 2) K := by
  refine Ex.cons (Ex1.expr (Ev.insert0 (Ev.fld T.E (x := "record") (f := "rulelines") T.E.rl rfl hm hr ⟨r, rfl, ⟨_, hR⟩, Ev.int ⟨rfl, Ev.name (x := "rule") rfl ⟨_, _, U₁, by lia, ?_⟩⟩⟩) rfl rfl fun _ => rfl) fun _ => rfl)
  refine Ex.cons (Ex1.expr (Ev.insert0 (Ev.fld T.E (x := "record") (f := "useragents") T.E.ua rfl hm₁ hu ⟨u, rfl, ⟨_, hU⟩, Ev.int ⟨rfl, Ev.str (l := moreL) rfl ⟨_, _, U₂, by rw [List.length_map]; lia, ?_⟩⟩⟩) rfl rfl fun _ => rfl) fun _ => rfl)
  exact Ex.nil (h _)
theorem op_spoil {a d r u : Addr} {fs : List (String × PV)} {rs : List PV} {us : List (List Nat)} {σ₁ σ₂ : Sto} {K : PV → Sto → Prop} (hT : (tT, AO.tab) ∈ σ) (hT2 : (uT, AO.tab) ∈ σ) (hm : (a, AO.inst d fs) ∈ σ) (hr : fs.lookup "rulelines" = some (.raw (.ref r))) (hu : fs.lookup "useragents" = some (.raw (.ref u)))
    (hR : (r, AO.mlist rs) ∈ σ) (U₁ : Upd σ r (.mlist rs) (.mlist (spoilP :: rs)) σ₁) (hm₁ : (a, AO.inst d fs) ∈ σ₁) (hU : (u, AO.mlist (us.map .str)) ∈ σ₁) (U₂ : Upd σ₁ u (.mlist (us.map .str)) (.mlist (.str moreL :: us.map .str)) σ₂) (l1 : rs.length ≤ 10000) (l2 : us.length ≤ 10000)
    (h : K .none σ₂) : OpL C (k + 2) σ [.raw (.ref a)] (fun vs => PySem.call (.ref uA) vs) K := by
  refine Fn.callE T.spoil (by decide +kernel) rfl fun A P env s he hq hc hrm I => ?_
  refine ex_spoil (fr := []) (vd := moreL) (qSp := qSp) (T1 := tT) (T2 := uT) T.X T.V T.rule.tb T.rule.tab T.rule.tIs (fun σ K h1 h2 => op_rule1 T.rule T.X h1 h2) T.rule.callable T.ruleAt T.tab2 T.tIs2 T.ch2 T.ne2 T.blt2 hT hT2 he ?_ hc hrm I rfl (.inl rfl) ?_ rfl (fun _ => rfl) (fun env => ?_) ?_
  · rw [hq]; kernel_rfl
  · exact Ev.str (l := []) rfl (Ev.str (l := moreL) rfl ⟨rfl, rfl⟩)
  · have hn : ∀ sc : Scope, sc.names = [(Str.ofString "name", NameKind.local)] → closureFor sc env = pure [] := fun sc h => by
      unfold closureFor
      rw [h]
      simp only [List.forIn_cons, List.forIn_nil, show (NameKind.local == NameKind.free) = false from rfl, Bool.false_eq_true, if_false, pure_bind]
    exact hn _ rfl
  · exact w_spoil2 T hm hr hu hR U₁ hm₁ hU U₂ l1 l2 fun _ => h
end
end Mine
end U26
section U27
open PySem PySem.W PyProof.Rows
set_option maxRecDepth 100000
namespace Mine
section
variable {prog : Program} {w : World} {A : Around} {E : Value → Shared → Prop} {s : Shared}
theorem mul_out {l : Addr} {items : Array Value} {k : Nat} {x : Int} {u : Tok} {Q : Value → Shared → Prop}
    (hl : s.heap.get? l = some { cls := .type "list", dict := none, data := .seq items k, slots := #[] }) (hlo : -(2 ^ 63 : Int) ≤ x) (hhi : x < 2 ^ 63) (hsz : items.size * x.toNat ≤ 2 ^ 24)
    (h : Q (.ref s.heap.objs.size) { s with heap := s.heap.push { cls := .type "list", data := .seq (List.foldl (fun x1 x2 => x1 ++ x2) #[] (List.replicate (if items.isEmpty = true then 0 else x.toNat) items)) } }) :
    wpAny (model prog w) A (binaryOp .Mult (.ref l) (.int x u)) Q E s :=
  wpAny_binaryOp_repeat_ref (T := "list") (U := "int") (by decide) ⟨_, hl, rfl⟩ (fun s' => typeIs_int s' x u) noFill_list_mul F.fills_int_mul F.slot_int_rmul repeat_list F.slot_int_index.lookup
    (call_meets F.slot_int_rmul (typeIs_int s x u) F.entry_int_rmul (F.args_int_rmul_2 _ _) (int___rmul___int_list x u l items k)
      ⟨hl, rfl, ⟨_, hl, rfl⟩, call_meets F.slot_list_mul ⟨_, hl, rfl⟩ F.entry_list_mul (F.args_list_mul_2 _ _)
        (AutoListH.list___mul___list_int_3 l items k x u (by simp [Builtin.List.listFitsIndex]; lia) (by lia) (by simp [Builtin.List.listTooLong, sizeLine]; lia))
        ⟨hl, h⟩⟩)
end
theorem peq_bool (a b : Bool) : peq (.bool a) (.bool b) = (a == b) := by cases a <;> cases b <;> rfl
theorem idx_le : ∀ (bs : List Bool) (j : Nat) (h : j < bs.length), bs[j] = false → bs.idxOf false ≤ j
  | b :: r, 0, h, e => by
    have e : b = false := e
    subst e; simp
  | b :: r, j + 1, h, e => by
    have := idx_le r j (by simpa using h) e
    rw [List.idxOf_cons]
    cases b <;> simp <;> lia
section
variable {C : Cx} {k : Nat} {σ : Sto} {K : PV → Sto → Prop}
theorem OpL.indexFalse {a : PV} {bs : List Bool} (hl : LRead C σ a (bs.map .bool)) (hb : false ∈ bs) (hs : bs.length ≤ 100000) (h : K (.int (bs.idxOf false : Nat)) σ) : OpL C k σ [a, .bool false] (fun vs => PySem.call (.builtin "list.index") vs) K := fun A P s vs hr H r => by
  obtain ⟨v, w, rfl, r₁, r₂⟩ := r.two
  obtain ⟨b, vs, n, rfl, e, rl⟩ := hl P s v H r₁
  have hz : vs.size = bs.length := by rw [← Array.length_toList, rl.length, List.length_map]
  have hj : bs.idxOf false < bs.length := List.idxOf_lt_length_iff.mpr hb
  obtain ⟨h1, h2⟩ := in_core hr r₂ rfl rl (plL_map fun x _ => rfl)
  have val : ∀ i (hi : i < vs.size), PyData.eqv (datOf s.heap vs[i]) (toP (.bool false)) = (bs[i]'(by lia) == false) := fun i hi => by
    obtain ⟨d, hd, rd⟩ := rl.get (i := i) (v := vs[i]) (by simp)
    rw [List.getElem?_map, List.getElem?_eq_getElem (by lia)] at hd
    obtain rfl := Option.some.inj hd
    obtain ⟨_, q⟩ := rd_reads (n := 1) rd rfl
    rw [datOf_eq q rfl]
    exact peq_bool _ _
  refine call_meets PySem.F.slot_list_index ⟨_, e, rfl⟩ PySem.F.entry_list_index (PySem.F.args_list_index_2 _ _)
    (SeqAt.list_indexAt b vs n none #[] w (fun y => PyData.eqv (datOf s.heap y) (toP (.bool false))) (bs.idxOf false) (by lia) (by lia) ?_ ?_) ⟨e, fun y hy => h1 y (by simpa using hy), Out.here H (.int _ _) h⟩
  · show PyData.eqv _ _ = true
    rw [val _ (by lia)]
    simpa using List.getElem_idxOf hj
  · intro j hjs hlt
    show PyData.eqv _ _ = false
    rw [val j hjs]
    cases hbj : bs[j]'(by lia) with
    | true => rfl
    | false => exact absurd (idx_le bs j (by lia) hbj) (by lia)
theorem Op2.mull {a : PV} {xs : List PV} {n : Nat} (hl : LRead C σ a xs) (hn : n ≤ 100) (hx : xs.length ≤ 1000) (h : K (.list (List.replicate n xs).flatten) σ) : Op2 C k σ a (.int (n : Nat)) (binaryOp .Mult) K := fun A P s v w hr H r₁ r₂ => by
  obtain ⟨l, vs, m, rfl, e, rl⟩ := hl P s v H r₁
  obtain ⟨u, rfl⟩ := r₂.intE
  have hz : vs.size = xs.length := by rw [← Array.length_toList, rl.length]
  have hb : vs.size * n ≤ 100000 := by rw [hz]; exact Nat.mul_le_mul hx hn
  refine mul_out e (by lia) (by lia) (by rw [Int.toNat_natCast]; lia) ?_
  have key : (List.foldl (fun x1 x2 => x1 ++ x2) #[] (List.replicate (if vs.isEmpty = true then 0 else (n : Int).toNat) vs)) = ((List.replicate n vs.toList).flatten).toArray := by
    rw [listMul_foldl, Int.toNat_natCast]
    by_cases hv : vs.isEmpty = true
    · rw [if_pos hv]
      have : vs.toList = [] := by simpa using hv
      rw [this]
      simp
    · rw [if_neg hv]; simp
  rw [key]
  have rr : ∀ n, RdL C.X P s.heap (List.replicate n vs.toList).flatten (List.replicate n xs).flatten := fun n => by
    induction n with
    | zero => exact .nil
    | succ n ih => rw [List.replicate_succ, List.replicate_succ, List.flatten_cons, List.flatten_cons]; exact rl.append ih
  exact Out.newList (tk := s.toks) H (rr n) h
end
end Mine
end U27
section U28
open PySem PySem.W PyProof.Rows
set_option maxRecDepth 100000
namespace Mine
inductive Del : Sto → Addr → AO → Sto → Prop
  | here {a o r} : Del ((a, o) :: r) a o r
  | there {p r a o r'} : Del r a o r' → Del (p :: r) a o (p :: r')
theorem Del.mem {σ a o σ'} (d : Del σ a o σ') : (a, o) ∈ σ := by
  induction d with
  | here => exact List.mem_cons_self
  | there _ ih => exact List.mem_cons_of_mem _ ih
theorem Del.sub {σ a o σ'} (d : Del σ a o σ') : σ'.Sublist σ := by
  induction d with
  | here => exact .cons _ (.refl _)
  | there _ ih => exact .cons_cons _ ih
theorem Del.out {σ a o σ'} (d : Del σ a o σ') (hn : (Mine.dom σ).Nodup) : a ∉ Mine.dom σ' := by
  induction d with
  | here => exact fun q => (List.nodup_cons.mp hn).1 (List.mem_append_right _ q)
  | there d ih =>
    rename_i p r a o r'
    have hn' : (Mine.dom r).Nodup := (List.nodup_append.mp (List.nodup_cons.mp hn).2).2.1
    have ha : a ∈ Mine.dom r := mem_dom d.mem a (.inl rfl)
    intro q
    rcases List.mem_cons.mp q with q | q
    · exact (List.nodup_cons.mp hn).1 (List.mem_append_right _ (q ▸ ha))
    · rcases List.mem_append.mp q with q | q
      · exact (List.nodup_append.mp (List.nodup_cons.mp hn).2).2.2 _ q _ ha rfl
      · exact ih hn' q
set_option maxHeartbeats 1000000 in
theorem Ex.freeze {C : Cx} {T1 T2 : Addr} {q1 q2 : Str} {k : Nat} {sc : Scope} {ρ : Lo} {σ σr σ₂ : Sto} {rest : List Stmt} {K : Fl → Lo → Sto → Prop} {r a d : Addr} {xs : List PV} {fs : List (String × PV)}
    (htb : C.tb = []) (tab1 : C.tab T1) (tab2 : C.tab T2) (tIs1 : ∀ P h, C.T P h T1 ↔ TabAt q1 P h T1) (tIs2 : ∀ P h, C.T P h T2 ↔ TabAt q2 P h T2) (hne : T1 ≠ T2) (hT1 : (T1, AO.tab) ∈ σ) (hT2 : (T2, AO.tab) ∈ σ)
    (hd : Del σ r (.mlist xs) σr) (u : Upd σr a (.inst d fs) (.inst d (("rulelines", .list xs) :: fs)) σ₂) (hf : fs.lookup "rulelines" = some (.raw (.ref r)))
    (h : Ex C k sc ρ σ₂ rest fun g ρ' σ' => g = .ret (.bool true) ∧ (T1, AO.tab) ∈ σ' ∧ (T2, AO.tab) ∈ σ') (hK : ∀ ρ', K (.ret (.bool true)) ρ' [(T1, .tab), (T2, .tab)]) : Ex C k sc ρ σ rest K := fun A P env s he hr I => by
  let P₂ : Addr → Prop := fun b => P b ∧ b ≠ r
  have nd := I.hp.nodup
  have ndr : (dom σr).Nodup := (dom_sub hd.sub).nodup nd
  have hdom : dom σ₂ = dom σr := u.dom rfl
  have rout := hd.out nd
  have less : Pass P s.heap P₂ s.heap := Pass.less fun a q => q.1
  obtain ⟨vs, n, er, rl⟩ := I.hp.st _ _ hd.mem
  have I₂ : Inv C P₂ env ρ σ₂ s.heap := by
    refine ⟨⟨I.hp.gi, fun b ao hm => ?_, (fun b hb => by rw [htb] at hb; cases hb), fun b hb => ?_, hdom ▸ ndr, fun b q => I.hp.plt b q.1⟩, I.envOk, fun x d hx => let ⟨v, hv, rv⟩ := I.vars x d hx; ⟨v, hv, rv.pass' less⟩, fun b hb => ?_⟩
    · rcases u.other ndr b ao hm with ⟨rfl, rfl⟩ | ⟨hm', _⟩
      · obtain ⟨h1, h2, mA, h3, h4, h5⟩ := (I.hp.st _ _ (hd.sub.subset u.mem)).pass less fun _ _ _ e => e
        refine ⟨h1, h2, mA, h3, fun x dx hx => ?_, fun y v hy => ?_⟩
        · by_cases hxr : x = "rulelines"
          · subst hxr
            rw [List.lookup_cons_self] at hx; cases hx
            obtain ⟨v, hv, rv⟩ := h4 _ _ hf
            obtain rfl := rv.rawE
            exact ⟨_, hv, .list (fun q => q.2 rfl) er (rl.pass' less)⟩
          · rw [List.lookup_cons, beq_false_of_ne hxr] at hx
            exact h4 x dx hx
        · obtain ⟨x, dx, e, hx⟩ := h5 y v hy
          by_cases hxr : x = "rulelines"
          · exact ⟨x, _, e, by rw [hxr]; exact List.lookup_cons_self⟩
          · exact ⟨x, dx, e, by rw [List.lookup_cons, beq_false_of_ne hxr]; exact hx⟩
      · exact (I.hp.st b ao (hd.sub.subset hm')).pass less fun _ _ _ e => e
    · rw [hdom] at hb
      have := I.hp.pdom b ((dom_sub hd.sub).subset hb)
      exact ⟨⟨this.1, fun q => rout (q ▸ hb)⟩, this.2⟩
    · have := I.pown b hb
      exact ⟨⟨this.1, fun q => this.2.2 (q ▸ mem_dom hd.mem r (.inl rfl))⟩, this.2.1, fun q => this.2.2 ((dom_sub hd.sub).subset (hdom ▸ q))⟩
  refine wpAny_mono (h A P₂ env s he hr I₂) (fun f s' o => ?_) fun _ _ x => x
  obtain ⟨g, ρ', σ', ⟨rfl, m1, m2⟩, AF, fl⟩ := o
  have domSub : ∀ b, b ∈ dom σ₂ → b ∈ dom σ := fun b hb => (dom_sub hd.sub).subset (hdom ▸ hb)
  have rown : ¬ own env r := fun q => (I.pown r q).2.2 (mem_dom hd.mem r (.inl rfl))
  have er' := AF.step.kept r _ (fun q => rout (hdom ▸ q)) (by rw [htb]; exact List.not_mem_nil) rown er
  have d1 : T1 ∈ dom σ' := mem_dom m1 T1 (.inl rfl)
  have d2 : T2 ∈ dom σ' := mem_dom m2 T2 (.inl rfl)
  have conv : ∀ q T, TabAt q (PP P₂ σ') s'.heap T → TabAt q (PP P [(T1, .tab), (T2, .tab)]) s'.heap T := fun q T ⟨ps, e, tr, cs⟩ => by
    refine ⟨ps, e, tr, fun pos cv hcv => ?_⟩
    obtain ⟨cc, rfl, n, nT, rc⟩ := cs pos cv hcv
    refine ⟨cc, rfl, fun hp => ?_, nT, rc⟩
    rcases hp with hp | hp
    · refine n (.inl ⟨hp, fun q => ?_⟩)
      obtain ⟨c', oc, vs', tq, e', hoc, hcd, _⟩ := rc
      obtain rfl : cc = c' := Value.ref.inj e'
      rw [q, er'] at hoc; cases hoc; cases hcd
    · rcases List.mem_cons.mp hp with rfl | hp
      · exact n (.inr d1)
      · rcases List.mem_cons.mp hp with rfl | hp
        · exact n (.inr d2)
        · cases hp
  have t1 : TabAt q1 (PP P [(T1, .tab), (T2, .tab)]) s'.heap T1 := conv _ _ ((tIs1 _ _).mp (AF.inv.hp.st _ _ m1))
  have t2 : TabAt q2 (PP P [(T1, .tab), (T2, .tab)]) s'.heap T2 := conv _ _ ((tIs2 _ _).mp (AF.inv.hp.st _ _ m2))
  have two : ∀ b ∈ dom [(T1, AO.tab), (T2, AO.tab)], b = T1 ∨ b = T2 := fun b hb => by
    rcases List.mem_cons.mp hb with rfl | hb
    · exact .inl rfl
    · rcases List.mem_cons.mp hb with rfl | hb
      · exact .inr rfl
      · cases hb
  refine ⟨.ret (.bool true), [], [(T1, .tab), (T2, .tab)], hK _, ⟨⟨fun b o h1 h2 h3 e => AF.step.kept b o (fun q => h1 (domSub b q)) h2 h3 e, AF.step.size, fun b hb => ?_, AF.step.gens, AF.step.os⟩, ⟨⟨AF.inv.hp.gi, fun b ao hm => ?_, (fun b hb => by rw [htb] at hb; cases hb), fun b hb => ?_, ?_, fun b q => ?_⟩, AF.inv.envOk, (fun x d hx => by cases hx), fun b hb => ?_⟩⟩, ?_⟩
  · rcases two b hb with rfl | rfl
    · exact .inl (mem_dom hT1 _ (.inl rfl))
    · exact .inl (mem_dom hT2 _ (.inl rfl))
  · rcases List.mem_cons.mp hm with e | hm
    · cases e; exact (tIs1 _ _).mpr t1
    · cases List.mem_singleton.mp hm; exact (tIs2 _ _).mpr t2
  · rcases two b hb with rfl | rfl
    · exact ⟨.inr hb, .inr tab1⟩
    · exact ⟨.inr hb, .inr tab2⟩
  · simp [dom, AO.more, hne]
  · rcases q with q | q
    · exact Nat.lt_of_lt_of_le (I.hp.plt b q) AF.step.size
    · rcases two b q with rfl | rfl
      · exact t1.lt
      · exact t2.lt
  · refine ⟨.inl (I.pown b hb).1, (I.pown b hb).2.1, fun q => ?_⟩
    rcases two b q with rfl | rfl
    · exact (AF.inv.pown _ hb).2.2 d1
    · exact (AF.inv.pown _ hb).2.2 d2
  · cases fl with | ret rv => cases rv; exact .ret (.bool true)
end Mine
end U28
section T50
set_option maxRecDepth 100000
namespace Mine
noncomputable def pw (x : List Nat) (p : Nat) : Nat := x.getD (p % x.length) 0
theorem ext_getD {x y : List Nat} (hl : x.length = y.length) (h : ∀ p, p < x.length → x.getD p 0 = y.getD p 0) : x = y := by
  refine List.ext_getElem hl fun i h1 h2 => ?_
  have := h i h1
  rwa [List.getD_eq_getElem?_getD, List.getD_eq_getElem?_getD, List.getElem?_eq_getElem h1, List.getElem?_eq_getElem h2] at this
theorem getD_app_l {x y : List Nat} {p : Nat} (h : p < x.length) : (x ++ y).getD p 0 = x.getD p 0 := by
  rw [List.getD_eq_getElem?_getD, List.getD_eq_getElem?_getD, List.getElem?_append_left h]
theorem getD_app_r {x y : List Nat} {p : Nat} (h : x.length ≤ p) : (x ++ y).getD p 0 = y.getD (p - x.length) 0 := by
  rw [List.getD_eq_getElem?_getD, List.getD_eq_getElem?_getD, List.getElem?_append_right h]
theorem getD_take {x : List Nat} {k p : Nat} (h : p < k) : (x.take k).getD p 0 = x.getD p 0 := by
  rw [List.getD_eq_getElem?_getD, List.getD_eq_getElem?_getD, List.getElem?_take_of_lt h]
theorem getD_drop {x : List Nat} {k p : Nat} : (x.drop k).getD p 0 = x.getD (k + p) 0 := by
  rw [List.getD_eq_getElem?_getD, List.getD_eq_getElem?_getD, List.getElem?_drop]
theorem take_of {w u : List Nat} {k : Nat} (h1 : k ≤ w.length) (h2 : k ≤ u.length) (h : ∀ p, p < k → w.getD p 0 = u.getD p 0) : w.take k = u.take k := by
  refine ext_getD (by rw [List.length_take, List.length_take]; lia) fun p hp => ?_
  rw [List.length_take] at hp
  rw [getD_take (by lia), getD_take (by lia)]
  exact h p (by lia)
theorem pw_lt {x : List Nat} {p : Nat} (h : p < x.length) : pw x p = x.getD p 0 := by unfold pw; rw [Nat.mod_eq_of_lt h]
theorem pw_add (x : List Nat) (p : Nat) : pw x (p + x.length) = pw x p := by unfold pw; rw [Nat.add_mod_right]
theorem pw_sub {x : List Nat} {p : Nat} (h : x.length ≤ p) : pw x (p - x.length) = pw x p := by unfold pw; rw [Nat.mod_eq_sub_mod h]
theorem fw_strong : ∀ (k : Nat) (x y : List Nat), x.length + y.length ≤ k → 0 < x.length → x.length ≤ y.length → (∀ p, p + Nat.gcd x.length y.length < x.length + y.length → pw x p = pw y p) → x ++ y = y ++ x
  | 0, x, y, hk, hx, hxy, h => absurd (Nat.lt_of_lt_of_le hx (Nat.le_trans (Nat.le_add_right _ _) hk)) (Nat.lt_irrefl 0)
  | k + 1, x, y, hk, hx, hxy, h => by
    have hg : Nat.gcd x.length y.length ≤ x.length := Nat.gcd_le_left _ hx
    have low : ∀ p, p < y.length → pw x p = pw y p := fun p hp => h p (by rw [Nat.add_comm x.length]; exact Nat.add_lt_add_of_lt_of_le hp hg)
    have hy : y = x ++ y.drop x.length := by
      have h1 : y.take x.length = x := ext_getD (List.length_take_of_le hxy) fun p hp => by
        rw [List.length_take_of_le hxy] at hp
        rw [getD_take hp, ← pw_lt (Nat.lt_of_lt_of_le hp hxy), ← pw_lt hp]
        exact (low p (Nat.lt_of_lt_of_le hp hxy)).symm
      have h2 := List.take_append_drop x.length y
      rw [h1] at h2; exact h2.symm
    have hm : (y.drop x.length).length + x.length = y.length := by rw [List.length_drop]; exact Nat.sub_add_cancel hxy
    have hd : ∀ p, (y.drop x.length).getD p 0 = y.getD (x.length + p) 0 := fun p => getD_drop
    generalize y.drop x.length = z at *
    by_cases hz : z.length = 0
    · rw [hy, List.length_eq_zero_iff.mp hz, List.append_nil]
    have hgz : Nat.gcd x.length y.length = Nat.gcd x.length z.length := by rw [← hm, Nat.gcd_add_self_right]
    have ag : ∀ p, p + Nat.gcd x.length z.length < x.length + z.length → pw x p = pw z p := by
      intro p
      induction p using Nat.strongRecOn with
      | _ p ih =>
        intro hp
        have up : p + x.length + Nat.gcd x.length z.length < x.length + y.length := by
          rw [← hm, ← Nat.add_assoc, Nat.add_right_comm]; exact Nat.add_lt_add_right hp _
        have a1 : pw x p = pw y (p + x.length) := by rw [← pw_add]; exact h _ (by rw [hgz]; exact up)
        by_cases hpz : p < z.length
        · rw [a1, pw_lt hpz, pw_lt (by rw [← hm]; exact Nat.add_lt_add_right hpz _), hd, Nat.add_comm]
        · have hzp := Nat.le_of_not_lt hpz
          have hq := Nat.sub_le p z.length
          have a2 := ih (p - z.length) (Nat.sub_lt_of_pos_le (Nat.pos_of_ne_zero hz) hzp) (Nat.lt_of_le_of_lt (Nat.add_le_add_right hq _) hp)
          rw [a1, ← pw_sub (x := y) (by rw [← hm]; exact Nat.add_le_add_right hzp _), ← pw_sub (x := z) hzp, ← a2, ← hm, Nat.add_sub_add_right]
          exact (h _ (by rw [hgz]; exact Nat.lt_of_le_of_lt (Nat.add_le_add_right (Nat.le_trans hq (Nat.le_add_right _ _)) _) up)).symm
    have hs : z.length + x.length ≤ k := by rw [hm]; exact Nat.le_of_lt_succ (Nat.lt_of_lt_of_le (Nat.lt_add_of_pos_left hx) hk)
    have key : x ++ z = z ++ x := by
      rcases Nat.le_total x.length z.length with hxz | hxz
      · exact fw_strong k x z (by rw [Nat.add_comm]; exact hs) hx hxz ag
      · exact (fw_strong k z x hs (Nat.pos_of_ne_zero hz) hxz fun p hp => (ag p (by rw [Nat.gcd_comm, Nat.add_comm x.length]; exact hp)).symm).symm
    rw [hy, List.append_assoc, ← key]
noncomputable def prodL (x y : List Nat) (ts : List Nat) : List Nat := (ts.map fun t => if t = 0 then x else y).flatten
theorem prod_cons (x y : List Nat) (t : Nat) (ts : List Nat) : prodL x y (t :: ts) = (if t = 0 then x else y) ++ prodL x y ts := rfl
theorem app_at {a w : List Nat} {c p : Nat} (ha : 0 < a.length) (hp : p ≤ c) (hl : p < (a ++ w).length) (ih : ∀ q, q < c → q < w.length → w.getD q 0 = pw a q) : (a ++ w).getD p 0 = pw a p := by
  by_cases h : p < a.length
  · rw [getD_app_l h, pw_lt h]
  · have h := Nat.le_of_not_lt h
    rw [getD_app_r h, ← pw_sub h]
    exact ih _ (Nat.lt_of_lt_of_le (Nat.sub_lt_of_pos_le ha h) hp) (Nat.sub_lt_left_of_lt_add h (by rw [← List.length_append]; exact hl))
section
variable {x y : List Nat} {c : Nat} (hx : 0 < x.length) (hy : 0 < y.length) (h : ∀ p, p < c → pw x p = pw y p)
include hx hy h
theorem prod_agree (ts : List Nat) : ∀ p : Nat, p < c → p < (prodL x y ts).length → (prodL x y ts).getD p 0 = pw x p := by
  induction ts with
  | nil => exact fun p _ hl => absurd hl (Nat.not_lt_zero p)
  | cons t ts ih =>
    intro p hp hl
    rw [prod_cons] at hl ⊢
    by_cases ht : t = 0
    · rw [if_pos ht] at hl ⊢
      exact app_at hx (Nat.le_of_lt hp) hl ih
    · rw [if_neg ht] at hl ⊢
      rw [h p hp]
      exact app_at hy (Nat.le_of_lt hp) hl fun q h1 h2 => (ih q h1 h2).trans (h q h1)
theorem prod_part (t : Nat) (ts : List Nat) (hl : c < (prodL x y (t :: ts)).length) : (prodL x y (t :: ts)).getD c 0 = pw (if t = 0 then x else y) c := by
  have ih := prod_agree hx hy h ts
  rw [prod_cons] at hl ⊢
  by_cases ht : t = 0
  · rw [if_pos ht] at hl ⊢
    exact app_at hx (Nat.le_refl _) hl ih
  · rw [if_neg ht] at hl ⊢
    exact app_at hy (Nat.le_refl _) hl fun q h1 h2 => (ih q h1 h2).trans (h q h1)
end
theorem prod_two (x y : List Nat) : prodL x y [0, 1] = x ++ y := by simp [prodL]
theorem prod_owt (x y : List Nat) : prodL x y [1, 0] = y ++ x := by simp [prodL]
noncomputable def lcp : List Nat → List Nat → Nat
  | a :: u, b :: v => if a = b then lcp u v + 1 else 0
  | _, _ => 0
theorem lcp_iff : ∀ (u v : List Nat) (k : Nat), k ≤ u.length → (v.take k = u.take k ↔ k ≤ lcp u v)
  | u, v, 0, _ => by simp
  | [], v, k + 1, h => by simp at h
  | a :: u, [], k + 1, h => by simp [lcp]
  | a :: u, b :: v, k + 1, h => by
    have ih := lcp_iff u v k (by simpa using h)
    rw [List.take_succ_cons, List.take_succ_cons, List.cons.injEq, ih, lcp]
    by_cases hab : a = b
    · rw [if_pos hab]; constructor
      · intro q; have := q.2; lia
      · intro q; exact ⟨hab.symm, by lia⟩
    · rw [if_neg hab]; constructor
      · intro q; exact absurd q.1.symm hab
      · intro q; lia
theorem lcp_le : ∀ (u v : List Nat), lcp u v ≤ u.length ∧ lcp u v ≤ v.length
  | [], v => ⟨Nat.zero_le _, Nat.zero_le _⟩
  | a :: u, [] => ⟨Nat.zero_le _, Nat.zero_le _⟩
  | a :: u, b :: v => by
    have := lcp_le u v
    rw [lcp]
    split
    · exact ⟨Nat.succ_le_succ this.1, Nat.succ_le_succ this.2⟩
    · exact ⟨Nat.zero_le _, Nat.zero_le _⟩
theorem lcp_eq {u v : List Nat} {c : Nat} (h1 : c ≤ u.length) (h2 : c ≤ v.length) (h : ∀ p, p < c → v.getD p 0 = u.getD p 0) (hn : c < v.length → v.getD c 0 ≠ u.getD c 0) : lcp u v = c := by
  have b := lcp_le u v
  refine Nat.le_antisymm (Nat.le_of_not_lt fun hc => ?_) ((lcp_iff u v c h1).mp (take_of h2 h1 h))
  refine hn (Nat.lt_of_lt_of_le hc b.2) ?_
  have := congrArg (fun l => l.getD c 0) ((lcp_iff u v (c + 1) (Nat.le_trans hc b.1)).mpr hc)
  simpa only [getD_take (Nat.lt_succ_self c)] using this
theorem lcp_gt {u v : List Nat} {c : Nat} (h1 : c < u.length) (h2 : c < v.length) (h : ∀ p, p ≤ c → v.getD p 0 = u.getD p 0) : c < lcp u v :=
  (lcp_iff u v (c + 1) h1).mp (take_of h2 h1 fun p hp => h p (Nat.le_of_lt_succ hp))
section
variable {x y : List Nat} {c : Nat} (hx : 0 < x.length) (hy : 0 < y.length) (h : ∀ p, p < c → pw x p = pw y p)
include hx hy h
theorem two_low {ts rs : List Nat} {p : Nat} (hp : p < c) (h1 : p < (prodL x y ts).length) (h2 : p < (prodL x y rs).length) : (prodL x y rs).getD p 0 = (prodL x y ts).getD p 0 :=
  (prod_agree hx hy h rs p hp h2).trans (prod_agree hx hy h ts p hp h1).symm
theorem two_same {t r : Nat} {ts rs : List Nat} (h1 : c < (prodL x y (t :: ts)).length) (h2 : c < (prodL x y (r :: rs)).length) (he : (if t = 0 then x else y) = if r = 0 then x else y) : c < lcp (prodL x y (t :: ts)) (prodL x y (r :: rs)) :=
  lcp_gt h1 h2 fun p hp => by
    rcases Nat.lt_or_eq_of_le hp with hp | rfl
    · exact two_low hx hy h hp (Nat.lt_trans hp h1) (Nat.lt_trans hp h2)
    · rw [prod_part hx hy h t ts h1, prod_part hx hy h r rs h2, he]
theorem two_diff {t r : Nat} {ts rs : List Nat} (h1 : c < (prodL x y (t :: ts)).length) (h2 : c < (prodL x y (r :: rs)).length) (he : pw (if r = 0 then x else y) c ≠ pw (if t = 0 then x else y) c) : lcp (prodL x y (t :: ts)) (prodL x y (r :: rs)) = c :=
  lcp_eq (Nat.le_of_lt h1) (Nat.le_of_lt h2) (fun p hp => two_low hx hy h hp (Nat.lt_trans hp h1) (Nat.lt_trans hp h2)) fun _ => by
    rw [prod_part hx hy h t ts h1, prod_part hx hy h r rs h2]; exact he
theorem two_short {ts rs : List Nat} (h1 : c < (prodL x y ts).length) (h2 : (prodL x y rs).length ≤ c) : lcp (prodL x y ts) (prodL x y rs) = (prodL x y rs).length :=
  lcp_eq (Nat.le_trans h2 (Nat.le_of_lt h1)) (Nat.le_refl _) (fun p hp => two_low hx hy h (Nat.lt_of_lt_of_le hp h2) (Nat.lt_of_lt_of_le hp (Nat.le_trans h2 (Nat.le_of_lt h1))) hp) fun q => absurd q (Nat.lt_irrefl _)
end
noncomputable def sameOf (x y : List Nat) : List Bool := (List.range (x.length + y.length - Nat.gcd x.length y.length)).map fun p => decide (x.getD (p % x.length) 0 = y.getD (p % y.length) 0)
noncomputable def powOf (x y : List Nat) : Bool := !(sameOf x y).contains false
noncomputable def comOf (x y : List Nat) : Nat := if powOf x y = true then x.length + y.length else (sameOf x y).idxOf false
theorem same_len (x y : List Nat) : (sameOf x y).length = x.length + y.length - Nat.gcd x.length y.length := by unfold sameOf; rw [List.length_map, List.length_range]
theorem same_get {x y : List Nat} {p : Nat} (h : p + Nat.gcd x.length y.length < x.length + y.length) : (sameOf x y)[p]? = some (decide (pw x p = pw y p)) := by
  unfold sameOf
  rw [List.getElem?_map, List.getElem?_range (by lia)]; rfl
theorem pow_all {x y : List Nat} (h : powOf x y = true) {p : Nat} (hp : p + Nat.gcd x.length y.length < x.length + y.length) : pw x p = pw y p := by
  have h1 := List.mem_of_getElem? (same_get hp)
  unfold powOf at h
  by_cases q : pw x p = pw y p
  · exact q
  · rw [decide_eq_false q] at h1
    rw [List.contains_iff_mem.mpr h1] at h; cases h
theorem pow_comm {x y : List Nat} (h : powOf x y = true) : x ++ y = y ++ x := by
  by_cases hx : x.length = 0
  · rw [List.length_eq_zero_iff.mp hx]; simp
  by_cases hy : y.length = 0
  · rw [List.length_eq_zero_iff.mp hy]; simp
  by_cases hl : x.length ≤ y.length
  · exact fw_strong _ x y (Nat.le_refl _) (by lia) hl fun p hp => pow_all h hp
  · exact (fw_strong _ y x (Nat.le_refl _) (by lia) (by lia) fun p hp => (pow_all h (by rw [Nat.gcd_comm]; lia)).symm).symm
theorem idx_first : ∀ (bs : List Bool), false ∈ bs → bs.idxOf false < bs.length ∧ bs[bs.idxOf false]? = some false ∧ ∀ i, i < bs.idxOf false → bs[i]? = some true
  | [], h => by cases h
  | false :: r, h => by simp
  | true :: r, h => by
    obtain ⟨a, b, c⟩ := idx_first r (by simpa using h)
    have e : (true :: r).idxOf false = r.idxOf false + 1 := by rw [List.idxOf_cons]; rfl
    rw [e]
    refine ⟨by simpa using a, by simpa using b, fun i hi => ?_⟩
    cases i with
    | zero => rfl
    | succ i => simpa using c i (by lia)
theorem com_part {x y : List Nat} (h : powOf x y = false) : 0 < x.length ∧ 0 < y.length ∧ comOf x y + 1 ≤ x.length + y.length ∧ (∀ p, p < comOf x y → pw x p = pw y p) ∧ pw x (comOf x y) ≠ pw y (comOf x y) := by
  have hm : false ∈ sameOf x y := by
    unfold powOf at h
    exact List.contains_iff_mem.mp (by simpa using h)
  obtain ⟨a, b, c⟩ := idx_first _ hm
  have e : comOf x y = (sameOf x y).idxOf false := by unfold comOf; rw [h]; rfl
  rw [← e, same_len] at a
  rw [← e] at b c
  have hx : 0 < x.length := by
    rcases Nat.eq_zero_or_pos x.length with q | q
    · rw [q, Nat.gcd_zero_left] at a; lia
    · exact q
  have hy : 0 < y.length := by
    rcases Nat.eq_zero_or_pos y.length with q | q
    · rw [q, Nat.gcd_zero_right] at a; lia
    · exact q
  refine ⟨hx, hy, by lia, fun p hp => ?_, ?_⟩
  · have h1 := c p hp
    rw [same_get (by lia)] at h1
    exact of_decide_eq_true (Option.some.inj h1)
  · rw [same_get (by lia)] at b
    exact of_decide_eq_false (Option.some.inj b)
theorem com_le (x y : List Nat) : comOf x y ≤ x.length + y.length := by
  cases h : powOf x y with
  | true => unfold comOf; rw [if_pos h]; exact Nat.le_refl _
  | false => have := (com_part h).2.2.1; lia
theorem lcp_self (u : List Nat) : lcp u u = u.length :=
  Nat.le_antisymm (lcp_le u u).1 ((lcp_iff u u u.length (Nat.le_refl _)).mp rfl)
theorem com_two {x y : List Nat} (hc : comOf x y + 1 ≤ x.length + y.length) : comOf x y < (prodL x y [0, 1]).length ∧ comOf x y < (prodL x y [1, 0]).length := by
  rw [prod_two, prod_owt, List.length_append, List.length_append, Nat.add_comm y.length]; exact ⟨hc, hc⟩
theorem com_lcp (x y : List Nat) : lcp (x ++ y) (y ++ x) = comOf x y := by
  cases h : powOf x y with
  | true => rw [← pow_comm h, lcp_self]; unfold comOf; rw [if_pos h, List.length_append]
  | false =>
    obtain ⟨hx, hy, hc, ha, hn⟩ := com_part h
    rw [← prod_two x y, ← prod_owt x y]
    exact two_diff hx hy ha (com_two hc).1 (com_two hc).2 fun q => hn q.symm
theorem lcp_long {x y : List Nat} (h : powOf x y = false) (t : Nat) (ts : List Nat) (hl : comOf x y < (prodL x y (t :: ts)).length) :
    (t = 0 → lcp (y ++ x) (prodL x y (t :: ts)) < lcp (x ++ y) (prodL x y (t :: ts))) ∧ (t ≠ 0 → lcp (x ++ y) (prodL x y (t :: ts)) < lcp (y ++ x) (prodL x y (t :: ts))) := by
  obtain ⟨hx, hy, hc, ha, hn⟩ := com_part h
  rw [← prod_two x y, ← prod_owt x y]
  refine ⟨fun ht => ?_, fun ht => ?_⟩
  · rw [two_diff hx hy ha (com_two hc).2 hl (by rw [if_pos ht]; exact hn)]
    exact two_same hx hy ha (com_two hc).1 hl (by rw [if_pos ht]; rfl)
  · rw [two_diff hx hy ha (com_two hc).1 hl (by rw [if_neg ht]; exact fun q => hn q.symm)]
    exact two_same hx hy ha (com_two hc).2 hl (by rw [if_neg ht]; rfl)
theorem take1_app {a b : List Nat} (h : a ≠ []) : (a ++ b).take 1 = a.take 1 ∧ 1 ≤ (a ++ b).length := by
  cases a with
  | nil => exact absurd rfl h
  | cons c r => exact ⟨rfl, Nat.succ_le_succ (Nat.zero_le _)⟩
theorem prod_head {x y : List Nat} (e : x ++ y = y ++ x) (ts : List Nat) : prodL x y ts ≠ [] → (prodL x y ts).take 1 = (x ++ y).take 1 ∧ 1 ≤ (x ++ y).length := by
  induction ts with
  | nil => exact fun h => absurd rfl h
  | cons t ts ih =>
    intro h
    rw [prod_cons] at h ⊢
    by_cases ha : (if t = 0 then x else y) = []
    · rw [ha] at h ⊢
      exact ih h
    · rw [(take1_app ha).1]
      by_cases ht : t = 0
      · rw [if_pos ht] at ha ⊢
        exact ⟨(take1_app ha).1.symm, (take1_app ha).2⟩
      · rw [if_neg ht] at ha ⊢
        rw [e]
        exact ⟨(take1_app ha).1.symm, (take1_app ha).2⟩
theorem lcp_even {x y : List Nat} (ts : List Nat) (hw : prodL x y ts ≠ []) (h : powOf x y = true ∨ (prodL x y ts).length ≤ comOf x y) :
    lcp (x ++ y) (prodL x y ts) = lcp (y ++ x) (prodL x y ts) ∧ 1 ≤ lcp (x ++ y) (prodL x y ts) := by
  cases hp : powOf x y with
  | true =>
    have e := pow_comm hp
    obtain ⟨a, b⟩ := prod_head e ts hw
    exact ⟨by rw [e], (lcp_iff _ _ 1 b).mp a⟩
  | false =>
    rw [hp] at h
    have hl := h.resolve_left Bool.false_ne_true
    obtain ⟨hx, hy, hc, ha, hn⟩ := com_part hp
    rw [← prod_two x y, ← prod_owt x y, two_short hx hy ha (com_two hc).1 hl, two_short hx hy ha (com_two hc).2 hl]
    exact ⟨rfl, List.length_pos_iff.mpr hw⟩
end Mine
end T50
section U29
open PySem PySem.W PyProof.Rows
set_option maxRecDepth 100000
namespace Mine
theorem Ex1.assignS {C k sc ρ σ x p e pos K} (h : Ev C k sc ρ σ e fun d σ₁ => K .next ((x, d) :: ρ) σ₁) (hk : Storable sc x) (hs : ∀ env, env.scope = sc → swapsWith e (some (.Name (Str.ofString x) p)) pos.line env = pure false) : Ex1 C k sc ρ σ (.Assign [.Name (Str.ofString x) p] e pos) K := fun A P env s he hr I =>
  wpAny_Assign_Name (ev_one h he hr I fun v d σ₁ s₁ hK hA r => by
    have hF := AfterF.of I hA
    exact inv_store he hk hF.inv r fun s' hS I' => ⟨_, _, _, hK, ⟨hF.step.trans hS, I'⟩, .next⟩) (hs env he)
theorem Op2.powN {C k σ K} {a b : Nat} (hsz : Builtin.Int.intBits (a : Nat) * b ≤ 2 ^ 27) (h : K (.int ((a ^ b : Nat) : Int)) σ) : Op2 C k σ (.int (a : Nat)) (.int (b : Nat)) (binaryOp .Pow) K :=
  Op2.pow (by lia) (by lia) (by rw [Int.toNat_natCast]; rw [Int.natCast_pow] at h; exact h)
theorem k60 {n : Nat} (h : n ≤ 1000) : n < 2 ^ 60 := Nat.lt_of_le_of_lt h (by decide)
theorem kLine {n : Nat} (h : n ≤ 1000) : n ≤ sizeLine := Nat.le_trans h (by decide)
theorem k10 {n : Nat} (h : n ≤ 1000) : n ≤ 10000 := Nat.le_trans h (by decide)
theorem sLine {a b : Nat} (h : a ≤ 1000) (h' : b ≤ 1000) : a + b ≤ sizeLine := Nat.le_trans (Nat.add_le_add h h') (by decide)
theorem plainC1 {g : Comprehension} (h0 : g.is_async = 0) (h : ∀ env x, foldedSetIterable g.iter env x = pure x) : PlainC [g] := fun g' hg => by
  cases List.mem_singleton.mp hg; exact ⟨h0, h⟩
theorem Has.skip {ρ : Lo} {x : String} {d : PV} : ∀ {ρ₀ : Lo}, Has ρ ρ₀ → ρ₀.lookup x = none → Has ((x, d) :: ρ) ρ₀
  | [], _, _ => trivial
  | (y, e) :: r, h, hn => by
    rw [List.lookup_cons] at hn
    cases hxy : x == y with
    | true => rw [hxy] at hn; cases hn
    | false =>
      rw [hxy] at hn
      have hyx : (y == x) = false := by
        rw [beq_eq_false_iff_ne] at hxy ⊢; exact hxy.symm
      exact ⟨by rw [List.lookup_cons, hyx]; exact h.1, Has.skip h.2 hn⟩
theorem Iterable.rangeDown0 {C k σ} {n : Nat} (h : n ≤ 1000) : Iterable C k σ (.range (n : Nat) (-1) (-1)) ((List.range (n + 1)).map fun i => PV.int ((n - i : Nat) : Int)) := by
  have hsz : Builtin.Range.rangeSize (n : Int) (-1) (-1) = ((n + 1 : Nat) : Int) := by
    unfold Builtin.Range.rangeSize
    rw [if_neg (by decide), if_pos (by lia)]; simp
  have hI := Iterable.range (C := C) (k := k) (σ := σ) (a := (n : Nat)) (b := -1) (c := -1) (by
    unfold Builtin.Range.small Builtin.Range.rangeFitsLong
    rw [hsz]
    simp <;> lia)
  have e : rangeL (n : Int) (-1) (-1) = (List.range (n + 1)).map fun i => PV.int ((n - i : Nat) : Int) := by
    unfold rangeL
    rw [hsz, Int.toNat_natCast]
    refine List.map_congr_left fun i hi => ?_
    have := List.mem_range.mp hi
    congr 1
    lia
  rwa [e] at hI
theorem Op2.gtN {C k σ} {K : PV → Sto → Prop} {a b : Nat} (h : K (.bool (decide (b < a))) σ) : Op2 C k σ (.int (a : Nat)) (.int (b : Nat)) (compareOp .Gt) K :=
  Op2.gt (by
    have e : decide ((b : Int) < (a : Int)) = decide (b < a) := decide_eq_decide.mpr (by lia)
    rw [e]; exact h)
end Mine
end U29
section U30
open PySem PySem.W PyProof.Rows
set_option maxRecDepth 100000
namespace Mine
noncomputable def cellsN (s : List Int) : List Nat := (cellsOf [32, 13, 7, 8, 52, 16, 79, 41, 34] 9 (s.take 60)).map Int.toNat
theorem cellsN_ok (s : List Int) : (cellsOf [32, 13, 7, 8, 52, 16, 79, 41, 34] 9 (s.take 60)).map PV.int = nums (cellsN s) := by
  unfold nums cellsN
  rw [List.map_map, List.map_map]
  refine List.map_congr_left fun c hc => ?_
  have := cellsOf_bound (init := [32, 13, 7, 8, 52, 16, 79, 41, 34]) (m := 9) (s := s.take 60) (by decide) c hc
  show PV.int c = PV.int ((c.toNat : Nat) : Int)
  rw [Int.toNat_of_nonneg this]
theorem cellsN_len (s : List Int) : (cellsN s).length = 9 := by unfold cellsN; rw [List.length_map, cellsOf_length]; rfl
noncomputable abbrev Sg := List Nat × List Nat
noncomputable def sgP (p : Sg) : PV := .tuple [.str p.1, .str p.2]
noncomputable def famOf (s : List Int) : Nat := (cellsN s).getD 0 0 % 8
noncomputable def signsOf (s : List Int) : List Sg := (((cellsN s).drop 1).take 6).map fun c => (signC (famOf s) c, signT (famOf s) c)
noncomputable def part0 (s : List Int) : List Sg := (signsOf s).take 3
noncomputable def part1 (s : List Int) : List Sg := (List.replicate ((cellsN s).getD 0 0 / 8 % 3) (part0 s)).flatten ++ (if 0 < (cellsN s).getD 0 0 / 24 % 4 then (signsOf s).drop 3 else [])
noncomputable def typ (p : List Sg) : List Nat := (p.map (·.1)).flatten
noncomputable def ltr (p : List Sg) : List Nat := (p.map (·.2)).flatten
set_option genInjectivity false in
structure Good1 (S : Int → Bool) (D : List (PyData × PyData)) (s : List Int) : Prop where
  b1 : ∀ p ∈ signsOf s, p.1 = [] ∨ ∃ c, p.1 = [c] ∧ S (c : Nat) = decide (p.2 = [])
  prep0 : prep S D (typ (part0 s)) = ltr (part0 s)
  prep1 : prep S D (typ (part1 s)) = ltr (part1 s)
  ok : ∀ p ∈ signsOf s, ∀ c ∈ p.1, b3ok D c = true
  low : ∀ p ∈ signsOf s, (∀ c ∈ p.1, c < 0x110000) ∧ (∀ c ∈ p.2, 97 ≤ c ∧ c < 123) ∧ p.1.length ≤ 1 ∧ p.2.length ≤ 3
theorem signs_len (s : List Int) : (signsOf s).length = 6 := by unfold signsOf; rw [List.length_map, List.length_take, List.length_drop, cellsN_len]; rfl
theorem part0_len (s : List Int) : (part0 s).length = 3 := by unfold part0; rw [List.length_take, signs_len]; rfl
theorem part1_len (s : List Int) : (part1 s).length ≤ 9 := by
  unfold part1
  have h : (cellsN s).getD 0 0 / 8 % 3 < 3 := Nat.mod_lt _ (by decide)
  have h2 : (if 0 < (cellsN s).getD 0 0 / 24 % 4 then (signsOf s).drop 3 else []).length ≤ 3 := by
    split
    · rw [List.length_drop, signs_len]; decide
    · simp
  rw [List.length_append, List.length_flatten, List.map_replicate, List.sum_replicate_nat, part0_len]; lia
theorem part_mem (s : List Int) : ∀ p, p ∈ part0 s ∨ p ∈ part1 s → p ∈ signsOf s := fun p hp => by
  rcases hp with hp | hp
  · exact List.mem_of_mem_take hp
  · unfold part1 at hp
    rcases List.mem_append.mp hp with hp | hp
    · obtain ⟨l, hl, hpl⟩ := List.mem_flatten.mp hp
      rw [(List.mem_replicate.mp hl).2] at hpl
      exact List.mem_of_mem_take hpl
    · split at hp
      · exact List.mem_of_mem_drop hp
      · cases hp
theorem flat_le (n : Nat) : ∀ l : List (List Nat), (∀ x ∈ l, x.length ≤ n) → (l.map List.length).sum ≤ n * l.length
  | [], _ => by simp
  | a :: r, h => by
    have := flat_le n r fun x hx => h x (List.mem_cons_of_mem _ hx)
    have := h a List.mem_cons_self
    rw [List.map_cons, List.sum_cons, List.length_cons, Nat.mul_add]; lia
theorem typ_len {p : List Sg} {n : Nat} (h : ∀ q ∈ p, q.1.length ≤ n) : ((p.map (·.1)).map List.length).sum ≤ n * p.length := by
  have := flat_le n (p.map (·.1)) fun x hx => let ⟨q, hq, e⟩ := List.mem_map.mp hx; e ▸ h q hq
  rwa [List.length_map] at this
theorem ltr_len {p : List Sg} {n : Nat} (h : ∀ q ∈ p, q.2.length ≤ n) : ((p.map (·.2)).map List.length).sum ≤ n * p.length := by
  have := flat_le n (p.map (·.2)) fun x hx => let ⟨q, hq, e⟩ := List.mem_map.mp hx; e ▸ h q hq
  rwa [List.length_map] at this
noncomputable def decS : PV → Sg
  | .tuple [.str a, .str b] => (a, b)
  | _ => ([], [])
noncomputable def decSs : PV → List Sg
  | .list l => l.map decS
  | _ => []
noncomputable def fTyp (v : PV) : PV := .str (typ (decSs v))
noncomputable def fLtr (v : PV) : PV := .str (ltr (decSs v))
theorem decSs_row (w : List Sg) : decSs (.list (w.map sgP)) = w := by
  show (w.map sgP).map decS = w
  rw [List.map_map]
  have : decS ∘ sgP = id := by funext p; rfl
  rw [this, List.map_id]
noncomputable def fPrep (S : Int → Bool) (D : List (PyData × PyData)) : PV → PV
  | .str x => .str (prep S D x)
  | _ => .none
section
variable {C : Cx} {N : Addr} {mN : Str → Option Value} {S : Int → Bool} {D : List (PyData × PyData)} {tT tA uT uA uc : Addr} (T : Top1 C N mN S D tT tA uT uA uc) {k : Nat} {σ : Sto}
theorem comp_item {sc' scope : Scope} {w : List Sg} {it : Expr} {p1 p2 p3 p4 : Pos} {kk : Nat} {i : Nat} {K' : List PV → Sto → Prop} (hi : i < 2) (h1 : (rel scope sc').names.lookup (Str.ofString "sign") = some .local) (hl : w.length ≤ 1000) (hK : K' ((w.map fun p => if i = 0 then p.1 else p.2).map .str) σ) :
    Comp C k sc' [] (.Subscript (.Name (Str.ofString "sign") p1) (.Constant (.int (i : Nat)) kk p2) p3) ⟨.Name (Str.ofString "sign") p4, it, [], 0⟩ [] scope (w.map sgP) σ K' := by
  refine Comp.pure1 (t := "sign") (fun _ => true) (fun v => .str (if i = 0 then (decS v).1 else (decS v).2)) h1 rfl (fun v hv K' hK' => hK') ?_ (by rw [List.length_map]; simp [sizeLine]; lia) ?_
  · intro v hv _ K'' hK''
    obtain ⟨p, hp, rfl⟩ := List.mem_map.mp hv
    match i, hi with
    | 0, _ => exact Ev.sub (Ev.name (x := "sign") rfl (Ev.int (Op2.item_tup (j := 0) (d := .str p.1) (by decide) (by decide) rfl rfl hK'')))
    | 1, _ => exact Ev.sub (Ev.name (x := "sign") rfl (Ev.int (Op2.item_tup (j := 1) (d := .str p.2) (by decide) (by decide) rfl rfl hK'')))
  · rw [List.filter_eq_self.mpr (fun _ _ => rfl), List.map_map]
    rw [List.map_map] at hK
    exact hK
include T
theorem op_cells {s : List Int} {K : PV → Sto → Prop} (hs : s.length ≤ 1000) (h : K (.list (nums (cellsN s))) σ) : ∀ f, FnAt C f ["script"] (fScope (stAt 9)) (fBody (stAt 9)) → OpL C (k + 1) σ [.list (s.map .int)] (fun vs => PySem.call (.ref f) vs) K := fun f F => by
  have h' : K (.list ((cellsOf [32, 13, 7, 8, 52, 16, 79, 41, 34] 9 (s.take 60)).map .int)) σ := by
    have e := cellsN_ok s
    exact @Eq.mpr _ _ (congrArg (fun l => K (PV.list l) σ) e) h
  have q := @w_cells C k σ s K T.len T.range hs h'
  clear h h'
  refine OpL.freeze ?_
  refine Fn.call F ?_ ?_ ?_
  · decide +kernel
  · rfl
  · show Ex C k (fScope (stAt 9)) [("script", .list (s.map .int))] σ (fBody (stAt 9)) _
    generalize fBody (stAt 9) = bd at *
    generalize fScope (stAt 9) = sc at *
    refine Ex.mono q ?_
    intro g ρ' σ' q
    cases g with
    | ret d => exact q
    | next => exact q.elim
    | brk => exact q.elim
    | cont => exact q.elim
theorem op_sign {f c : Nat} {K : PV → Sto → Prop} (hf : f < 8) (h : K (sgP (signC f c, signT f c)) σ) : ∀ g, FnAt C g ["family", "cell"] (fScope (stAt 10)) (fBody (stAt 10)) → OpL C (k + 1) σ [.int f, .int c] (fun vs => PySem.call (.ref g) vs) K := fun g F => by
  refine Fn.call F ?_ ?_ ?_
  · decide +kernel
  · rfl
  · show Ex C k (fScope (stAt 10)) [("family", .int f), ("cell", .int c)] σ (fBody (stAt 10)) _
    exact @w_sign C k σ f c K T.chr T.B.ord T.len hf h
theorem op_prep {x : List Nat} {K : PV → Sto → Prop} (ok : ∀ c ∈ x, b3ok D c = true) (hl : x.length ≤ 10000) (h : K (.str (prep S D x)) σ) : ∀ f, FnAt C f ["text"] (fScope (stAt 11)) (fBody (stAt 11)) → OpL C (k + 2) σ [.str x] (fun vs => PySem.call (.ref f) vs) K := fun f F => by
  refine Fn.call F ?_ ?_ ?_
  · decide +kernel
  · rfl
  · show Ex C (k + 1) (fScope (stAt 11)) [("text", .str x)] σ (fBody (stAt 11)) _
    exact @w_prep C S D T.B k σ x K ok hl h
theorem w_law_a2 {s : List Int} (G : Good1 S D s) {K : Fl → Lo → Sto → Prop}
    (h : Ex C (k + 5) (fScope (stAt 16)) [("y", .str (ltr (part1 s))), ("x", .str (ltr (part0 s))), ("typed", .list [.str (typ (part0 s)), .str (typ (part1 s))]), ("cells", .list (nums (cellsN s)))] σ ((fBody (stAt 16)).drop 7) K) :
    Ex C (k + 5) (fScope (stAt 16)) [("parts", .list [.list ((part0 s).map sgP), .list ((part1 s).map sgP)]), ("signs", .list ((signsOf s).map sgP)), ("cells", .list (nums (cellsN s)))] σ ((fBody (stAt 16)).drop 4) K := by
  have hline : (16777216 : Nat) ≤ sizeLine := by decide
  have hp0 := part0_len s
  have hp1 := part1_len s
  have hpm := part_mem s
  have hin : ∀ p, p = part0 s ∨ p = part1 s → p.length ≤ 9 ∧ ∀ q ∈ p, q ∈ signsOf s := fun p hp => by
    rcases hp with rfl | rfl
    · exact ⟨by lia, fun q hq => hpm q (.inl hq)⟩
    · exact ⟨hp1, fun q hq => hpm q (.inr hq)⟩
  have hvp : ∀ v ∈ [PV.list ((part0 s).map sgP), PV.list ((part1 s).map sgP)], ∃ p, v = .list (p.map sgP) ∧ (p = part0 s ∨ p = part1 s) := fun v hv => by
    rcases List.mem_cons.mp hv with rfl | hv
    · exact ⟨_, rfl, .inl rfl⟩
    · rw [List.mem_singleton.mp hv]; exact ⟨_, rfl, .inr rfl⟩
  have tl : ∀ p, p = part0 s ∨ p = part1 s → ((p.map (·.1)).map List.length).sum ≤ 9 := fun p hp => by
    obtain ⟨a, b⟩ := hin p hp
    have := typ_len (p := p) (n := 1) fun q hq => (G.low q (b q hq)).2.2.1
    lia
  have ll : ∀ p, p = part0 s ∨ p = part1 s → ((p.map (·.2)).map List.length).sum ≤ 27 := fun p hp => by
    obtain ⟨a, b⟩ := hin p hp
    have := ltr_len (p := p) (n := 3) fun q hq => (G.low q (b q hq)).2.2.2
    lia
  refine Ex.cons (Ex1.assignS (x := "typed") (Ev.listComp [] trivial (by decide +kernel) rfl (plainC1 rfl fun _ _ => rfl) ?_) (.inr rfl) (fun env he => by cases env; dsimp only at he; subst he; rfl))
  refine Ev.name (x := "parts") rfl ⟨_, Iterable.list, ?_⟩
  refine Comp.pure1 (t := "part") (fun _ => true) fTyp rfl rfl (fun v hv K' hK' => hK') ?_ (by simp [sizeLine]) ?_
  · intro v hv _ K' hK'
    obtain ⟨p, rfl, hp⟩ := hvp v hv
    refine Ev.join (Ev.listComp [] trivial (by decide +kernel) rfl (plainC1 rfl fun _ _ => rfl) ?_) rfl rfl fun _ => rfl
    refine Ev.name (x := "part") rfl ⟨_, Iterable.list, comp_item (i := 0) (by decide) rfl (by have := (hin p hp).1; lia) ⟨_, .list, ?_, ?_⟩⟩
    · exact Nat.le_trans (tl p hp) (by decide)
    · unfold fTyp at hK'
      rw [decSs_row] at hK'
      exact hK'
  rw [List.filter_eq_self.mpr (fun _ _ => rfl), show [PV.list ((part0 s).map sgP), PV.list ((part1 s).map sgP)].map fTyp = [.str (typ (part0 s)), .str (typ (part1 s))] by
    unfold fTyp; rw [List.map_cons, List.map_cons, List.map_nil, decSs_row, decSs_row]]
  refine Ex.cons (Ex1.tgt (Ev.listComp [] trivial (by decide +kernel) rfl (plainC1 rfl fun _ _ => rfl) ?_) (fun env he => by cases env; dsimp only at he; subst he; rfl) (fun env he => by cases env; dsimp only at he; subst he; rfl))
  refine Ev.name (x := "typed") rfl ⟨_, Iterable.list, ?_⟩
  have hvt : ∀ v ∈ [PV.str (typ (part0 s)), PV.str (typ (part1 s))], ∃ p, v = .str (typ p) ∧ (p = part0 s ∨ p = part1 s) := fun v hv => by
    rcases List.mem_cons.mp hv with rfl | hv
    · exact ⟨_, rfl, .inl rfl⟩
    · rw [List.mem_singleton.mp hv]; exact ⟨_, rfl, .inr rfl⟩
  refine Comp.pure1 (t := "word") (fun _ => true) (fPrep S D) rfl rfl (fun v hv K' hK' => hK') ?_ (by simp [sizeLine]) ?_
  · intro v hv _ K' hK'
    obtain ⟨p, rfl, hp⟩ := hvt v hv
    refine Ev.callF T.prep rfl (Ev.name (x := "word") rfl ⟨rfl, op_prep T (fun c hc => ?_) ?_ hK'⟩) rfl
    · obtain ⟨l, hl, hc⟩ := List.mem_flatten.mp hc
      obtain ⟨q, hq, rfl⟩ := List.mem_map.mp hl
      exact G.ok q ((hin p hp).2 q hq) c hc
    · unfold typ; rw [List.length_flatten]; exact Nat.le_trans (tl p hp) (by decide)
  rw [List.filter_eq_self.mpr (fun _ _ => rfl), show [PV.str (typ (part0 s)), PV.str (typ (part1 s))].map (fPrep S D) = [.str (ltr (part0 s)), .str (ltr (part1 s))] by
    rw [List.map_cons, List.map_cons, List.map_nil, ← G.prep0, ← G.prep1]; rfl]
  refine Bind.tuple Iterable.list Unpackable.list (Bind.name (x := "x") (.inr rfl) (Bind.name (x := "y") (.inr rfl) ?_)) rfl rfl fun _ _ q => q
  have lowl : ∀ p, p = part0 s ∨ p = part1 s → ∀ c ∈ ltr p, c < 0x110000 := fun p hp c hc => by
    obtain ⟨l, hl, hc⟩ := List.mem_flatten.mp hc
    obtain ⟨q, hq, rfl⟩ := List.mem_map.mp hl
    have := ((G.low q ((hin p hp).2 q hq)).2.1 c hc).2
    lia
  refine Ex.cons (Ex1.if (Tr.cmp (Ev.list2 (Ev.name (x := "x") rfl (Ev.name (x := "y") rfl ?_)) rfl) rfl))
  refine Ev.listComp [] trivial (by decide +kernel) rfl (plainC1 rfl fun _ _ => rfl) ?_
  refine Ev.name (x := "parts") rfl ⟨_, Iterable.list, ?_⟩
  refine Comp.pure1 (t := "part") (fun _ => true) fLtr rfl rfl (fun v hv K' hK' => hK') ?_ (by simp [sizeLine]) ?_
  · intro v hv _ K' hK'
    obtain ⟨p, rfl, hp⟩ := hvp v hv
    refine Ev.join (Ev.listComp [] trivial (by decide +kernel) rfl (plainC1 rfl fun _ _ => rfl) ?_) rfl rfl fun _ => rfl
    refine Ev.name (x := "part") rfl ⟨_, Iterable.list, comp_item (i := 1) (by decide) rfl (by have := (hin p hp).1; lia) ⟨_, .list, ?_, ?_⟩⟩
    · exact Nat.le_trans (ll p hp) (by decide)
    · unfold fLtr at hK'
      rw [decSs_row] at hK'
      exact hK'
  rw [List.filter_eq_self.mpr (fun _ _ => rfl), show [PV.list ((part0 s).map sgP), PV.list ((part1 s).map sgP)].map fLtr = [.str (ltr (part0 s)), .str (ltr (part1 s))] by
    unfold fLtr; rw [List.map_cons, List.map_cons, List.map_nil, decSs_row, decSs_row]]
  have two : ∀ a b : List Nat, [PV.str a, PV.str b] = [a, b].map .str := fun _ _ => rfl
  rw [two]
  have pll : pl 60 (.list ([ltr (part0 s), ltr (part1 s)].map .str)) = true := by
    rw [pl]; refine plL_strs fun x hx => ?_
    rcases List.mem_cons.mp hx with rfl | hx
    · exact lowl _ (.inl rfl)
    · rw [List.mem_singleton.mp hx]; exact lowl _ (.inr rfl)
  refine Op2.ne pll pll (OpB.bool ?_)
  rw [peq_strs, decide_eq_true rfl]
  show Ex C (k + 5) _ _ _ [] _
  refine Ex.nil (Ex.has ?_ h)
  exact ⟨rfl, rfl, rfl, rfl, trivial⟩
theorem w_law_a {s : List Int} (G : Good1 S D s) {K : Fl → Lo → Sto → Prop} (hs : s.length ≤ 63)
    (h : Ex C (k + 5) (fScope (stAt 16)) [("y", .str (ltr (part1 s))), ("x", .str (ltr (part0 s))), ("typed", .list [.str (typ (part0 s)), .str (typ (part1 s))]), ("cells", .list (nums (cellsN s)))] σ ((fBody (stAt 16)).drop 7) K) :
    Ex C (k + 5) (fScope (stAt 16)) [("script", .list (s.map .int))] σ (fBody (stAt 16)) K := by
  have hline : (16777216 : Nat) ≤ sizeLine := by decide
  refine Ex.cons (Ex1.assign (x := "cells") (Ev.callF T.cells rfl (Ev.name (x := "script") rfl ⟨rfl, op_cells T (by lia) ?_⟩) rfl) (.inr rfl) fun _ => rfl)
  have h9 := cellsN_len s
  have hnl : (nums (cellsN s)).length = 9 := by simp [nums, h9]
  have hf8 : famOf s < 8 := Nat.mod_lt _ (by decide)
  have h6 := signs_len s
  refine Ex.cons (Ex1.assignComp (x := "signs") [("cells", .list (nums (cellsN s)))] ⟨⟨rfl, rfl⟩, trivial⟩ (by decide +kernel) rfl (plainC1 rfl fun _ _ => rfl) ?_ rfl (fun env he => by cases env; dsimp only at he; subst he; rfl))
  refine Ev.sub (Ev.name (x := "cells") rfl (Ev.slice (Ev.int (Ev.int ⟨_, _, _, .int 1, .int 7, .none, Op2.slice .list (by decide) (by lia) ?_⟩))))
  rw [show slcL (nums (cellsN s)) (some (1 : Int)) (some 7) none = nums (((cellsN s).drop 1).take 6) by
    rw [show (7 : Int) = ((7 : Nat) : Int) from rfl, show (1 : Int) = ((1 : Nat) : Int) from rfl, slcL_mid _ 1 7 (by decide) (by lia)]
    simp [nums, List.map_drop, List.map_take]]
  refine ⟨_, Iterable.list, ?_⟩
  refine Comp.pure1 (t := "cell") (fun _ => true) (fun v => match v with | .int c => sgP (signC (famOf s) c.toNat, signT (famOf s) c.toNat) | _ => .none) rfl rfl (fun v hv K' hK' => hK') ?_ (by simp [nums]; lia) ?_
  · intro v hv _ K' hK'
    obtain ⟨c', hc', rfl⟩ := List.mem_map.mp hv
    obtain ⟨c, hc, rfl⟩ := List.mem_map.mp hc'
    exact Ev.callF T.sign rfl (Ev.binop (Ev.sub (Ev.name (x := "cells") rfl (Ev.int (Op2.itemN (i := 0) .list (nums_get (by lia)) (Ev.int (Op2.modN (b := 8) (by decide) (Ev.name (x := "cell") rfl ⟨rfl, op_sign T hf8 hK'⟩))) (by lia)))))) rfl
  rw [List.filter_eq_self.mpr (fun _ _ => rfl), show ((nums (((cellsN s).drop 1).take 6)).map fun v => match v with | .int c => sgP (signC (famOf s) c.toNat, signT (famOf s) c.toNat) | _ => .none) = (signsOf s).map sgP by
    unfold signsOf nums; rw [List.map_map, List.map_map, List.map_map]; rfl]
  have hsl : ((signsOf s).map sgP).length = 6 := by rw [List.length_map, h6]
  refine Ex.cons (Ex1.for (J := fun rest ρ σ' => ∃ todo : List Sg, rest = todo.map sgP ∧ (∀ p ∈ todo, p ∈ signsOf s) ∧ Has ρ [("signs", .list ((signsOf s).map sgP)), ("cells", .list (nums (cellsN s)))] ∧ σ' = σ) ?_ ?_ ?_ fun _ _ => rfl)
  · exact Ev.name (x := "signs") rfl ⟨_, Iterable.list, signsOf s, rfl, fun p hp => hp, ⟨rfl, rfl, trivial⟩, rfl⟩
  · rintro v r ρ' σ' ⟨todo, he, hin, hh, rfl⟩
    cases todo with
    | nil => cases he
    | cons p todo =>
    obtain ⟨rfl, rfl⟩ : v = sgP p ∧ r = todo.map sgP := by simpa using he
    have hp := hin p List.mem_cons_self
    obtain ⟨l1, l2, l3, l4⟩ := G.low p hp
    refine Bind.pairF (t₁ := "sign") (t₂ := "text") (.inl rfl) (.inl rfl) ?_
    refine Ex.has (ρ' := [("text", .str p.2), ("sign", .str p.1), ("signs", .list ((signsOf s).map sgP)), ("cells", .list (nums (cellsN s)))]) ⟨rfl, rfl, hh.1, hh.2.1, trivial⟩ ?_
    refine Ex.cons (Ex1.if (Tr.and2 (Tr.cmp (Ev.name (x := "sign") rfl (Ev.str (l := []) rfl (Op2.ne (pl_str' l1) (pl_str' (by simp)) (OpB.bool ?_)))) rfl)))
    rw [peq_str']
    have back : ∃ todo' : List Sg, todo.map sgP = todo'.map sgP ∧ (∀ p ∈ todo', p ∈ signsOf s) ∧ Has [("text", .str p.2), ("sign", .str p.1), ("signs", .list ((signsOf s).map sgP)), ("cells", .list (nums (cellsN s)))] [("signs", .list ((signsOf s).map sgP)), ("cells", .list (nums (cellsN s)))] ∧ σ' = σ' :=
      ⟨todo, rfl, fun q hq => hin q (List.mem_cons_of_mem _ hq), ⟨rfl, rfl, trivial⟩, rfl⟩
    rcases G.b1 p hp with e | ⟨c, e, hS⟩
    · rw [e, decide_eq_true rfl]
      show Ex C (k + 5) _ _ _ [] _
      exact Ex.nil (Ex.nil (e ▸ back))
    · rw [e, decide_eq_false (by simp)]
      show Tr C (k + 5) _ _ _ _ _
      rw [e] at back
      refine Tr.cmp (Ev.callF T.B.b1 rfl (Ev.name (x := "sign") rfl ⟨rfl, op_b1 T.B ?_⟩) rfl) rfl
      refine Ev.cmp (Ev.name (x := "text") rfl (Ev.str (l := []) rfl (Op2.eq (pl_str' fun c hc => by have := (l2 c hc).2; lia) (pl_str' (by simp)) ?_))) rfl
      rw [peq_str', hS]
      refine Op2.isNot rfl rfl (OpB.bool ?_)
      rw [show (!pis (.bool (decide (p.2 = []))) (.bool (decide (p.2 = [])))) = false by simp [pis]]
      show Ex C (k + 5) _ _ _ [] _
      exact Ex.nil (Ex.nil back)
  rintro ρ' σ' ⟨todo, he, hin, hh, rfl⟩
  refine Ex.has hh ?_
  have c0 : 0 < (cellsN s).length := by lia
  have rows : ∀ (p : List Sg) n, (p.map sgP).take n = (p.take n).map sgP := fun p n => (List.map_take).symm
  have hp0 := part0_len s
  have hp1 := part1_len s
  have hpm := part_mem s
  have e0 : slcL ((signsOf s).map sgP) none (some (3 : Int)) none = (part0 s).map sgP := by
    rw [show (3 : Int) = ((3 : Nat) : Int) from rfl, slcL_to]; exact rows _ 3
  refine Ex.cons (Ex1.assign (x := "parts") (Ev.list2 (Ev.sub (Ev.name (x := "signs") rfl (Ev.slice (Ev.int ⟨_, _, _, .none, .int 3, .none, Op2.slice .list (by decide) (by lia) ?_⟩)))) rfl) (.inl rfl) fun _ => rfl)
  rw [e0]
  refine Ev.binop (Ev.binop (Ev.sub (Ev.name (x := "signs") rfl (Ev.slice (Ev.int ⟨_, _, _, .none, .int 3, .none, Op2.slice .list (by decide) (by lia) ?_⟩)))))
  rw [e0]
  refine Ev.binop (Ev.binop (Ev.sub (Ev.name (x := "cells") rfl (Ev.int (Op2.itemN (i := 0) .list (nums_get c0) (Ev.int (Op2.divN (b := 8) (by decide) (Ev.int (Op2.modN (b := 3) (by decide) (Op2.mull .list ?z1 ?z2 ?_))))) (by lia))))))
  case z1 => have := Nat.mod_lt ((cellsN s).getD 0 0 / 8) (show 0 < 3 by decide); lia
  case z2 => rw [List.length_map]; lia
  refine Ev.ifexp (Tr.cmp (Ev.binop (Ev.binop (Ev.sub (Ev.name (x := "cells") rfl (Ev.int (Op2.itemN (i := 0) .list (nums_get c0) (Ev.int (Op2.divN (b := 24) (by decide) (Ev.int (Op2.modN (b := 4) (by decide) (Ev.int (Op2.gtN (b := 0) (OpB.bool ?_))))))) (by lia))))))) rfl)
  have fin : Ex C (k + 5) (fScope (stAt 16)) (("parts", .list [.list ((part0 s).map sgP), .list ((part1 s).map sgP)]) :: [("signs", .list ((signsOf s).map sgP)), ("cells", .list (nums (cellsN s)))]) σ' ((fBody (stAt 16)).drop 4) K := w_law_a2 T G h
  have l1 : ((List.replicate ((cellsN s).getD 0 0 / 8 % 3) ((part0 s).map sgP)).flatten).length ≤ 6 := by
    have h : (cellsN s).getD 0 0 / 8 % 3 < 3 := Nat.mod_lt _ (by decide)
    rw [List.length_flatten, List.map_replicate, List.sum_replicate_nat, List.length_map, hp0]; lia
  refine ite_dec (fun h4 => ?_) fun h4 => ?_
  · refine Ev.sub (Ev.name (x := "signs") rfl (Ev.slice (Ev.int ⟨_, _, _, .int 3, .none, .none, Op2.slice .list (by decide) (by lia) ?_⟩)))
    rw [show slcL ((signsOf s).map sgP) (some (3 : Int)) none none = ((signsOf s).drop 3).map sgP by
      rw [show (3 : Int) = ((3 : Nat) : Int) from rfl, slcL_from, List.map_drop]]
    refine Op2.addl .list .list (by rw [List.length_map, List.length_drop]; lia) ?_
    rw [show (List.replicate ((cellsN s).getD 0 0 / 8 % 3) ((part0 s).map sgP)).flatten ++ ((signsOf s).drop 3).map sgP = (part1 s).map sgP by
      unfold part1; rw [if_pos h4, List.map_append, List.map_flatten, List.map_replicate]]
    exact fin
  · refine Ev.list (es := []) ⟨by simp [sizeLine], Op2.addl .list .list (by simp only [List.length_nil]; lia) ?_⟩ rfl
    rw [show (List.replicate ((cellsN s).getD 0 0 / 8 % 3) ((part0 s).map sgP)).flatten ++ [] = (part1 s).map sgP by
      unfold part1; rw [if_neg h4, List.append_nil, List.append_nil, List.map_flatten, List.map_replicate]]
    exact fin
end
end Mine
end U30
section T51
set_option maxRecDepth 100000
namespace Mine
noncomputable abbrev botL : List Nat := [98, 111, 116]
noncomputable abbrev starL : List Nat := [42]
noncomputable abbrev botsL : List (List Nat) := [[66, 111, 116], [98, 111, 116, 47, 49]]
noncomputable def frontsOf (x y : List Nat) : List (List Nat) := (List.range (x.length + y.length + 1)).map fun k => (x ++ y).take k
noncomputable def othersOf (x y : List Nat) : List (List Nat) := (List.range (x.length + y.length + 1)).flatMap fun i => [(y ++ x).take (x.length + y.length - i), (y ++ x).take (x.length + y.length - i)]
noncomputable def backsOf (x y : List Nat) : List (List Nat) := (List.range (x.length + y.length)).map fun i => (y ++ x).take (x.length + y.length - i)
noncomputable def us1 (x y : List Nat) : List (List Nat) := ([botL] ++ frontsOf x y) ++ [starL]
noncomputable def us2 (x y : List Nat) : List (List Nat) := ([starL] ++ othersOf x y) ++ botsL
theorem filter_le : ∀ (n c : Nat), c + 1 ≤ n → (List.range n).filter (fun k => decide (k ≤ c)) = List.range (c + 1)
  | 0, c, h => by lia
  | n + 1, c, h => by
    rw [List.range_succ, List.filter_append]
    by_cases e : c + 1 ≤ n
    · rw [filter_le n c e, List.filter_cons_of_neg (by simp; lia)]; simp
    · have : n = c := by lia
      subst this
      rw [List.filter_eq_self.mpr (fun k hk => by have := List.mem_range.mp hk; simp; lia), List.range_succ]
      simp
theorem fronts_mem {x y f : List Nat} : f ∈ frontsOf x y ↔ ∃ k, k ≤ x.length + y.length ∧ f = (x ++ y).take k := by
  unfold frontsOf
  rw [List.mem_map]
  constructor
  · rintro ⟨k, hk, rfl⟩; exact ⟨k, by have := List.mem_range.mp hk; lia, rfl⟩
  · rintro ⟨k, hk, rfl⟩; exact ⟨k, List.mem_range.mpr (by lia), rfl⟩
theorem others_mem {x y f : List Nat} : f ∈ othersOf x y ↔ ∃ k, k ≤ x.length + y.length ∧ f = (y ++ x).take k := by
  unfold othersOf
  rw [List.mem_flatMap]
  constructor
  · rintro ⟨i, hi, h⟩
    refine ⟨x.length + y.length - i, by lia, ?_⟩
    simpa using h
  · rintro ⟨k, hk, rfl⟩
    refine ⟨x.length + y.length - k, List.mem_range.mpr (by lia), ?_⟩
    rw [show x.length + y.length - (x.length + y.length - k) = k by lia]
    exact List.mem_cons_self
section
variable {x y : List Nat} (low : ∀ c ∈ x ++ y, 97 ≤ c ∧ c ≠ 98)
include low
theorem low' : ∀ c ∈ y ++ x, 97 ≤ c ∧ c ≠ 98 := fun c hc => low c (by
  rcases List.mem_append.mp hc with h | h
  · exact List.mem_append_right _ h
  · exact List.mem_append_left _ h)
theorem front_ne {k c : Nat} {r : List Nat} (hc : c < 97 ∨ c = 98) : (x ++ y).take k ≠ c :: r := fun e => by
  have : c ∈ x ++ y := List.mem_of_mem_take (i := k) (by rw [e]; exact List.mem_cons_self)
  have := low c this
  lia
theorem front_in {k : Nat} (hk : k ≤ x.length + y.length) : (x ++ y).take k ∈ us2 x y ↔ k ≤ comOf x y := by
  have hl : k ≤ (x ++ y).length := by rw [List.length_append]; exact hk
  unfold us2
  constructor
  · intro h
    rcases List.mem_append.mp h with h | h
    · rcases List.mem_append.mp h with h | h
      · exact absurd (List.mem_singleton.mp h) (front_ne low (by lia))
      · obtain ⟨j, hj, e⟩ := others_mem.mp h
        have hjk : j = k := by
          have := congrArg List.length e
          rw [List.length_take, List.length_take, List.length_append, List.length_append] at this
          lia
        subst hjk
        rw [← com_lcp]
        exact (lcp_iff _ _ _ hl).mp e.symm
    · rcases List.mem_cons.mp h with h | h
      · exact absurd h (front_ne low (by lia))
      · exact absurd (List.mem_singleton.mp h) (front_ne low (by lia))
  · intro h
    rw [← com_lcp] at h
    exact List.mem_append_left _ (List.mem_append_right _ (others_mem.mpr ⟨k, hk, ((lcp_iff _ _ _ hl).mpr h).symm⟩))
theorem back_in {k : Nat} (hk : k ≤ x.length + y.length) : (y ++ x).take k ∈ us1 x y ↔ k ≤ comOf x y := by
  have hl : k ≤ (x ++ y).length := by rw [List.length_append]; exact hk
  have lw := low' low
  unfold us1
  constructor
  · intro h
    rcases List.mem_append.mp h with h | h
    · rcases List.mem_append.mp h with h | h
      · exact absurd (List.mem_singleton.mp h) (front_ne lw (by lia))
      · obtain ⟨j, hj, e⟩ := fronts_mem.mp h
        have hjk : j = k := by
          have := congrArg List.length e
          rw [List.length_take, List.length_take, List.length_append, List.length_append] at this
          lia
        subst hjk
        rw [← com_lcp]
        exact (lcp_iff _ _ _ hl).mp e
    · exact absurd (List.mem_singleton.mp h) (front_ne lw (by lia))
  · intro h
    rw [← com_lcp] at h
    exact List.mem_append_left _ (List.mem_append_right _ (fronts_mem.mpr ⟨k, hk, (lcp_iff _ _ _ hl).mpr h⟩))
theorem agents1 : (us1 x y).filter (fun a => decide (a ∈ us2 x y)) = (frontsOf x y).take (comOf x y + 1) ++ [starL] := by
  have hc := com_le x y
  have h1 : botL ∉ us2 x y := fun h => by
    unfold us2 at h
    rcases List.mem_append.mp h with h | h
    · rcases List.mem_append.mp h with h | h
      · cases List.mem_singleton.mp h
      · obtain ⟨j, hj, e⟩ := others_mem.mp h
        exact front_ne (low' low) (by lia) e.symm
    · rcases List.mem_cons.mp h with h | h
      · cases h
      · cases List.mem_singleton.mp h
  have h2 : starL ∈ us2 x y := List.mem_append_left _ (List.mem_append_left _ List.mem_cons_self)
  have h3 : (frontsOf x y).filter (fun a => decide (a ∈ us2 x y)) = (frontsOf x y).take (comOf x y + 1) := by
    unfold frontsOf
    rw [List.filter_map, ← List.map_take, List.take_range, Nat.min_eq_left (by lia), ← filter_le (x.length + y.length + 1) (comOf x y) (by lia)]
    congr 1
    refine List.filter_congr fun k hk => ?_
    have := List.mem_range.mp hk
    exact decide_eq_decide.mpr (front_in low (by lia))
  show (([botL] ++ frontsOf x y) ++ [starL]).filter _ = _
  rw [List.filter_append, List.filter_append, h3, List.filter_cons_of_neg (by simpa using h1), List.filter_cons_of_pos (by simpa using h2)]
  simp
theorem agents2 : (us2 x y).filter (fun a => decide (a ∈ us1 x y)) = [starL] ++ (othersOf x y).filter (fun f => decide (f.length ≤ comOf x y)) := by
  have hn : ∀ a : List Nat, a ≠ botL → a ≠ starL → (∀ k, (x ++ y).take k ≠ a) → a ∉ us1 x y := fun a n1 n2 n3 h => by
    unfold us1 at h
    rcases List.mem_append.mp h with h | h
    · rcases List.mem_append.mp h with h | h
      · exact n1 (List.mem_singleton.mp h)
      · obtain ⟨j, hj, e⟩ := fronts_mem.mp h
        exact n3 j e.symm
    · exact n2 (List.mem_singleton.mp h)
  have h1 : [66, 111, 116] ∉ us1 x y := hn _ (by decide) (by decide) fun k => front_ne low (by lia)
  have h1' : [98, 111, 116, 47, 49] ∉ us1 x y := hn _ (by decide) (by decide) fun k => front_ne low (by lia)
  have h2 : starL ∈ us1 x y := List.mem_append_right _ List.mem_cons_self
  have h3 : (othersOf x y).filter (fun a => decide (a ∈ us1 x y)) = (othersOf x y).filter (fun f => decide (f.length ≤ comOf x y)) := by
    refine List.filter_congr fun f hf => ?_
    obtain ⟨k, hk, rfl⟩ := others_mem.mp hf
    refine decide_eq_decide.mpr ?_
    rw [back_in low hk, List.length_take, List.length_append, Nat.min_eq_left (by lia)]
  show (([starL] ++ othersOf x y) ++ botsL).filter _ = _
  rw [List.filter_append, List.filter_append, h3, List.filter_cons_of_pos (by simpa using h2), List.filter_cons_of_neg (by simpa using h1), List.filter_cons_of_neg (by simpa using h1')]
  simp
end
noncomputable def divsOf (n m : Nat) : List Nat := ((List.range (n + m)).map fun i => 1 + i).filter fun d => decide (n % d = 0) && decide (m % d = 0)
theorem max_gcd {n m : Nat} {M : Int} (hM : M ∈ (0 : Int) :: (divsOf n m).map fun (d : Nat) => (d : Int)) (hle : ∀ a ∈ (0 : Int) :: (divsOf n m).map (fun (d : Nat) => (d : Int)), a ≤ M) : M = ((Nat.gcd n m : Nat) : Int) := by
  have up : M ≤ ((Nat.gcd n m : Nat) : Int) := by
    rcases List.mem_cons.mp hM with rfl | h
    · exact Int.natCast_nonneg _
    · obtain ⟨d, hd, rfl⟩ := List.mem_map.mp h
      obtain ⟨h1, h2⟩ := List.mem_filter.mp hd
      obtain ⟨i, hi, rfl⟩ := List.mem_map.mp h1
      have hi := List.mem_range.mp hi
      simp only [Bool.and_eq_true, decide_eq_true_eq] at h2
      have hdv := Nat.dvd_gcd (Nat.dvd_of_mod_eq_zero h2.1) (Nat.dvd_of_mod_eq_zero h2.2)
      have hg : 0 < Nat.gcd n m := by
        by_cases hn : n = 0
        · by_cases hm : m = 0
          · lia
          · exact Nat.gcd_pos_of_pos_right _ (by lia)
        · exact Nat.gcd_pos_of_pos_left _ (by lia)
      exact Int.ofNat_le.mpr (Nat.le_of_dvd hg hdv)
  have dn : ((Nat.gcd n m : Nat) : Int) ≤ M := by
    by_cases hg : Nat.gcd n m = 0
    · rw [hg]; exact hle 0 List.mem_cons_self
    · refine hle _ (List.mem_cons_of_mem _ (List.mem_map_of_mem (List.mem_filter.mpr ⟨?_, ?_⟩)))
      · have hgl : Nat.gcd n m ≤ n + m := by
          by_cases hn : n = 0
          · rw [hn, Nat.gcd_zero_left]; lia
          · have := Nat.gcd_le_left m (show 0 < n by lia); lia
        exact List.mem_map.mpr ⟨Nat.gcd n m - 1, List.mem_range.mpr (by lia), by lia⟩
      · rw [Nat.mod_eq_zero_of_dvd (Nat.gcd_dvd_left n m), Nat.mod_eq_zero_of_dvd (Nat.gcd_dvd_right n m)]; rfl
  lia
end Mine
end T51
section T52
open PySem PySem.W PyProof.Rows
set_option maxRecDepth 100000
namespace Mine
noncomputable abbrev St := Int × Option (List Nat)
noncomputable def top1 (v : List Nat) (a : Nat) (st : St) : St :=
  if a = 0 then st else if st.1 < ((a + 1 : Nat) : Int) then (((a + 1 : Nat) : Int), some v) else if ((a + 1 : Nat) : Int) = st.1 ∧ st.2 = some [] then (st.1, some v) else st
theorem step_yes {nm fr vd : List Nat} {more : List (List Nat)} {st : St} (h : nm.take fr.length = fr) (h1 : 1 ≤ fr.length) : stepA nm st (fr, vd, more) = top1 vd fr.length st := by
  have e : applN fr nm = fr.length + 1 := by unfold applN; rw [if_pos h]
  unfold stepA top1
  rw [if_neg (show ¬ applN fr nm = 0 by lia), if_neg (show ¬ fr.length = 0 by lia)]
  show (if st.1 < ((applN fr nm : Nat) : Int) then (((applN fr nm : Nat) : Int), some vd) else if ((applN fr nm : Nat) : Int) = st.1 ∧ st.2 = some [] then (st.1, some vd) else st) = _
  rw [e]
theorem step_no {nm fr vd : List Nat} {more : List (List Nat)} {st : St} (h : nm.take fr.length ≠ fr) : stepA nm st (fr, vd, more) = st := by
  have e : applN fr nm = 0 := by unfold applN; rw [if_neg h]
  unfold stepA
  exact if_pos e
theorem step_front {u nm v : List Nat} {k : Nat} (hk : k + 1 ≤ u.length) (st : St) : stepA nm st (pRule v (u.take (k + 1))) = if k + 1 ≤ lcp u nm then top1 v (k + 1) st else st := by
  have hl : (u.take (k + 1)).length = k + 1 := by rw [List.length_take]; lia
  have hi := lcp_iff u nm (k + 1) hk
  by_cases h : k + 1 ≤ lcp u nm
  · rw [if_pos h, pRule, step_yes (by rw [hl]; exact hi.mpr h) (by lia), hl]
  · rw [if_neg h, pRule, step_no (by rw [hl]; exact fun q => h (hi.mp q))]
theorem top_top {v : List Nat} {a b : Nat} {st : St} (h : a ≤ b) (hb : 1 ≤ b) (hab : a < b) : top1 v b (top1 v a st) = top1 v b st := by
  unfold top1
  rw [if_neg (show ¬ b = 0 by lia), if_neg (show ¬ b = 0 by lia)]
  by_cases ha : a = 0
  · rw [if_pos ha]
  · rw [if_neg ha]
    by_cases h1 : st.1 < ((a + 1 : Nat) : Int)
    · rw [if_pos h1, if_pos (show ((a + 1 : Nat) : Int) < ((b + 1 : Nat) : Int) by lia), if_pos (show st.1 < ((b + 1 : Nat) : Int) by lia)]
    · rw [if_neg h1]
      by_cases h2 : ((a + 1 : Nat) : Int) = st.1 ∧ st.2 = some []
      · rw [if_pos h2]
        show (if st.1 < ((b + 1 : Nat) : Int) then _ else _) = _
        rw [if_pos (show st.1 < ((b + 1 : Nat) : Int) by lia), if_pos (show st.1 < ((b + 1 : Nat) : Int) by lia)]
      · rw [if_neg h2]
theorem top_low {v : List Nat} {a b : Nat} {st : St} (hab : a < b) : top1 v a (top1 v b st) = top1 v b st := by
  by_cases ha : a = 0
  · rw [ha]; unfold top1; rw [if_pos rfl]
  · have hb : ((b + 1 : Nat) : Int) ≤ (top1 v b st).1 := by
      unfold top1
      rw [if_neg (show ¬ b = 0 by lia)]
      by_cases h1 : st.1 < ((b + 1 : Nat) : Int)
      · rw [if_pos h1]; exact Int.le_refl _
      · rw [if_neg h1]; split
        · show _ ≤ st.1; lia
        · lia
    generalize top1 v b st = q at *
    unfold top1
    rw [if_neg ha, if_neg (show ¬ q.1 < ((a + 1 : Nat) : Int) by lia), if_neg (fun r => by have := r.1; lia)]
theorem fold_up (u nm v : List Nat) : ∀ (N : Nat) (st : St), N ≤ u.length → ((List.range N).map fun i => pRule v (u.take (i + 1))).foldl (stepA nm) st = top1 v (min (lcp u nm) N) st
  | 0, st, h => by rw [Nat.min_zero]; rfl
  | N + 1, st, h => by
    rw [List.range_succ, List.map_append, List.foldl_append, fold_up u nm v N st (by lia)]
    show stepA nm (top1 v (min (lcp u nm) N) st) (pRule v (u.take (N + 1))) = _
    rw [step_front h]
    by_cases hN : N + 1 ≤ lcp u nm
    · rw [if_pos hN, Nat.min_eq_right (by lia), Nat.min_eq_right hN, top_top (by lia) (by lia) (by lia)]
    · rw [if_neg hN, Nat.min_eq_left (by lia), Nat.min_eq_left (by lia)]
theorem fold_dn (u nm v : List Nat) : ∀ (N : Nat) (st : St), N ≤ u.length → ((List.range N).map fun i => pRule v (u.take (N - i))).foldl (stepA nm) st = top1 v (min (lcp u nm) N) st
  | 0, st, h => by rw [Nat.min_zero]; rfl
  | N + 1, st, h => by
    have e : ((List.range (N + 1)).map fun i => pRule v (u.take (N + 1 - i))) = pRule v (u.take (N + 1)) :: (List.range N).map fun i => pRule v (u.take (N - i)) := by
      rw [List.range_succ_eq_map, List.map_cons, List.map_map]
      congr 1
      refine List.map_congr_left fun i _ => ?_
      show pRule v (u.take (N + 1 - (i + 1))) = _
      rw [Nat.add_sub_add_right]
    rw [e, List.foldl_cons, step_front h]
    by_cases hN : N + 1 ≤ lcp u nm
    · rw [if_pos hN, fold_dn u nm v N _ (by lia), Nat.min_eq_right (by lia), Nat.min_eq_right hN, top_low (by lia)]
    · rw [if_neg hN, fold_dn u nm v N _ (by lia), Nat.min_eq_left (by lia), Nat.min_eq_left (by lia)]
noncomputable def rowF (x y t0 : List Nat) : List Rule := (List.range (x.length + y.length)).map fun i => pRule t0 ((x ++ y).take (i + 1))
noncomputable def rowB (x y t1 : List Nat) : List Rule := (List.range (x.length + y.length)).map fun i => pRule t1 ((y ++ x).take (x.length + y.length - i))
noncomputable def orL (a b : List Nat) : List Nat := if a = [] then b else a
noncomputable def tellTwo (v : List Nat) (a : Nat) (w : List Nat) (b : Nat) : Option (List Nat) := (top1 w b (top1 v a (-1, none))).2
theorem allow_fb (x y t0 t1 nm : List Nat) : allowF nm (rowF x y t0 ++ rowB x y t1) = tellTwo t0 (lcp (x ++ y) nm) t1 (lcp (y ++ x) nm) := by
  have l1 : (x ++ y).length = x.length + y.length := List.length_append
  have l2 : (y ++ x).length = y.length + x.length := List.length_append
  have a1 := (lcp_le (x ++ y) nm).1
  have a2 := (lcp_le (y ++ x) nm).1
  unfold allowF tellTwo rowF rowB
  rw [List.foldl_append, fold_up _ _ _ _ _ (by lia), fold_dn _ _ _ _ _ (by lia), Nat.min_eq_left (by lia), Nat.min_eq_left (by lia)]
theorem allow_bf (x y t0 t1 nm : List Nat) : allowF nm (rowB x y t1 ++ rowF x y t0) = tellTwo t1 (lcp (y ++ x) nm) t0 (lcp (x ++ y) nm) := by
  have l1 : (x ++ y).length = x.length + y.length := List.length_append
  have l2 : (y ++ x).length = y.length + x.length := List.length_append
  have a1 := (lcp_le (x ++ y) nm).1
  have a2 := (lcp_le (y ++ x) nm).1
  unfold allowF tellTwo rowF rowB
  rw [List.foldl_append, fold_dn _ _ _ _ _ (by lia), fold_up _ _ _ _ _ (by lia), Nat.min_eq_left (by lia), Nat.min_eq_left (by lia)]
theorem top_base {v : List Nat} {a : Nat} (h : 1 ≤ a) : top1 v a (-1, none) = (((a + 1 : Nat) : Int), some v) := by
  unfold top1
  rw [if_neg (by lia), if_pos (show (-1 : Int) < ((a + 1 : Nat) : Int) by lia)]
theorem tell_fst {v w : List Nat} {a b : Nat} (h : b < a) : tellTwo v a w b = some v := by
  unfold tellTwo
  rw [top_base (by lia)]
  unfold top1
  by_cases hb : b = 0
  · rw [if_pos hb]
  · rw [if_neg hb, if_neg (show ¬ ((a + 1 : Nat) : Int) < ((b + 1 : Nat) : Int) by lia), if_neg (fun q => by have := q.1; dsimp only at this; lia)]
theorem tell_snd {v w : List Nat} {a b : Nat} (h : a < b) : tellTwo v a w b = some w := by
  unfold tellTwo
  by_cases ha : a = 0
  · have : top1 v a (-1, none) = (-1, none) := by unfold top1; rw [if_pos ha]
    rw [this, top_base (by lia)]
  · rw [top_base (by lia)]
    unfold top1
    rw [if_neg (by lia), if_pos (show ((a + 1 : Nat) : Int) < ((b + 1 : Nat) : Int) by lia)]
theorem tell_even {v w : List Nat} {a : Nat} (h : 1 ≤ a) : tellTwo v a w a = some (orL v w) := by
  unfold tellTwo orL
  rw [top_base h]
  unfold top1
  rw [if_neg (by lia), if_neg (show ¬ ((a + 1 : Nat) : Int) < ((a + 1 : Nat) : Int) by lia)]
  by_cases hv : v = []
  · rw [if_pos ⟨rfl, by rw [hv]⟩, if_pos hv]
  · rw [if_neg (fun q => hv (Option.some.inj q.2)), if_neg hv]
theorem tell_none {v w : List Nat} : tellTwo v 0 w 0 = none := by
  unfold tellTwo top1
  rw [if_pos rfl, if_pos rfl]
noncomputable def dueTold (x y t0 t1 : List Nat) (ts : List Nat) : Option (List Nat) × Option (List Nat) :=
  if prodL x y ts = [] then (none, none)
  else if powOf x y = false ∧ comOf x y < (prodL x y ts).length then (some ([t0, t1].getD (ts.headD 0) []), some ([t0, t1].getD (ts.headD 0) []))
  else (some (orL t0 t1), some (orL t1 t0))
theorem lcp_nil (u : List Nat) : lcp u [] = 0 := by cases u <;> rfl
theorem told_ok (x y t0 t1 : List Nat) (ts : List Nat) (h2 : ∀ t ∈ ts, t < 2) :
    allowF (prodL x y ts) (rowF x y t0 ++ rowB x y t1) = (dueTold x y t0 t1 ts).1 ∧ allowF (prodL x y ts) (rowB x y t1 ++ rowF x y t0) = (dueTold x y t0 t1 ts).2 := by
  rw [allow_fb, allow_bf]
  unfold dueTold
  by_cases he : prodL x y ts = []
  · rw [if_pos he, he, lcp_nil, lcp_nil]; exact ⟨tell_none, tell_none⟩
  · rw [if_neg he]
    by_cases hp : powOf x y = false ∧ comOf x y < (prodL x y ts).length
    · rw [if_pos hp]
      cases ts with
      | nil => exact absurd rfl he
      | cons t ts =>
        obtain ⟨q1, q2⟩ := lcp_long hp.1 t ts hp.2
        have ht := h2 t List.mem_cons_self
        by_cases h0 : t = 0
        · subst h0; exact ⟨tell_fst (q1 rfl), tell_snd (q1 rfl)⟩
        · have : t = 1 := by lia
          subst this; exact ⟨tell_snd (q2 (by decide)), tell_fst (q2 (by decide))⟩
    · rw [if_neg hp]
      have hq : powOf x y = true ∨ (prodL x y ts).length ≤ comOf x y := by
        cases h : powOf x y with
        | true => exact .inl rfl
        | false => exact .inr (by
            by_cases hc : (prodL x y ts).length ≤ comOf x y
            · exact hc
            · exact absurd ⟨h, by lia⟩ hp)
      obtain ⟨a, b⟩ := lcp_even ts he hq
      rw [← a]
      exact ⟨tell_even b, tell_even b⟩
end Mine
end T52
section U31
open PySem PySem.W PyProof.Rows
set_option maxRecDepth 100000
namespace Mine
set_option genInjectivity false in
structure Words (x y t0 t1 : List Nat) : Prop where
  len : x.length + y.length ≤ 100
  low : ∀ c ∈ x ++ y, 97 ≤ c ∧ c < 123 ∧ c ≠ 98
  t0 : (∀ c ∈ t0, c < 0x110000) ∧ t0.length ≤ 100
  t1 : (∀ c ∈ t1, c < 0x110000) ∧ t1.length ≤ 100
theorem Words.lx {x y t0 t1} (W : Words x y t0 t1) : ∀ c ∈ x, c < 0x110000 := fun c hc => by have := (W.low c (List.mem_append_left _ hc)).2.1; lia
theorem Words.ly {x y t0 t1} (W : Words x y t0 t1) : ∀ c ∈ y, c < 0x110000 := fun c hc => by have := (W.low c (List.mem_append_right _ hc)).2.1; lia
noncomputable def optP (v : Int) (j : Nat) : PV := ([PV.none, .int 0, .int v] : List PV).getD j .none
noncomputable def slowOf (c : Nat) : List PV := [optP 7 (c % 3), optP 5 (c / 3 % 3), optP 9 (c / 9 % 3), optP 6 (c / 27 % 3)]
noncomputable def kDiv (n m : Nat) : PV → Bool
  | .int i => decide (n % i.toNat = 0) && decide (m % i.toNat = 0)
  | _ => false
noncomputable def fSame (x y : List Nat) : PV → PV
  | .int p => .bool (decide (x.getD (p.toNat % x.length) 0 = y.getD (p.toNat % y.length) 0))
  | _ => .none
noncomputable def fTake (w : List Nat) : PV → PV
  | .int p => .str (w.take p.toNat)
  | _ => .none
theorem opt_get {v : Int} {j : Nat} (h : j < 3) : ([PV.none, .int 0, .int v] : List PV)[j]? = some (optP v j) := by
  match j, h with
  | 0, _ => rfl
  | 1, _ => rfl
  | 2, _ => rfl
theorem getD_some {x : List Nat} {i : Nat} (h : i < x.length) : x[i]? = some (x.getD i 0) := by
  rw [List.getD_eq_getElem?_getD, List.getElem?_eq_getElem h]; rfl
theorem any_false (bs : List Bool) : ((bs.map PV.bool).any fun v => peq v (.bool false)) = bs.contains false := by
  induction bs with
  | nil => rfl
  | cons b r ih =>
    rw [List.map_cons, List.any_cons, ih, peq_bool]
    cases b <;> simp
theorem fronts_len (x y : List Nat) : (frontsOf x y).length = x.length + y.length + 1 := by unfold frontsOf; rw [List.length_map, List.length_range]
theorem others_len (x y : List Nat) : (othersOf x y).length = 2 * (x.length + y.length + 1) := by
  unfold othersOf
  rw [List.length_flatMap]
  have : ∀ l : List Nat, (l.map fun _ => 2).sum = 2 * l.length := fun l => by induction l with | nil => rfl | cons a r ih => rw [List.map_cons, List.sum_cons, ih, List.length_cons]; lia
  show ((List.range (x.length + y.length + 1)).map fun _ => 2).sum = _
  rw [this, List.length_range]
section
variable {C : Cx} {N : Addr} {mN : Str → Option Value} {S : Int → Bool} {D : List (PyData × PyData)} {tT tA uT uA uc : Addr} (T : Top1 C N mN S D tT tA uT uA uc) {k : Nat} {σ : Sto}
include T
theorem w_law_b {x y t0 t1 c : List Nat} (W : Words x y t0 t1) (hc : c.length = 9) {K : Fl → Lo → Sto → Prop}
    (h : Ex C (k + 5) (fScope (stAt 16)) [("agents", .list [.list ((us1 x y).map .str), .list ((us2 x y).map .str)]), ("slow", .list (slowOf (c.getD 8 0))), ("others", .list ((othersOf x y).map .str)), ("fronts", .list ((frontsOf x y).map .str)), ("common", .int (comOf x y : Nat)), ("powers", .bool (powOf x y)),
      ("y", .str y), ("x", .str x), ("typed", .list [.str t0, .str t1]), ("cells", .list (nums c))] σ ((fBody (stAt 16)).drop 16) K) :
    Ex C (k + 5) (fScope (stAt 16)) [("y", .str y), ("x", .str x), ("typed", .list [.str t0, .str t1]), ("cells", .list (nums c))] σ ((fBody (stAt 16)).drop 7) K := by
  have hline : (16777216 : Nat) ≤ sizeLine := by decide
  have hlen := W.len
  have plx : ∀ n, pl n (.str x) = true := fun n => pl_str' W.lx
  have ply : ∀ n, pl n (.str y) = true := fun n => pl_str' W.ly
  have hcl : (nums c).length < 2 ^ 60 := by simp [nums]; lia
  refine Ex.cons (Ex1.assign (x := "total") (Ev.binop (Ev.call1 T.len rfl (Ev.name (x := "x") rfl (OpL.len_s (by lia) (Ev.call1 T.len rfl (Ev.name (x := "y") rfl (OpL.len_s (by lia) (Op2.addN ?_))) rfl))) rfl)) (.inl rfl) fun _ => rfl)
  refine Ex.cons (Ex1.assign (x := "shared") (Ev.call1 T.max rfl (Ev.binop (Ev.list1 (Ev.int ?_) rfl)) rfl) (.inl rfl) fun _ => rfl)
  refine Ev.listComp [("x", .str x), ("y", .str y)] ⟨⟨rfl, rfl⟩, ⟨rfl, rfl⟩, trivial⟩ (by decide +kernel) rfl (plainC1 rfl fun _ _ => rfl) ?_
  refine Ev.call2t T.range rfl (Ev.int (Ev.binop (Ev.name (x := "total") rfl (Ev.int (Op2.addN (b := 1) (OpL.range2 ⟨(List.range (x.length + y.length)).map fun i => PV.int ((1 + i : Nat) : Int), ?it, ?_⟩)))))) rfl
  case it => rw [Nat.add_comm (x.length + y.length) 1]; exact Iterable.rangeN (a := 1) (n := x.length + y.length) (by lia) (by lia)
  refine Comp.pure1 (t := "size") (kDiv x.length y.length) id rfl rfl ?_ (fun v hv _ K' hK' => Ev.name (x := "size") rfl hK') (by rw [List.length_map, List.length_range]; lia) ?_
  · intro v hv K' hK'
    obtain ⟨i, hi, rfl⟩ := List.mem_map.mp hv
    unfold kDiv at hK'
    simp only [Int.toNat_natCast] at hK'
    refine TrAll.one (Tr.and2 (Tr.cmp (Ev.binop (Ev.call1 T.len rfl (Ev.name (x := "x") rfl (OpL.len_s (by lia) (Ev.name (x := "size") rfl (Op2.modN (by lia) (Ev.int (Op2.eqN (b := 0) (OpB.bool ?_))))))) rfl)) rfl))
    refine ite_bool (fun h1 => ?_) fun h1 => ?_
    · rw [h1, Bool.true_and] at hK'
      exact Tr.cmp (Ev.binop (Ev.call1 T.len rfl (Ev.name (x := "y") rfl (OpL.len_s (by lia) (Ev.name (x := "size") rfl (Op2.modN (by lia) (Ev.int (Op2.eqN (b := 0) (OpB.bool hK'))))))) rfl)) rfl
    · rw [h1, Bool.false_and] at hK'; exact hK'
  rw [List.map_id, show (((List.range (x.length + y.length)).map fun i => PV.int ((1 + i : Nat) : Int)).filter (kDiv x.length y.length)) = nums (divsOf x.length y.length) by
    unfold divsOf nums
    rw [List.filter_map, List.filter_map, List.map_map, List.map_map]; rfl]
  have hdl : (divsOf x.length y.length).length ≤ 100 := by
    unfold divsOf
    refine Nat.le_trans (List.length_filter_le _ _) ?_
    rw [List.length_map, List.length_range]; exact hlen
  refine Op2.addl .list .list (by simp [nums]; lia) ?_
  refine OpL.max (ns := (0 : Int) :: (divsOf x.length y.length).map fun (d : Nat) => (d : Int)) .list (by simp) fun M hM hle => ?_
  obtain rfl := max_gcd hM hle
  have hgl : Nat.gcd x.length y.length ≤ x.length + y.length := by
    by_cases hn : x.length = 0
    · rw [hn, Nat.gcd_zero_left]; lia
    · have := Nat.gcd_le_left y.length (show 0 < x.length by lia); lia
  refine Ex.cons (Ex1.assignComp (x := "same") [("x", .str x), ("y", .str y)] ⟨⟨rfl, rfl⟩, ⟨rfl, rfl⟩, trivial⟩ (by decide +kernel) rfl (plainC1 rfl fun _ _ => rfl) ?_ rfl (fun env he => by cases env; dsimp only at he; subst he; rfl))
  refine Ev.call1t T.range rfl (Ev.binop (Ev.name (x := "total") rfl (Ev.name (x := "shared") rfl (Op2.sub ?_)))) rfl
  rw [show ((x.length + y.length : Nat) : Int) - ((Nat.gcd x.length y.length : Nat) : Int) = ((x.length + y.length - Nat.gcd x.length y.length : Nat) : Int) by lia]
  refine OpL.range1 ⟨_, Iterable.range0 (n := x.length + y.length - Nat.gcd x.length y.length) (by lia), ?_⟩
  refine Comp.pure1 (t := "place") (fun _ => true) (fSame x y) rfl rfl (fun v hv K' hK' => hK') ?_ (by rw [List.length_map, List.length_range]; lia) ?_
  · intro v hv _ K' hK'
    obtain ⟨i, hi, rfl⟩ := List.mem_map.mp hv
    have hil := List.mem_range.mp hi
    unfold fSame at hK'
    simp only [Int.toNat_natCast] at hK'
    have hx : 0 < x.length := by
      rcases Nat.eq_zero_or_pos x.length with q | q
      · rw [q, Nat.gcd_zero_left] at hil; lia
      · exact q
    have hy : 0 < y.length := by
      rcases Nat.eq_zero_or_pos y.length with q | q
      · rw [q, Nat.gcd_zero_right] at hil; lia
      · exact q
    have m1 := Nat.mod_lt i hx
    have m2 := Nat.mod_lt i hy
    refine Ev.cmp (Ev.sub (Ev.name (x := "x") rfl (Ev.binop (Ev.name (x := "place") rfl (Ev.call1 T.len rfl (Ev.name (x := "x") rfl (OpL.len_s (by lia) (Op2.modN hx (Op2.item_s (by lia) (getD_some m1) ?_)))) rfl))))) rfl
    refine Ev.sub (Ev.name (x := "y") rfl (Ev.binop (Ev.name (x := "place") rfl (Ev.call1 T.len rfl (Ev.name (x := "y") rfl (OpL.len_s (by lia) (Op2.modN hy (Op2.item_s (by lia) (getD_some m2) ?_)))) rfl))))
    have q1 : x.getD (i % x.length) 0 < 0x110000 := W.lx _ (List.mem_of_getElem? (getD_some m1))
    have q2 : y.getD (i % y.length) 0 < 0x110000 := W.ly _ (List.mem_of_getElem? (getD_some m2))
    refine Op2.eq (pl_str' fun e he => by rw [List.mem_singleton.mp he]; exact q1) (pl_str' fun e he => by rw [List.mem_singleton.mp he]; exact q2) ?_
    rw [peq_str']
    have e : decide ([x.getD (i % x.length) 0] = [y.getD (i % y.length) 0]) = decide (x.getD (i % x.length) 0 = y.getD (i % y.length) 0) := decide_eq_decide.mpr (by simp)
    rw [e]; exact hK'
  rw [List.filter_eq_self.mpr (fun _ _ => rfl), show ((List.range (x.length + y.length - Nat.gcd x.length y.length)).map fun (i : Nat) => PV.int (i : Int)).map (fSame x y) = (sameOf x y).map .bool by
    unfold sameOf; rw [List.map_map, List.map_map]; rfl]
  have hsl := same_len x y
  refine Ex.cons (Ex1.assign (x := "powers") (Ev.cmp (Ev.bool (Ev.name (x := "same") rfl (Op2.notIn .list (plL_map fun _ _ => rfl) rfl ?_))) rfl) (.inl rfl) fun _ => rfl)
  rw [any_false]
  suffices hcom : Ex C (k + 5) (fScope (stAt 16)) [("common", .int (comOf x y : Nat)), ("powers", .bool (powOf x y)), ("total", .int ((x.length + y.length : Nat) : Int)), ("y", .str y), ("x", .str x), ("typed", .list [.str t0, .str t1]), ("cells", .list (nums c))] σ ((fBody (stAt 16)).drop 12) K by
    refine Ex.cons (Ex1.assign (x := "common") (Ev.ifexp (Tr.value (Ev.name (x := "powers") rfl (OpB.bool ?_)) fun _ _ => rfl)) (.inr rfl) fun _ => rfl)
    refine ite_bool (fun h1 => ?_) fun h1 => ?_
    · refine Ev.name (x := "total") rfl (Ex.has ?_ hcom)
      have h1 : powOf x y = true := h1
      have e : comOf x y = x.length + y.length := by unfold comOf; rw [if_pos h1]
      rw [e]; exact ⟨rfl, rfl, rfl, rfl, rfl, rfl, rfl, trivial⟩
    · have h1 : powOf x y = false := h1
      have hm : false ∈ sameOf x y := by
        unfold powOf at h1
        exact List.contains_iff_mem.mp (by simpa using h1)
      refine Ev.method (T := "list") (id_ := "list.index") (Ev.name (x := "same") rfl ⟨OfType.list .list, Ev.bool (OpL.indexFalse .list hm (by lia) (Ex.has ?_ hcom))⟩) F.plainAttrs_list F.slot_list_index F.type_list_index rfl (by decide) rfl fun _ => rfl
      have e : comOf x y = (sameOf x y).idxOf false := by unfold comOf; rw [if_neg (by rw [h1]; decide)]
      rw [e]; exact ⟨rfl, rfl, rfl, rfl, rfl, rfl, rfl, trivial⟩
  have lxy : (x ++ y).length = x.length + y.length := List.length_append
  have lyx : (y ++ x).length = y.length + x.length := List.length_append
  refine Ex.cons (Ex1.assignComp (x := "fronts") [("x", .str x), ("y", .str y)] ⟨⟨rfl, rfl⟩, ⟨rfl, rfl⟩, trivial⟩ (by decide +kernel) rfl (plainC1 rfl fun _ _ => rfl) ?_ rfl (fun env he => by cases env; dsimp only at he; subst he; rfl))
  refine Ev.call1t T.range rfl (Ev.binop (Ev.name (x := "total") rfl (Ev.int (Op2.addN (b := 1) (OpL.range1 ⟨_, Iterable.range0 (n := x.length + y.length + 1) (by lia), ?_⟩))))) rfl
  refine Comp.pure1 (t := "size") (fun _ => true) (fTake (x ++ y)) rfl rfl (fun v hv K' hK' => hK') ?_ (by rw [List.length_map, List.length_range]; lia) ?_
  · intro v hv _ K' hK'
    obtain ⟨i, hi, rfl⟩ := List.mem_map.mp hv
    refine Ev.sub (Ev.binop (Ev.name (x := "x") rfl (Ev.name (x := "y") rfl (Op2.adds (by lia) (Ev.slice (Ev.name (x := "size") rfl ⟨_, _, _, .none, .int _, .none, Op2.slice_s (by decide) ?z1 ?_⟩))))))
    case z1 => rw [slcS_eq, slcL_to, List.length_take]; lia
    rw [slcS_eq, slcL_to]
    exact hK'
  rw [List.filter_eq_self.mpr (fun _ _ => rfl), show ((List.range (x.length + y.length + 1)).map fun (i : Nat) => PV.int (i : Int)).map (fTake (x ++ y)) = (frontsOf x y).map .str by
    unfold frontsOf; rw [List.map_map, List.map_map]; rfl]
  refine Ex.cons (Ex1.assignComp (x := "others") [("x", .str x), ("y", .str y)] ⟨⟨rfl, rfl⟩, ⟨rfl, rfl⟩, trivial⟩ (by decide +kernel) rfl (fun g hg => by
    rcases List.mem_cons.mp hg with rfl | hg
    · exact ⟨rfl, fun _ _ => rfl⟩
    · cases List.mem_singleton.mp hg; exact ⟨rfl, fun _ _ => rfl⟩) ?_ rfl (fun env he => by cases env; dsimp only at he; subst he; rfl))
  refine Ev.call3t T.range rfl (Ev.name (x := "total") rfl (Ev.unary (Ev.int (Op1.neg (Ev.unary (Ev.int (Op1.neg (OpL.range3 (by decide) (PyProof.noPylong_small (by decide)) ⟨_, Iterable.rangeDown0 (n := x.length + y.length) (by lia), ?_⟩)))))))) rfl
  have e4 : (((List.range (x.length + y.length + 1)).map fun i => PV.int ((x.length + y.length - i : Nat) : Int)).flatMap fun v => [PV.int 0, PV.int 1].map ((fun v _ => fTake (y ++ x) v) v)) = (othersOf x y).map PV.str := by
    unfold othersOf
    rw [List.flatMap_map, List.map_flatMap]; rfl
  refine Comp.pure2 (t₁ := "size") (t₂ := "again") (fun _ => [.int 0, .int 1]) (fun v _ => fTake (y ++ x) v) rfl rfl rfl rfl (by decide) ?_ ?_ ?_ ?_
  · intro v hv K' hK'
    exact Ev.tuple2 (Ev.int (Ev.int (hK' _ Iterable.tuple))) rfl
  · intro v hv w hw K' hK'
    obtain ⟨i, hi, rfl⟩ := List.mem_map.mp hv
    refine Ev.sub (Ev.binop (Ev.name (x := "y") rfl (Ev.name (x := "x") rfl (Op2.adds (by lia) (Ev.slice (Ev.name (x := "size") rfl ⟨_, _, _, .none, .int _, .none, Op2.slice_s (by decide) ?z2 ?_⟩))))))
    case z2 => rw [slcS_eq, slcL_to, List.length_take]; lia
    rw [slcS_eq, slcL_to]
    exact hK'
  · rw [e4, List.length_map, others_len]; lia
  rw [e4]
  refine Ex.cons (Ex1.assign (x := "slow") (Ev.list (es := [_, _, _, _]) (Ev.sub (Ev.list3 (Ev.none (Ev.int (Ev.int ?_))) rfl)) rfl) (.inl rfl) fun _ => rfl)
  refine Ev.binop (Ev.sub (Ev.name (x := "cells") rfl (Ev.int (Op2.itemN (i := 8) .list (nums_get (by lia)) (Ev.int (Op2.modN (b := 3) (by decide) (Op2.itemN .list (opt_get (Nat.mod_lt _ (by decide))) ?_))) hcl))))
  refine Ev.sub (Ev.list3 (Ev.none (Ev.int (Ev.int ?_))) rfl)
  refine Ev.binop (Ev.binop (Ev.sub (Ev.name (x := "cells") rfl (Ev.int (Op2.itemN (i := 8) .list (nums_get (by lia)) (Ev.int (Op2.divN (b := 3) (by decide) (Ev.int (Op2.modN (b := 3) (by decide) (Op2.itemN .list (opt_get (Nat.mod_lt _ (by decide))) ?_))))) hcl)))))
  refine Ev.sub (Ev.list3 (Ev.none (Ev.int (Ev.int ?_))) rfl)
  refine Ev.binop (Ev.binop (Ev.sub (Ev.name (x := "cells") rfl (Ev.int (Op2.itemN (i := 8) .list (nums_get (by lia)) (Ev.int (Op2.divN (b := 9) (by decide) (Ev.int (Op2.modN (b := 3) (by decide) (Op2.itemN .list (opt_get (Nat.mod_lt _ (by decide))) ?_))))) hcl)))))
  refine Ev.sub (Ev.list3 (Ev.none (Ev.int (Ev.int ?_))) rfl)
  refine Ev.binop (Ev.binop (Ev.sub (Ev.name (x := "cells") rfl (Ev.int (Op2.itemN (i := 8) .list (nums_get (by lia)) (Ev.int (Op2.divN (b := 27) (by decide) (Ev.int (Op2.modN (b := 3) (by decide) (Op2.itemN .list (opt_get (Nat.mod_lt _ (by decide))) ⟨by simp [sizeLine], ?_⟩))))) hcl)))))
  have hfl := fronts_len x y
  have hol := others_len x y
  have lm : ∀ l : List (List Nat), (l.map PV.str).length = l.length := fun l => List.length_map _
  refine Ex.cons (Ex1.assign (x := "agents") (Ev.list2 (Ev.binop (Ev.binop (Ev.strs [botL] rfl (by decide) (Ev.name (x := "fronts") rfl (Op2.addl .list .list ?z3 (Ev.strs [starL] rfl (by decide) (Op2.addl .list .list ?z4 ?_))))))) rfl) (.inl rfl) fun _ => rfl)
  case z3 => rw [lm, lm, hfl, List.length_singleton]; lia
  case z4 => rw [List.length_append, lm, lm, lm, hfl, List.length_singleton, List.length_singleton]; lia
  refine Ev.binop (Ev.binop (Ev.strs [starL] rfl (by decide) (Ev.name (x := "others") rfl (Op2.addl .list .list ?z5 (Ev.strs botsL rfl (by decide) (Op2.addl .list .list ?z6 ?_))))))
  case z5 => rw [lm, lm, hol, List.length_singleton]; lia
  case z6 => rw [List.length_append, lm, lm, lm, hol, List.length_singleton]; simp; lia
  rw [← List.map_append, ← List.map_append, ← List.map_append, ← List.map_append]
  refine Ex.has ?_ h
  exact ⟨rfl, rfl, rfl, rfl, rfl, rfl, rfl, rfl, rfl, rfl, trivial⟩
end
end Mine
end U31
section U32
open PySem PySem.W PyProof.Rows
set_option maxRecDepth 100000
namespace Mine
noncomputable def FAt (σ : Sto) (a : Addr) (f : String) (v : Option PV) : Prop := ∃ d fs, (a, AO.inst d fs) ∈ σ ∧ fs.lookup f = v
structure RecAt (σ : Sto) (a : Addr) (ua rl dl rr : PV) : Prop where
  ua : FAt σ a "useragents" (some ua)
  rl : FAt σ a "rulelines" (some rl)
  dl : FAt σ a "delay" (some dl)
  rr : FAt σ a "req_rate" (some rr)
  al : FAt σ a "allowance" none
noncomputable def IsOpt (v : PV) : Prop := v = .none ∨ ∃ i, v = .int i
noncomputable def rowsP (rs : List Rule) : List PV := rs.map fun r => .tuple [.str r.1, .str r.2.1]
theorem no_allow : typeLookup (.type "object") (Str.ofString "allowance") = pure none := by rw [typeLookup_type, builtinLookup_eq_fast]; kernel_rfl
noncomputable def tsOf (c : Nat) : List Nat := (List.range 6).map fun p => c / 2 ^ p % 2
noncomputable def fTurn (c : Nat) : PV → PV
  | .int i => .int (c / 2 ^ i.toNat % 2 : Nat)
  | _ => .none
noncomputable def fPick (x y : List Nat) : PV → PV
  | .int i => .str (if i.toNat = 0 then x else y)
  | _ => .none
noncomputable def fTrue (v : PV) : PV := .bool (pis v (.bool true))
theorem rowF_row (x y t0 : List Nat) : ∀ r ∈ rowF x y t0, ∃ fr, r = pRule t0 fr ∧ fr.length ≤ x.length + y.length ∧ ∀ c ∈ fr, c ∈ x ++ y := fun r hr => by
  obtain ⟨i, hi, rfl⟩ := List.mem_map.mp hr
  exact ⟨_, rfl, by rw [List.length_take, List.length_append]; lia, fun c hc => List.mem_of_mem_take hc⟩
theorem rowB_row (x y t1 : List Nat) : ∀ r ∈ rowB x y t1, ∃ fr, r = pRule t1 fr ∧ fr.length ≤ x.length + y.length ∧ ∀ c ∈ fr, c ∈ x ++ y := fun r hr => by
  obtain ⟨i, hi, rfl⟩ := List.mem_map.mp hr
  refine ⟨_, rfl, by rw [List.length_take, List.length_append]; lia, fun c hc => ?_⟩
  rcases List.mem_append.mp (List.mem_of_mem_take hc) with h | h
  · exact List.mem_append_right _ h
  · exact List.mem_append_left _ h
theorem rowF_len (x y t0 : List Nat) : (rowF x y t0).length = x.length + y.length := by unfold rowF; rw [List.length_map, List.length_range]
theorem rowB_len (x y t1 : List Nat) : (rowB x y t1).length = x.length + y.length := by unfold rowB; rw [List.length_map, List.length_range]
theorem row_ok {x y t0 t1 : List Nat} (W : Words x y t0 t1) : ∀ r, r ∈ rowF x y t0 ∨ r ∈ rowB x y t1 → r.ok := fun r hr => by
  have hl := W.len
  rcases hr with hr | hr
  · obtain ⟨fr, rfl, h1, h2⟩ := rowF_row _ _ _ r hr
    refine ⟨?_, fun c hc => ?_, ?_⟩
    · show fr.length ≤ _; lia
    · have := (W.low c (h2 c hc)).2.1; lia
    · have := W.t0.2; show t0.length ≤ _; lia
  · obtain ⟨fr, rfl, h1, h2⟩ := rowB_row _ _ _ r hr
    refine ⟨?_, fun c hc => ?_, ?_⟩
    · show fr.length ≤ _; lia
    · have := (W.low c (h2 c hc)).2.1; lia
    · have := W.t1.2; show t1.length ≤ _; lia
theorem rows_pl {x y t0 t1 : List Nat} (W : Words x y t0 t1) {n : Nat} {rs : List Rule} (h : ∀ r ∈ rs, r ∈ rowF x y t0 ∨ r ∈ rowB x y t1) : plL (n + 1) (rowsP rs) = true := by
  unfold rowsP
  refine plL_map fun r hr => ?_
  have hv : ∀ c ∈ r.2.1, c < 0x110000 := by
    rcases h r hr with q | q
    · obtain ⟨fr, rfl, _, _⟩ := rowF_row _ _ _ r q; exact W.t0.1
    · obtain ⟨fr, rfl, _, _⟩ := rowB_row _ _ _ r q; exact W.t1.1
  have hf := (row_ok W r (h r hr)).2.1
  rw [pl, plL, plL, plL, pl_str' hf, pl_str' hv]; rfl
theorem rows_of {x y t0 t1 : List Nat} {rs : List Rule} (h : ∀ r ∈ rs, r ∈ rowF x y t0 ∨ r ∈ rowB x y t1) : (rs.map Rule.pv).map rowPV = rowsP rs ∧ ∀ v ∈ rs.map Rule.pv, IsRow v := by
  have hr : ∀ r ∈ rs, ∃ vd fr, r = pRule vd fr := fun r hr => by
    rcases h r hr with q | q
    · obtain ⟨fr, e, _⟩ := rowF_row _ _ _ r q; exact ⟨_, fr, e⟩
    · obtain ⟨fr, e, _⟩ := rowB_row _ _ _ r q; exact ⟨_, fr, e⟩
  refine ⟨?_, fun v hv => ?_⟩
  · unfold rowsP
    rw [List.map_map]
    refine List.map_congr_left fun r hr' => ?_
    obtain ⟨vd, fr, rfl⟩ := hr r hr'
    rfl
  · obtain ⟨r, hr', rfl⟩ := List.mem_map.mp hv
    obtain ⟨vd, fr, rfl⟩ := hr r hr'
    exact .inl ⟨fr, vd, fr, rfl⟩
theorem prod_low {x y t0 t1 : List Nat} (W : Words x y t0 t1) (ts : List Nat) : (∀ c ∈ prodL x y ts, c < 0x110000) ∧ (prodL x y ts).length ≤ 100 * ts.length := by
  have hl := W.len
  induction ts with
  | nil => exact ⟨(fun c hc => by cases hc), Nat.le_refl _⟩
  | cons t r ih =>
    rw [prod_cons]
    refine ⟨fun c hc => ?_, ?_⟩
    · rcases List.mem_append.mp hc with h | h
      · split at h
        · exact W.lx c h
        · exact W.ly c h
      · exact ih.1 c h
    · rw [List.length_append, List.length_cons, Nat.mul_add]
      have := ih.2
      split <;> lia
theorem due_pl {x y t0 t1 : List Nat} (W : Words x y t0 t1) (ts : List Nat) {n : Nat} : pl (n + 1) (.list [alP (dueTold x y t0 t1 ts).1, alP (dueTold x y t0 t1 ts).2]) = true := by
  have s0 : ∀ n, pl n (.str t0) = true := fun n => pl_str' W.t0.1
  have s1 : ∀ n, pl n (.str t1) = true := fun n => pl_str' W.t1.1
  have s2 : ∀ n j, pl n (.str ([t0, t1].getD j [])) = true := fun n j => by
    match j with
    | 0 => exact s0 n
    | 1 => exact s1 n
    | j + 2 => exact pl_str' fun c hc => by cases hc
  have s3 : ∀ n a b, pl n (.str a) = true → pl n (.str b) = true → pl n (.str (orL a b)) = true := fun n a b h1 h2 => by unfold orL; split <;> assumption
  unfold dueTold
  rw [pl, plL, plL, plL]
  split
  · rfl
  · split
    · show (pl n (.str _) && (pl n (.str _) && true)) = true
      rw [s2]; rfl
    · show (pl n (.str _) && (pl n (.str _) && true)) = true
      rw [s3 _ _ _ (s0 n) (s1 n), s3 _ _ _ (s1 n) (s0 n)]; rfl
theorem due_true (x y t0 t1 : List Nat) (ts : List Nat) : [alP (dueTold x y t0 t1 ts).1, alP (dueTold x y t0 t1 ts).2].map fTrue = [.bool (decide (prodL x y ts = [])), .bool (decide (prodL x y ts = []))] ∧ ∀ v ∈ [alP (dueTold x y t0 t1 ts).1, alP (dueTold x y t0 t1 ts).2], notRaw v = true := by
  have hn : ∀ o, notRaw (alP o) = true := fun o => by cases o <;> rfl
  refine ⟨?_, fun v hv => ?_⟩
  · unfold dueTold
    by_cases h : prodL x y ts = []
    · rw [if_pos h, decide_eq_true h]; rfl
    · rw [if_neg h, decide_eq_false h]; split <;> rfl
  · rcases List.mem_cons.mp hv with rfl | hv
    · exact hn _
    · rw [List.mem_singleton.mp hv]; exact hn _
theorem drop_lt {c n : Nat} : ∀ t ∈ (tsOf c).drop n, t < 2 := fun t ht => by
  obtain ⟨p, hp, rfl⟩ := List.mem_map.mp (List.mem_of_mem_drop ht)
  exact Nat.mod_lt _ (by decide)
theorem ts_len (c : Nat) : (tsOf c).length = 6 := by unfold tsOf; rw [List.length_map, List.length_range]
theorem us1_low {x y t0 t1 : List Nat} (W : Words x y t0 t1) : ∀ a ∈ us1 x y, ∀ c ∈ a, c < 0x110000 := fun a ha c hc => by
  unfold us1 at ha
  rcases List.mem_append.mp ha with h | h
  · rcases List.mem_append.mp h with h | h
    · rw [List.mem_singleton.mp h] at hc
      exact (by decide : ∀ c ∈ botL, c < 0x110000) c hc
    · obtain ⟨j, _, rfl⟩ := fronts_mem.mp h
      have := (W.low c (List.mem_of_mem_take hc)).2.1; lia
  · rw [List.mem_singleton.mp h] at hc
    exact (by decide : ∀ c ∈ starL, c < 0x110000) c hc
theorem us2_low {x y t0 t1 : List Nat} (W : Words x y t0 t1) : ∀ a ∈ us2 x y, ∀ c ∈ a, c < 0x110000 := fun a ha c hc => by
  unfold us2 at ha
  rcases List.mem_append.mp ha with h | h
  · rcases List.mem_append.mp h with h | h
    · rw [List.mem_singleton.mp h] at hc
      exact (by decide : ∀ c ∈ starL, c < 0x110000) c hc
    · obtain ⟨j, _, rfl⟩ := others_mem.mp h
      rcases List.mem_append.mp (List.mem_of_mem_take hc) with q | q
      · exact W.ly c q
      · exact W.lx c q
  · exact (by decide : ∀ a ∈ botsL, ∀ c ∈ a, c < 0x110000) a h c hc
theorem more_pl {l : List (List Nat)} {n : Nat} (hl : ∀ a ∈ l, ∀ c ∈ a, c < 0x110000) : plL n ((moreL :: l).map .str) = true := plL_strs fun a ha => by
  rcases List.mem_cons.mp ha with rfl | ha
  · decide
  · exact hl a ha
theorem us1_len (x y : List Nat) : (us1 x y).length = x.length + y.length + 3 := by unfold us1; rw [List.length_append, List.length_append, fronts_len, List.length_singleton, List.length_singleton]; lia
theorem us2_len (x y : List Nat) : (us2 x y).length = 2 * (x.length + y.length) + 5 := by unfold us2; rw [List.length_append, List.length_append, others_len, List.length_singleton]; simp; lia
section
variable {C : Cx} {N : Addr} {mN : Str → Option Value} {S : Int → Bool} {D : List (PyData × PyData)} {tT tA uT uA uc : Addr} (T : Top1 C N mN S D tT tA uT uA uc) {k : Nat} {σ : Sto}
theorem ev_orT {sc : Scope} {ρ : Lo} {t0 t1 : List Nat} {i j : Nat} {p1 p2 p3 p4 p5 p6 p7 : Pos} {k1 k2} {K : PV → Sto → Prop} (hi : i < 2) (hj : j < 2) (hρ : ρ.lookup "typed" = some (.list [.str t0, .str t1])) (h0 : t0.length ≤ 100) (h1 : t1.length ≤ 100) (h : K (.str (orL ([t0, t1].getD i []) ([t0, t1].getD j []))) σ) :
    Ev C k sc ρ σ (.BoolOp .Or [.Subscript (.Name (Str.ofString "typed") p1) (.Constant (.int (i : Nat)) k1 p2) p3, .Subscript (.Name (Str.ofString "typed") p4) (.Constant (.int (j : Nat)) k2 p5) p6] p7) K := by
  have g : ∀ i, i < 2 → ([PV.str t0, .str t1] : List PV)[i]? = some (.str ([t0, t1].getD i [])) ∧ ([t0, t1].getD i []).length ≤ 100 := fun i hi => by
    match i, hi with
    | 0, _ => exact ⟨rfl, h0⟩
    | 1, _ => exact ⟨rfl, h1⟩
  refine Ev.or2 (Ev.sub (Ev.name (x := "typed") hρ (Ev.int (Op2.itemN .list (g i hi).1 (OpB.str (by have := (g i hi).2; lia) ?_) (by simp)))))
  unfold orL at h
  cases he : [t0, t1].getD i [] with
  | nil =>
    rw [he, if_pos rfl] at h
    exact Ev.sub (Ev.name (x := "typed") hρ (Ev.int (Op2.itemN .list (g j hj).1 h (by simp))))
  | cons a r => rw [he, if_neg (by simp)] at h; exact h
include T
theorem op_allow {a d : Addr} {fs : List (String × PV)} {rs : List Rule} {nm : List Nat} {K : PV → Sto → Prop} (hm : (a, AO.inst d fs) ∈ σ) (hf : fs.lookup "rulelines" = some (.list (rs.map Rule.pv))) (hok : ∀ r ∈ rs, r.ok) (hnl : nm.length ≤ 10000) (hnc : ∀ c ∈ nm, c < 0x110000)
    (h : K (alP (allowF nm rs)) σ) : ∀ f, FnAt C f ["self", "filename"] (fScope sAllow) (fBody sAllow) → OpL C (k + 2) σ [.raw (.ref a), .str nm] (fun vs => PySem.call (.ref f) vs) K := fun f F => by
  refine Fn.call F ?_ ?_ ?_
  · decide +kernel
  · rfl
  · show Ex C (k + 1) (fScope sAllow) [("self", .raw (.ref a)), ("filename", .str nm)] σ (fBody sAllow) _
    exact @w_allow C N mN T.E T.X T.rule.tb T.len k σ a d fs rs nm K hm hf hok hnl hnc h
theorem op_rows {a d : Addr} {fs : List (String × PV)} {xs : List PV} {K : PV → Sto → Prop} (hm : (a, AO.inst d fs) ∈ σ) (hf : fs.lookup "rulelines" = some (.list xs)) (hx : ∀ x ∈ xs, IsRow x) (hl : xs.length ≤ 10000) (h : K (.list (xs.map rowPV)) σ) :
    ∀ f, FnAt C f ["record"] (fScope (stAt 15)) (fBody (stAt 15)) → OpL C (k + 1) σ [.raw (.ref a)] (fun vs => PySem.call (.ref f) vs) K := fun f F => by
  refine Fn.call F ?_ ?_ ?_
  · decide +kernel
  · rfl
  · show Ex C k (fScope (stAt 15)) [("record", .raw (.ref a))] σ (fBody (stAt 15)) _
    exact @w_rows C N mN S D tT tA uT uA uc T k σ a d fs xs K hm hf hx hl h
theorem tr_more {sc : Scope} {ρ : Lo} {b : Bool} {w : List Nat} {n : Nat} {p1 p2 p3 p4 p5 p6 p7 p8 : Pos} {K : Bool → Sto → Prop} (h1 : ρ.lookup "powers" = some (.bool b)) (h2 : ρ.lookup "rest" = some (.str w)) (h3 : ρ.lookup "common" = some (.int (n : Nat))) (hk : sc.names.lookup (Str.ofString "len") = some NameKind.globalImplicit) (hl : w.length ≤ 10000)
    (h : K (decide (b = false ∧ n < w.length)) σ) : Tr C k sc ρ σ (.BoolOp .And [.UnaryOp .Not (.Name (Str.ofString "powers") p1) p2, .Compare (.Call (.Name (Str.ofString "len") p3) [.Name (Str.ofString "rest") p4] [] p5) [.Gt] [.Name (Str.ofString "common") p6] p7] p8) K := by
  refine Tr.and2 (Tr.not (Tr.value (Ev.name (x := "powers") h1 (OpB.bool ?_)) fun _ _ => rfl))
  cases b with
  | true =>
    rw [decide_eq_false (by simp)] at h; exact h
  | false =>
    refine Tr.cmp (Ev.call1 T.len hk (Ev.name (x := "rest") h2 (OpL.len_s (by lia) (Ev.name (x := "common") h3 (Op2.gtN (OpB.bool ?_))))) rfl) rfl
    have e : decide (n < w.length) = decide (false = false ∧ n < w.length) := decide_eq_decide.mpr (by simp)
    rw [e]; exact h
theorem Ev.fldA {sc : Scope} {ρ : Lo} {x f : String} {p p2} {a : Addr} {dv : PV} {K : PV → Sto → Prop} (hF : IsFld mN f) (hx : ρ.lookup x = some (.raw (.ref a))) (M : FAt σ a f (some dv)) (h : K dv σ) (hh : handed dv = true := by rfl)
    (hd : (Str.ofString x == ("__debug__" : Str)) = false := by decide) (hn : (Str.ofString x == ("__classdict__" : Str)) = false := by decide) : Ev C k sc ρ σ (.Attribute (.Name (Str.ofString x) p) (Str.ofString f) p2) K :=
  M.elim fun d M => M.elim fun fs M => Ev.fld T.E hF hx M.1 M.2 h hh hd hn
theorem ev_rows {sc : Scope} {ρ : Lo} {x : String} {p1 p2 p3} {a : Addr} {xs : List PV} {K : PV → Sto → Prop} (hk : sc.names.lookup (Str.ofString "_law_rows") = some NameKind.globalImplicit) (hx : ρ.lookup x = some (.raw (.ref a))) (M : FAt σ a "rulelines" (some (.list xs))) (hi : ∀ x ∈ xs, IsRow x) (hl : xs.length ≤ 1000) (h : K (.list (xs.map rowPV)) σ)
    (hd : (Str.ofString x == ("__debug__" : Str)) = false := by decide) (hn : (Str.ofString x == ("__classdict__" : Str)) = false := by decide) : Ev C (k + 2) sc ρ σ (.Call (.Name (Str.ofString "_law_rows") p1) [.Name (Str.ofString x) p2] [] p3) K :=
  Ev.callF T.rows hk (Ev.name hx ⟨rfl, M.elim fun d M => M.elim fun fs M => op_rows T M.1 M.2 hi (k10 hl) h⟩ hd hn) rfl
theorem ev_allow {sc : Scope} {ρ : Lo} {x : String} {p p2 p3 p4} {a : Addr} {ua dl rr : PV} {rs : List Rule} {w : List Nat} {K : PV → Sto → Prop} (hx : ρ.lookup x = some (.raw (.ref a))) (hw : ρ.lookup "rest" = some (.str w)) (M : RecAt σ a ua (.list (rs.map Rule.pv)) dl rr) (hok : ∀ r ∈ rs, r.ok) (hl : w.length ≤ 1000) (hc : ∀ c ∈ w, c < 0x110000) (h : K (alP (allowF w rs)) σ)
    (hline : (p2.endLine == p3.line) = true) (hbase : ∀ env, attributeBase (.Name (Str.ofString x) p) (Str.ofString "allowance") env (eval (.Name (Str.ofString x) p) env) = eval (.Name (Str.ofString x) p) env) (hd : (Str.ofString x == ("__debug__" : Str)) = false := by decide) (hn : (Str.ofString x == ("__classdict__" : Str)) = false := by decide) :
    Ev C (k + 2) sc ρ σ (.Call (.Attribute (.Name (Str.ofString x) p) (Str.ofString "allowance") p2) [.Name (Str.ofString "rest") p4] [] p3) K :=
  M.al.elim fun d Q => Q.elim fun fs Q => Ev.meth T.E T.E.allow no_allow hx Q.1 Q.2 (Ev.name (x := "rest") hw (M.rl.elim fun d R => R.elim fun fs R => op_allow T R.1 R.2 hok (k10 hl) hc h)) rfl hline hbase hd hn
noncomputable abbrev turnB : List Stmt := match (fBody (stAt 16)).drop 27 with | .For _ _ b _ _ :: _ => b | _ => []
theorem w_told {x y t0 t1 w ds : List Nat} {a₃ a₄ : Addr} {ua3 dl3 rr3 ua4 dl4 rr4 : PV} {o : Option (List Nat) × Option (List Nat)} {ρ ρ₀ : Lo} {Kx : Fl → Lo → Sto → Prop} (W : Words x y t0 t1) (hd2 : ∀ t ∈ ds, t < 2) (hlw : w.length ≤ 1000) (hcw : ∀ c ∈ w, c < 0x110000) (ew : prodL x y ds = w) (eo : dueTold x y t0 t1 ds = o)
    (M3 : RecAt σ a₃ ua3 (.list ((rowF x y t0 ++ rowB x y t1).map Rule.pv)) dl3 rr3) (M4 : RecAt σ a₄ ua4 (.list ((rowB x y t1 ++ rowF x y t0).map Rule.pv)) dl4 rr4)
    (h1 : ρ.lookup "one" = some (.raw (.ref a₃))) (h2 : ρ.lookup "two" = some (.raw (.ref a₄))) (hr : ρ.lookup "rest" = some (.str w)) (hg : ρ.lookup "going" = some (.list [alP o.1, alP o.2])) (hρ : Has ρ ρ₀) (n : ρ₀.lookup "told" = none) (hk : ∀ ρ₂, Has ρ₂ ρ₀ → Kx .next ρ₂ σ) :
    Ex C (k + 3) (fScope (stAt 16)) ρ σ (turnB.drop 3) Kx := by
  have q := told_ok x y t0 t1 ds hd2
  have dpl := due_pl (n := 59) W ds
  have dt := due_true x y t0 t1 ds
  rw [ew, eo] at q dt
  rw [eo] at dpl
  have plw : ∀ n, pl n (.str w) = true := fun n => pl_str' hcw
  have hpb : pl 60 (.list [.bool (decide (w = [])), .bool (decide (w = []))]) = true := rfl
  refine Ex.cons (Ex1.assign (x := "told") (Ev.list2 (ev_allow T h1 hr M3 (fun r hr => row_ok W r (List.mem_append.mp hr)) hlw hcw ?_ rfl fun _ => rfl) rfl) (.inl rfl) fun _ => rfl)
  refine ev_allow T h2 hr M4 (fun r hr => row_ok W r (List.mem_append.mp hr).symm) hlw hcw ?_ rfl fun _ => rfl
  rw [q.1, q.2]
  refine Ex.cons (Ex1.if (Tr.or2 (Tr.cmp (Ev.name (x := "told") rfl (Ev.name (x := "going") hg (Op2.ne dpl dpl (OpB.bool ?_)))) rfl)))
  rw [peq_refl dpl]
  refine Tr.cmp (Ev.listComp [] trivial (by decide +kernel) rfl (plainC1 rfl fun _ _ => rfl) ?_) rfl
  refine Ev.name (x := "told") rfl ⟨_, Iterable.list, ?_⟩
  refine Comp.pure1 (t := "verdict") (fun _ => true) fTrue rfl rfl (fun v hv K' hK' => hK') (fun v hv _ K' hK' => Ev.cmp (Ev.name (x := "verdict") rfl (Ev.bool (Op2.is rfl (dt.2 v hv) hK'))) rfl) (by simp [sizeLine]) ?_
  rw [List.filter_eq_self.mpr (fun _ _ => rfl), dt.1]
  refine Ev.list2 (Ev.cmp (Ev.name (x := "rest") hr (Ev.str (l := []) rfl (Op2.eq (plw 60) (pl_str' (by simp)) ?_))) rfl) rfl
  rw [peq_str']
  refine Ev.cmp (Ev.name (x := "rest") hr (Ev.str (l := []) rfl (Op2.eq (plw 60) (pl_str' (by simp)) ?_))) rfl
  rw [peq_str']
  refine Op2.ne hpb hpb (OpB.bool ?_)
  rw [peq_refl hpb]
  exact Ex.nil (Ex.nil (hk _ (hρ.skip n)))
theorem w_turn {x y t0 t1 w ds : List Nat} {c7 n : Nat} {a₃ a₄ : Addr} {ua3 dl3 rr3 ua4 dl4 rr4 : PV} {ρ ρ₀ : Lo} {Kx : Fl → Lo → Sto → Prop} (W : Words x y t0 t1) (ed : (tsOf c7).drop n = ds) (ew : prodL x y ds = w) (hn : n < 7)
    (M3 : RecAt σ a₃ ua3 (.list ((rowF x y t0 ++ rowB x y t1).map Rule.pv)) dl3 rr3) (M4 : RecAt σ a₄ ua4 (.list ((rowB x y t1 ++ rowF x y t0).map Rule.pv)) dl4 rr4)
    (hp : ρ.lookup "place" = some (.int (n : Nat))) (ht : ρ.lookup "turns" = some (.list (nums (tsOf c7)))) (h1 : ρ.lookup "one" = some (.raw (.ref a₃))) (h2 : ρ.lookup "two" = some (.raw (.ref a₄))) (hX : ρ.lookup "x" = some (.str x)) (hY : ρ.lookup "y" = some (.str y)) (hty : ρ.lookup "typed" = some (.list [.str t0, .str t1])) (hpo : ρ.lookup "powers" = some (.bool (powOf x y))) (hco : ρ.lookup "common" = some (.int (comOf x y : Nat)))
    (hρ : Has ρ ρ₀) (n1 : ρ₀.lookup "told" = none) (n2 : ρ₀.lookup "going" = none) (n3 : ρ₀.lookup "rest" = none) (hk : ∀ ρ₂, Has ρ₂ ρ₀ → Kx .next ρ₂ σ) :
    Ex C (k + 3) (fScope (stAt 16)) ρ σ turnB Kx := by
  have htl := ts_len c7
  have hd2 : ∀ t ∈ ds, t < 2 := fun t ht => drop_lt t (ed ▸ ht)
  have hdl : ds.length = 6 - n := by rw [← ed, List.length_drop, htl]
  have hdn : (nums ds).length ≤ 1000 := by simp only [nums, List.length_map]; lia
  have pw := prod_low W ds
  rw [ew] at pw
  have hlw : w.length ≤ 1000 := Nat.le_trans pw.2 (by rw [hdl]; lia)
  have plw : ∀ n, pl n (.str w) = true := fun n => pl_str' pw.1
  have hnt : (nums (tsOf c7)).length ≤ 1000 := by simp only [nums, List.length_map]; rw [htl]; decide
  have g2 : ∀ i, i < 2 → ([PV.str t0, .str t1] : List PV)[i]? = some (.str ([t0, t1].getD i [])) := fun i hi => by
    match i, hi with
    | 0, _ => rfl
    | 1, _ => rfl
  refine Ex.cons (Ex1.assign (x := "rest") (Ev.join (Ev.listComp [("x", .str x), ("y", .str y)] ⟨⟨rfl, hX⟩, ⟨rfl, hY⟩, trivial⟩ (by decide +kernel) rfl (plainC1 rfl fun _ _ => rfl) ?_) rfl rfl fun _ => rfl) (.inl rfl) fun _ => rfl)
  refine Ev.sub (Ev.name (x := "turns") ht (Ev.slice (Ev.name (x := "place") hp ⟨_, _, _, .int _, .none, .none, Op2.slice .list (by decide) (kLine hnt) ?_⟩)))
  rw [show slcL (nums (tsOf c7)) (some ((n : Nat) : Int)) none none = nums ds by rw [slcL_from, ← ed]; simp [nums, List.map_drop]]
  refine ⟨_, Iterable.list, ?_⟩
  refine Comp.pure1 (t := "turn") (fun _ => true) (fPick x y) rfl rfl (fun v hv K' hK' => hK') ?_ (kLine hdn) ?_
  · intro v hv _ K' hK'
    obtain ⟨c', hc', rfl⟩ := List.mem_map.mp hv
    obtain ⟨t, ht, rfl⟩ := List.mem_map.mp hc'
    have ht := hd2 t ht
    unfold fPick at hK'
    simp only [Int.toNat_natCast] at hK'
    refine Ev.sub (Ev.list2 (Ev.name (x := "x") rfl (Ev.name (x := "y") rfl (Ev.name (x := "turn") rfl (Op2.itemN .list ?_ hK' (by simp))))) rfl)
    match t, ht with
    | 0, _ => rfl
    | 1, _ => rfl
  rw [List.filter_eq_self.mpr (fun _ _ => rfl), show (nums ds).map (fPick x y) = (ds.map fun t => if t = 0 then x else y).map .str by
    unfold nums; rw [List.map_map, List.map_map, List.map_map]; rfl]
  have hfl : (ds.map fun t => if t = 0 then x else y).flatten = w := ew
  refine ⟨_, .list, by rw [← List.length_flatten, hfl]; exact Nat.le_trans hlw (by decide), ?_⟩
  rw [hfl]
  have hr0 : Has (("rest", PV.str w) :: ρ) ρ₀ := hρ.skip n3
  refine Ex.cons (Ex1.assign (x := "going") (Ev.ifexp (Tr.cmp (Ev.name (x := "rest") rfl (Ev.str (l := []) rfl (Op2.eq (plw 60) (pl_str' (by simp)) (OpB.bool ?_)))) rfl)) (.inl rfl) fun _ => rfl)
  rw [peq_str']
  refine ite_dec (fun h0 => ?_) fun h0 => ?_
  · refine Ev.list2 (Ev.bool (Ev.bool ?_)) rfl
    refine Ex.cons (Ex1.if (tr_more T hpo rfl hco rfl (k10 hlw) ?_))
    rw [decide_eq_false (fun q => by rw [h0] at q; exact Nat.not_lt_zero _ q.2)]
    have eo : dueTold x y t0 t1 ds = (none, none) := by unfold dueTold; rw [ew, if_pos h0]
    exact Ex.nil (w_told T W hd2 hlw pw.1 ew eo M3 M4 h1 h2 rfl rfl (hr0.skip n2) n1 hk)
  · refine Ev.list2 (ev_orT (i := 0) (j := 1) (by decide) (by decide) hty W.t0.2 W.t1.2 ?_) rfl
    refine ev_orT (i := 1) (j := 0) (by decide) (by decide) hty W.t0.2 W.t1.2 ?_
    refine Ex.cons (Ex1.if (tr_more T hpo rfl hco rfl (k10 hlw) ?_))
    refine ite_dec (fun hm => ?_) fun hm => ?_
    · have h6 : n < 6 := by
        refine Nat.lt_of_not_le fun q => h0 ?_
        rw [← ew, List.length_eq_zero_iff.mp (show ds.length = 0 by rw [hdl]; exact Nat.sub_eq_zero_of_le q)]; rfl
      have hnl : n < (tsOf c7).length := by rw [htl]; exact h6
      have e1 : ds.headD 0 = (tsOf c7).getD n 0 := by
        rw [← ed, List.drop_eq_getElem_cons hnl, List.getD_eq_getElem?_getD, List.getElem?_eq_getElem hnl]; rfl
      have e2 : (tsOf c7).getD n 0 < 2 := by
        rw [List.getD_eq_getElem?_getD, List.getElem?_eq_getElem hnl]
        exact drop_lt (n := 0) _ (List.getElem_mem hnl)
      have eo : dueTold x y t0 t1 ds = (some ([t0, t1].getD ((tsOf c7).getD n 0) []), some ([t0, t1].getD ((tsOf c7).getD n 0) [])) := by unfold dueTold; rw [ew, if_neg h0, if_pos hm, e1]
      refine Ex.cons (Ex1.assign (x := "going") (Ev.list2 (Ev.sub (Ev.name (x := "typed") hty (Ev.sub (Ev.name (x := "turns") ht (Ev.name (x := "place") hp (Op2.itemN .list (nums_get hnl) (Op2.itemN .list (g2 _ e2) ?_ (by simp)) (k60 hnt))))))) rfl) (.inl rfl) fun _ => rfl)
      refine Ev.sub (Ev.name (x := "typed") hty (Ev.sub (Ev.name (x := "turns") ht (Ev.name (x := "place") hp (Op2.itemN .list (nums_get hnl) (Op2.itemN .list (g2 _ e2) ?_ (by simp)) (k60 hnt))))))
      exact Ex.nil (w_told T W hd2 hlw pw.1 ew eo M3 M4 h1 h2 rfl rfl ((hr0.skip n2).skip n2) n1 hk)
    · have eo : dueTold x y t0 t1 ds = (some (orL t0 t1), some (orL t1 t0)) := by unfold dueTold; rw [ew, if_neg h0, if_neg hm]
      exact Ex.nil (w_told T W hd2 hlw pw.1 ew eo M3 M4 h1 h2 rfl rfl (hr0.skip n2) n1 hk)
omit T in
theorem rng_cons {m n : Nat} {f : Nat → PV} {v : PV} {r : List PV} (h : v :: r = ((List.range m).drop n).map f) : n < m ∧ v = f n ∧ r = ((List.range m).drop (n + 1)).map f := by
  have hl : n < m := by
    refine Nat.lt_of_not_le fun q => ?_
    rw [List.drop_eq_nil_of_le (by rw [List.length_range]; exact q)] at h
    cases h
  have hl' : n < (List.range m).length := by rw [List.length_range]; exact hl
  rw [List.drop_eq_getElem_cons hl', List.getElem_range, List.map_cons] at h
  exact ⟨hl, (List.cons.inj h).1, (List.cons.inj h).2⟩
noncomputable def envE (x y t0 t1 c : List Nat) (a₁ a₂ a₃ a₄ : Addr) : Lo := [("rows", .list [.list (rowsP (rowF x y t0)), .list (rowsP (rowB x y t1))]), ("two", .raw (.ref a₄)), ("one", .raw (.ref a₃)), ("second", .raw (.ref a₂)), ("first", .raw (.ref a₁)), ("agents", .list [.list ((us1 x y).map .str), .list ((us2 x y).map .str)]), ("common", .int (comOf x y : Nat)), ("powers", .bool (powOf x y)),
      ("y", .str y), ("x", .str x), ("typed", .list [.str t0, .str t1]), ("cells", .list (nums c))]
theorem w_law_f {x y t0 t1 c : List Nat} {a₁ a₂ a₃ a₄ u₁ u₂ : Addr} {s0 s1 s2 s3 : PV} {ρ : Lo} (W : Words x y t0 t1) {K : Fl → Lo → Sto → Prop} (hh : Has ρ (envE x y t0 t1 c a₁ a₂ a₃ a₄))
    (M1 : RecAt σ a₁ (.raw (.ref u₁)) (.list (spoilP :: (rowF x y t0).map Rule.pv)) s0 s1) (M2 : RecAt σ a₂ (.raw (.ref u₂)) (.list (spoilP :: (rowB x y t1).map Rule.pv)) s2 s3)
    (U1 : (u₁, AO.mlist ((moreL :: us1 x y).map .str)) ∈ σ) (U2 : (u₂, AO.mlist ((moreL :: us2 x y).map .str)) ∈ σ) (h : ∀ ρ', K (.ret (.bool true)) ρ' σ) :
    Ex C (k + 3) (fScope (stAt 16)) ρ σ ((fBody (stAt 16)).drop 28) K := by
  have hlen := W.len
  have L1 : ((us1 x y).map PV.str).length ≤ 1000 := by rw [List.length_map, us1_len]; lia
  have L2 : ((us2 x y).map PV.str).length ≤ 1000 := by rw [List.length_map, us2_len]; lia
  have p1 : ∀ n, plL n ((moreL :: us1 x y).map .str) = true := fun n => more_pl (us1_low W)
  have p2 : ∀ n, plL n ((moreL :: us2 x y).map .str) = true := fun n => more_pl (us2_low W)
  have hR := hh.get (x := "rows") rfl
  have hA := hh.get (x := "agents") rfl
  have h1 := hh.get (x := "first") rfl
  have h2 := hh.get (x := "second") rfl
  have one : ([moreL].map PV.str).length ≤ 1000 := by decide
  refine Ex.cons (Ex1.if (Tr.or2 (Tr.cmp (Ev.fldA T (x := "first") (f := "useragents") T.E.ua h1 M1.ua (Ev.binop (Ev.strs [moreL] rfl (by decide) (Ev.sub (Ev.name (x := "agents") hA (Ev.int (Op2.itemN (i := 0) .list rfl (Op2.addl .list .list (sLine one L1) ?_) (by simp)))))))) rfl)))
  rw [← List.map_append]
  refine Op2.ne_l (LRead.mut U1) .list (p1 59) (p1 59) (OpB.bool ?_)
  rw [show peqL ((moreL :: us1 x y).map .str) (([moreL] ++ us1 x y).map .str) = true from peqL_refl (p1 59)]
  refine Tr.cmp (Ev.fldA T (x := "second") (f := "useragents") T.E.ua h2 M2.ua (Ev.binop (Ev.strs [moreL] rfl (by decide) (Ev.sub (Ev.name (x := "agents") hA (Ev.int (Op2.itemN (i := 1) .list rfl (Op2.addl .list .list (sLine one L2) ?_) (by simp)))))))) rfl
  rw [← List.map_append]
  refine Op2.ne_l (LRead.mut U2) .list (p2 59) (p2 59) (OpB.bool ?_)
  rw [show peqL ((moreL :: us2 x y).map .str) (([moreL] ++ us2 x y).map .str) = true from peqL_refl (p2 59)]
  refine Ex.nil ?_
  have lF : (rowsP (rowF x y t0)).length ≤ 1000 := by unfold rowsP; rw [List.length_map, rowF_len]; lia
  have lB : (rowsP (rowB x y t1)).length ≤ 1000 := by unfold rowsP; rw [List.length_map, rowB_len]; lia
  have e1 := rows_of (t0 := t0) (t1 := t1) (rs := rowF x y t0) fun r hr => .inl hr
  have e2 := rows_of (t0 := t0) (t1 := t1) (rs := rowB x y t1) fun r hr => .inr hr
  have isp : ∀ {l : List PV}, (∀ v ∈ l, IsRow v) → ∀ v ∈ spoilP :: l, IsRow v := fun hl v hv => by
    rcases List.mem_cons.mp hv with rfl | hv
    · exact .inr ⟨_, _, rfl⟩
    · exact hl v hv
  refine Ex.cons (Ex1.ret (Ev.cmp (Ev.list2 (ev_rows T (x := "first") rfl h1 M1.rl (isp e1.2) (by rw [List.length_cons, List.length_map, rowF_len]; lia) ?_) rfl) rfl))
  refine ev_rows T (x := "second") rfl h2 M2.rl (isp e2.2) (by rw [List.length_cons, List.length_map, rowB_len]; lia) ?_
  rw [List.map_cons, List.map_cons, e1.1, e2.1]
  have oneT : ([PV.tuple [.str [], .str moreL]]).length ≤ 1000 := by decide
  refine Ev.list2 (Ev.binop (Ev.list1 (Ev.tuple2 (Ev.str (l := []) rfl (Ev.str (l := moreL) rfl (Ev.sub (Ev.name (x := "rows") hR (Ev.int (Op2.itemN (i := 0) .list rfl (Op2.addl .list .list (sLine oneT lF) ?_) (by simp))))))) rfl) rfl)) rfl
  refine Ev.binop (Ev.list1 (Ev.tuple2 (Ev.str (l := []) rfl (Ev.str (l := moreL) rfl (Ev.sub (Ev.name (x := "rows") hR (Ev.int (Op2.itemN (i := 1) .list rfl (Op2.addl .list .list (sLine oneT lB) ?_) (by simp))))))) rfl) rfl)
  have hsp : ∀ n, pl (n + 1) (rowPV spoilP) = true := fun n => rfl
  have pL : pl 60 (.list [.list (rowPV spoilP :: rowsP (rowF x y t0)), .list (rowPV spoilP :: rowsP (rowB x y t1))]) = true := by
    have q1 := rows_pl W (n := 57) (rs := rowF x y t0) fun r hr => .inl hr
    have q2 := rows_pl W (n := 57) (rs := rowB x y t1) fun r hr => .inr hr
    rw [pl, plL, plL, plL, pl, pl, plL, plL, hsp, q1, q2]; rfl
  refine Op2.eq pL pL ?_
  rw [show peq (.list [.list (rowPV spoilP :: rowsP (rowF x y t0)), .list (rowPV spoilP :: rowsP (rowB x y t1))]) (.list [.list ([.tuple [.str [], .str moreL]] ++ rowsP (rowF x y t0)), .list ([.tuple [.str [], .str moreL]] ++ rowsP (rowB x y t1))]) = true from peq_refl pL]
  exact h _
theorem w_law_e {x y t0 t1 c : List Nat} {a₁ a₂ a₃ a₄ u₁ u₂ : Addr} {s0 s1 s2 s3 ua3 dl3 rr3 ua4 dl4 rr4 : PV} {ρ : Lo} (W : Words x y t0 t1) (hc : c.length = 9) {K : Fl → Lo → Sto → Prop} (hh : Has ρ (envE x y t0 t1 c a₁ a₂ a₃ a₄))
    (M1 : RecAt σ a₁ (.raw (.ref u₁)) (.list (spoilP :: (rowF x y t0).map Rule.pv)) s0 s1) (M2 : RecAt σ a₂ (.raw (.ref u₂)) (.list (spoilP :: (rowB x y t1).map Rule.pv)) s2 s3)
    (M3 : RecAt σ a₃ ua3 (.list ((rowF x y t0 ++ rowB x y t1).map Rule.pv)) dl3 rr3) (M4 : RecAt σ a₄ ua4 (.list ((rowB x y t1 ++ rowF x y t0).map Rule.pv)) dl4 rr4)
    (U1 : (u₁, AO.mlist ((moreL :: us1 x y).map .str)) ∈ σ) (U2 : (u₂, AO.mlist ((moreL :: us2 x y).map .str)) ∈ σ) (h : ∀ ρ', K (.ret (.bool true)) ρ' σ) :
    Ex C (k + 3) (fScope (stAt 16)) ρ σ ((fBody (stAt 16)).drop 26) K := by
  have hcl : (nums c).length ≤ 1000 := by simp only [nums, List.length_map, hc]; decide
  have hC := hh.get (x := "cells") rfl
  refine Ex.cons (Ex1.assignComp (x := "turns") [("cells", .list (nums c))] ⟨⟨rfl, hC⟩, trivial⟩ (by decide +kernel) rfl (plainC1 rfl fun _ _ => rfl) ?_ rfl (fun env he => by cases env; dsimp only at he; subst he; rfl))
  refine Ev.call1t T.range rfl (Ev.int (OpL.range1 ⟨_, Iterable.range0 (n := 6) (by decide), ?_⟩)) rfl
  refine Comp.pure1 (t := "place") (fun _ => true) (fTurn (c.getD 7 0)) rfl rfl (fun v hv K' hK' => hK') ?_ (by rw [List.length_map, List.length_range]; decide) ?_
  · intro v hv _ K' hK'
    obtain ⟨i, hi, rfl⟩ := List.mem_map.mp hv
    have hil : i ≤ 5 := Nat.le_of_lt_succ (List.mem_range.mp hi)
    unfold fTurn at hK'
    simp only [Int.toNat_natCast] at hK'
    have hp : 2 ^ i ≤ 2 ^ 5 := Nat.pow_le_pow_right (by decide) hil
    exact Ev.binop (Ev.binop (Ev.sub (Ev.name (x := "cells") rfl (Ev.int (Op2.itemN (i := 7) .list (nums_get (by rw [hc]; decide)) (Ev.binop (Ev.int (Ev.name (x := "place") rfl (Op2.powN (a := 2) (Nat.le_trans (Nat.mul_le_mul_left _ hil) (by decide)) (Op2.divN (Nat.two_pow_pos i) (Ev.int (Op2.modN (b := 2) (by decide) hK')) (Nat.lt_of_le_of_lt hp (by decide))))))) (k60 hcl))))))
  rw [List.filter_eq_self.mpr (fun _ _ => rfl), show ((List.range 6).map fun (i : Nat) => PV.int (i : Int)).map (fTurn (c.getD 7 0)) = nums (tsOf (c.getD 7 0)) by
    unfold tsOf nums; rw [List.map_map, List.map_map, List.map_map]; rfl]
  have hh' : Has (("turns", PV.list (nums (tsOf (c.getD 7 0)))) :: ρ) (("turns", PV.list (nums (tsOf (c.getD 7 0)))) :: envE x y t0 t1 c a₁ a₂ a₃ a₄) := ⟨rfl, hh.skip rfl⟩
  refine Ex.cons (Ex1.for (J := fun rest ρ σ' => ∃ n, rest = ((List.range 7).drop n).map (fun (i : Nat) => PV.int (i : Int)) ∧ Has ρ (("turns", PV.list (nums (tsOf (c.getD 7 0)))) :: envE x y t0 t1 c a₁ a₂ a₃ a₄) ∧ σ' = σ) ?_ ?_ ?_ fun _ _ => rfl)
  · exact Ev.call1t T.range rfl (Ev.int (OpL.range1 ⟨_, Iterable.range0 (n := 7) (by decide), 0, rfl, hh', rfl⟩)) rfl
  · rintro v r ρ' σ' ⟨n, he, hh, rfl⟩
    obtain ⟨hlt, rfl, rfl⟩ := rng_cons he
    refine Bind.name (x := "place") (.inl rfl) ?_
    exact w_turn T W rfl rfl hlt M3 M4 rfl (hh.get (x := "turns") rfl) (hh.get (x := "one") rfl) (hh.get (x := "two") rfl) (hh.get (x := "x") rfl) (hh.get (x := "y") rfl) (hh.get (x := "typed") rfl) (hh.get (x := "powers") rfl) (hh.get (x := "common") rfl) (hh.skip (x := "place") rfl) rfl rfl rfl fun ρ₂ hρ => ⟨n + 1, rfl, hρ, rfl⟩
  rintro ρ' σ' ⟨n, he, hh, rfl⟩
  exact w_law_f T W hh.2 M1 M2 U1 U2 h
end
end Mine
end U32
section U33
open PySem PySem.W PyProof.Rows
set_option maxRecDepth 100000
namespace Mine
noncomputable def kShort (n : Nat) : PV → Bool
  | .str f => decide (f.length ≤ n)
  | _ => false
noncomputable def fLast : PV → PV
  | .tuple [p, q] => orP q p
  | _ => .none
noncomputable def fRow (t : List Nat) : PV → PV
  | .str f => .tuple [.str f, .str t]
  | _ => .none
theorem opt_facts {v : PV} (h : IsOpt v) : notRaw v = true ∧ handed v = true ∧ ∀ n, pl n v = true := by
  rcases h with rfl | ⟨i, rfl⟩
  · exact ⟨rfl, rfl, fun n => by cases n <;> rfl⟩
  · exact ⟨rfl, rfl, fun n => by cases n <;> rfl⟩
theorem opt_or {a b : PV} (ha : IsOpt a) (hb : IsOpt b) : IsOpt (orP a b) := by unfold orP; split <;> assumption
theorem last_get {p q : PV} (hp : IsOpt p) (hq : IsOpt q) : ((([p, q].filter fun v => !pis v .none).map id) ++ [PV.none])[0]? = some (orP q p) := by
  rcases hp with rfl | ⟨i, rfl⟩ <;> rcases hq with rfl | ⟨j, rfl⟩ <;> rfl
theorem fronts_drop (x y : List Nat) : (frontsOf x y).drop 1 = (List.range (x.length + y.length)).map fun i => (x ++ y).take (i + 1) := by
  unfold frontsOf
  rw [List.range_succ_eq_map, List.map_cons, List.drop_succ_cons, List.drop_zero, List.map_map]; rfl
theorem dup_get {α : Type} (g : Nat → α) : ∀ (m k : Nat), k < m → (((List.range m).flatMap fun i => [g i, g i]).length = 2 * m ∧ ((List.range m).flatMap fun i => [g i, g i])[2 * k]? = some (g k))
  | 0, k, h => by lia
  | m + 1, k, h => by
    have hl : ((List.range m).flatMap fun i => [g i, g i]).length = 2 * m := by
      cases m with
      | zero => rfl
      | succ m => exact (dup_get g (m + 1) 0 (by lia)).1
    rw [List.range_succ, List.flatMap_append]
    refine ⟨by rw [List.length_append, hl]; simp; lia, ?_⟩
    by_cases hk : k < m
    · rw [List.getElem?_append_left (by lia)]; exact (dup_get g m k hk).2
    · rw [List.getElem?_append_right (by lia), hl, show 2 * k - 2 * m = 0 by lia, show k = m by lia]; rfl
theorem fm_range {α : Type} (f : Nat → Option α) (g : Nat → α) : ∀ n, (∀ k, k < n → f k = some (g k)) → (List.range n).filterMap f = (List.range n).map g
  | 0, _ => rfl
  | n + 1, h => by
    rw [List.range_succ, List.filterMap_append, List.map_append, fm_range f g n fun k hk => h k (by lia), List.filterMap_cons, h n (by lia)]; rfl
theorem slcL_evens {α : Type} (g : Nat → α) (n : Nat) : slcL ((List.range (n + 1)).flatMap fun i => [g i, g i]) none (some (-2)) (some 2) = (List.range n).map g := by
  have hl : ((List.range (n + 1)).flatMap fun i => [g i, g i]).length = 2 * (n + 1) := (dup_get g (n + 1) 0 (by lia)).1
  have hb : sliceBounds none (some (-2)) (some 2) (2 * (n + 1)) = (0, ((2 * n : Nat) : Int), 2) := by
    unfold sliceBounds
    simp only [Option.getD_some]
    rw [if_pos (by decide), if_pos (by decide)]
    congr 2
    lia
  unfold slcL
  rw [hl, hb]
  have hr : sliceRange 0 ((2 * n : Nat) : Int) 2 = (List.range n).map fun k => 2 * k := by
    unfold sliceRange
    simp only [show ((2 : Int) > 0) = True from by simp, if_true]
    have hc : (if (0 : Int) < ((2 * n : Nat) : Int) then (((2 * n : Nat) : Int) - 0 + 2 - 1) / 2 else 0).toNat = n := by
      split <;> lia
    rw [hc]
    refine List.map_congr_left fun k _ => ?_
    lia
  rw [hr, List.filterMap_map]
  exact fm_range _ g n fun k hk => (dup_get g (n + 1) k (by lia)).2
theorem others_slice (x y : List Nat) : slcL ((othersOf x y).map PV.str) none (some (-2)) (some 2) = (backsOf x y).map .str := by
  have e : (othersOf x y).map PV.str = (List.range (x.length + y.length + 1)).flatMap fun i => [PV.str ((y ++ x).take (x.length + y.length - i)), PV.str ((y ++ x).take (x.length + y.length - i))] := by
    unfold othersOf; rw [List.map_flatMap]; rfl
  rw [e, slcL_evens (fun i => PV.str ((y ++ x).take (x.length + y.length - i)))]
  unfold backsOf; rw [List.map_map]; rfl
section
variable {C : Cx} {N : Addr} {mN : Str → Option Value} {S : Int → Bool} {D : List (PyData × PyData)} {tT tA uT uA uc : Addr} (T : Top1 C N mN S D tT tA uT uA uc) {k : Nat} {σ : Sto}
include T
theorem w_law_d {x y t0 t1 c : List Nat} {a₁ a₂ a₃ a₄ u₁ u₂ : Addr} {s0 s1 s2 s3 : PV} (W : Words x y t0 t1) (hc : c.length = 9) (o0 : IsOpt s0) (o1 : IsOpt s1) (o2 : IsOpt s2) (o3 : IsOpt s3) {K : Fl → Lo → Sto → Prop}
    (M1 : RecAt σ a₁ (.raw (.ref u₁)) (.list (spoilP :: (rowF x y t0).map Rule.pv)) s0 s1) (M2 : RecAt σ a₂ (.raw (.ref u₂)) (.list (spoilP :: (rowB x y t1).map Rule.pv)) s2 s3)
    (M3 : RecAt σ a₃ (.list (((us1 x y).filter fun a => decide (a ∈ us2 x y)).map .str)) (.list ((rowF x y t0 ++ rowB x y t1).map Rule.pv)) (orP s0 s2) (orP s1 s3)) (M4 : RecAt σ a₄ (.list (((us2 x y).filter fun a => decide (a ∈ us1 x y)).map .str)) (.list ((rowB x y t1 ++ rowF x y t0).map Rule.pv)) (orP s2 s0) (orP s3 s1))
    (U1 : (u₁, AO.mlist ((moreL :: us1 x y).map .str)) ∈ σ) (U2 : (u₂, AO.mlist ((moreL :: us2 x y).map .str)) ∈ σ) (h : ∀ ρ', K (.ret (.bool true)) ρ' σ) :
    Ex C (k + 5) (fScope (stAt 16)) [("two", .raw (.ref a₄)), ("one", .raw (.ref a₃)), ("second", .raw (.ref a₂)), ("first", .raw (.ref a₁)), ("agents", .list [.list ((us1 x y).map .str), .list ((us2 x y).map .str)]), ("slow", .list [s0, s1, s2, s3]), ("others", .list ((othersOf x y).map .str)), ("fronts", .list ((frontsOf x y).map .str)), ("common", .int (comOf x y : Nat)), ("powers", .bool (powOf x y)),
      ("y", .str y), ("x", .str x), ("typed", .list [.str t0, .str t1]), ("cells", .list (nums c))] σ ((fBody (stAt 16)).drop 21) K := by
  have hline : (16777216 : Nat) ≤ sizeLine := by decide
  have hlen := W.len
  have hlow : ∀ c ∈ x ++ y, 97 ≤ c ∧ c ≠ 98 := fun c hc => ⟨(W.low c hc).1, (W.low c hc).2.2⟩
  have hfl := fronts_len x y
  have hol := others_len x y
  have lm : ∀ l : List (List Nat), (l.map PV.str).length = l.length := fun l => List.length_map _
  have q1 : ∀ n, plL n (((us1 x y).filter fun a => decide (a ∈ us2 x y)).map .str) = true := fun n => plL_strs fun a ha => us1_low W a (List.mem_filter.mp ha).1
  have q2 : ∀ n, plL n (((us2 x y).filter fun a => decide (a ∈ us1 x y)).map .str) = true := fun n => plL_strs fun a ha => us2_low W a (List.mem_filter.mp ha).1
  refine Ex.cons (Ex1.if (Tr.or2 (Tr.cmp (Ev.fldA T (x := "one") (f := "useragents") T.E.ua rfl M3.ua (Ev.binop (Ev.sub (Ev.name (x := "fronts") rfl (Ev.slice (Ev.binop (Ev.name (x := "common") rfl (Ev.int (Op2.addN (b := 1) ⟨_, _, _, .none, .int _, .none, Op2.slice .list (by decide) ?z1 ?_⟩))))))))) rfl)))
  case z1 => rw [lm, hfl]; lia
  rw [slcL_to, ← List.map_take]
  refine Ev.strs [starL] rfl (by decide) (Op2.addl .list .list ?z2 ?_)
  case z2 => rw [lm, lm, List.length_take, List.length_singleton]; lia
  rw [← List.map_append, ← agents1 hlow]
  refine Op2.ne (by rw [pl]; exact q1 59) (by rw [pl]; exact q1 59) (OpB.bool ?_)
  rw [peq_strs, decide_eq_true rfl]
  show Tr C (k + 5) _ _ _ _ _
  refine Tr.cmp (Ev.fldA T (x := "two") (f := "useragents") T.E.ua rfl M4.ua (Ev.binop (Ev.strs [starL] rfl (by decide) ?_))) rfl
  refine Ev.listComp [("common", .int (comOf x y : Nat))] ⟨⟨rfl, rfl⟩, trivial⟩ (by decide +kernel) rfl (plainC1 rfl fun _ _ => rfl) ?_
  refine Ev.name (x := "others") rfl ⟨_, Iterable.list, ?_⟩
  refine Comp.pure1 (t := "front") (kShort (comOf x y)) id rfl rfl ?_ (fun v hv _ K' hK' => Ev.name (x := "front") rfl hK') (by rw [lm, hol]; lia) ?_
  · intro v hv K' hK'
    obtain ⟨f, hf, rfl⟩ := List.mem_map.mp hv
    obtain ⟨j, hj, rfl⟩ := others_mem.mp hf
    have hfl : ((y ++ x).take j).length ≤ 1000 := by rw [List.length_take]; lia
    exact TrAll.one (Tr.cmp (Ev.call1 T.len rfl (Ev.name (x := "front") rfl (OpL.len_s (by lia) (Ev.name (x := "common") rfl (Op2.leN (OpB.bool hK'))))) rfl) rfl)
  rw [List.map_id, show ((othersOf x y).map PV.str).filter (kShort (comOf x y)) = ((othersOf x y).filter fun f => decide (f.length ≤ comOf x y)).map .str by rw [List.filter_map]; rfl]
  have hof : ((othersOf x y).filter fun f => decide (f.length ≤ comOf x y)).length ≤ (othersOf x y).length := List.length_filter_le _ _
  refine Op2.addl .list .list ?z3 ?_
  case z3 => rw [lm, lm, List.length_singleton]; lia
  rw [← List.map_append, ← agents2 hlow]
  refine Op2.ne (by rw [pl]; exact q2 59) (by rw [pl]; exact q2 59) (OpB.bool ?_)
  rw [peq_strs, decide_eq_true rfl]
  show Ex C (k + 5) _ _ _ [] _
  refine Ex.nil ?_
  refine Ex.cons (Ex1.assignComp (x := "last") [] trivial (by decide +kernel) rfl (plainC1 rfl fun _ _ => rfl) ?_ rfl (fun env he => by cases env; dsimp only at he; subst he; rfl))
  have sl : ∀ (i : Nat) (d : PV), ([s0, s1, s2, s3] : List PV)[i]? = some d → ∀ {sc ρ σ} {K' : PV → Sto → Prop} {p1 p2 p3 : Pos} {kk}, ρ.lookup "slow" = some (.list [s0, s1, s2, s3]) → K' d σ → Ev C (k + 5) sc ρ σ (.Subscript (.Name (Str.ofString "slow") p1) (.Constant (.int (i : Nat)) kk p2) p3) K' := fun i d hd {sc ρ σ K' p1 p2 p3 kk} hρ hK => Ev.sub (Ev.name (x := "slow") hρ (Ev.int (Op2.itemN .list hd hK (by simp))))
  refine Ev.list (es := [_, _, _, _]) (Ev.tuple2 (sl 2 s2 rfl rfl (sl 0 s0 rfl rfl ?_)) rfl) rfl
  refine Ev.tuple2 (sl 3 s3 rfl rfl (sl 1 s1 rfl rfl ?_)) rfl
  refine Ev.tuple2 (sl 0 s0 rfl rfl (sl 2 s2 rfl rfl ?_)) rfl
  refine Ev.tuple2 (sl 1 s1 rfl rfl (sl 3 s3 rfl rfl ?_)) rfl
  refine ⟨by simp [sizeLine], _, Iterable.list, ?_⟩
  refine Comp.pure1 (t := "pair") (fun _ => true) fLast rfl rfl (fun v hv K' hK' => hK') ?_ (by simp [sizeLine]) ?_
  · intro v hv _ K' hK'
    have : ∃ p q, v = .tuple [p, q] ∧ IsOpt p ∧ IsOpt q := by
      rcases List.mem_cons.mp hv with rfl | hv
      · exact ⟨_, _, rfl, o2, o0⟩
      · rcases List.mem_cons.mp hv with rfl | hv
        · exact ⟨_, _, rfl, o3, o1⟩
        · rcases List.mem_cons.mp hv with rfl | hv
          · exact ⟨_, _, rfl, o0, o2⟩
          · rw [List.mem_singleton.mp hv]; exact ⟨_, _, rfl, o1, o3⟩
    obtain ⟨p, q, rfl, hp, hq⟩ := this
    refine Ev.sub (Ev.binop (Ev.listComp [] trivial (by decide +kernel) rfl (plainC1 rfl fun _ _ => rfl) ?_))
    refine Ev.name (x := "pair") rfl ⟨_, Iterable.tuple, ?_⟩
    have hpq : ∀ v ∈ [p, q], IsOpt v := fun v hv => by
      rcases List.mem_cons.mp hv with rfl | hv
      · exact hp
      · rw [List.mem_singleton.mp hv]; exact hq
    refine Comp.pure1 (t := "value") (fun v => !pis v .none) id rfl rfl ?_ (fun v hv _ K' hK' => Ev.name (x := "value") rfl hK') (by simp [sizeLine]) ?_
    · intro v hv K' hK'
      exact TrAll.one (Tr.cmp (Ev.name (x := "value") rfl (Ev.none (Op2.isNot rfl (opt_facts (hpq v hv)).1 (OpB.bool hK')))) rfl)
    have hl2 : (([p, q].filter fun v => !pis v .none).map id).length ≤ 2 := by rw [List.length_map]; exact List.length_filter_le _ [p, q]
    refine Ev.list1 (Ev.none (Op2.addl .list .list ?z4 (Ev.int (Op2.itemN (i := 0) .list (last_get hp hq) hK' ?z5)))) rfl
    case z4 => rw [List.length_singleton]; lia
    case z5 => rw [List.length_append, List.length_singleton]; lia
  rw [List.filter_eq_self.mpr (fun _ _ => rfl)]
  have w0 := opt_or o0 o2
  have w1 := opt_or o1 o3
  have w2 := opt_or o2 o0
  have w3 := opt_or o3 o1
  have pl4 : ∀ {a b c d : PV}, IsOpt a → IsOpt b → IsOpt c → IsOpt d → pl 60 (.list [a, b, c, d]) = true := fun ha hb hc hd => by
    rw [pl, plL, plL, plL, plL, plL, (opt_facts ha).2.2, (opt_facts hb).2.2, (opt_facts hc).2.2, (opt_facts hd).2.2]; rfl
  refine Ex.cons (Ex1.if (Tr.or2 (Tr.cmp (Ev.list (es := [_, _, _, _]) (Ev.fldA T (x := "one") (f := "delay") T.E.dl rfl M3.dl ?_ (opt_facts w0).2.1) rfl) rfl)))
  refine Ev.fldA T (x := "one") (f := "req_rate") T.E.rr rfl M3.rr ?_ (opt_facts w1).2.1
  refine Ev.fldA T (x := "two") (f := "delay") T.E.dl rfl M4.dl ?_ (opt_facts w2).2.1
  refine Ev.fldA T (x := "two") (f := "req_rate") T.E.rr rfl M4.rr ⟨by simp [sizeLine], Ev.name (x := "last") rfl (Op2.ne (pl4 w0 w1 w2 w3) (pl4 w0 w1 w2 w3) (OpB.bool ?_))⟩ (opt_facts w3).2.1
  rw [show peq (.list [orP s0 s2, orP s1 s3, orP s2 s0, orP s3 s1]) (.list ([PV.tuple [s2, s0], .tuple [s3, s1], .tuple [s0, s2], .tuple [s1, s3]].map fLast)) = true from peq_refl (pl4 w0 w1 w2 w3)]
  show Tr C (k + 5) _ _ _ _ _
  refine Tr.cmp (Ev.list (es := [_, _, _, _]) (Ev.fldA T (x := "first") (f := "delay") T.E.dl rfl M1.dl ?_ (opt_facts o0).2.1) rfl) rfl
  refine Ev.fldA T (x := "first") (f := "req_rate") T.E.rr rfl M1.rr ?_ (opt_facts o1).2.1
  refine Ev.fldA T (x := "second") (f := "delay") T.E.dl rfl M2.dl ?_ (opt_facts o2).2.1
  refine Ev.fldA T (x := "second") (f := "req_rate") T.E.rr rfl M2.rr ⟨by simp [sizeLine], Ev.name (x := "slow") rfl (Op2.ne (pl4 o0 o1 o2 o3) (pl4 o0 o1 o2 o3) (OpB.bool ?_))⟩ (opt_facts o3).2.1
  rw [peq_refl (pl4 o0 o1 o2 o3)]
  show Ex C (k + 5) _ _ _ [] _
  refine Ex.nil ?_
  have rowsC : ∀ {t : List Nat} {i : Nat} {fs : List (List Nat)} {sc' scope : Scope} {it : Expr} {p1 p2 p3 p4 p5 p6 : Pos} {x2 kk} {K' : List PV → Sto → Prop}, ([PV.str t0, .str t1] : List PV)[i]? = some (.str t) → fs.length ≤ 1000 → (rel scope sc').names.lookup (Str.ofString "front") = some .local → K' ((fs.map .str).map (fRow t)) σ →
      Comp C (k + 5) sc' [("typed", .list [.str t0, .str t1])] (.Tuple [.Name (Str.ofString "front") p1, .Subscript (.Name (Str.ofString "typed") p2) (.Constant (.int (i : Nat)) kk p3) p4] x2 p5) ⟨.Name (Str.ofString "front") p6, it, [], 0⟩ [] scope (fs.map .str) σ K' := by
    intro t i fs sc' scope it p1 p2 p3 p4 p5 p6 x2 kk K' hi hfs h1 hK
    refine Comp.pure1 (t := "front") (fun _ => true) (fRow t) h1 rfl (fun v hv K' hK' => hK') ?_ (by rw [lm]; lia) ?_
    · intro v hv _ K' hK'
      obtain ⟨f, hf, rfl⟩ := List.mem_map.mp hv
      exact Ev.tuple2 (Ev.name (x := "front") rfl (Ev.sub (Ev.name (x := "typed") rfl (Ev.int (Op2.itemN .list hi hK' (by simp)))))) rfl
    · rw [List.filter_eq_self.mpr (fun _ _ => rfl)]; exact hK
  have hbl : (backsOf x y).length = x.length + y.length := by unfold backsOf; rw [List.length_map, List.length_range]
  refine Ex.cons (Ex1.assign (x := "rows") (Ev.list2 (Ev.listComp [("typed", .list [.str t0, .str t1])] ⟨⟨rfl, rfl⟩, trivial⟩ (by decide +kernel) rfl (plainC1 rfl fun _ _ => rfl) ?_) rfl) (.inl rfl) fun _ => rfl)
  refine Ev.sub (Ev.name (x := "fronts") rfl (Ev.slice (Ev.int ⟨_, _, _, .int 1, .none, .none, Op2.slice .list (by decide) (by rw [lm]; lia) ?_⟩)))
  rw [show slcL ((frontsOf x y).map PV.str) (some (1 : Int)) none none = ((frontsOf x y).drop 1).map .str by
    rw [show (1 : Int) = ((1 : Nat) : Int) from rfl, slcL_from, List.map_drop]]
  refine ⟨_, Iterable.list, rowsC (t := t0) (i := 0) rfl (by rw [List.length_drop]; lia) rfl ?_⟩
  rw [show (((frontsOf x y).drop 1).map PV.str).map (fRow t0) = rowsP (rowF x y t0) by
    rw [fronts_drop]; unfold rowsP rowF; rw [List.map_map, List.map_map, List.map_map]; rfl]
  refine Ev.listComp [("typed", .list [.str t0, .str t1])] ⟨⟨rfl, rfl⟩, trivial⟩ (by decide +kernel) rfl (plainC1 rfl fun _ _ => rfl) ?_
  refine Ev.sub (Ev.name (x := "others") rfl (Ev.slice (Ev.unary (Ev.int (Op1.neg (Ev.int ⟨_, _, _, .none, .int _, .int 2, Op2.slice .list (by decide) (by rw [lm]; lia) ?_⟩))))))
  rw [others_slice]
  refine ⟨_, Iterable.list, rowsC (t := t1) (i := 1) rfl (by lia) rfl ?_⟩
  rw [show ((backsOf x y).map PV.str).map (fRow t1) = rowsP (rowB x y t1) by
    unfold backsOf rowsP rowB; rw [List.map_map, List.map_map, List.map_map]; rfl]
  have lF := rowF_len x y t0
  have lB := rowB_len x y t1
  have okFB : ∀ r ∈ rowF x y t0 ++ rowB x y t1, r ∈ rowF x y t0 ∨ r ∈ rowB x y t1 := fun r hr => List.mem_append.mp hr
  have okBF : ∀ r ∈ rowB x y t1 ++ rowF x y t0, r ∈ rowF x y t0 ∨ r ∈ rowB x y t1 := fun r hr => (List.mem_append.mp hr).symm
  obtain ⟨e1, i1⟩ := rows_of (t0 := t0) (t1 := t1) okFB
  obtain ⟨e2, i2⟩ := rows_of (t0 := t0) (t1 := t1) okBF
  have lr : ∀ rs : List Rule, (rowsP rs).length = rs.length := fun rs => List.length_map _
  have pF : pl 60 (.list (rowsP (rowF x y t0 ++ rowB x y t1))) = true := by rw [pl]; exact rows_pl W okFB
  have pB : pl 60 (.list (rowsP (rowB x y t1 ++ rowF x y t0))) = true := by rw [pl]; exact rows_pl W okBF
  refine Ex.cons (Ex1.if (Tr.or2 (Tr.cmp (ev_rows T (x := "one") rfl rfl M3.rl i1 ?z6 ?_) rfl)))
  case z6 => rw [List.length_map, List.length_append, lF, lB]; lia
  rw [e1]
  refine Ev.binop (Ev.sub (Ev.name (x := "rows") rfl (Ev.int (Op2.itemN (i := 0) .list rfl (Ev.sub (Ev.name (x := "rows") rfl (Ev.int (Op2.itemN (i := 1) .list rfl (Op2.addl .list .list ?z7 ?_) (by simp))))) (by simp)))))
  case z7 => rw [lr, lr, lF, lB]; lia
  refine Op2.ne pF (by rw [show rowsP (rowF x y t0) ++ rowsP (rowB x y t1) = rowsP (rowF x y t0 ++ rowB x y t1) from (List.map_append).symm]; exact pF) (OpB.bool ?_)
  rw [show rowsP (rowF x y t0) ++ rowsP (rowB x y t1) = rowsP (rowF x y t0 ++ rowB x y t1) from (List.map_append).symm, peq_refl pF]
  show Tr C (k + 5) _ _ _ _ _
  refine Tr.cmp (ev_rows T (x := "two") rfl rfl M4.rl i2 ?z8 ?_) rfl
  case z8 => rw [List.length_map, List.length_append, lF, lB]; lia
  rw [e2]
  refine Ev.binop (Ev.sub (Ev.name (x := "rows") rfl (Ev.int (Op2.itemN (i := 1) .list rfl (Ev.sub (Ev.name (x := "rows") rfl (Ev.int (Op2.itemN (i := 0) .list rfl (Op2.addl .list .list ?z9 ?_) (by simp))))) (by simp)))))
  case z9 => rw [lr, lr, lF, lB]; lia
  refine Op2.ne pB (by rw [show rowsP (rowB x y t1) ++ rowsP (rowF x y t0) = rowsP (rowB x y t1 ++ rowF x y t0) from (List.map_append).symm]; exact pB) (OpB.bool ?_)
  rw [show rowsP (rowB x y t1) ++ rowsP (rowF x y t0) = rowsP (rowB x y t1 ++ rowF x y t0) from (List.map_append).symm, peq_refl pB]
  show Ex C (k + 5) _ _ _ [] _
  refine Ex.nil (w_law_e T W hc ?_ M1 M2 M3 M4 U1 U2 h)
  exact ⟨rfl, rfl, rfl, rfl, rfl, rfl, rfl, rfl, rfl, rfl, rfl, rfl, trivial⟩
end
end Mine
end U33
section U34
open PySem PySem.W PyProof.Rows
set_option maxRecDepth 100000
namespace Mine
section
variable {C : Cx} {N : Addr} {mN : Str → Option Value} {S : Int → Bool} {D : List (PyData × PyData)} {tT tA uT uA uc : Addr} (T : Top1 C N mN S D tT tA uT uA uc) {k : Nat} {σ : Sto}
include T
theorem op_record {ags fronts : List (List Nat)} {word : List Nat} {dl rr : PV} {K : PV → Sto → Prop} (hT : (tT, AO.tab) ∈ σ) (ha : ags.length ≤ 10000) (hf : fronts.length ≤ 10000)
    (h : ∀ a d u r, [r, u, a, d].Nodup → a ∉ dom σ → d ∉ dom σ → u ∉ dom σ → r ∉ dom σ → K (.raw (.ref a)) ((r, .mlist (fronts.map fun f => (pRule word f).pv)) :: (u, .mlist (ags.map .str)) :: (a, .inst d (setF (setF (fsNew u r) "delay" dl) "req_rate" rr)) :: σ)) :
    ∀ f, FnAt C f ["agents", "fronts", "word", "delay", "rate"] (fScope (stAt 13)) (fBody (stAt 13)) → OpL C (k + 3) σ [.list (ags.map .str), .list (fronts.map .str), .str word, dl, rr] (fun vs => PySem.call (.ref f) vs) K := fun f F => by
  refine Fn.call F ?_ ?_ ?_
  · decide +kernel
  · rfl
  · show Ex C (k + 2) (fScope (stAt 13)) [("agents", .list (ags.map .str)), ("fronts", .list (fronts.map .str)), ("word", .str word), ("delay", dl), ("rate", rr)] σ (fBody (stAt 13)) _
    exact @w_record C N mN S D tT tA uT uA uc T k σ ags fronts word dl rr K hT ha hf h
theorem ev_spoil {sc : Scope} {ρ : Lo} {x : String} {p1 p2 p3 : Pos} {a d r u : Addr} {fs : List (String × PV)} {rs : List PV} {us : List (List Nat)} {σ₁ σ₂ : Sto} {K : PV → Sto → Prop} (hk : sc.names.lookup (Str.ofString "_law_spoil") = some NameKind.globalImplicit) (hx : ρ.lookup x = some (.raw (.ref a)))
    (hT : (tT, AO.tab) ∈ σ) (hT2 : (uT, AO.tab) ∈ σ) (hm : (a, AO.inst d fs) ∈ σ) (hr : fs.lookup "rulelines" = some (.raw (.ref r))) (hu : fs.lookup "useragents" = some (.raw (.ref u)))
    (hR : (r, AO.mlist rs) ∈ σ) (U₁ : Upd σ r (.mlist rs) (.mlist (spoilP :: rs)) σ₁) (hm₁ : (a, AO.inst d fs) ∈ σ₁) (hU : (u, AO.mlist (us.map .str)) ∈ σ₁) (U₂ : Upd σ₁ u (.mlist (us.map .str)) (.mlist (.str moreL :: us.map .str)) σ₂) (l1 : rs.length ≤ 10000) (l2 : us.length ≤ 10000)
    (h : K .none σ₂) (hd : (Str.ofString x == ("__debug__" : Str)) = false := by decide) (hn : (Str.ofString x == ("__classdict__" : Str)) = false := by decide) : Ev C (k + 2) sc ρ σ (.Call (.Name (Str.ofString "_law_spoil") p1) [.Name (Str.ofString x) p2] [] p3) K := by
  refine Ev.call (Ev.global hk T.spoilAt ⟨_, rfl, T.spoil.fn.callable, ?_⟩) rfl fun _ => rfl
  exact Ev.name hx (op_spoil T hT hT2 hm hr hu hR U₁ hm₁ hU U₂ l1 l2 h) hd hn
theorem w_law_c {x y t0 t1 c : List Nat} {s0 s1 s2 s3 : PV} (W : Words x y t0 t1) (hc : c.length = 9) (o0 : IsOpt s0) (o1 : IsOpt s1) (o2 : IsOpt s2) (o3 : IsOpt s3) {K : Fl → Lo → Sto → Prop} (hne : tT ≠ uT)
    (hT : (tT, AO.tab) ∈ σ) (hT2 : (uT, AO.tab) ∈ σ) (h : ∀ ρ', K (.ret (.bool true)) ρ' [(tT, .tab), (uT, .tab)]) :
    Ex C (k + 5) (fScope (stAt 16)) [("agents", .list [.list ((us1 x y).map .str), .list ((us2 x y).map .str)]), ("slow", .list [s0, s1, s2, s3]), ("others", .list ((othersOf x y).map .str)), ("fronts", .list ((frontsOf x y).map .str)), ("common", .int (comOf x y : Nat)), ("powers", .bool (powOf x y)),
      ("y", .str y), ("x", .str x), ("typed", .list [.str t0, .str t1]), ("cells", .list (nums c))] σ ((fBody (stAt 16)).drop 16) K := by
  have hline : (16777216 : Nat) ≤ sizeLine := by decide
  have hlen := W.len
  have hfl := fronts_len x y
  have hol := others_len x y
  have L1 := us1_len x y
  have L2 := us2_len x y
  have lF := rowF_len x y t0
  have lB := rowB_len x y t1
  have hbl : (backsOf x y).length = x.length + y.length := by unfold backsOf; rw [List.length_map, List.length_range]
  have lm : ∀ l : List (List Nat), (l.map PV.str).length = l.length := fun l => List.length_map _
  have lp : ∀ l : List Rule, (l.map Rule.pv).length = l.length := fun l => List.length_map _
  have sl : ∀ (i : Nat) (d : PV), ([s0, s1, s2, s3] : List PV)[i]? = some d → ∀ {sc ρ σ} {K' : PV → Sto → Prop} {p1 p2 p3 : Pos} {kk}, ρ.lookup "slow" = some (.list [s0, s1, s2, s3]) → K' d σ → Ev C (k + 5) sc ρ σ (.Subscript (.Name (Str.ofString "slow") p1) (.Constant (.int (i : Nat)) kk p2) p3) K' := fun i d hd {sc ρ σ K' p1 p2 p3 kk} hρ hK => Ev.sub (Ev.name (x := "slow") hρ (Ev.int (Op2.itemN .list hd hK (by simp))))
  refine Ex.cons (Ex1.assign (x := "first") (Ev.callF T.record rfl (Ev.sub (Ev.name (x := "agents") rfl (Ev.int (Op2.itemN (i := 0) .list rfl (Ev.sub (Ev.name (x := "fronts") rfl (Ev.slice (Ev.int ⟨_, _, _, .int 1, .none, .none, Op2.slice .list (by decide) (by rw [lm]; lia) ?_⟩)))) (by simp))))) rfl) (.inl rfl) fun _ => rfl)
  rw [show slcL ((frontsOf x y).map PV.str) (some (1 : Int)) none none = ((frontsOf x y).drop 1).map .str by
    rw [show (1 : Int) = ((1 : Nat) : Int) from rfl, slcL_from, List.map_drop]]
  refine Ev.sub (Ev.name (x := "typed") rfl (Ev.int (Op2.itemN (i := 0) .list rfl (sl 0 s0 rfl rfl (sl 1 s1 rfl rfl ⟨rfl, op_record T hT (by lia) (by rw [List.length_drop]; lia) fun a₁ d₁ u₁ r₁ nd₁ ha₁ hd₁ hu₁ hr₁ => ?_⟩)) (by simp))))
  rw [show ((frontsOf x y).drop 1).map (fun f => (pRule t0 f).pv) = (rowF x y t0).map Rule.pv by rw [fronts_drop]; unfold rowF; rw [List.map_map, List.map_map]; rfl]
  refine Ex.cons (Ex1.assign (x := "second") (Ev.callF T.record rfl (Ev.sub (Ev.name (x := "agents") rfl (Ev.int (Op2.itemN (i := 1) .list rfl (Ev.sub (Ev.name (x := "others") rfl (Ev.slice (Ev.unary (Ev.int (Op1.neg (Ev.int ⟨_, _, _, .none, .int _, .int 2, Op2.slice .list (by decide) (by rw [lm]; lia) ?_⟩))))))) (by simp))))) rfl) (.inl rfl) fun _ => rfl)
  rw [others_slice]
  refine Ev.sub (Ev.name (x := "typed") rfl (Ev.int (Op2.itemN (i := 1) .list rfl (sl 2 s2 rfl rfl (sl 3 s3 rfl rfl ⟨rfl, op_record T (.tail _ (.tail _ (.tail _ hT))) (by lia) (by lia) fun a₂ d₂ u₂ r₂ nd₂ ha₂ hd₂ hu₂ hr₂ => ?_⟩)) (by simp))))
  rw [show (backsOf x y).map (fun f => (pRule t1 f).pv) = (rowB x y t1).map Rule.pv by unfold backsOf rowB; rw [List.map_map, List.map_map]; rfl]
  generalize hf₁ : setF (setF (fsNew u₁ r₁) "delay" s0) "req_rate" s1 = f₁
  generalize hf₂ : setF (setF (fsNew u₂ r₂) "delay" s2) "req_rate" s3 = f₂
  have u1 : f₁.lookup "useragents" = some (.raw (.ref u₁)) := by rw [← hf₁]; rfl
  have r1 : f₁.lookup "rulelines" = some (.raw (.ref r₁)) := by rw [← hf₁]; rfl
  have dl1 : f₁.lookup "delay" = some s0 := by rw [← hf₁]; rfl
  have rr1 : f₁.lookup "req_rate" = some s1 := by rw [← hf₁]; rfl
  have al1 : f₁.lookup "allowance" = none := by rw [← hf₁]; rfl
  have u2 : f₂.lookup "useragents" = some (.raw (.ref u₂)) := by rw [← hf₂]; rfl
  have r2 : f₂.lookup "rulelines" = some (.raw (.ref r₂)) := by rw [← hf₂]; rfl
  have dl2 : f₂.lookup "delay" = some s2 := by rw [← hf₂]; rfl
  have rr2 : f₂.lookup "req_rate" = some s3 := by rw [← hf₂]; rfl
  have al2 : f₂.lookup "allowance" = none := by rw [← hf₂]; rfl
  clear hf₁ hf₂
  generalize hσ : ((r₂, AO.mlist ((rowB x y t1).map Rule.pv)) :: (u₂, AO.mlist ((us2 x y).map .str)) :: (a₂, AO.inst d₂ f₂) :: (r₁, AO.mlist ((rowF x y t0).map Rule.pv)) :: (u₁, AO.mlist ((us1 x y).map .str)) :: (a₁, AO.inst d₁ f₁) :: σ) = σ₁
  have E₁ : EntAt σ₁ a₁ (us1 x y) ((rowF x y t0).map Rule.pv) s0 s1 := by subst hσ; exact ⟨d₁, f₁, at5, ⟨u₁, u1, at4⟩, ⟨r₁, r1, at3⟩, dl1, rr1⟩
  have E₂ : EntAt σ₁ a₂ (us2 x y) ((rowB x y t1).map Rule.pv) s2 s3 := by subst hσ; exact ⟨d₂, f₂, at2, ⟨u₂, u2, at1⟩, ⟨r₂, r2, at0⟩, dl2, rr2⟩
  have n0 := opt_facts o0
  have n1 := opt_facts o1
  have n2 := opt_facts o2
  have n3 := opt_facts o3
  refine Ex.cons (Ex1.swap2 "one" "two" (Ev.callF T.E.merge rfl (Ev.name (x := "first") rfl (Ev.name (x := "second") rfl ⟨rfl, op_merge T.E E₁ E₂ (by lia) (by lia) (by rw [lp, lp]; lia) n2.1 n3.1 n0.2.1 n1.2.1 n2.2.1 n3.2.1 fun a₃ d₃ tl₃ htl₃ ha₃ hd₃ hne₃ => ?_⟩)) rfl) rfl (by decide +kernel) (fun env he => by cases env; dsimp only at he; subst he; rfl) rfl)
  refine Ev.callF T.E.merge rfl (Ev.name (x := "second") rfl (Ev.name (x := "first") rfl ⟨rfl, op_merge T.E (E₂.mono fun p hp => .tail _ hp) (E₁.mono fun p hp => .tail _ hp) (by lia) (by lia) (by rw [lp, lp]; lia) n0.1 n1.1 n2.2.1 n3.2.1 n0.2.1 n1.2.1 fun a₄ d₄ tl₄ htl₄ ha₄ hd₄ hne₄ => ?_⟩)) rfl
  rw [← List.map_append, ← List.map_append]
  subst hσ
  have q3 : (fsMer ((us1 x y).filter fun a => decide (a ∈ us2 x y)) ((rowF x y t0 ++ rowB x y t1).map Rule.pv) (orP s0 s2) (orP s1 s3) tl₃).lookup "allowance" = none := by obtain ⟨u, r, rfl⟩ := htl₃; rfl
  have q4 : (fsMer ((us2 x y).filter fun a => decide (a ∈ us1 x y)) ((rowB x y t1 ++ rowF x y t0).map Rule.pv) (orP s2 s0) (orP s3 s1) tl₄).lookup "allowance" = none := by obtain ⟨u, r, rfl⟩ := htl₄; rfl
  have hT' : ∀ {p1 p2 p3 p4 p5 p6 p7 p8 : Addr × AO}, (tT, AO.tab) ∈ p1 :: p2 :: p3 :: p4 :: p5 :: p6 :: p7 :: p8 :: σ := .tail _ (.tail _ (.tail _ (.tail _ (.tail _ (.tail _ (.tail _ (.tail _ hT)))))))
  have hT2' : ∀ {p1 p2 p3 p4 p5 p6 p7 p8 : Addr × AO}, (uT, AO.tab) ∈ p1 :: p2 :: p3 :: p4 :: p5 :: p6 :: p7 :: p8 :: σ := .tail _ (.tail _ (.tail _ (.tail _ (.tail _ (.tail _ (.tail _ (.tail _ hT2)))))))
  have at7 : ∀ {α : Type} {p₀ p₁ p₂ p₃ p₄ p₅ p₆ p₇ : α} {r : List α}, p₇ ∈ p₀ :: p₁ :: p₂ :: p₃ :: p₄ :: p₅ :: p₆ :: p₇ :: r := .tail _ at6
  refine Ex.cons (Ex1.expr (ev_spoil T (x := "first") rfl rfl hT' hT2' at7 r1 u1 at5 (.there (.there (.there (.there (.there .here))))) at7 at6 (.there (.there (.there (.there (.there (.there .here)))))) (by rw [lp]; lia) (by lia) ?_) fun _ => rfl)
  refine Ex.cons (Ex1.expr (ev_spoil T (x := "second") rfl rfl hT' hT2' at4 r2 u2 at2 (.there (.there .here)) at4 at3 (.there (.there (.there .here))) (by rw [lp]; lia) (by lia) ?_) fun _ => rfl)
  refine Ex.freeze (xs := spoilP :: (rowF x y t0).map Rule.pv) T.rule.tb T.rule.tab T.tab2 T.rule.tIs T.tIs2 hne hT' hT2' (.there (.there (.there (.there (.there .here))))) (.there (.there (.there (.there (.there (.there .here)))))) r1 ?_ h
  refine Ex.freeze (xs := spoilP :: (rowB x y t1).map Rule.pv) T.rule.tb T.rule.tab T.tab2 T.rule.tIs T.tIs2 hne ?t1 ?t2 (.there (.there .here)) (.there (.there (.there .here))) r2 ?_ fun ρ' => ⟨rfl, at0, at1⟩
  case t1 => exact .tail _ (.tail _ (.tail _ (.tail _ (.tail _ (.tail _ (.tail _ hT))))))
  case t2 => exact .tail _ (.tail _ (.tail _ (.tail _ (.tail _ (.tail _ (.tail _ hT2))))))
  refine Ex.has ?_ (w_law_d (a₁ := a₁) (a₂ := a₂) (a₃ := a₃) (a₄ := a₄) (u₁ := u₁) (u₂ := u₂) T W hc o0 o1 o2 o3 ?m1 ?m2 ?m3 ?m4 at4 at2 fun ρ' => ⟨rfl, ?_, ?_⟩)
  case m1 => exact ⟨⟨d₁, _, at5, u1⟩, ⟨d₁, _, at5, rfl⟩, ⟨d₁, _, at5, dl1⟩, ⟨d₁, _, at5, rr1⟩, ⟨d₁, _, at5, al1⟩⟩
  case m2 => exact ⟨⟨d₂, _, at3, u2⟩, ⟨d₂, _, at3, rfl⟩, ⟨d₂, _, at3, dl2⟩, ⟨d₂, _, at3, rr2⟩, ⟨d₂, _, at3, al2⟩⟩
  case m3 => exact ⟨⟨d₃, _, at1, rfl⟩, ⟨d₃, _, at1, rfl⟩, ⟨d₃, _, at1, rfl⟩, ⟨d₃, _, at1, rfl⟩, ⟨d₃, _, at1, q3⟩⟩
  case m4 => exact ⟨⟨d₄, _, at0, rfl⟩, ⟨d₄, _, at0, rfl⟩, ⟨d₄, _, at0, rfl⟩, ⟨d₄, _, at0, rfl⟩, ⟨d₄, _, at0, q4⟩⟩
  · exact ⟨rfl, rfl, rfl, rfl, rfl, rfl, rfl, rfl, rfl, rfl, rfl, rfl, rfl, rfl, trivial⟩
  · exact .tail _ (.tail _ (.tail _ (.tail _ (.tail _ (.tail _ hT)))))
  · exact .tail _ (.tail _ (.tail _ (.tail _ (.tail _ (.tail _ hT2)))))
end
end Mine
end U34
section U36
open PySem PySem.W PyProof.Rows
set_option maxRecDepth 100000
namespace Mine
set_option genInjectivity false in
structure Plain1 (S : Int → Bool) (D : List (PyData × PyData)) : Prop where
  good : ∀ s, Good1 S D s
  nob : ∀ s, ∀ p ∈ signsOf s, ∀ c ∈ p.2, c ≠ 98
theorem opt_is (v : Int) (j : Nat) : IsOpt (optP v j) := by
  unfold optP IsOpt
  match j with
  | 0 => exact .inl rfl
  | 1 => exact .inr ⟨_, rfl⟩
  | 2 => exact .inr ⟨_, rfl⟩
  | j + 3 => exact .inl rfl
theorem words_of {S D} (L : Plain1 S D) (s : List Int) : Words (ltr (part0 s)) (ltr (part1 s)) (typ (part0 s)) (typ (part1 s)) := by
  have G := L.good s
  have hp0 := part0_len s
  have hp1 := part1_len s
  have hin : ∀ p, p = part0 s ∨ p = part1 s → p.length ≤ 9 ∧ ∀ q ∈ p, q ∈ signsOf s := fun p hp => by
    rcases hp with rfl | rfl
    · exact ⟨by lia, fun q hq => part_mem s q (.inl hq)⟩
    · exact ⟨hp1, fun q hq => part_mem s q (.inr hq)⟩
  have tl : ∀ p, p = part0 s ∨ p = part1 s → (∀ c ∈ typ p, c < 0x110000) ∧ (typ p).length ≤ 100 := fun p hp => by
    obtain ⟨a, b⟩ := hin p hp
    refine ⟨fun c hc => ?_, ?_⟩
    · obtain ⟨l, hl, hc⟩ := List.mem_flatten.mp hc
      obtain ⟨q, hq, rfl⟩ := List.mem_map.mp hl
      exact (G.low q (b q hq)).1 c hc
    · have := typ_len (p := p) (n := 1) fun q hq => (G.low q (b q hq)).2.2.1
      unfold typ; rw [List.length_flatten]; lia
  have ll : ∀ p, p = part0 s ∨ p = part1 s → (∀ c ∈ ltr p, 97 ≤ c ∧ c < 123 ∧ c ≠ 98) ∧ (ltr p).length ≤ 27 := fun p hp => by
    obtain ⟨a, b⟩ := hin p hp
    refine ⟨fun c hc => ?_, ?_⟩
    · obtain ⟨l, hl, hc⟩ := List.mem_flatten.mp hc
      obtain ⟨q, hq, rfl⟩ := List.mem_map.mp hl
      have := (G.low q (b q hq)).2.1 c hc
      exact ⟨this.1, this.2, L.nob s q (b q hq) c hc⟩
    · have := ltr_len (p := p) (n := 3) fun q hq => (G.low q (b q hq)).2.2.2
      unfold ltr; rw [List.length_flatten]; lia
  refine ⟨?_, fun c hc => ?_, tl _ (.inl rfl), tl _ (.inr rfl)⟩
  · have := (ll _ (.inl rfl)).2
    have := (ll _ (.inr rfl)).2
    lia
  · rcases List.mem_append.mp hc with h | h
    · exact (ll _ (.inl rfl)).1 c h
    · exact (ll _ (.inr rfl)).1 c h
section
variable {C : Cx} {N : Addr} {mN : Str → Option Value} {S : Int → Bool} {D : List (PyData × PyData)} {tT tA uT uA uc : Addr} (T : Top1 C N mN S D tT tA uT uA uc) {k : Nat} {σ : Sto}
include T
theorem w_law (L : Plain1 S D) {s : List Int} {K : PV → Sto → Prop} (hs : s.length ≤ 63) (hne : tT ≠ uT) (hT : (tT, AO.tab) ∈ σ) (hT2 : (uT, AO.tab) ∈ σ) (h : K (.bool true) [(tT, .tab), (uT, .tab)]) :
    Ex C (k + 5) (fScope (stAt 16)) [("script", .list (s.map .int))] σ (fBody (stAt 16)) (fun g _ σ' => match g with | .ret d => K d σ' | .next => K .none σ' | _ => False) :=
  w_law_a T (L.good s) hs (w_law_b T (words_of L s) (cellsN_len s) (w_law_c T (words_of L s) (cellsN_len s) (opt_is _ _) (opt_is _ _) (opt_is _ _) (opt_is _ _) hne hT hT2 fun _ => h))
end
end Mine
end U36
section J10
open PySem PySem.W PyProof.Rows
set_option maxRecDepth 1000000
namespace Mine
noncomputable section
noncomputable def YP (w : World) (h : Heap) : Prop := ∀ p ∈ KF w.params, h.get? p.1 = some p.2
theorem yp_of (w : World) (s : Shared) (e : kYf s = kYa w) : YP w s.heap := by
  have e' : (KF w.params).map (fun p => s.heap.get? p.1) = (KF w.params).map fun p => some p.2 := by
    have : kYf s = (KF w.params).map (fun p => s.heap.get? p.1) := by
      show kAs.map s.heap.get? = _
      rw [kf_addrs w.params, List.map_map]; rfl
    rw [← this]; exact e
  exact fun p hp => List.map_inj_left.mp e' p hp
theorem yp_keep (w : World) (h h' : Heap) (y : YP w h) (k : ∀ b o, h.get? b = some o → h'.get? b = some o) : YP w h' := fun p hp => k _ _ (y p hp)
noncomputable def dictEs (o : Obj) : Array DictEntry := match o.data with | .dict es _ => es | _ => #[]
noncomputable def nsOf (o : Obj) : Str → Option Value := fun x => nsFind (dictEs o) x
noncomputable def isD (o : Obj) : Bool := match o.data with | .dict es _ => es.all (fun e => match e.key with | .str _ _ => true | _ => false) | _ => false
theorem ns_of {h : Heap} {a : Addr} {o : Obj} (e : h.get? a = some o) (d : isD o = true) : h.Ns a (nsOf o) := by
  have h1 : h.isNs a = true := by unfold Heap.isNs; rw [e]; exact d
  have h2 := Heap.Ns.of_isNs h1
  have h3 : h.nsMap a = nsOf o := by
    funext x
    unfold Heap.nsMap nsOf dictEs
    rw [e]
    dsimp only
    unfold isD at d
    cases hd : o.data <;> rw [hd] at d <;> simp at d ⊢
  rwa [h3] at h2
noncomputable def tabA : Addr := 148
noncomputable def tabS : Addr := 160
noncomputable def YQ (w : World) (h : Heap) : Prop := ∀ p ∈ KF w.params, p.1 ≠ tabA ∧ p.1 ≠ tabS → h.get? p.1 = some p.2
theorem YP.q {w : World} {h : Heap} (y : YP w h) : YQ w h := fun p hp _ => y p hp
theorem at_kf {w : World} {h : Heap} (y : YQ w h) (i : Nat) {a : Addr} {o : Obj} (e : (KF w.params)[i]? = some (a, o)) (ha : a ≠ tabA ∧ a ≠ tabS := by decide) : h.get? a = some o := y _ (List.mem_of_getElem? e) ha
theorem kf_low (w : World) : ∀ p ∈ KF w.params, p.1 < 176 := fun p hp => by
  have : p.1 ∈ kAs := by rw [kf_addrs w.params]; exact List.mem_map_of_mem hp
  exact (by decide : ∀ a ∈ kAs, a < 176) _ this
theorem d3 (w : World) : isD (o3f w.params) = true := by kernel_rfl
theorem d0 (w : World) : isD (boot_o_0 w.params) = true := by kernel_rfl
theorem d51 (w : World) : isD (o51b w.params) = true := by kernel_rfl
theorem d2 (w : World) : isD (boot_o_2 w.params) = true := by kernel_rfl
theorem nl (w : World) : nsOf (boot_o_2 w.params) "sys.recursionlimit" = none := by kernel_rfl
end
end Mine
end J10
section J11
open PySem PySem.W PyProof.Rows
set_option maxRecDepth 1000000
namespace Mine
noncomputable section
noncomputable def b1L : List Int := [65024, 65025, 65026, 65027, 65028, 65029, 6150, 65030, 65031, 65032, 65033, 6155, 6156, 6157, 8203, 8204, 8205, 65034, 65035, 65036, 65037, 65038, 65039, 173, 847, 8288, 65279]
noncomputable def b1S (i : Int) : Bool := decide (i ∈ b1L)
noncomputable def setEs (o : Obj) : Array (Int × Value) := match o.data with | .set es _ _ => es | _ => #[]
noncomputable def setTb (o : Obj) : Nat × SetTable := match o.data with | .set _ n t => (n, t) | _ => (0, .fresh 0 0 true)
theorem set_data (w : World) : (o71c w.params).data = .set (setEs (o71c w.params)) (setTb (o71c w.params)).1 (setTb (o71c w.params)).2 := rfl
theorem set_vals (w : World) : (setEs (o71c w.params)).toList.map (fun e => match e.2 with | .int i _ => some (e.1, i) | _ => none) = b1L.map fun i => some (hashInt i, i) := by kernel_rfl
theorem set_size (w : World) : (setEs (o71c w.params)).size = 27 := by kernel_rfl
theorem set_fits (w : World) : (setTb (o71c w.params)).2.fits 27 = true := by kernel_rfl
theorem set_at {w : World} {h : Heap} (e : h.get? 71 = some (o71c w.params)) : h.SetOf (intKind PR w) 71 b1S 27 := by
  have hv := set_vals w
  have hel : ∀ x ∈ (setEs (o71c w.params)).toList, ∃ i t, x = (hashInt i, .int i t) ∧ i ∈ b1L := fun x hx => by
    have h1 : (match x.2 with | .int i _ => some (x.1, i) | _ => none) ∈ (setEs (o71c w.params)).toList.map (fun e => match e.2 with | .int i _ => some (e.1, i) | _ => none) := List.mem_map_of_mem hx
    rw [hv] at h1
    obtain ⟨i, hi, e⟩ := List.mem_map.mp h1
    obtain ⟨x1, x2⟩ := x
    cases x2 <;> simp at e
    obtain ⟨rfl, rfl⟩ := e
    exact ⟨i, _, rfl, hi⟩
  refine ⟨_, _, _, _, e, ⟨rfl, rfl, rfl⟩, set_data w, fun x hx => ?_, fun k => ?_, by rw [set_size]; decide, by rw [set_size]; exact set_fits w, set_size w⟩
  · obtain ⟨i, t, rfl, _⟩ := hel x hx
    exact ⟨⟨i, intKind_is _ _ _ _, rfl⟩, rfl⟩
  · unfold b1S
    rw [decide_eq_true_eq]
    constructor
    · intro hk
      have h1 : some (hashInt k, k) ∈ b1L.map fun i => some (hashInt i, i) := List.mem_map_of_mem hk
      rw [← hv] at h1
      obtain ⟨x, hx, e⟩ := List.mem_map.mp h1
      obtain ⟨i, t, rfl, _⟩ := hel x hx
      simp at e
      exact ⟨_, hx, by rw [e.2]; exact intKind_is _ _ _ _⟩
    · rintro ⟨x, hx, hk⟩
      obtain ⟨i, t, rfl, hi⟩ := hel x hx
      have : k = i := by
        have h1 : (intKind PR w).is i (.int i t) = true := intKind_is _ _ _ _
        exact (intKind PR w).inj _ _ _ hk h1
      rw [this]; exact hi
noncomputable def b3D : List (PyData × PyData) := dPE.map fun a => (.int a.k, .str a.x)
theorem ents_pairs {w : World} (st : Nat) : ∀ (t : Nat) (L : List PE), ∃ kvs : List (Int × Value), Pairs (intKind PR w) (ents st t L) kvs ∧ kvs.map (·.1) = L.map PE.k ∧ PyProof.V.FlatPairs PyData.int kvs (L.map fun a => (.int a.k, .str a.x)) ∧ ∀ e ∈ ents st t L, ∃ k, (intKind PR w).is k e.key = true ∧ e.hash = (intKind PR w).hash k
  | _, [] => ⟨[], .nil, rfl, .nil, fun e he => by cases he⟩
  | t, a :: r => by
    obtain ⟨kvs, h1, h2, h3, h4⟩ := ents_pairs (w := w) st (t + st) r
    refine ⟨(a.k, .str a.x (t + 1)) :: kvs, .cons (intKind_is _ _ _ _) rfl h1, by rw [List.map_cons, List.map_cons, h2], .cons ?_ h3, fun e he => ?_⟩
    · exact PyProof.V.Flat.str _ _
    · rcases List.mem_cons.mp he with rfl | he
      · exact ⟨a.k, intKind_is _ _ _ _, rfl⟩
      · exact h4 e he
theorem pairs_app {w : World} {es es' : List DictEntry} {kvs kvs' : List (Int × Value)} (h : Pairs (intKind PR w) es kvs) (h' : Pairs (intKind PR w) es' kvs') : Pairs (intKind PR w) (es ++ es') (kvs ++ kvs') := by
  induction h with
  | nil => exact h'
  | cons a b _ ih => exact .cons a b ih
theorem flat_app {kvs kvs' : List (Int × Value)} {D D' : List (PyData × PyData)} (h : PyProof.V.FlatPairs PyData.int kvs D) (h' : PyProof.V.FlatPairs PyData.int kvs' D') : PyProof.V.FlatPairs PyData.int (kvs ++ kvs') (D ++ D') := by
  induction h with
  | nil => exact h'
  | cons a _ ih => exact .cons a ih
theorem incr_nodup : ∀ {l : List PE} {lo : Int}, incrB lo l = true → (l.map PE.k).Nodup
  | [], _, _ => List.nodup_nil
  | a :: r, lo, h => by
    simp only [incrB, Bool.and_eq_true, decide_eq_true_eq] at h
    rw [List.map_cons, List.nodup_cons]
    refine ⟨fun q => ?_, incr_nodup h.2.2⟩
    obtain ⟨b, hb, e⟩ := List.mem_map.mp q
    have := (incr_gt h.2.2 b hb).1
    lia
theorem dict_at {w : World} {h : Heap} (e : h.get? 82 = some mdict) : IntTab PR w h 82 b3D := by
  have e1 : (chop 37 (dPE.drop 17)).flatten ++ dPE.drop 646 = dPE.drop 17 := by
    have := chop_flatten 37 (dPE.drop 17)
    rwa [List.drop_drop] at this
  have e2 : (dPE.take 17 ++ (chop 37 (dPE.drop 17)).flatten) ++ dPE.drop 646 = dPE := by rw [List.append_assoc, e1, List.take_append_drop]
  obtain ⟨k₁, a1, a2, a3, a4⟩ := ents_pairs (w := w) 3 329 (dPE.take 17 ++ (chop 37 (dPE.drop 17)).flatten)
  obtain ⟨k₂, b1, b2, b3, b4⟩ := ents_pairs (w := w) 2 (329 + 3 * 646) (dPE.drop 646)
  refine ⟨by decide, k₁ ++ k₂, ⟨_, _, _, e, ⟨rfl, rfl, rfl⟩, rfl, fun x hx => ?_, ?_, ?_⟩, ?_⟩
  · have hx' := Array.mem_toList_iff.mpr hx
    rcases List.mem_append.mp hx' with q | q
    · exact a4 x q
    · exact b4 x q
  · exact pairs_app a1 b1
  · rw [List.map_append, a2, b2, ← List.map_append, e2]; exact incr_nodup d_incr
  · have := flat_app a3 b3
    rw [← List.map_append, e2] at this
    exact this
end
end Mine
end J11
section J12
open PySem PySem.W PyProof.Rows
set_option maxRecDepth 1000000
namespace Mine
noncomputable section
theorem len1' {α : Type} {l : List α} (h : l.length = 1) : ∃ a, l = [a] := by
  cases l with | nil => cases h | cons a r => exact ⟨a, by rw [List.length_eq_zero_iff.mp (Nat.succ.inj h)]⟩
theorem len2' {α : Type} {l : List α} (h : l.length = 2) : ∃ a b, l = [a, b] := by
  cases l with | nil => cases h | cons a r => obtain ⟨b, rfl⟩ := len1' (Nat.succ.inj h); exact ⟨a, b, rfl⟩
theorem len3' {α : Type} {l : List α} (h : l.length = 3) : ∃ a b c, l = [a, b, c] := by
  cases l with | nil => cases h | cons a r => obtain ⟨b, c, rfl⟩ := len2' (Nat.succ.inj h); exact ⟨a, b, c, rfl⟩
theorem len4' {α : Type} {l : List α} (h : l.length = 4) : ∃ a b c d, l = [a, b, c, d] := by
  cases l with | nil => cases h | cons a r => obtain ⟨b, c, d, rfl⟩ := len3' (Nat.succ.inj h); exact ⟨a, b, c, d, rfl⟩
theorem len5' {α : Type} {l : List α} (h : l.length = 5) : ∃ a b c d e, l = [a, b, c, d, e] := by
  cases l with | nil => cases h | cons a r => obtain ⟨b, c, d, e, rfl⟩ := len4' (Nat.succ.inj h); exact ⟨a, b, c, d, e, rfl⟩
theorem fn_at {C : Cx} {w : World} (hC : ∀ h, C.gi h → YQ w h) {a c : Addr} {i j : Nat} {names : List String} {st : Stmt} {o co : Obj} {fd : FuncData} (e : (KF w.params)[i]? = some (a, o)) (ec : (KF w.params)[j]? = some (c, co)) (hd : o.data = .func fd)
    (hcode : fd.code = .ref c) (hco : ∃ vs t, co.data = .fields vs ∧ vs[1]? = some (.str fd.qualname t)) (hb : fd.body = .stmts (fBody st) ∧ fd.scope = fScope st ∧ fd.closure = [] ∧ fd.globals = mainGlobals ∧ fd.builtins = builtinsNs)
    (hbind : ∀ vals : List Value, vals.length = names.length → bindArgs fd ⟨vals, []⟩ = pure ((names.map Str.ofString).zip vals)) (ha : (a ≠ tabA ∧ a ≠ tabS) ∧ c ≠ tabA ∧ c ≠ tabS := by decide) : FnAt C a names (fScope st) (fBody st) := fun h g => by
  obtain ⟨vs, t, h1, h2⟩ := hco
  exact ⟨o, fd, at_kf (hC h g) i e ha.1, hd, ⟨c, co, vs, t, hcode, at_kf (hC h g) j ec ha.2, h1, h2⟩, hb.1, hb.2.1, hb.2.2.1, hb.2.2.2.1, hb.2.2.2.2, hbind⟩
theorem bind_Entry_init (w : World) {fd : FuncData} (e : (o28b w.params).data = .func fd) : ∀ vals : List Value, vals.length = (["self"] : List String).length → bindArgs fd ⟨vals, []⟩ = pure (((["self"] : List String).map Str.ofString).zip vals) := by
  obtain rfl : _ = fd := Data.func.inj e
  intro vals hv
  obtain ⟨v0, rfl⟩ := len1' hv
  kernel_rfl
theorem fn_Entry_init {C : Cx} {w : World} (hC : ∀ h, C.gi h → YQ w h) : FnAt C 28 ["self"] (fScope (inCls (stAt 1) 0)) (fBody (inCls (stAt 1) 0)) :=
  fn_at hC (i := 28) (j := 27) (o := o28b w.params) (co := o27b w.params) rfl rfl rfl rfl ⟨_, _, rfl, rfl⟩ ⟨rfl, rfl, rfl, rfl, rfl⟩ (bind_Entry_init w rfl)
theorem bind_Entry_applies_to (w : World) {fd : FuncData} (e : (o42b w.params).data = .func fd) : ∀ vals : List Value, vals.length = (["self", "useragent"] : List String).length → bindArgs fd ⟨vals, []⟩ = pure (((["self", "useragent"] : List String).map Str.ofString).zip vals) := by
  obtain rfl : _ = fd := Data.func.inj e
  intro vals hv
  obtain ⟨v0, v1, rfl⟩ := len2' hv
  kernel_rfl
theorem fn_Entry_applies_to {C : Cx} {w : World} (hC : ∀ h, C.gi h → YQ w h) : FnAt C 42 ["self", "useragent"] (fScope (inCls (stAt 1) 2)) (fBody (inCls (stAt 1) 2)) :=
  fn_at hC (i := 42) (j := 41) (o := o42b w.params) (co := o41b w.params) rfl rfl rfl rfl ⟨_, _, rfl, rfl⟩ ⟨rfl, rfl, rfl, rfl, rfl⟩ (bind_Entry_applies_to w rfl)
theorem bind_Entry_allowance (w : World) {fd : FuncData} (e : (o49b w.params).data = .func fd) : ∀ vals : List Value, vals.length = (["self", "filename"] : List String).length → bindArgs fd ⟨vals, []⟩ = pure (((["self", "filename"] : List String).map Str.ofString).zip vals) := by
  obtain rfl : _ = fd := Data.func.inj e
  intro vals hv
  obtain ⟨v0, v1, rfl⟩ := len2' hv
  kernel_rfl
theorem fn_Entry_allowance {C : Cx} {w : World} (hC : ∀ h, C.gi h → YQ w h) : FnAt C 49 ["self", "filename"] (fScope (inCls (stAt 1) 3)) (fBody (inCls (stAt 1) 3)) :=
  fn_at hC (i := 49) (j := 48) (o := o49b w.params) (co := o48b w.params) rfl rfl rfl rfl ⟨_, _, rfl, rfl⟩ ⟨rfl, rfl, rfl, rfl, rfl⟩ (bind_Entry_allowance w rfl)
theorem bind_merge_entries (w : World) {fd : FuncData} (e : (o63b w.params).data = .func fd) : ∀ vals : List Value, vals.length = (["e1", "e2"] : List String).length → bindArgs fd ⟨vals, []⟩ = pure (((["e1", "e2"] : List String).map Str.ofString).zip vals) := by
  obtain rfl : _ = fd := Data.func.inj e
  intro vals hv
  obtain ⟨v0, v1, rfl⟩ := len2' hv
  kernel_rfl
theorem fn_merge_entries {C : Cx} {w : World} (hC : ∀ h, C.gi h → YQ w h) : FnAt C 63 ["e1", "e2"] (fScope (stAt 2)) (fBody (stAt 2)) :=
  fn_at hC (i := 63) (j := 62) (o := o63b w.params) (co := o62b w.params) rfl rfl rfl rfl ⟨_, _, rfl, rfl⟩ ⟨rfl, rfl, rfl, rfl, rfl⟩ (bind_merge_entries w rfl)
theorem bind_in_table_b1 (w : World) {fd : FuncData} (e : (o81d w.params).data = .func fd) : ∀ vals : List Value, vals.length = (["code"] : List String).length → bindArgs fd ⟨vals, []⟩ = pure (((["code"] : List String).map Str.ofString).zip vals) := by
  obtain rfl : _ = fd := Data.func.inj e
  intro vals hv
  obtain ⟨v0, rfl⟩ := len1' hv
  kernel_rfl
theorem fn_in_table_b1 {C : Cx} {w : World} (hC : ∀ h, C.gi h → YQ w h) : FnAt C 81 ["code"] (fScope (stAt 5)) (fBody (stAt 5)) :=
  fn_at hC (i := 81) (j := 80) (o := o81d w.params) (co := o80d w.params) rfl rfl rfl rfl ⟨_, _, rfl, rfl⟩ ⟨rfl, rfl, rfl, rfl, rfl⟩ (bind_in_table_b1 w rfl)
theorem bind_map_table_b3 (w : World) {fd : FuncData} (e : (o127f w.params).data = .func fd) : ∀ vals : List Value, vals.length = (["code"] : List String).length → bindArgs fd ⟨vals, []⟩ = pure (((["code"] : List String).map Str.ofString).zip vals) := by
  obtain rfl : _ = fd := Data.func.inj e
  intro vals hv
  obtain ⟨v0, rfl⟩ := len1' hv
  kernel_rfl
theorem fn_map_table_b3 {C : Cx} {w : World} (hC : ∀ h, C.gi h → YQ w h) : FnAt C 127 ["code"] (fScope (stAt 7)) (fBody (stAt 7)) :=
  fn_at hC (i := 89) (j := 88) (o := o127f w.params) (co := o126f w.params) rfl rfl rfl rfl ⟨_, _, rfl, rfl⟩ ⟨rfl, rfl, rfl, rfl, rfl⟩ (bind_map_table_b3 w rfl)
theorem bind_law_cells (w : World) {fd : FuncData} (e : (o134f w.params).data = .func fd) : ∀ vals : List Value, vals.length = (["script"] : List String).length → bindArgs fd ⟨vals, []⟩ = pure (((["script"] : List String).map Str.ofString).zip vals) := by
  obtain rfl : _ = fd := Data.func.inj e
  intro vals hv
  obtain ⟨v0, rfl⟩ := len1' hv
  kernel_rfl
theorem fn_law_cells {C : Cx} {w : World} (hC : ∀ h, C.gi h → YQ w h) : FnAt C 134 ["script"] (fScope (stAt 9)) (fBody (stAt 9)) :=
  fn_at hC (i := 96) (j := 95) (o := o134f w.params) (co := o133f w.params) rfl rfl rfl rfl ⟨_, _, rfl, rfl⟩ ⟨rfl, rfl, rfl, rfl, rfl⟩ (bind_law_cells w rfl)
theorem bind_law_sign (w : World) {fd : FuncData} (e : (o141f w.params).data = .func fd) : ∀ vals : List Value, vals.length = (["family", "cell"] : List String).length → bindArgs fd ⟨vals, []⟩ = pure (((["family", "cell"] : List String).map Str.ofString).zip vals) := by
  obtain rfl : _ = fd := Data.func.inj e
  intro vals hv
  obtain ⟨v0, v1, rfl⟩ := len2' hv
  kernel_rfl
theorem fn_law_sign {C : Cx} {w : World} (hC : ∀ h, C.gi h → YQ w h) : FnAt C 141 ["family", "cell"] (fScope (stAt 10)) (fBody (stAt 10)) :=
  fn_at hC (i := 103) (j := 102) (o := o141f w.params) (co := o140f w.params) rfl rfl rfl rfl ⟨_, _, rfl, rfl⟩ ⟨rfl, rfl, rfl, rfl, rfl⟩ (bind_law_sign w rfl)
theorem bind_law_prepared (w : World) {fd : FuncData} (e : (o146f w.params).data = .func fd) : ∀ vals : List Value, vals.length = (["text"] : List String).length → bindArgs fd ⟨vals, []⟩ = pure (((["text"] : List String).map Str.ofString).zip vals) := by
  obtain rfl : _ = fd := Data.func.inj e
  intro vals hv
  obtain ⟨v0, rfl⟩ := len1' hv
  kernel_rfl
theorem fn_law_prepared {C : Cx} {w : World} (hC : ∀ h, C.gi h → YQ w h) : FnAt C 146 ["text"] (fScope (stAt 11)) (fBody (stAt 11)) :=
  fn_at hC (i := 108) (j := 107) (o := o146f w.params) (co := o145f w.params) rfl rfl rfl rfl ⟨_, _, rfl, rfl⟩ ⟨rfl, rfl, rfl, rfl, rfl⟩ (bind_law_prepared w rfl)
theorem bind_law_rule (w : World) {fd : FuncData} (e : (o153f w.params).data = .func fd) : ∀ vals : List Value, vals.length = (["front", "word"] : List String).length → bindArgs fd ⟨vals, []⟩ = pure (((["front", "word"] : List String).map Str.ofString).zip vals) := by
  obtain rfl : _ = fd := Data.func.inj e
  intro vals hv
  obtain ⟨v0, v1, rfl⟩ := len2' hv
  kernel_rfl
theorem bind_law_record (w : World) {fd : FuncData} (e : (o158f w.params).data = .func fd) : ∀ vals : List Value, vals.length = (["agents", "fronts", "word", "delay", "rate"] : List String).length → bindArgs fd ⟨vals, []⟩ = pure (((["agents", "fronts", "word", "delay", "rate"] : List String).map Str.ofString).zip vals) := by
  obtain rfl : _ = fd := Data.func.inj e
  intro vals hv
  obtain ⟨v0, v1, v2, v3, v4, rfl⟩ := len5' hv
  kernel_rfl
theorem fn_law_record {C : Cx} {w : World} (hC : ∀ h, C.gi h → YQ w h) : FnAt C 158 ["agents", "fronts", "word", "delay", "rate"] (fScope (stAt 13)) (fBody (stAt 13)) :=
  fn_at hC (i := 120) (j := 119) (o := o158f w.params) (co := o157f w.params) rfl rfl rfl rfl ⟨_, _, rfl, rfl⟩ ⟨rfl, rfl, rfl, rfl, rfl⟩ (bind_law_record w rfl)
theorem bind_law_spoil (w : World) {fd : FuncData} (e : (o165f w.params).data = .func fd) : ∀ vals : List Value, vals.length = (["record"] : List String).length → bindArgs fd ⟨vals, []⟩ = pure (((["record"] : List String).map Str.ofString).zip vals) := by
  obtain rfl : _ = fd := Data.func.inj e
  intro vals hv
  obtain ⟨v0, rfl⟩ := len1' hv
  kernel_rfl
theorem bind_law_rows (w : World) {fd : FuncData} (e : (o170f w.params).data = .func fd) : ∀ vals : List Value, vals.length = (["record"] : List String).length → bindArgs fd ⟨vals, []⟩ = pure (((["record"] : List String).map Str.ofString).zip vals) := by
  obtain rfl : _ = fd := Data.func.inj e
  intro vals hv
  obtain ⟨v0, rfl⟩ := len1' hv
  kernel_rfl
theorem fn_law_rows {C : Cx} {w : World} (hC : ∀ h, C.gi h → YQ w h) : FnAt C 170 ["record"] (fScope (stAt 15)) (fBody (stAt 15)) :=
  fn_at hC (i := 132) (j := 131) (o := o170f w.params) (co := o169f w.params) rfl rfl rfl rfl ⟨_, _, rfl, rfl⟩ ⟨rfl, rfl, rfl, rfl, rfl⟩ (bind_law_rows w rfl)
theorem bind_law (w : World) {fd : FuncData} (e : (o175f w.params).data = .func fd) : ∀ vals : List Value, vals.length = (["script"] : List String).length → bindArgs fd ⟨vals, []⟩ = pure (((["script"] : List String).map Str.ofString).zip vals) := by
  obtain rfl : _ = fd := Data.func.inj e
  intro vals hv
  obtain ⟨v0, rfl⟩ := len1' hv
  kernel_rfl
theorem fn_law {C : Cx} {w : World} (hC : ∀ h, C.gi h → YQ w h) : FnAt C 175 ["script"] (fScope (stAt 16)) (fBody (stAt 16)) :=
  fn_at hC (i := 137) (j := 136) (o := o175f w.params) (co := o174f w.params) rfl rfl rfl rfl ⟨_, _, rfl, rfl⟩ ⟨rfl, rfl, rfl, rfl, rfl⟩ (bind_law w rfl)
end
end Mine
end J12
section J13
open PySem PySem.W PyProof.Rows
set_option maxRecDepth 1000000
namespace Mine
noncomputable section
noncomputable def ruleX (base : Nat) : Ext := fun t x P h v => match t with
  | 0 => RuleIs base lam1 x P h v
  | 1 => RuleV x P h v
  | _ => False
theorem ruleX_ok (base : Nat) : ExtOk (ruleX base) := fun t x P h P' h' v q g => by
  match t, q with
  | 0, q => exact RuleIs.pass q g
  | 1, q => exact RuleV.pass q g
noncomputable def cx1 (w : World) (base : Nat) (hb : 176 ≤ base) : Cx where
  prog := PR
  w := w
  tb := []
  base := base
  cls := 52
  X := extX PR w (ruleX base)
  extOk := extX_ok (ruleX_ok base)
  gi := fun h => base ≤ h.objs.size ∧ YQ w h
  mg := nsOf (o3f w.params)
  mb := nsOf (boot_o_0 w.params)
  g := fun {h} g => ns_of (at_kf g.2 3 rfl) (d3 w)
  b := fun {h} g => ns_of (at_kf g.2 0 rfl) (d0 w)
  nolimit := fun {h} g => ⟨_, ns_of (at_kf g.2 2 rfl) (d2 w), nl w⟩
  low := fun {h} g => g.1
  low2 := by omega
  tab := fun a => a = tabA ∨ a = tabS
  T := fun P h a => TabAt (if a = tabS then qSp else qLam) P h a
  tOk := fun P h P' h' a t g k => t.pass g k
  tLt := fun P h a t => t.lt
  keep := fun {h h'} g k z => ⟨Nat.le_trans g.1 z, fun p hp hn => k _ _ ⟨Nat.lt_of_lt_of_le (kf_low w p hp) hb, fun q => q.elim hn.1 hn.2⟩ (g.2 p hp hn)⟩
  tbLow := fun a ha => by cases ha
theorem gi3 {w : World} {base : Nat} {hb : 176 ≤ base} : ∀ h, (cx1 w base hb).gi h → YQ w h := fun h g => g.2
section
variable (w : World) (base : Nat) (hb : 176 ≤ base)
theorem blt3 {x : Str} {v : Value} (h1 : nsOf (o3f w.params) x = none) (h2 : nsOf (boot_o_0 w.params) x = some v) : Blt (cx1 w base hb) x v := ⟨h1, h2⟩
theorem cls3 : ClsOk (cx1 w base hb) 51 (nsOf (o51b w.params)) := fun h g => ⟨⟨_, _, _, _, _, _, _, _, _, _, _, _, at_kf (a := 52) g.2 52 rfl⟩, ns_of (at_kf g.2 51 rfl) (d51 w)⟩
theorem isfn {a i : Nat} {o : Obj} {fd : FuncData} (e : (KF w.params)[i]? = some (a, o)) (hc : o.cls = .type "function") (hd : o.data = .func fd) (ha : a ≠ tabA ∧ a ≠ tabS := by decide) : ∀ h, (cx1 w base hb).gi h → ∃ ob fd, h.get? a = some ob ∧ ob.cls = .type "function" ∧ ob.data = .func fd := fun h g => ⟨o, fd, at_kf g.2 i e ha, hc, hd⟩
theorem setsX3 : SetsX (cx1 w base hb) := fun x P h v => ⟨Iff.rfl, Iff.rfl⟩
theorem rulesX1 : RulesX (cx1 w base hb) lam1 := fun x P h v => Iff.rfl
theorem rulesV1 : RulesV (cx1 w base hb) := fun x P h v => Iff.rfl
theorem no_ua : typeLookup (.type "object") (Str.ofString "useragents") = pure none := by rw [typeLookup_type, builtinLookup_eq_fast]; kernel_rfl
theorem no_rl : typeLookup (.type "object") (Str.ofString "rulelines") = pure none := by rw [typeLookup_type, builtinLookup_eq_fast]; kernel_rfl
theorem no_dl : typeLookup (.type "object") (Str.ofString "delay") = pure none := by rw [typeLookup_type, builtinLookup_eq_fast]; kernel_rfl
theorem no_rr : typeLookup (.type "object") (Str.ofString "req_rate") = pure none := by rw [typeLookup_type, builtinLookup_eq_fast]; kernel_rfl
theorem topE3 : TopE (cx1 w base hb) 51 (nsOf (o51b w.params)) where
  ok := cls3 w base hb
  name := by show nsOf (o3f w.params) "Entry" = some (.ref 52); kernel_rfl
  low := Nat.lt_of_lt_of_le (by decide : 52 < 176) hb
  noGa := by kernel_rfl
  noGh := by kernel_rfl
  noSa := by kernel_rfl
  ua := ⟨by kernel_rfl, no_ua⟩
  rl := ⟨by kernel_rfl, no_rl⟩
  dl := ⟨by kernel_rfl, no_dl⟩
  rr := ⟨by kernel_rfl, no_rr⟩
  init := ⟨28, by kernel_rfl, fun h g => ⟨_, at_kf g.2 28 rfl, rfl⟩, fn_Entry_init gi3⟩
  appl := ⟨42, by kernel_rfl, isfn w base hb (i := 42) rfl rfl rfl, fn_Entry_applies_to gi3⟩
  allow := ⟨49, by kernel_rfl, isfn w base hb (i := 49) rfl rfl rfl, fn_Entry_allowance gi3⟩
  setsX := setsX3 w base hb
  set := blt3 w base hb (by kernel_rfl) (by kernel_rfl)
  list := blt3 w base hb (by kernel_rfl) (by kernel_rfl)
  filter := blt3 w base hb (by kernel_rfl) (by kernel_rfl)
  merge := ⟨63, by show nsOf (o3f w.params) "merge_entries" = _; kernel_rfl, fn_merge_entries gi3⟩
theorem topB3 : TopB (cx1 w base hb) b1S b3D where
  ord := blt3 w base hb (by kernel_rfl) (by kernel_rfl)
  b1s := ⟨71, 27, by show nsOf (o3f w.params) "b1_set" = _; kernel_rfl, fun h g => set_at (at_kf g.2 71 rfl)⟩
  b3s := ⟨82, by show nsOf (o3f w.params) "b3_exceptions" = _; kernel_rfl, fun h g => dict_at (at_kf g.2 82 rfl)⟩
  b1 := ⟨81, by show nsOf (o3f w.params) "in_table_b1" = _; kernel_rfl, fn_in_table_b1 gi3⟩
  b3 := ⟨127, by show nsOf (o3f w.params) "map_table_b3" = _; kernel_rfl, fn_map_table_b3 gi3⟩
theorem blt_mod : nsOf (o3f w.params) "__builtins__" = some (.ref 4) := by kernel_rfl
theorem ruleFn1 : RuleFn (cx1 w base hb) lam1 tabA 153 ["front", "word"] (fScope (stAt 12)) (fBody (stAt 12)) where
  fn := fun h g => ⟨o153f w.params, _, 152, at_kf g.2 115 rfl, rfl, ⟨152, _, _, _, rfl, at_kf g.2 114 rfl, rfl, rfl⟩, rfl, rfl, rfl, rfl, rfl, rfl, rfl,
    ⟨_, _, _, _, _, _, _, _, _, at_kf g.2 114 rfl, rfl, rfl, rfl, rfl, rfl, rfl, rfl, rfl, by decide⟩, bind_law_rule w rfl⟩
  tab := .inl rfl
  tIs := fun P h => Iff.rfl
  ne := by decide
  blt := fun h g => ⟨4, _, blt_mod w, by decide, by decide, by decide, at_kf g.2 4 rfl, rfl, rfl, rfl⟩
  tb := rfl
theorem topOne : Top1 (cx1 w base hb) 51 (nsOf (o51b w.params)) b1S b3D tabA 153 tabS 165 164 where
  B := topB3 w base hb
  E := topE3 w base hb
  chr := blt3 w base hb (by kernel_rfl) (by kernel_rfl)
  len := blt3 w base hb (by kernel_rfl) (by kernel_rfl)
  range := blt3 w base hb (by kernel_rfl) (by kernel_rfl)
  max := blt3 w base hb (by kernel_rfl) (by kernel_rfl)
  cells := ⟨134, by show nsOf (o3f w.params) "_law_cells" = _; kernel_rfl, fn_law_cells gi3⟩
  sign := ⟨141, by show nsOf (o3f w.params) "_law_sign" = _; kernel_rfl, fn_law_sign gi3⟩
  prep := ⟨146, by show nsOf (o3f w.params) "_law_prepared" = _; kernel_rfl, fn_law_prepared gi3⟩
  rule := ruleFn1 w base hb
  ruleAt := by show nsOf (o3f w.params) "_law_rule" = some (.ref 153); kernel_rfl
  record := ⟨158, by show nsOf (o3f w.params) "_law_record" = _; kernel_rfl, fn_law_record gi3⟩
  spoil := fun h g => ⟨o165f w.params, _, at_kf g.2 127 rfl, rfl, ⟨164, _, _, _, rfl, at_kf g.2 126 rfl, rfl, rfl⟩, rfl, rfl, rfl, rfl, rfl, rfl, rfl, bind_law_spoil w rfl⟩
  spoilAt := by show nsOf (o3f w.params) "_law_spoil" = some (.ref 165); kernel_rfl
  rows := ⟨170, by show nsOf (o3f w.params) "_law_rows" = _; kernel_rfl, fn_law_rows gi3⟩
  X := rulesX1 w base hb
  V := rulesV1 w base hb
  tab2 := .inr rfl
  tIs2 := fun P h => Iff.rfl
  ch2 := fun h g => ⟨_, _, _, _, _, _, _, _, _, at_kf g.2 126 rfl, rfl, rfl, rfl, rfl, rfl, rfl, rfl, rfl, by decide⟩
  ne2 := by decide
  blt2 := fun h g => ⟨4, _, blt_mod w, by decide, by decide, by decide, at_kf g.2 4 rfl, rfl, rfl, rfl⟩
end
end
end Mine
end J13
section J14
open PySem PySem.W PyProof.Rows
set_option maxRecDepth 1000000
namespace Mine
noncomputable section
theorem rd_ints {X : Ext} {P : Addr → Prop} {h : Heap} {Pm : Params} : ∀ {vs : List Value} {xs : List WData}, WellAll Pm h vs xs → (∀ x ∈ xs, ∃ i, x = .int i) → ∃ ns : List Int, xs = ns.map .int ∧ RdL X P h vs (ns.map .int)
  | _, _, .nil, _ => ⟨[], rfl, .nil⟩
  | _, _, .cons a r, h => by
    obtain ⟨i, rfl⟩ := h _ List.mem_cons_self
    obtain ⟨ns, e, q⟩ := rd_ints r fun x hx => h x (List.mem_cons_of_mem _ hx)
    cases a with
    | int i t => exact ⟨i :: ns, by rw [e]; rfl, .cons (.int i t) q⟩
theorem items_int : ∀ {xs : List WData}, WShape.hasItems [] xs .int = true → ∀ x ∈ xs, ∃ i, x = .int i
  | [], _, x, hx => by cases hx
  | a :: r, h, x, hx => by
    have h' : WShape.has [] a .int = true ∧ WShape.hasItems [] r .int = true := by simpa [WShape.hasItems] using h
    rcases List.mem_cons.mp hx with rfl | hx
    · exact hasW_int h'.1
    · exact items_int h'.2 x hx
theorem pre_script {l : OpenLaw} (hb : l.bound = none) (hm : l.most = some 63) {args : List WData} (hpre : l.row.claim.pre args = true) : ∃ xs, args = [.list xs] ∧ (∀ x ∈ xs, ∃ i, x = .int i) ∧ xs.length ≤ 63 := by
  obtain ⟨h1, h2⟩ := pre_splitW (r := l.row.toRowW) hpre
  obtain ⟨d, r, rfl, hd, hr⟩ := hasAllW_cons (R := []) (e := .list .int) (es := []) h1
  obtain rfl := hasAllW_nil hr
  obtain ⟨xs, rfl, hx⟩ := hasW_list hd
  refine ⟨xs, rfl, items_int hx, ?_⟩
  have h3 : l.pre.holds [] { args := [.list xs] } = true := h2
  unfold OpenLaw.pre WTm.holds at h3
  rw [hb, hm] at h3
  simp [WTm.value] at h3
  have e : less? (WData.int 63) (WData.int ↑xs.length) = some (decide ((63 : Int) < (xs.length : Int))) := rfl
  rw [e] at h3
  by_cases q : (63 : Int) < (xs.length : Int)
  · simp [q] at h3
  · omega
theorem room3 : Room callerA 20 := ⟨by decide, by decide, rfl⟩
theorem post_ok {l : OpenLaw} {args after : List WData} : l.row.claim.post args (.bool true) after = true := by
  have h1 : WShape.has [] (WData.bool true) .bool = true := by simp [WShape.has, WShape.arms]
  have h2 : (WTm.eq .res (.lit (.bool true))).holds [] { args := args, res := some (.bool true), after := after } = true := by
    unfold WTm.holds
    simp [WTm.value]
    have e : same (WData.bool true) (WData.bool true) = true := by unfold same; rfl
    rw [e]
  show (WShape.has [] (WData.bool true) .bool && (WTm.eq .res (.lit (.bool true))).holds [] { args := args, res := some (.bool true), after := after }) = true
  rw [h1, h2]; rfl
theorem said1 : PySem.Challenge.rw_rs0172_01.wellSaid = true := by kernel_rfl
set_option maxHeartbeats 1000000 in
theorem holds1 (L : Plain1 b1S b3D) : PySem.Challenge.rw_rs0172_01.Holds := by
  refine holds_law said1 fun said => ?_
  refine PySem.W.holds_open (q := qV) (loose := looseV) (Xt := fun _ => true) (XP := fun _ _ => True) (Yf := kYf) (Ya := kYa) (YP := YP) (N := 100000) left_ok yp_of yp_keep (fun _ _ => trivial) (fun _ _ _ _ _ => trivial) (by rfl) (by rfl) (by rfl) (fun s _ => recFacts_nil rfl) (by rfl) said (by decide +kernel) ⟨rfl, rfl, rfl, rfl, rfl, by decide +kernel⟩ ?hw ?walk
  case hw => w_witness2
  case walk =>
    intro w s₀ s₁ mg mb G Y a o pm cd doc dV kV ho hd hcd hD hmg hg args vals as hpre hlay hrd hwl hlo
    obtain ⟨xs, rfl, hi, h63⟩ := pre_script (l := PySem.Challenge.rw_rs0172_01) rfl rfl hpre
    cases hwl with
    | cons hv hr =>
    cases hr
    cases hv with
    | list he hw =>
    rename_i l vs
    have hb : 176 ≤ s₁.heap.objs.size := Heap.lt_size (at_kf Y.q 137 (a := 175) rfl)
    have Yq := Y.q
    have gi : (cx1 w s₁.heap.objs.size hb).gi s₁.heap := ⟨Nat.le_refl _, Yq⟩
    have t0 : s₁.heap.get? tabA = some (tabObj #[]) := Y _ (List.mem_of_getElem? (show (KF w.params)[110]? = some (tabA, o148f w.params) from rfl))
    have t0' : s₁.heap.get? tabS = some (tabObj #[]) := Y _ (List.mem_of_getElem? (show (KF w.params)[122]? = some (tabS, o160f w.params) from rfl))
    have hlt : ¬ (l = tabA ∨ l = tabS) := fun q => by
      rcases q with q | q
      · rw [q, t0] at he; cases he
      · rw [q, t0'] at he; cases he
    obtain ⟨ns, rfl, rl⟩ := rd_ints (X := (cx1 w s₁.heap.objs.size hb).X) (P := fun b => b = tabA ∨ b = tabS) hw hi
    have tab0 : (cx1 w s₁.heap.objs.size hb).T (fun b => b = tabA ∨ b = tabS) s₁.heap tabA := ⟨#[], t0, trivial, fun pos cv h => by cases h⟩
    have tab1 : (cx1 w s₁.heap.objs.size hb).T (fun b => b = tabA ∨ b = tabS) s₁.heap tabS := ⟨#[], t0', trivial, fun pos cv h => by cases h⟩
    have two : ∀ {p : Addr × AO}, p ∈ [(tabA, AO.tab), (tabS, AO.tab)] → p = (tabA, .tab) ∨ p = (tabS, .tab) := fun hp => by
      rcases List.mem_cons.mp hp with h | h
      · exact .inl h
      · exact .inr (List.mem_singleton.mp h)
    have twoD : ∀ {b : Addr}, b ∈ dom [(tabA, AO.tab), (tabS, AO.tab)] → b = tabA ∨ b = tabS := fun hb => by
      rcases List.mem_cons.mp hb with h | h
      · exact .inl h
      · exact .inr (List.mem_singleton.mp h)
    have H : Hp (cx1 w s₁.heap.objs.size hb) (fun b => b = tabA ∨ b = tabS) [(tabA, .tab), (tabS, .tab)] s₁.heap := ⟨gi, (fun a ao h => by
        rcases two h with e | e
        · cases e; exact tab0
        · cases e; exact tab1), (fun a h => absurd h List.not_mem_nil), (fun a h => ⟨twoD h, .inr (twoD h)⟩), (by simp [dom, AO.more, tabA, tabS]), (fun a h => by
        rcases h with h | h
        · rw [h]; exact Heap.lt_size t0
        · rw [h]; exact Heap.lt_size t0')⟩
    have ha : a = 175 := by
      have e1 := Heap.Ns.agree G.T.g (ns_of (at_kf Yq 3 rfl) (d3 w)) (Str.ofString "law")
      have e2 : nsOf (o3f w.params) (Str.ofString "law") = some (.ref 175) := by kernel_rfl
      have e3 := e1.trans e2
      have e4 : some (Value.ref a) = some (.ref 175) := by rw [← e3]; exact hmg.symm
      exact Value.ref.inj (Option.some.inj e4)
    subst ha
    have F := fn_law (C := cx1 w s₁.heap.objs.size hb) (w := w) gi3
    have op : OpL (cx1 w s₁.heap.objs.size hb) 20 [(tabA, .tab), (tabS, .tab)] [.list (ns.map .int)] (fun vs => PySem.call (.ref 175) vs) fun d σ' => d = .bool true ∧ σ' = [(tabA, .tab), (tabS, .tab)] :=
      Fn.call (k := 19) F (by decide +kernel) rfl (w_law (topOne w _ hb) (k := 14) L (by simpa using h63) (by decide) at0 at1 ⟨rfl, rfl⟩)
    refine wpAny_mono (op callerA (fun b => b = tabA ∨ b = tabS) s₁ [.ref l] room3 H (.cons (.list hlt he (by simpa using rl)) .nil)) (fun v s' out => ?_) fun _ _ (x : False) => x.elim
    obtain ⟨d, σ', ⟨rfl, rfl⟩, A, r⟩ := out
    cases r
    have keep : ∀ b o, ¬ (b = tabA ∨ b = tabS) → s₁.heap.get? b = some o → s'.heap.get? b = some o := fun b o hb' e => A.step.kept b o (fun q => hb' (twoD q)) (fun q => by cases q) (fun q => q) e
    have tb' : ∃ ps, s'.heap.get? tabA = some (tabObj ps) := by
      obtain ⟨ps, e, _⟩ := (A.hp.st _ _ at0 : TabAt qLam _ s'.heap tabA)
      exact ⟨ps, e⟩
    have tb2 : ∃ ps, s'.heap.get? tabS = some (tabObj ps) := by
      obtain ⟨ps, e, _⟩ := (A.hp.st _ _ at1 : TabAt qSp _ s'.heap tabS)
      exact ⟨ps, e⟩
    refine ⟨.inl ⟨_, .bool true, [], rfl, fun _ => rfl, .bool true, ?_, fun _ => ⟨List.nodup_nil, fun a ha => by cases ha⟩⟩, ?_, A.step.os, .of_eq (A.step.gens.trans hg)⟩
    · exact post_ok
    · obtain ⟨ps, hps⟩ := tb'
      obtain ⟨qs, hqs⟩ := tb2
      refine ⟨fun b o e => ?_, fun b o e => ?_⟩
      · by_cases hbt : b = tabA
        · subst hbt
          obtain rfl : o = tabObj #[] := Option.some.inj (e.symm.trans t0)
          refine .inr (.inl ⟨⟨152, _, _, at_kf (a := 152) Yq 114 rfl, rfl, rfl, rfl⟩, rfl, #[], ps, rfl, by rw [hps, Array.empty_append]⟩)
        · by_cases hbs : b = tabS
          · subst hbs
            obtain rfl : o = tabObj #[] := Option.some.inj (e.symm.trans t0')
            refine .inr (.inl ⟨⟨164, _, _, at_kf (a := 164) Yq 126 rfl, rfl, rfl, rfl⟩, rfl, #[], qs, rfl, by rw [hqs, Array.empty_append]⟩)
          · exact .inl (keep b o (fun q => q.elim hbt hbs) e)
      · by_cases hbt : b = tabA
        · subst hbt; exact ⟨_, hps⟩
        · by_cases hbs : b = tabS
          · subst hbs; exact ⟨_, hqs⟩
          · exact ⟨o, keep b o (fun q => q.elim hbt hbs) e⟩
end
end Mine
end J14
section T53
open PySem PySem.W PyProof.Rows
set_option maxRecDepth 100000
namespace Mine
noncomputable def qb (c : Nat) : Option (List Nat) := (dPE.find? fun a => a.k == (c : Int)).map fun a => a.x.cps.toList
theorem look_find (i : Int) : ∀ L : List PE, PySem.Spec.lookup (.int i) (L.map fun a => (PyData.int a.k, PyData.str a.x)) = (L.find? fun a => a.k == i).map fun a => .str a.x
  | [] => rfl
  | a :: r => by
    have e : PySem.Spec.same (.int a.k) (.int i) = (a.k == i) := by unfold PySem.Spec.same; rfl
    rw [List.map_cons, List.find?_cons]
    unfold PySem.Spec.lookup
    rw [e]
    cases a.k == i with
    | true => rfl
    | false => exact look_find i r
theorem b3of_qb (c : Nat) : b3of b3D c = (qb c).getD (lowerL [c]) := by
  unfold b3of b3D qb
  rw [look_find]
  cases dPE.find? fun a => a.k == (c : Int) <;> rfl
theorem low_len (c : Nat) : (lowerL [c]).length ≤ 3 := by
  have := len_lower (strL [c])
  simpa [lowerL, Str.length, strL] using this
theorem b3ok_qb (c : Nat) (h : (b3of b3D c).length ≤ 3) : b3ok b3D c = true := by
  have h1 := low_len c
  unfold b3ok
  rw [decide_eq_true h1, decide_eq_true h, Bool.and_true, Bool.and_true]
  unfold b3D
  rw [look_find]
  cases dPE.find? fun a => a.k == (c : Int) <;> rfl
theorem all_lt {p : Nat → Bool} {n i : Nat} (h : (List.range n).all p = true) (hi : i < n) : p i = true := List.all_eq_true.mp h i (List.mem_range.mpr hi)
noncomputable def isOne (a e : Nat) : Bool := decide ((qb a).getD (lowerL [a]) = [e]) && !b1S (a : Int) && decide (a < 0x110000)
noncomputable def isLtr (e : Nat) : Bool := decide (97 ≤ e ∧ e < 123 ∧ e ≠ 98)
noncomputable def isTx (tx : List Nat) : Bool := tx.all isLtr && decide (tx.length ≤ 3) && !decide (tx = [])
theorem f_letter : ((List.range 8).all fun f => (List.range 2).all fun i => isLtr (letter f i)) = true := by decide +kernel
theorem f_small : ((List.range 8).all fun f => (List.range 2).all fun i => isOne (letter f i) (letter f i)) = true := by decide +kernel
theorem f_great : ((List.range 8).all fun f => (List.range 2).all fun i => isOne (65 + letter f i - 97) (letter f i)) = true := by decide +kernel
theorem f_font : ((List.range 10).all fun j => (List.range 8).all fun f => (List.range 2).all fun i => isOne (fonts.getD j 0 + letter f i - 97) (letter f i)) = true := by decide +kernel
theorem f_code : ((List.range 8).all fun f => (List.range (codesT.getD f []).length).all fun j => decide (qb ((codesT.getD f []).getD j 0) = some ((textsT.getD f []).getD j [])) && !b1S (((codesT.getD f []).getD j 0 : Nat) : Int) && isTx ((textsT.getD f []).getD j [])) = true := by decide +kernel
theorem f_lone : ((List.range 27).all fun n => decide (qb (if n < 11 then lone.getD n 0 else 65013 + n) = none) && b1S ((if n < 11 then lone.getD n 0 else 65013 + n : Nat) : Int) && decide ((if n < 11 then lone.getD n 0 else 65013 + n) < 0x110000)) = true := by decide +kernel
noncomputable def SignOk (sg tx : List Nat) : Prop :=
  (sg = [] ∧ tx = []) ∨ ∃ a, sg = [a] ∧ a < 0x110000 ∧ b1S (a : Nat) = decide (tx = []) ∧ b3ok b3D a = true ∧ (tx ≠ [] → b3of b3D a = tx) ∧ tx.length ≤ 3 ∧ ∀ e ∈ tx, 97 ≤ e ∧ e < 123 ∧ e ≠ 98
theorem one_ok {a e : Nat} (h : isOne a e = true) (he : isLtr e = true) : SignOk [a] [e] := by
  unfold isOne at h
  rw [Bool.and_eq_true, Bool.and_eq_true] at h
  have h1 : b3of b3D a = [e] := by rw [b3of_qb]; exact of_decide_eq_true h.1.1
  have h2 : b1S (a : Int) = false := by rw [← Bool.not_eq_true']; exact h.1.2
  exact .inr ⟨a, rfl, of_decide_eq_true h.2, h2, b3ok_qb a (by rw [h1]; exact (by decide : 1 ≤ 3)), fun _ => h1, (by decide : 1 ≤ 3), fun c hc => by rw [List.mem_singleton.mp hc]; exact of_decide_eq_true he⟩
theorem sign_ok {f : Nat} (c : Nat) (hf : f < 8) : SignOk (signC f c) (signT f c) := by
  have hl : ∀ i, i < 2 → isLtr (letter f i) = true := fun i hi => by
    have q := all_lt (all_lt f_letter hf) hi
    exact q
  have hp2 : c / 8 % 2 < 2 := Nat.mod_lt _ (by decide)
  unfold signC signT
  by_cases h0 : c % 8 = 0
  · rw [if_pos h0, if_pos h0]; exact .inl ⟨rfl, rfl⟩
  rw [if_neg h0, if_neg h0]
  by_cases h3 : c % 8 < 3
  · rw [if_pos h3, if_pos h3]
    have hi : c % 8 - 1 < 2 := by lia
    have q := all_lt (all_lt f_small hf) hi
    exact one_ok q (hl _ hi)
  rw [if_neg h3, if_neg h3]
  by_cases h5 : c % 8 < 5
  · rw [if_pos h5, if_pos h5]
    by_cases h4 : c % 8 = 3
    · rw [if_pos h4]
      have q := all_lt (all_lt f_great hf) hp2
      exact one_ok q (hl _ hp2)
    · rw [if_neg h4]
      have q := all_lt (all_lt (all_lt f_font (Nat.mod_lt (c / 8 / 2) (by decide : 0 < 10))) hf) hp2
      exact one_ok q (hl _ hp2)
  rw [if_neg h5, if_neg h5]
  by_cases h7 : c % 8 < 7
  · rw [if_pos h7, if_pos h7]
    have hm := Nat.mod_lt (c / 8) (show 0 < (codesT.getD f []).length from (letters_len f hf).2.1)
    have q := all_lt (all_lt f_code hf) hm
    have hc := code_low f (c / 8 % (codesT.getD f []).length)
    generalize (codesT.getD f []).getD (c / 8 % (codesT.getD f []).length) 0 = a at *
    generalize (textsT.getD f []).getD (c / 8 % (codesT.getD f []).length) [] = tx at *
    rw [Bool.and_eq_true, Bool.and_eq_true] at q
    have qt := q.2
    unfold isTx at qt
    rw [Bool.and_eq_true, Bool.and_eq_true] at qt
    have h1 : b3of b3D a = tx := by rw [b3of_qb, of_decide_eq_true q.1.1]; rfl
    have h2 : b1S (a : Int) = false := by rw [← Bool.not_eq_true']; exact q.1.2
    have h3 : decide (tx = []) = false := by rw [← Bool.not_eq_true']; exact qt.2
    exact .inr ⟨a, rfl, Nat.lt_of_le_of_lt hc (by decide), by rw [h2, h3], b3ok_qb a (by rw [h1]; exact of_decide_eq_true qt.1.2), fun _ => h1, of_decide_eq_true qt.1.2, fun e he => of_decide_eq_true (List.all_eq_true.mp qt.1.1 e he)⟩
  rw [if_neg h7, if_neg h7]
  have q := all_lt f_lone (Nat.mod_lt (c / 8) (show 0 < 27 by decide))
  generalize (if c / 8 % 27 < 11 then lone.getD (c / 8 % 27) 0 else 65013 + c / 8 % 27) = a at *
  rw [Bool.and_eq_true, Bool.and_eq_true] at q
  exact .inr ⟨a, rfl, of_decide_eq_true q.2, q.1.2, b3ok_qb a (by rw [b3of_qb, of_decide_eq_true q.1.1]; exact low_len a), fun h => absurd rfl h, by decide, fun e he => by cases he⟩
theorem signs_ok (s : List Int) : ∀ p ∈ signsOf s, SignOk p.1 p.2 := fun p hp => by
  obtain ⟨c, _, rfl⟩ := List.mem_map.mp hp
  exact sign_ok c (Nat.mod_lt _ (by decide))
theorem prep_app (S : Int → Bool) (D : List (PyData × PyData)) (x y : List Nat) : prep S D (x ++ y) = prep S D x ++ prep S D y := by
  unfold prep; rw [List.filter_append, List.map_append, List.flatten_append]
theorem prep_sign {sg tx : List Nat} (h : SignOk sg tx) : prep b1S b3D sg = tx := by
  rcases h with ⟨rfl, rfl⟩ | ⟨a, rfl, _, h1, _, h2, _⟩
  · rfl
  · unfold prep
    by_cases ht : tx = []
    · rw [decide_eq_true ht] at h1
      rw [List.filter_cons_of_neg (by rw [h1]; decide), ht]; rfl
    · rw [decide_eq_false ht] at h1
      rw [List.filter_cons_of_pos (by rw [h1]; rfl)]
      show [b3of b3D a].flatten = tx
      rw [h2 ht]; simp
theorem prep_part : ∀ p : List Sg, (∀ q ∈ p, SignOk q.1 q.2) → prep b1S b3D (typ p) = ltr p
  | [], _ => rfl
  | q :: r, h => by
    show prep b1S b3D (q.1 ++ typ r) = q.2 ++ ltr r
    rw [prep_app, prep_sign (h q List.mem_cons_self), prep_part r fun p hp => h p (List.mem_cons_of_mem _ hp)]
theorem good1 (s : List Int) : Good1 b1S b3D s where
  b1 := fun p hp => by
    rcases signs_ok s p hp with ⟨h, _⟩ | ⟨a, h, _, h1, _⟩
    · exact .inl h
    · exact .inr ⟨a, h, h1⟩
  prep0 := prep_part _ fun q hq => signs_ok s q (part_mem s q (.inl hq))
  prep1 := prep_part _ fun q hq => signs_ok s q (part_mem s q (.inr hq))
  ok := fun p hp c hc => by
    rcases signs_ok s p hp with ⟨h, _⟩ | ⟨a, h, _, _, h1, _⟩
    · rw [h] at hc; cases hc
    · rw [h] at hc; rw [List.mem_singleton.mp hc]; exact h1
  low := fun p hp => by
    rcases signs_ok s p hp with ⟨h, h'⟩ | ⟨a, h, h1, _, _, _, h2, h3⟩
    · rw [h, h']; exact ⟨(fun c hc => by cases hc), (fun c hc => by cases hc), by simp, by simp⟩
    · rw [h]; exact ⟨(fun c hc => by rw [List.mem_singleton.mp hc]; exact h1), fun c hc => ⟨(h3 c hc).1, (h3 c hc).2.1⟩, by simp, h2⟩
theorem plain1 : Plain1 b1S b3D where
  good := good1
  nob := fun s p hp c hc => by
    rcases signs_ok s p hp with ⟨_, h⟩ | ⟨a, _, _, _, _, _, _, h⟩
    · rw [h] at hc; cases hc
    · exact (h c hc).2.2
end Mine
end T53

theorem PySem.Challenge.cw_rs0172_01_holds : PySem.Challenge.rw_rs0172_01.Holds := by
  exact Mine.holds1 Mine.plain1
