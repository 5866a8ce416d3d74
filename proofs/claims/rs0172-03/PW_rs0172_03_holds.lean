import PyProof.Rows.All
import Wide.All
import OpenK.AllK
import Wide.FinOn
import Lean
import PySem.Challenge.RW_rs0172_03
set_option Elab.async false
section HeadTG
open PySem PySem.W PyProof.Rows
set_option Elab.async false
namespace Mine

section
variable (p : Program) (w : World) (n₀ : Nat) (ann : Option Value)

noncomputable def TG (n : Nat) (s : Shared) (t : Thread) (s' : Shared) (t' : Thread) : Prop :=
  ∀ N r, topRun treeTable p w n₀ ann N s' t' = some r → topRun treeTable p w n₀ ann (n + N) s t = some r

variable {p w n₀ ann}
theorem TG.refl {s t} : TG p w n₀ ann 0 s t s t := fun N r h => by rw [Nat.zero_add]; exact h
theorem TG.trans {n m s t s₁ t₁ s₂ t₂} (h : TG p w n₀ ann n s t s₁ t₁) (k : TG p w n₀ ann m s₁ t₁ s₂ t₂) : TG p w n₀ ann (n + m) s t s₂ t₂ :=
  fun N r e => by rw [Nat.add_assoc]; exact h _ _ (k _ _ e)
theorem TG.mono {n m s t s₁ t₁} (h : TG p w n₀ ann n s t s₁ t₁) (e : n ≤ m) : TG p w n₀ ann m s t s₁ t₁ := fun N r q => by
  have := topRun_mono (m - n) _ _ _ _ (h N r q)
  rwa [show n + N + (m - n) = m + N by lia] at this
theorem TG.step {s t s₁ t₁} (ht : through t = false) (hk : stepOk n₀ ann t = true) (hs : PySem.step (denote treeTable) p w s t = .go s₁ t₁) : TG p w n₀ ann 1 s t s₁ t₁ := fun N r q => by
  rw [show 1 + N = N + 1 by lia]
  unfold topRun
  rw [ht, hk, hs]
  exact q
theorem TG.ofGo {n s t s' t'} (h : topGo treeTable p w n₀ ann n s t = some (s', t')) : TG p w n₀ ann n s t s' t' := fun _ _ k => go_top h k

variable (p w n₀ ann) in
noncomputable def TGx {α : Type} (n : Nat) (x : Sem α) (pos : Pos) (s : Shared) (a : α) (pos' : Pos) (s' : Shared) : Prop :=
  ∀ (K : α → Sem Fin) (H : Value → Sem Fin) (gd : Bool → Bool) (lv : List Value → List Value) (code : Code) (f : Frame) (rest : List Frame),
    TG p w n₀ ann n s ⟨x.wrap K H gd lv, code, pos, f :: rest⟩ s' ⟨K a, code, pos', f :: rest⟩

variable {α β : Type} {n m : Nat} {s s' s₁ : Shared} {pos pos' pos₁ : Pos}

theorem TGx.pure {a : α} : TGx p w n₀ ann 0 (Pure.pure a : Sem α) pos s a pos s := fun _ _ _ _ _ _ _ => .refl
theorem TGx.mono {x : Sem α} {a : α} (h : TGx p w n₀ ann n x pos s a pos' s') (e : n ≤ m) : TGx p w n₀ ann m x pos s a pos' s' := fun K H gd lv code f rest => (h K H gd lv code f rest).mono e
theorem TGx.bind {x : Sem α} {f : α → Sem β} {a : α} {b : β} (h : TGx p w n₀ ann n x pos s a pos₁ s₁) (k : TGx p w n₀ ann m (f a) pos₁ s₁ b pos' s') : TGx p w n₀ ann (n + m) (x >>= f) pos s b pos' s' := fun K H gd lv code fr rest => by
  rw [Sem.bind_eq_wrap', Sem.wrap_wrap]
  exact (h _ _ _ _ code fr rest).trans (k K H gd lv code fr rest)
theorem TGx.bind' {x : Sem α} {f : α → Sem β} {a : α} {b : β} (h : TGx p w n₀ ann n x pos s a pos₁ s₁) (k : TGx p w n₀ ann m (f a) pos₁ s₁ b pos' s') : TGx p w n₀ ann (n + m) (x.bind f) pos s b pos' s' := h.bind k
theorem TGx.load {a : Addr} {part : Option Value} {k : Obj → Sem α} {o : Obj} {r : α} (ho : s.heap.get? a = some o) (h : TGx p w n₀ ann n (k o) pos s r pos' s') : TGx p w n₀ ann (n + 1) (.load a part k) pos s r pos' s' := fun K H gd lv code f rest => by
  rw [Nat.add_comm]
  refine TG.trans (TG.step rfl rfl ?_) (h K H gd lv code f rest)
  obtain ⟨heap, gens, drawn, toks, os⟩ := s
  show PySem.step _ _ _ _ ⟨.load a part _, code, pos, f :: rest⟩ = _
  simp only [PySem.step]
  rw [ho]
theorem TGx.update {a : Addr} {part : Option Value} {g : Obj → Obj} {k : Unit → Sem α} {r : α} (ho : (s.heap.get? a).isSome = true) (ha : n₀ ≤ a) (h : TGx p w n₀ ann n (k ()) pos { s with heap := s.heap.update a g } r pos' s') : TGx p w n₀ ann (n + 1) (.update a part g k) pos s r pos' s' := fun K H gd lv code f rest => by
  rw [Nat.add_comm]
  refine TG.trans (TG.step rfl ?_ ?_) (h K H gd lv code f rest)
  · show (true && (Nat.ble n₀ a || a == mainNs || a == cStatics || ann == some (.ref a))) = true
    rw [Nat.ble_eq_true_of_le ha]; rfl
  · obtain ⟨heap, gens, drawn, toks, os⟩ := s
    show PySem.step _ _ _ _ ⟨.update a part g _, code, pos, f :: rest⟩ = _
    simp only [PySem.step]
    rw [if_pos ho]
theorem TGx.alloc {o : Obj} {k : Addr → Sem α} {r : α} (h : TGx p w n₀ ann n (k s.heap.objs.size) pos { s with heap := s.heap.push o } r pos' s') : TGx p w n₀ ann (n + 1) (.alloc o k) pos s r pos' s' := fun K H gd lv code f rest => by
  rw [Nat.add_comm]
  refine TG.trans (TG.step rfl rfl ?_) (h K H gd lv code f rest)
  obtain ⟨heap, gens, drawn, toks, os⟩ := s
  rfl
theorem TGx.fresh {k : Tok → Sem α} {r : α} (h : TGx p w n₀ ann n (k s.toks) pos { s with toks := s.toks + 1 } r pos' s') : TGx p w n₀ ann (n + 1) (.fresh k) pos s r pos' s' := fun K H gd lv code f rest => by
  rw [Nat.add_comm]
  refine TG.trans (TG.step rfl rfl ?_) (h K H gd lv code f rest)
  obtain ⟨heap, gens, drawn, toks, os⟩ := s
  rfl
theorem TGx.ask {k : Setting → Sem α} {r : α} (h : TGx p w n₀ ann n (k ⟨p, w.params⟩) pos s r pos' s') : TGx p w n₀ ann (n + 1) (.ask k) pos s r pos' s' := fun K H gd lv code f rest => by
  rw [Nat.add_comm]
  refine TG.trans (TG.step rfl rfl ?_) (h K H gd lv code f rest)
  obtain ⟨heap, gens, drawn, toks, os⟩ := s
  rfl
theorem TGx.at {q : Pos} {k : Unit → Sem α} {r : α} (h : TGx p w n₀ ann n (k ()) q s r pos' s') : TGx p w n₀ ann (n + 1) (.at q k) pos s r pos' s' := fun K H gd lv code f rest => by
  rw [Nat.add_comm]
  refine TG.trans (TG.step rfl rfl ?_) (h K H gd lv code f rest)
  obtain ⟨heap, gens, drawn, toks, os⟩ := s
  rfl
theorem TGx.rule {tag : String} {k : Unit → Sem α} {r : α} (h : TGx p w n₀ ann n (k ()) pos s r pos' s') : TGx p w n₀ ann (n + 1) (.rule tag k) pos s r pos' s' := fun K H gd lv code f rest => by
  rw [Nat.add_comm]
  refine TG.trans (TG.step rfl rfl ?_) (h K H gd lv code f rest)
  obtain ⟨heap, gens, drawn, toks, os⟩ := s
  rfl
theorem TGx.keep {vs : List Value} {x : Sem α} {r : α} (h : TGx p w n₀ ann n x pos s r pos' s') : TGx p w n₀ ann n (x.keep vs) pos s r pos' s' := fun K H gd lv code f rest => by
  rw [Sem.keep_eq_wrap, Sem.wrap_wrap]
  exact h _ _ _ _ code f rest
theorem TGx.holding {vs : List Value} {x : Sem α} {r : α} (h : TGx p w n₀ ann n x pos s r pos' s') : TGx p w n₀ ann n (holding vs x) pos s r pos' s' := by
  unfold PySem.holding
  split
  · exact h
  · exact h.keep
theorem TGx.onRaise {g : Value → Sem Unit} {x : Sem α} {r : α} (h : TGx p w n₀ ann n x pos s r pos' s') : TGx p w n₀ ann n (x.onRaise g) pos s r pos' s' := fun K H gd lv code f rest => by
  rw [Sem.onRaise_eq_wrap, Sem.wrap_wrap]
  exact h _ _ _ _ code f rest

-- a call that comes back
variable (p w n₀ ann) in
noncomputable def TGc (n : Nat) (c : Code) (s : Shared) (v : Value) (s' : Shared) : Prop :=
  ∀ (pos : Pos) (k : Result → Sem Fin) (h : Option Value) (g : Bool) (l : List Value) (cd : Code) (p₀ : Pos) (kept : List Value) (f : Frame) (rest : List Frame),
    TG p w n₀ ann n s ⟨denote treeTable c, c, pos, .ret k h g l cd p₀ kept :: f :: rest⟩ s' ⟨k (.ok (.ret v)), cd, p₀, f :: rest⟩
theorem TGx.call {c : Code} {hd : Option Value} {g : Bool} {l : List Value} {k : Result → Sem α} {v : Value} {r : α} (hc : TGc p w n₀ ann n c s v s₁) (h : TGx p w n₀ ann m (k (.ok (.ret v))) pos s₁ r pos' s') : TGx p w n₀ ann (n + m + 1) (.call c hd g l k) pos s r pos' s' := fun K H gd lv code f rest => by
  obtain ⟨heap, gens, drawn, toks, os⟩ := s
  have hs : ∃ kept, PySem.step (denote treeTable) p w ⟨heap, gens, drawn, toks, os⟩ ⟨(Sem.call c hd g l k).wrap K H gd lv, code, pos, f :: rest⟩ =
      .go ⟨heap, gens, drawn, toks, os⟩ ⟨denote treeTable c, c, pos, .ret (fun r => (k r).wrap K H gd lv) hd (gd g) (lv l) code pos kept :: f :: rest⟩ := ⟨_, rfl⟩
  obtain ⟨kept, hs⟩ := hs
  rw [Nat.add_comm]
  exact TG.trans (TG.step rfl rfl hs) ((hc pos _ _ _ _ code pos kept f rest).trans (h K H gd lv code f rest))
end

end Mine

namespace Mine
theorem tgc_int_hash {p w n₀ ann} {k : Int} {t : Tok} {s : Shared} : TGc p w n₀ ann 3 (.call (.builtin "int.__hash__") ⟨[.int k t], []⟩) s (.int (rawHash k) s.toks) { s with toks := s.toks + 1 } := by
  intro pos k' h g l cd p₀ kept f rest
  obtain ⟨heap, gens, drawn, toks, os⟩ := s
  refine TG.ofGo ?_
  show topGo treeTable p w n₀ ann 3 ⟨heap, gens, drawn, toks, os⟩ ⟨denote treeTable (.call (.builtin "int.__hash__") ⟨[.int k t], []⟩), (.call (.builtin "int.__hash__") ⟨[.int k t], []⟩), pos, .ret k' h g l cd p₀ kept :: f :: rest⟩ = some (⟨heap, gens, drawn, toks+1, os⟩, ⟨k' (.ok (.ret (.int (rawHash k) toks))), cd, p₀, f :: rest⟩)
  kernel_rfl

section
variable {p : Program} {w : World} {n₀ : Nat} {ann : Option Value} {α β : Type} {n m : Nat} {s s' s₁ : Shared} {pos pos' pos₁ : Pos}
theorem TGx.tryCatch {g : Value → Sem α} {x : Sem α} {r : α} (h : TGx p w n₀ ann n x pos s r pos' s') : TGx p w n₀ ann n (tryCatch x g) pos s r pos' s' := fun K H gd lv code f rest => by
  show TG p w n₀ ann n s ⟨(Sem.tryCatch x g).wrap K H gd lv, code, pos, f :: rest⟩ s' ⟨K r, code, pos', f :: rest⟩
  rw [Sem.tryCatch_eq_wrap, Sem.wrap_wrap]
  exact h _ _ _ _ code f rest
theorem TGx.bindE {x : Sem α} {f : α → Sem β} {a : α} {b : β} (h : TGx p w n₀ ann n x pos s a pos₁ s₁) (k : TGx p w n₀ ann m (f a) pos₁ s₁ b pos' s') {N : Nat} (e : n + m ≤ N) : TGx p w n₀ ann N (x >>= f) pos s b pos' s' := (h.bind k).mono e

theorem special_int_hash (k : Int) (t : Tok) : specialOf (.int k t) "__hash__" = pure (some (.builtin "int.__hash__")) := by kernel_rfl
theorem tgx_call {f : Value} {args : List Value} {v : Value} (h : TGc p w n₀ ann n (.call f ⟨args, []⟩) s v s') : TGx p w n₀ ann (n + 1) (call f args) pos s v pos s' := by
  refine TGx.mono (n := n + 0 + 1) ?_ (by lia)
  exact TGx.call (k := fun r => ((match r with | .ok f => Sem.pure f | .error e => Sem.raise e) : Sem Flow).bind fun fl => match fl with | .ret v => pure v | _ => unsupported "internal:call-without-return-value") h TGx.pure
theorem tgx_askIf {α : Type} {row : String} {a b : Sem α} {r : α} (ha : TGx p w n₀ ann n a pos s r pos' s') (hb : TGx p w n₀ ann n b pos s r pos' s') :
    TGx p w n₀ ann (n + 1) (ask >>= fun st => if st.params.followText row = true then a else b) pos s r pos' s' := by
  refine TGx.ask (k := fun st => (Sem.pure st).bind fun st => if st.params.followText row = true then a else b) ?_
  show TGx p w n₀ ann n (if w.params.followText row = true then a else b) pos s r pos' s'
  split
  · exact ha
  · exact hb
theorem tgx_callSpecial_int {k : Int} {t : Tok} {r : Sem Value} : TGx p w n₀ ann 5 (callSpecialIfBoundUnlessNone? (.int k t) "__hash__" r) pos s (some (.int (rawHash k) s.toks)) pos { s with toks := s.toks + 1 } := by
  simp only [callSpecialIfBoundUnlessNone?, bindSpecialIfBound?]
  refine TGx.holding ?_
  rw [special_int_hash]
  refine TGx.bindE (n := 1) (m := 4) (a := some (.builtin "int.__hash__", [.int k t])) (s₁ := s) (pos₁ := pos) ?_ ?_ (by lia)
  · refine TGx.bindE (n := 0) (m := 1) TGx.pure ?_ (by lia)
    simp only [slot_int_hash.bind]
    refine TGx.mono (n := 1) (tgx_askIf (n := 0) ?_ ?_) (by lia)
    · exact TGx.pure
    · exact TGx.tryCatch TGx.pure
  · simp only [builtin_beq_none, Bool.false_eq_true, if_false]
    exact TGx.bind (n := 4) (m := 0) (tgx_call (n := 3) tgc_int_hash) TGx.pure
theorem tgx_pyHash_int {k : Int} {t : Tok} : TGx p w n₀ ann 5 (pyHash (.int k t)) pos s (hashInt k) pos { s with toks := s.toks + 1 } := by
  have hr := rawHash_range k
  have hv : [Value.int k t].any Value.onHeap = false := rfl
  unfold pyHash pyHashByItsType
  simp only [special_int_hash]
  refine TGx.bindE (n := 0) (m := 5) (a := ()) (s₁ := s) (pos₁ := pos) ?_ ?_ (by lia)
  · rw [cRoomFor, if_neg (by rw [hv]; exact Bool.false_ne_true)]; exact TGx.pure
  · refine TGx.bindE (n := 0) (m := 5) TGx.pure ?_ (by lia)
    rw [if_neg (by rw [beq_builtin_none]; exact Bool.false_ne_true)]
    refine TGx.bindE (n := 0) (m := 5) TGx.pure ?_ (by lia)
    refine TGx.bindE (n := 5) (m := 0) tgx_callSpecial_int ?_ (by lia)
    show TGx p w n₀ ann 0 (if (decide (-(2 : Int) ^ 63 ≤ rawHash k) && decide (rawHash k < 2 ^ 63)) = true then _ else _) _ _ _ _ _
    rw [if_pos (by rw [decide_eq_true hr.1, decide_eq_true hr.2]; rfl)]
    exact TGx.pure
end
end Mine

namespace Mine

noncomputable def hN (h : Heap) (l : List Obj) : Heap := ⟨h.objs ++ l.toArray, h.life⟩
noncomputable abbrev dObj (es : List DictEntry) (n : Nat) : Obj := { cls := .type "dict", data := .dict es.toArray n }
theorem hN_push (h : Heap) (l : List Obj) (o : Obj) : (hN h l).push o = hN h (l ++ [o]) := by
  obtain ⟨objs, life⟩ := h
  simp [hN, Heap.push]
theorem hN_size (h : Heap) (l : List Obj) : (hN h l).objs.size = h.objs.size + l.length := by simp [hN]
theorem hN_get (h : Heap) {l : List Obj} {i : Nat} {c : Value} {d : Option Addr} {es : Array DictEntry} {n : Nat} {sl : Array (Option Value)} (e : l[i]? = some ⟨c, d, .dict es n, sl⟩) : (hN h l).get? (h.objs.size + i) = some ⟨c, d, .dict es n, sl⟩ := by
  have : (hN h l).objs[h.objs.size + i]? = some ⟨c, d, .dict es n, sl⟩ := by
    show (h.objs ++ l.toArray)[h.objs.size + i]? = _
    rw [Array.getElem?_append_right (by lia)]
    simpa using e
  unfold Heap.get?
  rw [this]
theorem hN_update (h : Heap) (l : List Obj) (i : Nat) (f : Obj → Obj) : (hN h l).update (h.objs.size + i) f = hN h (l.modify i f) := by
  obtain ⟨objs, life⟩ := h
  simp only [hN, Heap.update]
  congr 1
  apply Array.ext_getElem?
  intro j
  rw [Array.getElem?_modify]
  by_cases hj : j < objs.size
  · rw [Array.getElem?_append_left hj, Array.getElem?_append_left hj]
    have : objs.size + i ≠ j := by lia
    simp [this]
  · rw [Array.getElem?_append_right (by lia), Array.getElem?_append_right (by lia)]
    simp only [List.getElem?_toArray, List.getElem?_modify]
    by_cases e : objs.size + i = j
    · subst e; simp
    · have : i ≠ j - objs.size := by lia
      simp [e, this]

section
variable {p : Program} {w : World} {n₀ : Nat} {ann : Option Value} {α β : Type} {n m : Nat} {s s' s₁ : Shared} {pos pos' pos₁ : Pos}

theorem tgx_dictEntries {d : Addr} {part : Option Value} {c : Value} {dd : Option Addr} {es : Array DictEntry} {ep : Nat} {sl : Array (Option Value)} (ho : s.heap.get? d = some ⟨c, dd, .dict es ep, sl⟩) :
    TGx p w n₀ ann 1 (dictEntries d part) pos s es pos s := TGx.load (k := fun o => (Sem.pure o).bind fun o => match o.data with | .dict es _ => pure es | _ => unsupported "internal:not-a-dict") ho TGx.pure
theorem tgx_dictEpoch {d : Addr} {part : Option Value} {c : Value} {dd : Option Addr} {es : Array DictEntry} {ep : Nat} {sl : Array (Option Value)} (ho : s.heap.get? d = some ⟨c, dd, .dict es ep, sl⟩) :
    TGx p w n₀ ann 1 (dictEpoch d part) pos s ep pos s := TGx.load (k := fun o => (Sem.pure o).bind fun o => match o.data with | .dict _ n => pure n | _ => unsupported "internal:not-a-dict") ho TGx.pure

theorem places_none {es : Array DictEntry} {h : Int} (hn : ∀ e ∈ es, e.hash ≠ h) : placesWithHash es.size (fun i => es[i]?.map (·.hash)) h = [] := by
  unfold placesWithHash
  rw [List.filter_eq_nil_iff]
  intro i hi
  have hi' : i < es.size := by simpa using hi
  simp only [hi', getElem?_pos, Option.map_some, beq_iff_eq, Option.some.injEq]
  exact hn _ (Array.getElem_mem hi')

theorem tgx_dictFind_none {d : Addr} {k : Int} {t : Tok} {h : Int} {c : Value} {dd : Option Addr} {es : Array DictEntry} {ep : Nat} {sl : Array (Option Value)} (ho : s.heap.get? d = some ⟨c, dd, .dict es ep, sl⟩)
    (hn : ∀ e ∈ es, e.hash ≠ h) : TGx p w n₀ ann 1 (dictFind d (.int k t) h) pos s none pos s := by
  unfold dictFind
  refine TGx.holding (TGx.bindE (n := 1) (m := 0) (tgx_dictEntries ho) ?_ (by lia))
  dsimp only
  rw [places_none hn]
  exact TGx.pure

theorem tgx_push {d : Addr} {part : Option Value} {x : DictEntry} {c : Value} {dd : Option Addr} {es : Array DictEntry} {ep : Nat} {sl : Array (Option Value)} (ho : s.heap.get? d = some ⟨c, dd, .dict es ep, sl⟩)
    (hd : n₀ ≤ d) (hsz : es.size ≤ 1000) (hnew : (s.heap.update d (Obj.mapDictKeys (·.push x))).get? d = some ⟨c, dd, .dict (es.push x) (ep + 1), sl⟩) :
    TGx p w n₀ ann 3 (updateDictKeys d (·.push x) part) pos s () pos { s with heap := s.heap.update d (Obj.mapDictKeys (·.push x)) } := by
  unfold updateDictKeys
  refine TGx.load (n := 2) (k := fun o => (Sem.pure o).bind fun o => match o.data with | .dict _ _ => (do updatePart d part (Obj.mapDictKeys (·.push x)); lookBehind d part) | _ => unsupported "internal:write-to-non-dict") ho ?_
  show TGx p w n₀ ann 2 (do updatePart d part (Obj.mapDictKeys (·.push x)); lookBehind d part) _ _ _ _ _
  refine TGx.update (n := 1) (k := fun u => (Sem.pure u).bind fun _ => lookBehind d part) (by rw [ho]; rfl) hd ?_
  show TGx p w n₀ ann 1 (lookBehind d part) _ _ _ _ _
  refine TGx.load (n := 0) (k := fun o => (Sem.pure o).bind fun o => if let some what := o.data.pastItsLine then unsupported what else pure ()) hnew ?_
  have hsz' : (es.push x).size = es.size + 1 := Array.size_push ..
  have : (Data.dict (es.push x) (ep + 1)).pastItsLine = none := by
    unfold Data.pastItsLine
    simp only [hsz']
    rw [if_neg]
    rw [sizeLine_eq]; lia
  show TGx p w n₀ ann 0 (if let some what := (Data.dict (es.push x) (ep + 1)).pastItsLine then unsupported what else pure ()) _ _ _ _ _
  rw [this]
  exact TGx.pure

theorem tgx_dictPut {d : Addr} {k : Int} {t : Tok} {h : Int} {v : Value} {c : Value} {dd : Option Addr} {es : Array DictEntry} {ep : Nat} {sl : Array (Option Value)} (ho : s.heap.get? d = some ⟨c, dd, .dict es ep, sl⟩)
    (hn : ∀ e ∈ es, e.hash ≠ h) (hd : n₀ ≤ d) (hsz : es.size ≤ 1000) (hnew : (s.heap.update d (Obj.mapDictKeys (·.push ⟨h, .int k t, v⟩))).get? d = some ⟨c, dd, .dict (es.push ⟨h, .int k t, v⟩) (ep + 1), sl⟩) :
    TGx p w n₀ ann 4 (dictPut d h (.int k t) v) pos s () pos { s with heap := s.heap.update d (Obj.mapDictKeys (·.push ⟨h, .int k t, v⟩)) } := by
  unfold dictPut
  refine TGx.bindE (n := 1) (m := 3) (tgx_dictFind_none ho hn) ?_ (by lia)
  exact tgx_push ho hd hsz hnew

theorem tgx_dictSet {d : Addr} {k : Int} {t t' : Tok} {x : Str} {c : Value} {dd : Option Addr} {es : Array DictEntry} {ep : Nat} {sl : Array (Option Value)} (ho : s.heap.get? d = some ⟨c, dd, .dict es ep, sl⟩)
    (hn : ∀ e ∈ es, e.hash ≠ hashInt k) (hd : n₀ ≤ d) (hsz : es.size ≤ 1000)
    (hnew : (s.heap.update d (Obj.mapDictKeys (·.push ⟨hashInt k, .int k t, .str x t'⟩))).get? d = some ⟨c, dd, .dict (es.push ⟨hashInt k, .int k t, .str x t'⟩) (ep + 1), sl⟩) :
    TGx p w n₀ ann 10 (dictSet d (.int k t) (.str x t')) pos s () pos { s with heap := s.heap.update d (Obj.mapDictKeys (·.push ⟨hashInt k, .int k t, .str x t'⟩)), toks := s.toks + 1 } := by
  unfold dictSet
  refine TGx.holding (TGx.bindE (n := 5) (m := 5) tgx_pyHash_int ?_ (by lia))
  unfold dictSetHashed
  refine TGx.holding (TGx.bindE (n := 1) (m := 4) (tgx_dictFind_none (s := { s with toks := s.toks + 1 }) ho hn) ?_ (by lia))
  refine TGx.rule (n := 3) (k := fun u => (Sem.pure u).bind fun _ => updateDictKeys d (·.push ⟨hashInt k, .int k t, .str x t'⟩) (keyPart (.int k t))) ?_
  exact tgx_push (s := { s with toks := s.toks + 1 }) ho hd hsz hnew
end
end Mine

namespace Mine

theorem upd_push (h : Heap) (l : List Obj) (es : List DictEntry) (n i : Nat) (x : DictEntry) (e : l[i]? = some (dObj es n)) :
    (hN h l).update (h.objs.size + i) (Obj.mapDictKeys (·.push x)) = hN h (l.set i (dObj (es ++ [x]) (n + 1))) := by
  rw [hN_update]
  congr 1
  apply List.ext_getElem?
  intro j
  rw [List.getElem?_modify, List.getElem?_set]
  by_cases q : i = j
  · subst q
    have hl : i < l.length := (List.getElem?_eq_some_iff.mp e).1
    have e' : l[i] = dObj es n := by rw [List.getElem?_eq_getElem hl] at e; exact Option.some.inj e
    simp [e', Obj.mapDictKeys, hl]
  · simp [q]

section
variable {p : Program} {w : World} {n₀ : Nat} {ann : Option Value} {α β : Type} {n m : Nat} {s s' s₁ : Shared} {pos pos' pos₁ : Pos}
variable {h : Heap} {gens : Array GenState} {drawn : Drawn} {toks : Nat} {os : OsState}

theorem tgx_set1 {l : List Obj} {es : List DictEntry} {i ep : Nat} {k : Int} {t t' : Tok} {x : Str} (e : l[i]? = some (dObj es ep)) (hn : ∀ e ∈ es, e.hash ≠ hashInt k) (hd : n₀ ≤ h.objs.size) (hsz : es.length ≤ 1000) :
    TGx p w n₀ ann 10 (dictSet (h.objs.size + i) (.int k t) (.str x t')) pos ⟨hN h l, gens, drawn, toks, os⟩ () pos ⟨hN h (l.set i (dObj (es ++ [⟨hashInt k, .int k t, .str x t'⟩]) (ep + 1))), gens, drawn, toks + 1, os⟩ := by
  have u := upd_push h l es ep i ⟨hashInt k, .int k t, .str x t'⟩ e
  have hl : i < l.length := (List.getElem?_eq_some_iff.mp e).1
  have := tgx_dictSet (p := p) (w := w) (n₀ := n₀) (ann := ann) (pos := pos) (s := ⟨hN h l, gens, drawn, toks, os⟩) (d := h.objs.size + i) (k := k) (t := t) (t' := t') (x := x) (hN_get h e) (by simpa using hn) (by lia) (by simpa using hsz)
    (by dsimp only; rw [u]; have := hN_get h (l := l.set i (dObj (es ++ [⟨hashInt k, .int k t, .str x t'⟩]) (ep + 1))) (i := i) (by rw [List.getElem?_set_self hl]); simpa using this)
  dsimp only at this
  rw [u] at this
  exact this

theorem tgx_put1 {l : List Obj} {es : List DictEntry} {i ep : Nat} {k : Int} {t : Tok} {hh : Int} {v : Value} (e : l[i]? = some (dObj es ep)) (hn : ∀ e ∈ es, e.hash ≠ hh) (hd : n₀ ≤ h.objs.size) (hsz : es.length ≤ 1000) :
    TGx p w n₀ ann 4 (dictPut (h.objs.size + i) hh (.int k t) v) pos ⟨hN h l, gens, drawn, toks, os⟩ () pos ⟨hN h (l.set i (dObj (es ++ [⟨hh, .int k t, v⟩]) (ep + 1))), gens, drawn, toks, os⟩ := by
  have u := upd_push h l es ep i ⟨hh, .int k t, v⟩ e
  have hl : i < l.length := (List.getElem?_eq_some_iff.mp e).1
  have := tgx_dictPut (p := p) (w := w) (n₀ := n₀) (ann := ann) (pos := pos) (s := ⟨hN h l, gens, drawn, toks, os⟩) (d := h.objs.size + i) (k := k) (t := t) (v := v) (h := hh) (hN_get h e) (by simpa using hn) (by lia) (by simpa using hsz)
    (by dsimp only; rw [u]; have := hN_get h (l := l.set i (dObj (es ++ [⟨hh, .int k t, v⟩]) (ep + 1))) (i := i) (by rw [List.getElem?_set_self hl]); simpa using this)
  dsimp only at this
  rw [u] at this
  exact this

-- pairs of constants
structure PE where
  k : Int
  x : Str
  pk : Pos
  px : Pos
noncomputable def PE.key (a : PE) : Expr := .Constant (.int a.k) 0 a.pk
noncomputable def PE.val (a : PE) : Expr := .Constant (.str a.x) 0 a.px
noncomputable def PE.item (env : Env) (q : Pos) (a : PE) : Sem Value × Sem Value := (eval a.key env, eval a.val env >>= fun x => standAt q >>= fun _ => pure x)

theorem tgx_key {a : PE} {env : Env} : TGx p w n₀ ann 1 (eval a.key env) pos ⟨h, gens, drawn, toks, os⟩ (.int a.k toks) pos ⟨h, gens, drawn, toks + 1, os⟩ :=
  TGx.fresh (s := ⟨h, gens, drawn, toks, os⟩) (k := fun t => (Sem.pure t).bind fun t => (pure (Value.int a.k t) : Sem Value)) TGx.pure
theorem tgx_val {a : PE} {env : Env} {q : Pos} : TGx p w n₀ ann 2 (eval a.val env >>= fun x => standAt q >>= fun _ => pure x) pos ⟨h, gens, drawn, toks, os⟩ (.str a.x toks) q ⟨h, gens, drawn, toks + 1, os⟩ := by
  refine TGx.bindE (n := 1) (m := 1) (s₁ := ⟨h, gens, drawn, toks + 1, os⟩) (pos₁ := pos) (TGx.fresh (s := ⟨h, gens, drawn, toks, os⟩) (k := fun t => (Sem.pure t).bind fun t => (pure (Value.str a.x t) : Sem Value)) TGx.pure) ?_ (by lia)
  exact TGx.at (n := 0) (k := fun u => (Sem.pure u).bind fun _ => (pure (Value.str a.x toks) : Sem Value)) TGx.pure

noncomputable def ents (st t : Nat) : List PE → List DictEntry
  | [] => []
  | a :: r => ⟨hashInt a.k, .int a.k t, .str a.x (t + 1)⟩ :: ents st (t + st) r
theorem ents_length (st : Nat) : ∀ (t : Nat) (l : List PE), (ents st t l).length = l.length
  | _, [] => rfl
  | t, _ :: r => by simp [ents, ents_length st (t + st) r]

/-- the hashes of what is still to come are new -/
noncomputable def Ahead (es : List DictEntry) : List PE → Prop
  | [] => True
  | a :: r => (∀ e ∈ es, e.hash ≠ hashInt a.k) ∧ (∀ b ∈ r, hashInt a.k ≠ hashInt b.k) ∧ Ahead es r
theorem Ahead.snoc {es : List DictEntry} {x : DictEntry} : ∀ {r : List PE}, Ahead es r → (∀ b ∈ r, x.hash ≠ hashInt b.k) → Ahead (es ++ [x]) r
  | [], _, _ => trivial
  | a :: r, H, q => ⟨fun e he => by
      rcases List.mem_append.mp he with he | he
      · exact H.1 e he
      · rw [List.mem_singleton.mp he]; exact q a (.head _), H.2.1, H.2.2.snoc fun b hb => q b (.tail _ hb)⟩

theorem tgx_setLoop {env : Env} {q : Pos} {i : Nat} (hd : n₀ ≤ h.objs.size) : ∀ (c : List PE) (l : List Obj) (es : List DictEntry) (ep toks : Nat) (pos : Pos), l[i]? = some (dObj es ep) → Ahead es c → es.length + c.length ≤ 1000 →
    ∃ pos', TGx p w n₀ ann (16 * c.length) (forIn (c.map (PE.item env q)) PUnit.unit fun (x : Sem Value × Sem Value) (_ : PUnit) => (do
        let kv ← x.1
        let vv ← holding [kv] x.2
        holding [kv, vv] (dictSet (h.objs.size + i) kv vv)
        pure (ForInStep.yield PUnit.unit) : Sem (ForInStep PUnit))) pos ⟨hN h l, gens, drawn, toks, os⟩ PUnit.unit pos' ⟨hN h (l.set i (dObj (es ++ ents 3 toks c) (ep + c.length))), gens, drawn, toks + 3 * c.length, os⟩
  | [], l, es, ep, toks, pos, e, _, _ => ⟨pos, by
      have hl : i < l.length := (List.getElem?_eq_some_iff.mp e).1
      have : l.set i (dObj es ep) = l := by
        apply List.ext_getElem?
        intro j
        rw [List.getElem?_set]
        by_cases q : i = j
        · subst q
          have e' : l[i] = dObj es ep := by rw [List.getElem?_eq_getElem hl] at e; exact Option.some.inj e
          simp [hl, e']
        · simp [q]
      simp only [ents, List.append_nil, List.length_nil, Nat.add_zero, Nat.mul_zero, this]
      exact TGx.pure⟩
  | a :: c, l, es, ep, toks, pos, e, H, hsz => by
      have hl : i < l.length := (List.getElem?_eq_some_iff.mp e).1
      rw [List.length_cons] at hsz
      obtain ⟨pos', k⟩ := tgx_setLoop (env := env) (q := q) hd c (l.set i (dObj (es ++ [⟨hashInt a.k, .int a.k toks, .str a.x (toks + 1)⟩]) (ep + 1))) (es ++ [⟨hashInt a.k, .int a.k toks, .str a.x (toks + 1)⟩]) (ep + 1) (toks + 3) q
        (by rw [List.getElem?_set_self hl]) (H.2.2.snoc H.2.1) (by simp; lia)
      refine ⟨pos', ?_⟩
      rw [List.map_cons, List.forIn_cons]
      refine TGx.bindE (n := 14) (m := 16 * c.length) (a := ForInStep.yield PUnit.unit) (pos₁ := q) (s₁ := ⟨hN h (l.set i (dObj (es ++ [⟨hashInt a.k, .int a.k toks, .str a.x (toks + 1)⟩]) (ep + 1))), gens, drawn, toks + 3, os⟩) ?_ ?_ (by simp; lia)
      · refine TGx.bindE (n := 1) (m := 13) (tgx_key (env := env)) ?_ (by lia)
        refine TGx.bindE (n := 2) (m := 11) (TGx.holding tgx_val) ?_ (by lia)
        refine TGx.bindE (n := 10) (m := 0) (TGx.holding (tgx_set1 e H.1 hd (by lia))) ?_ (by lia)
        exact TGx.pure
      · dsimp only
        rw [List.set_set] at k
        have e1 : es ++ [⟨hashInt a.k, .int a.k toks, .str a.x (toks + 1)⟩] ++ ents 3 (toks + 3) c = es ++ ents 3 toks (a :: c) := by simp [ents]
        have e2 : ep + 1 + c.length = ep + (a :: c).length := by simp; lia
        have e3 : toks + 3 + 3 * c.length = toks + 3 * (a :: c).length := by simp; lia
        rw [e1, e2, e3] at k
        exact k
end
end Mine

namespace Mine
section
variable {p : Program} {w : World} {n₀ : Nat} {ann : Option Value} {α β : Type} {n m : Nat} {s s' s₁ : Shared} {pos pos' pos₁ : Pos}
variable {h : Heap} {gens : Array GenState} {drawn : Drawn} {toks : Nat} {os : OsState}

theorem tgx_subDict {env : Env} {q : Pos} {c : List PE} {l : List Obj} (hd : n₀ ≤ h.objs.size) (hc : 15 < c.length) (hc' : c.length ≤ 1000) (H : Ahead [] c) :
    ∃ pos', TGx p w n₀ ann (16 * c.length + 2) (subDict (c.map (PE.item env q))) pos ⟨hN h l, gens, drawn, toks, os⟩ (h.objs.size + l.length) pos'
      ⟨hN h (l ++ [dObj (ents 3 toks c) c.length]), gens, drawn, toks + 3 * c.length, os⟩ := by
  obtain ⟨pos', k⟩ := tgx_setLoop (p := p) (w := w) (n₀ := n₀) (ann := ann) (h := h) (gens := gens) (drawn := drawn) (os := os) (env := env) (q := q) (i := l.length) hd c (l ++ [dObj [] 0]) [] 0 toks pos (by simp) H (by simpa using hc')
  have e : (l ++ [dObj [] 0]).set l.length (dObj ([] ++ ents 3 toks c) (0 + c.length)) = l ++ [dObj (ents 3 toks c) c.length] := by simp
  rw [e] at k
  refine ⟨pos', ?_⟩
  unfold subDict
  refine TGx.bindE (n := 1) (m := 16 * c.length + 1) (a := h.objs.size + l.length) (pos₁ := pos) (s₁ := ⟨hN h (l ++ [dObj [] 0]), gens, drawn, toks, os⟩) ?_ ?_ (by lia)
  · have := TGx.alloc (p := p) (w := w) (n₀ := n₀) (ann := ann) (n := 0) (pos := pos) (pos' := pos) (s := ⟨hN h l, gens, drawn, toks, os⟩) (o := dObj [] 0) (k := Sem.pure) (r := h.objs.size + l.length) (s' := ⟨hN h (l ++ [dObj [] 0]), gens, drawn, toks, os⟩) (by
      dsimp only
      rw [hN_push, hN_size]
      exact TGx.pure)
    exact this
  · refine TGx.bindE (n := 16 * c.length + 1) (m := 0) (a := ()) (pos₁ := pos') (s₁ := ⟨hN h (l ++ [dObj (ents 3 toks c) c.length]), gens, drawn, toks + 3 * c.length, os⟩) (TGx.holding ?_) ?_ (by lia)
    rotate_left
    · exact TGx.pure
    rw [if_neg (by simpa using hc)]
    refine TGx.rule (n := 16 * c.length) (k := fun u => (Sem.pure u).bind fun _ => (do for (k, v) in c.map (PE.item env q) do
        let kv ← k
        let vv ← holding [kv] v
        holding [kv, vv] (dictSet (h.objs.size + l.length) kv vv) : Sem Unit)) ?_
    show TGx p w n₀ ann (16 * c.length) (forIn (c.map (PE.item env q)) PUnit.unit _ >>= fun _ => (pure () : Sem Unit)) _ _ _ _ _
    refine TGx.bindE (n := 16 * c.length) (m := 0) k ?_ (by lia)
    exact TGx.pure

noncomputable def items (env : Env) (q : Pos) (c : List PE) : List (Option (Sem Value) × Sem Value) := c.map fun a => (some (eval a.key env), eval a.val env >>= fun x => standAt q >>= fun _ => pure x)
theorem items_zip (env : Env) (q : Pos) : ∀ c : List PE, (evalEachOpt (c.map fun a => some a.key) env).zip ((evalEach (c.map PE.val) env).map fun v => do let x ← v; standAt q; pure x) = items env q c
  | [] => rfl
  | a :: c => by
    have := items_zip env q c
    simp only [List.map_cons, evalEachOpt, evalOpt, evalEach, List.zip_cons_cons, items] at this ⊢
    rw [this]

-- the merge of a made dict
theorem tgx_isDict {sub : Addr} {d : Option Addr} {es : Array DictEntry} {ep : Nat} {sl : Array (Option Value)} (ho : s.heap.get? sub = some ⟨.type "dict", d, .dict es ep, sl⟩) :
    TGx p w n₀ ann 1 (isInstance (.ref sub) (.type "dict")) pos s true pos s := by
  unfold isInstance
  refine TGx.bindE (n := 1) (m := 0) (a := .type "dict") (pos₁ := pos) (s₁ := s) (TGx.load (k := fun o => (Sem.pure o).bind fun o => (pure o.cls : Sem Value)) ho TGx.pure) ?_ (by lia)
  have : isSubtype (.type "dict") (.type "dict") = pure true := by kernel_rfl
  rw [this]
  exact TGx.pure
theorem tgx_dictIter {sub : Addr} {d : Option Addr} {es : Array DictEntry} {ep : Nat} {sl : Array (Option Value)} (ho : s.heap.get? sub = some ⟨.type "dict", d, .dict es ep, sl⟩) :
    TGx p w n₀ ann 1 (specialOf (.ref sub) "__iter__") pos s (some (.builtin "dict.__iter__")) pos s := by
  unfold specialOf
  refine TGx.bindE (n := 1) (m := 0) (a := .type "dict") (pos₁ := pos) (s₁ := s) (TGx.load (k := fun o => (Sem.pure o).bind fun o => (pure o.cls : Sem Value)) ho TGx.pure) ?_ (by lia)
  have : typeLookup (.type "dict") "__iter__" = pure (some (.builtin "dict.__iter__")) := by kernel_rfl
  rw [this]
  exact TGx.pure

end
end Mine

namespace Mine
section
variable {p : Program} {w : World} {n₀ : Nat} {ann : Option Value} {α β : Type} {n m : Nat} {s s' s₁ : Shared} {pos pos' pos₁ : Pos}
variable {h : Heap} {gens : Array GenState} {drawn : Drawn} {toks : Nat} {os : OsState}
theorem tgx_mergeLoop {st i j sep : Nat} {ses : List DictEntry} (hij : i ≠ j) (hd : n₀ ≤ h.objs.size) : ∀ (c : List PE) (pre : List DictEntry) (t : Nat) (l : List Obj) (es : List DictEntry) (ep : Nat), ses = pre ++ ents st t c → l[i]? = some (dObj es ep) → l[j]? = some (dObj ses sep) → Ahead es c → es.length + c.length ≤ 1000 →
    TGx p w n₀ ann (7 * c.length) (forIn (List.range' pre.length c.length) PUnit.unit fun (ix : Nat) (_ : PUnit) => (do
        match (← dictEntries (h.objs.size + j))[ix]? with
        | some e => do
          holding [e.key, e.val] (do
            if false = true then
              if (← dictFind (h.objs.size + i) e.key e.hash).isSome then rule "dict.merge.duplicate-key"; raiseNew (← newExc (.type "KeyError") [e.key])
            dictPut (h.objs.size + i) e.hash e.key e.val)
          if (← dictEpoch (h.objs.size + j)) != sep then unsupported "dict.changed-during-merge"
          pure (ForInStep.yield PUnit.unit)
        | _ => do
          unsupported "dict.changed-during-merge"
          pure (ForInStep.yield PUnit.unit) : Sem (ForInStep PUnit))) pos ⟨hN h l, gens, drawn, toks, os⟩ PUnit.unit pos ⟨hN h (l.set i (dObj (es ++ ents st t c) (ep + c.length))), gens, drawn, toks, os⟩
  | [], pre, t, l, es, ep, _, e, _, _, _ => by
      have hl : i < l.length := (List.getElem?_eq_some_iff.mp e).1
      have : l.set i (dObj es ep) = l := by
        apply List.ext_getElem?
        intro j
        rw [List.getElem?_set]
        by_cases q : i = j
        · subst q
          have e' : l[i] = dObj es ep := by rw [List.getElem?_eq_getElem hl] at e; exact Option.some.inj e
          simp [hl, e']
        · simp [q]
      simp only [ents, List.append_nil, List.length_nil, Nat.add_zero, Nat.mul_zero, this]
      exact TGx.pure
  | a :: c, pre, t, l, es, ep, hs, e, ej, H, hsz => by
      have hl : i < l.length := (List.getElem?_eq_some_iff.mp e).1
      rw [List.length_cons] at hsz
      have hx : ses[pre.length]? = some ⟨hashInt a.k, .int a.k t, .str a.x (t + 1)⟩ := by rw [hs]; simp [ents]
      have k := tgx_mergeLoop (st := st) (ses := ses) (sep := sep) hij hd c (pre ++ [⟨hashInt a.k, .int a.k t, .str a.x (t + 1)⟩]) (t + st) (l.set i (dObj (es ++ [⟨hashInt a.k, .int a.k t, .str a.x (t + 1)⟩]) (ep + 1))) (es ++ [⟨hashInt a.k, .int a.k t, .str a.x (t + 1)⟩]) (ep + 1)
        (by rw [hs]; simp [ents]) (by rw [List.getElem?_set_self hl]) (by rw [List.getElem?_set_ne hij]; exact ej) (H.2.2.snoc H.2.1) (by simp; lia)
      rw [List.length_cons, List.range'_succ, List.forIn_cons]
      refine TGx.bindE (n := 7) (m := 7 * c.length) (a := ForInStep.yield PUnit.unit) (pos₁ := pos) (s₁ := ⟨hN h (l.set i (dObj (es ++ [⟨hashInt a.k, .int a.k t, .str a.x (t + 1)⟩]) (ep + 1))), gens, drawn, toks, os⟩) ?_ ?_ (by lia)
      · refine TGx.bindE (n := 1) (m := 6) (tgx_dictEntries (hN_get h ej)) ?_ (by lia)
        have hx' : ses.toArray[pre.length]? = some ⟨hashInt a.k, .int a.k t, .str a.x (t + 1)⟩ := by simpa using hx
        rw [hx']
        dsimp only
        refine TGx.bindE (n := 4) (m := 1) (a := ()) (pos₁ := pos) (s₁ := ⟨hN h (l.set i (dObj (es ++ [⟨hashInt a.k, .int a.k t, .str a.x (t + 1)⟩]) (ep + 1))), gens, drawn, toks, os⟩) (TGx.holding ?_) ?_ (by lia)
        · show TGx p w n₀ ann 4 (if false = true then _ else dictPut _ _ _ _) _ _ _ _ _
          rw [if_neg Bool.false_ne_true]
          exact tgx_put1 e H.1 hd (by lia)
        · refine TGx.bindE (n := 1) (m := 0) (tgx_dictEpoch (hN_get h (by rw [List.getElem?_set_ne hij]; exact ej))) ?_ (by lia)
          rw [if_neg (by simp)]
          exact TGx.pure
      · dsimp only
        rw [List.set_set] at k
        have e1 : es ++ [⟨hashInt a.k, .int a.k t, .str a.x (t + 1)⟩] ++ ents st (t + st) c = es ++ ents st t (a :: c) := by simp [ents]
        have e2 : ep + 1 + c.length = ep + (a :: c).length := by simp; lia
        rw [e1, e2] at k
        have e3 : (pre ++ [(⟨hashInt a.k, .int a.k t, .str a.x (t + 1)⟩ : DictEntry)]).length = pre.length + 1 := by simp
        rw [e3] at k
        exact k

theorem tgx_merge {st i j : Nat} {c : List PE} {t sep : Nat} {l : List Obj} {es : List DictEntry} {ep : Nat} (hij : i ≠ j) (hd : n₀ ≤ h.objs.size) (h2 : 2 ≤ h.objs.size) (e : l[i]? = some (dObj es ep)) (ej : l[j]? = some (dObj (ents st t c) sep)) (hne : es ≠ []) (H : Ahead es c)
    (hsz : es.length + c.length ≤ 1000) :
    TGx p w n₀ ann (7 * c.length + 5) (mergeMapping (h.objs.size + i) (.ref (h.objs.size + j)) false) pos ⟨hN h l, gens, drawn, toks, os⟩ () pos ⟨hN h (l.set i (dObj (es ++ ents st t c) (ep + c.length))), gens, drawn, toks, os⟩ := by
  have k := tgx_mergeLoop (p := p) (w := w) (n₀ := n₀) (ann := ann) (h := h) (gens := gens) (drawn := drawn) (os := os) (pos := pos) (toks := toks) (sep := sep) hij hd c [] t l es ep rfl e ej H hsz
  rw [List.length_nil, ← List.range_eq_range'] at k
  unfold mergeMapping
  refine TGx.bindE (n := 1) (m := 7 * c.length + 4) (a := true) (pos₁ := pos) (s₁ := ⟨hN h l, gens, drawn, toks, os⟩) (tgx_isDict (s := ⟨hN h l, gens, drawn, toks, os⟩) (hN_get h ej)) ?_ (by lia)
  rw [if_pos rfl]
  refine TGx.bindE (n := 1) (m := 7 * c.length + 3) (pos₁ := pos) (s₁ := ⟨hN h l, gens, drawn, toks, os⟩) (tgx_dictIter (s := ⟨hN h l, gens, drawn, toks, os⟩) (hN_get h ej)) ?_ (by lia)
  have hb : (some (Value.builtin "dict.__iter__") == some (Value.builtin "dict.__iter__")) = true := by decide
  rw [hb]
  refine TGx.bindE (n := 0) (m := 7 * c.length + 3) TGx.pure ?_ (by lia)
  · dsimp only
    have hs : ((h.objs.size + j) == sysModules) = false := by
      rw [beq_eq_false_iff_ne]
      show h.objs.size + j ≠ 1
      lia
    rw [hs]
    rw [if_neg Bool.false_ne_true]
    refine TGx.bindE (n := 1) (m := 7 * c.length + 2) (tgx_dictEntries (hN_get h e)) ?_ (by lia)
    rw [if_neg (by simpa using hne)]
    refine TGx.bindE (n := 1) (m := 7 * c.length + 1) (tgx_dictEntries (hN_get h ej)) ?_ (by lia)
    refine TGx.bindE (n := 1) (m := 7 * c.length) (tgx_dictEpoch (hN_get h ej)) ?_ (by lia)
    have hz : (ents st t c).toArray.size = c.length := by simp [ents_length]
    rw [hz]
    show TGx p w n₀ ann (7 * c.length) (forIn (List.range c.length) PUnit.unit _ >>= fun _ => (pure () : Sem Unit)) _ _ _ _ _
    refine TGx.bindE (n := 7 * c.length) (m := 0) k ?_ (by lia)
    exact TGx.pure
end
end Mine

namespace Mine
section
variable {p : Program} {w : World} {n₀ : Nat} {ann : Option Value} {α β : Type} {n m : Nat} {s s' s₁ : Shared} {pos pos' pos₁ : Pos}
variable {h : Heap} {gens : Array GenState} {drawn : Drawn} {toks : Nat} {os : OsState}

-- the short road
noncomputable def valsP (t : Nat) : List PE → List (Value × Value)
  | [] => []
  | a :: r => (.int a.k t, .str a.x (t + 1)) :: valsP (t + 2) r
theorem tgx_evalPairs {env : Env} {q : Pos} : ∀ (c : List PE) (toks : Nat) (pos : Pos), ∃ pos', TGx p w n₀ ann (3 * c.length) (evalPairs (c.map (PE.item env q))) pos ⟨h, gens, drawn, toks, os⟩ (valsP toks c) pos' ⟨h, gens, drawn, toks + 2 * c.length, os⟩
  | [], toks, pos => ⟨pos, TGx.pure⟩
  | a :: c, toks, pos => by
    obtain ⟨pos', k⟩ := tgx_evalPairs (env := env) (q := q) c (toks + 2) q
    refine ⟨pos', ?_⟩
    rw [List.map_cons]
    show TGx p w n₀ ann (3 * (a :: c).length) (evalPairs ((eval a.key env, (PE.item env q a).2) :: c.map (PE.item env q))) _ _ _ _ _
    rw [evalPairs]
    refine TGx.bindE (n := 1) (m := 2 + 3 * c.length) (tgx_key (env := env)) ?_ (by simp; lia)
    refine TGx.bindE (n := 2) (m := 3 * c.length) (TGx.holding tgx_val) ?_ (by lia)
    refine TGx.bindE (n := 3 * c.length) (m := 0) (TGx.holding k) ?_ (by lia)
    have e : toks + 2 + 2 * c.length = toks + 2 * (a :: c).length := by simp; lia
    rw [e]
    exact TGx.pure
theorem tgx_setLoop2 {i : Nat} (hd : n₀ ≤ h.objs.size) : ∀ (c : List PE) (t : Nat) (l : List Obj) (es : List DictEntry) (ep toks : Nat), l[i]? = some (dObj es ep) → Ahead es c → es.length + c.length ≤ 1000 →
    TGx p w n₀ ann (10 * c.length) (forIn (valsP t c) PUnit.unit fun (x : Value × Value) (_ : PUnit) => (do
        dictSet (h.objs.size + i) x.1 x.2
        pure (ForInStep.yield PUnit.unit) : Sem (ForInStep PUnit))) pos ⟨hN h l, gens, drawn, toks, os⟩ PUnit.unit pos ⟨hN h (l.set i (dObj (es ++ ents 2 t c) (ep + c.length))), gens, drawn, toks + c.length, os⟩
  | [], t, l, es, ep, toks, e, _, _ => by
      have hl : i < l.length := (List.getElem?_eq_some_iff.mp e).1
      have : l.set i (dObj es ep) = l := by
        apply List.ext_getElem?
        intro j
        rw [List.getElem?_set]
        by_cases q : i = j
        · subst q
          have e' : l[i] = dObj es ep := by rw [List.getElem?_eq_getElem hl] at e; exact Option.some.inj e
          simp [hl, e']
        · simp [q]
      simp only [ents, List.append_nil, List.length_nil, Nat.add_zero, Nat.mul_zero, this]
      exact TGx.pure
  | a :: c, t, l, es, ep, toks, e, H, hsz => by
      have hl : i < l.length := (List.getElem?_eq_some_iff.mp e).1
      rw [List.length_cons] at hsz
      have k := tgx_setLoop2 hd c (t + 2) (l.set i (dObj (es ++ [⟨hashInt a.k, .int a.k t, .str a.x (t + 1)⟩]) (ep + 1))) (es ++ [⟨hashInt a.k, .int a.k t, .str a.x (t + 1)⟩]) (ep + 1) (toks + 1)
        (by rw [List.getElem?_set_self hl]) (H.2.2.snoc H.2.1) (by simp; lia)
      rw [valsP, List.forIn_cons]
      refine TGx.bindE (n := 10) (m := 10 * c.length) (a := ForInStep.yield PUnit.unit) (pos₁ := pos) (s₁ := ⟨hN h (l.set i (dObj (es ++ [⟨hashInt a.k, .int a.k t, .str a.x (t + 1)⟩]) (ep + 1))), gens, drawn, toks + 1, os⟩) ?_ ?_ (by simp; lia)
      · refine TGx.bindE (n := 10) (m := 0) (tgx_set1 e H.1 hd (by lia)) ?_ (by lia)
        exact TGx.pure
      · dsimp only
        rw [List.set_set] at k
        have e1 : es ++ [⟨hashInt a.k, .int a.k t, .str a.x (t + 1)⟩] ++ ents 2 (t + 2) c = es ++ ents 2 t (a :: c) := by simp [ents]
        have e2 : ep + 1 + c.length = ep + (a :: c).length := by simp; lia
        have e3 : toks + 1 + c.length = toks + (a :: c).length := by simp; lia
        rw [e1, e2, e3] at k
        exact k
theorem tgx_subShort {env : Env} {q : Pos} {c : List PE} {l : List Obj} (hd : n₀ ≤ h.objs.size) (hc : c.length ≤ 15) (H : Ahead [] c) :
    ∃ pos', TGx p w n₀ ann (13 * c.length + 2) (subDict (c.map (PE.item env q))) pos ⟨hN h l, gens, drawn, toks, os⟩ (h.objs.size + l.length) pos'
      ⟨hN h (l ++ [dObj (ents 2 toks c) c.length]), gens, drawn, toks + 3 * c.length, os⟩ := by
  obtain ⟨pos', k1⟩ := tgx_evalPairs (p := p) (w := w) (n₀ := n₀) (ann := ann) (h := hN h (l ++ [dObj [] 0])) (gens := gens) (drawn := drawn) (os := os) (env := env) (q := q) c toks pos
  have k2 := tgx_setLoop2 (p := p) (w := w) (n₀ := n₀) (ann := ann) (h := h) (gens := gens) (drawn := drawn) (os := os) (pos := pos') (i := l.length) hd c toks (l ++ [dObj [] 0]) [] 0 (toks + 2 * c.length) (by simp) H (by simp; lia)
  have e : (l ++ [dObj [] 0]).set l.length (dObj ([] ++ ents 2 toks c) (0 + c.length)) = l ++ [dObj (ents 2 toks c) c.length] := by simp
  rw [e, show toks + 2 * c.length + c.length = toks + 3 * c.length by lia] at k2
  refine ⟨pos', ?_⟩
  unfold subDict
  refine TGx.bindE (n := 1) (m := 13 * c.length + 1) (a := h.objs.size + l.length) (pos₁ := pos) (s₁ := ⟨hN h (l ++ [dObj [] 0]), gens, drawn, toks, os⟩) ?_ ?_ (by lia)
  · have := TGx.alloc (p := p) (w := w) (n₀ := n₀) (ann := ann) (n := 0) (pos := pos) (pos' := pos) (s := ⟨hN h l, gens, drawn, toks, os⟩) (o := dObj [] 0) (k := Sem.pure) (r := h.objs.size + l.length) (s' := ⟨hN h (l ++ [dObj [] 0]), gens, drawn, toks, os⟩) (by
      dsimp only
      rw [hN_push, hN_size]
      exact TGx.pure)
    exact this
  · refine TGx.bindE (n := 13 * c.length + 1) (m := 0) (a := ()) (pos₁ := pos') (s₁ := ⟨hN h (l ++ [dObj (ents 2 toks c) c.length]), gens, drawn, toks + 3 * c.length, os⟩) (TGx.holding ?_) ?_ (by lia)
    rotate_left
    · exact TGx.pure
    rw [if_pos (by simpa using hc)]
    refine TGx.bindE (n := 3 * c.length) (m := 10 * c.length + 1) k1 (TGx.holding ?_) (by lia)
    show TGx p w n₀ ann (10 * c.length + 1) (forIn (valsP toks c) PUnit.unit _ >>= fun _ => (pure () : Sem Unit)) _ _ _ _ _
    refine TGx.bindE (n := 10 * c.length) (m := 1) k2 ?_ (by lia)
    exact TGx.pure.mono (by lia)

-- the display
noncomputable def flushD (run : List (Sem Value × Sem Value)) (main : Option Addr) : Sem (Option Addr) := do
    if run.isEmpty then return main
    match main with
    | none => return some (← subDict run)
    | some d =>
      let sub ← holding [.ref d] (subDict run)
      (holding [.ref d, .ref sub] (mergeMapping d (.ref sub) false)).onRaise fun x => do let _ ← holding [.ref d, x] (runValue (.builtin "proto.let_go" {}))
      return some d
noncomputable def itm (env : Env) (q : Pos) (a : PE) : Option (Sem Value) × Sem Value := (some (eval a.key env), eval a.val env >>= fun x => standAt q >>= fun _ => pure x)
noncomputable abbrev DSt := Option Addr × List (Sem Value × Sem Value)
theorem display_form : ∃ B : Option (Sem Value) × Sem Value → DSt → Sem (ForInStep DSt),
    (∀ xs, dictDisplay xs = (forIn xs ((none, []) : DSt) B >>= fun s => flushD s.2 s.1 >>= fun r => match r with | some d => pure (.ref d) | none => newDict)) ∧
    ∀ (k v : Sem Value) (main : Option Addr) (run : List (Sem Value × Sem Value)), B (some k, v) (main, run) =
      if ((run ++ [(k, v)]).length == 17) = true then (flushD (run ++ [(k, v)]) main >>= fun m => pure (ForInStep.yield (m, []))) else pure (ForInStep.yield (main, run ++ [(k, v)])) := ⟨_, fun _ => rfl, fun _ _ _ _ => rfl⟩

theorem tgx_chunk {B : Option (Sem Value) × Sem Value → DSt → Sem (ForInStep DSt)} {env : Env} {q : Pos}
    (hB : ∀ (k v : Sem Value) (main : Option Addr) (run : List (Sem Value × Sem Value)), B (some k, v) (main, run) =
      if ((run ++ [(k, v)]).length == 17) = true then (flushD (run ++ [(k, v)]) main >>= fun m => pure (ForInStep.yield (m, []))) else pure (ForInStep.yield (main, run ++ [(k, v)])))
    {main m' : Option Addr} {rest : List (Option (Sem Value) × Sem Value)} {r : DSt} {nF nR : Nat} : ∀ (c : List PE) (run : List (Sem Value × Sem Value)), c ≠ [] → run.length + c.length = 17 →
      TGx p w n₀ ann nF (flushD (run ++ c.map (PE.item env q)) main) pos s m' pos₁ s₁ → TGx p w n₀ ann nR (forIn rest ((m', []) : DSt) B) pos₁ s₁ r pos' s' →
      TGx p w n₀ ann (nF + nR) (forIn (c.map (itm env q) ++ rest) ((main, run) : DSt) B) pos s r pos' s'
  | [], _, hne, _, _, _ => absurd rfl hne
  | a :: c, run, _, hl, hF, hR => by
    rw [List.map_cons, List.cons_append, List.forIn_cons]
    have hb : B (itm env q a) (main, run) = _ := hB _ _ main run
    rw [hb]
    cases c with
    | nil =>
      have : ((run ++ [(eval a.key env, eval a.val env >>= fun x => standAt q >>= fun _ => pure x)]).length == 17) = true := by simp at hl ⊢; lia
      rw [if_pos this]
      refine TGx.bindE (n := nF) (m := nR) (a := ForInStep.yield (m', [])) (pos₁ := pos₁) (s₁ := s₁) ?_ ?_ (by lia)
      · refine TGx.bindE (n := nF) (m := 0) hF ?_ (by lia)
        exact TGx.pure
      · exact hR
    | cons b c =>
      have : ¬ ((run ++ [(eval a.key env, eval a.val env >>= fun x => standAt q >>= fun _ => pure x)]).length == 17) = true := by simp at hl ⊢; lia
      rw [if_neg this]
      refine TGx.bindE (n := 0) (m := nF + nR) TGx.pure ?_ (by lia)
      dsimp only
      refine tgx_chunk hB (b :: c) _ (by simp) (by simp at hl ⊢; lia) ?_ hR
      simpa [PE.item] using hF
theorem tgx_gather {B : Option (Sem Value) × Sem Value → DSt → Sem (ForInStep DSt)} {env : Env} {q : Pos}
    (hB : ∀ (k v : Sem Value) (main : Option Addr) (run : List (Sem Value × Sem Value)), B (some k, v) (main, run) =
      if ((run ++ [(k, v)]).length == 17) = true then (flushD (run ++ [(k, v)]) main >>= fun m => pure (ForInStep.yield (m, []))) else pure (ForInStep.yield (main, run ++ [(k, v)])))
    {main : Option Addr} : ∀ (c : List PE) (run : List (Sem Value × Sem Value)), run.length + c.length < 17 →
      TGx p w n₀ ann 0 (forIn (c.map (itm env q)) ((main, run) : DSt) B) pos s (main, run ++ c.map (PE.item env q)) pos s
  | [], run, _ => by rw [List.map_nil, List.forIn_nil, List.map_nil, List.append_nil]; exact TGx.pure
  | a :: c, run, hl => by
    rw [List.map_cons, List.forIn_cons]
    have hb : B (itm env q a) (main, run) = _ := hB _ _ main run
    rw [hb]
    have : ¬ ((run ++ [(eval a.key env, eval a.val env >>= fun x => standAt q >>= fun _ => pure x)]).length == 17) = true := by simp at hl ⊢; lia
    rw [if_neg this]
    refine TGx.bindE (n := 0) (m := 0) TGx.pure ?_ (by lia)
    dsimp only
    have := tgx_gather (main := main) (env := env) (q := q) hB c (run ++ [(eval a.key env, eval a.val env >>= fun x => standAt q >>= fun _ => pure x)]) (by simp at hl ⊢; lia)
    simpa [PE.item] using this
end
end Mine

namespace Mine
theorem Ahead.weak {es es' : List DictEntry} (h : ∀ e ∈ es', e ∈ es) : ∀ {c : List PE}, Ahead es c → Ahead es' c
  | [], _ => trivial
  | _ :: _, H => ⟨fun e he => H.1 e (h e he), H.2.1, H.2.2.weak h⟩
theorem Ahead.nil {es : List DictEntry} {c : List PE} (H : Ahead es c) : Ahead [] c := H.weak fun _ h => absurd h List.not_mem_nil
theorem Ahead.left {es : List DictEntry} {b : List PE} : ∀ {a : List PE}, Ahead es (a ++ b) → Ahead es a
  | [], _ => trivial
  | _ :: _, H => ⟨H.1, fun y hy => H.2.1 y (List.mem_append_left _ hy), H.2.2.left⟩
theorem Ahead.right {st : Nat} {b : List PE} : ∀ {a : List PE} {es : List DictEntry} (t : Nat), Ahead es (a ++ b) → Ahead (es ++ ents st t a) b
  | [], es, t, H => by simpa [ents] using H
  | x :: a, es, t, H => by
    have : Ahead (es ++ [⟨hashInt x.k, .int x.k t, .str x.x (t + 1)⟩]) (a ++ b) := Ahead.snoc H.2.2 fun y hy => H.2.1 y hy
    have := Ahead.right (st := st) (t + st) this
    simpa [ents] using this
theorem ents_append (st : Nat) : ∀ (a b : List PE) (t : Nat), ents st t (a ++ b) = ents st t a ++ ents st (t + st * a.length) b
  | [], b, t => by simp [ents]
  | x :: a, b, t => by
    simp only [List.cons_append, ents, ents_append st a b (t + st), List.length_cons]
    congr 3
    rw [Nat.mul_succ]; lia

noncomputable def subsOf (t : Nat) : List (List PE) → List Obj
  | [] => []
  | c :: cs => dObj (ents 3 t c) c.length :: subsOf (t + 3 * c.length) cs

section
variable {p : Program} {w : World} {n₀ : Nat} {ann : Option Value} {α β : Type} {n m : Nat} {s s' s₁ : Shared} {pos pos' pos₁ : Pos}
variable {h : Heap} {gens : Array GenState} {drawn : Drawn} {toks : Nat} {os : OsState}

theorem tgx_flush_more {env : Env} {q : Pos} {c : List PE} {es : List DictEntry} {subs : List Obj} {ep st nS : Nat} (hd : n₀ ≤ h.objs.size) (h2 : 2 ≤ h.objs.size) (hne : es ≠ []) (H : Ahead es c) (hc : c ≠ []) (hsz : es.length + c.length ≤ 1000)
    (hS : ∃ pos', TGx p w n₀ ann nS (subDict (c.map (PE.item env q))) pos ⟨hN h (dObj es ep :: subs), gens, drawn, toks, os⟩ (h.objs.size + (subs.length + 1)) pos'
      ⟨hN h ((dObj es ep :: subs) ++ [dObj (ents st toks c) c.length]), gens, drawn, toks + 3 * c.length, os⟩) :
    ∃ pos', TGx p w n₀ ann (nS + (7 * c.length + 5)) (flushD (c.map (PE.item env q)) (some h.objs.size)) pos ⟨hN h (dObj es ep :: subs), gens, drawn, toks, os⟩ (some h.objs.size) pos'
      ⟨hN h (dObj (es ++ ents st toks c) (ep + c.length) :: (subs ++ [dObj (ents st toks c) c.length])), gens, drawn, toks + 3 * c.length, os⟩ := by
  obtain ⟨pos', hS⟩ := hS
  refine ⟨pos', ?_⟩
  unfold flushD
  rw [if_neg (by cases c with | nil => exact absurd rfl hc | cons => simp)]
  dsimp only
  refine TGx.bindE (n := nS) (m := 7 * c.length + 5) (TGx.holding hS) ?_ (by lia)
  have k := tgx_merge (p := p) (w := w) (n₀ := n₀) (ann := ann) (h := h) (gens := gens) (drawn := drawn) (os := os) (pos := pos') (toks := toks + 3 * c.length) (st := st) (i := 0) (j := subs.length + 1) (c := c) (t := toks) (sep := c.length)
    (l := (dObj es ep :: subs) ++ [dObj (ents st toks c) c.length]) (es := es) (ep := ep) (by lia) hd h2 (by simp) (by simp) hne H hsz
  refine TGx.bindE (n := 7 * c.length + 5) (m := 0) (TGx.onRaise (TGx.holding k)) ?_ (by lia)
  exact TGx.pure
theorem tgx_flush_first {env : Env} {q : Pos} {c : List PE} (hd : n₀ ≤ h.objs.size) (H : Ahead [] c) (hc : 15 < c.length) (hc' : c.length ≤ 1000) :
    ∃ pos', TGx p w n₀ ann (16 * c.length + 2) (flushD (c.map (PE.item env q)) none) pos ⟨hN h [], gens, drawn, toks, os⟩ (some h.objs.size) pos'
      ⟨hN h [dObj (ents 3 toks c) c.length], gens, drawn, toks + 3 * c.length, os⟩ := by
  obtain ⟨pos', k⟩ := tgx_subDict (p := p) (w := w) (n₀ := n₀) (ann := ann) (h := h) (gens := gens) (drawn := drawn) (os := os) (pos := pos) (toks := toks) (env := env) (q := q) (l := []) hd hc hc' H
  refine ⟨pos', ?_⟩
  unfold flushD
  rw [if_neg (by cases c with | nil => simp at hc | cons => simp)]
  dsimp only
  refine TGx.bindE (n := 16 * c.length + 2) (m := 0) k ?_ (by lia)
  exact TGx.pure

theorem tgx_chunks {B : Option (Sem Value) × Sem Value → DSt → Sem (ForInStep DSt)} {env : Env} {q : Pos}
    (hB : ∀ (k v : Sem Value) (main : Option Addr) (run : List (Sem Value × Sem Value)), B (some k, v) (main, run) =
      if ((run ++ [(k, v)]).length == 17) = true then (flushD (run ++ [(k, v)]) main >>= fun m => pure (ForInStep.yield (m, []))) else pure (ForInStep.yield (main, run ++ [(k, v)])))
    (hd : n₀ ≤ h.objs.size) (h2 : 2 ≤ h.objs.size) {tl : List PE} (htl' : tl.length ≤ 15) : ∀ (cs : List (List PE)) (es : List DictEntry) (subs : List Obj) (ep toks : Nat) (pos : Pos), (∀ c ∈ cs, c.length = 17) → es ≠ [] → Ahead es cs.flatten → es.length + cs.flatten.length ≤ 1000 →
    ∃ pos', TGx p w n₀ ann (23 * cs.flatten.length + 7 * cs.length) (forIn (cs.flatten.map (itm env q) ++ tl.map (itm env q)) ((some h.objs.size, []) : DSt) B) pos ⟨hN h (dObj es ep :: subs), gens, drawn, toks, os⟩ (some h.objs.size, tl.map (PE.item env q)) pos'
      ⟨hN h (dObj (es ++ ents 3 toks cs.flatten) (ep + cs.flatten.length) :: (subs ++ subsOf toks cs)), gens, drawn, toks + 3 * cs.flatten.length, os⟩
  | [], es, subs, ep, toks, pos, _, hne, H, hsz => by
    have hg := tgx_gather (p := p) (w := w) (n₀ := n₀) (ann := ann) (pos := pos) (s := ⟨hN h (dObj es ep :: subs), gens, drawn, toks, os⟩) (env := env) (q := q) hB (main := some h.objs.size) tl [] (by simp; lia)
    refine ⟨pos, ?_⟩
    simpa [ents, subsOf] using hg
  | c :: cs, es, subs, ep, toks, pos, h17, hne, H, hsz => by
    have hc : c.length = 17 := h17 c (.head _)
    have hcn : c ≠ [] := by intro e; rw [e] at hc; simp at hc
    simp only [List.flatten_cons, List.length_append] at H hsz
    have hs := tgx_subDict (p := p) (w := w) (n₀ := n₀) (ann := ann) (h := h) (gens := gens) (drawn := drawn) (os := os) (pos := pos) (toks := toks) (env := env) (q := q) (c := c) (l := dObj es ep :: subs) hd (by lia) (by lia) H.left.nil
    obtain ⟨pos₁, k⟩ := tgx_flush_more (p := p) (w := w) (n₀ := n₀) (ann := ann) (h := h) (gens := gens) (drawn := drawn) (os := os) (pos := pos) (toks := toks) (env := env) (q := q) (c := c) (es := es) (subs := subs) (ep := ep) (st := 3) hd h2 hne H.left hcn (by lia) hs
    obtain ⟨pos', r⟩ := tgx_chunks hB hd h2 htl' cs (es ++ ents 3 toks c) (subs ++ [dObj (ents 3 toks c) c.length]) (ep + c.length) (toks + 3 * c.length) pos₁ (fun x hx => h17 x (.tail _ hx)) (by simp [hne]) (H.right toks) (by simp only [ents_length, List.length_append]; lia)
    refine ⟨pos', ?_⟩
    have z := tgx_chunk (p := p) (w := w) (n₀ := n₀) (ann := ann) hB c [] hcn (by simp [hc]) (by simpa using k) r
    simp only [List.flatten_cons, List.map_append, List.append_assoc, List.length_append, List.length_cons]
    have e1 : es ++ ents 3 toks c ++ ents 3 (toks + 3 * c.length) cs.flatten = es ++ ents 3 toks (c ++ cs.flatten) := by rw [ents_append]; simp
    have e2 : subs ++ [dObj (ents 3 toks c) c.length] ++ subsOf (toks + 3 * c.length) cs = subs ++ subsOf toks (c :: cs) := by simp [subsOf]
    have e3 : ep + c.length + cs.flatten.length = ep + (c.length + cs.flatten.length) := by lia
    have e4 : toks + 3 * c.length + 3 * cs.flatten.length = toks + 3 * (c.length + cs.flatten.length) := by lia
    rw [e1, e2, e3, e4] at z
    exact z.mono (by lia)

/-- the dict display of constants, whole -/
theorem tgx_display {env : Env} {q : Pos} (hd : n₀ ≤ h.objs.size) (h2 : 2 ≤ h.objs.size) {c tl : List PE} {cs : List (List PE)} (hc : c.length = 17) (hcs : ∀ x ∈ cs, x.length = 17) (htl : tl ≠ []) (htl' : tl.length ≤ 15)
    (H : Ahead [] (c ++ (cs.flatten ++ tl))) (hsz : 17 + cs.flatten.length + tl.length ≤ 1000) :
    ∃ pos', TGx p w n₀ ann (40000) (dictDisplay ((c ++ (cs.flatten ++ tl)).map (itm env q))) pos ⟨hN h [], gens, drawn, toks, os⟩ (.ref h.objs.size) pos'
      ⟨hN h (dObj (ents 3 toks (c ++ cs.flatten) ++ ents 2 (toks + 3 * (17 + cs.flatten.length)) tl) (17 + cs.flatten.length + tl.length) :: (subsOf (toks + 51) cs ++ [dObj (ents 2 (toks + 3 * (17 + cs.flatten.length)) tl) tl.length])),
        gens, drawn, toks + 3 * (17 + cs.flatten.length + tl.length), os⟩ := by
  obtain ⟨B, hB0, hB⟩ := display_form
  have hcn : c ≠ [] := by intro e; rw [e] at hc; simp at hc
  have H1 := H.right (st := 3) toks
  have H2 := H1.right (st := 3) (toks + 51)
  obtain ⟨pos₁, k1⟩ := tgx_flush_first (p := p) (w := w) (n₀ := n₀) (ann := ann) (h := h) (gens := gens) (drawn := drawn) (os := os) (pos := pos) (toks := toks) (env := env) (q := q) (c := c) hd H.left (by lia) (by lia)
  obtain ⟨pos₂, k2⟩ := tgx_chunks (p := p) (w := w) (n₀ := n₀) (ann := ann) (h := h) (gens := gens) (drawn := drawn) (os := os) (env := env) (q := q) hB hd h2 htl' cs (ents 3 toks c) [] c.length (toks + 3 * c.length) pos₁ hcs (by cases c with | nil => exact absurd rfl hcn | cons => simp [ents]) (by simpa using H1.left) (by simp only [ents_length, List.length_append]; lia)
  have z := tgx_chunk (p := p) (w := w) (n₀ := n₀) (ann := ann) hB c [] hcn (by simp [hc]) (by simpa using k1) k2
  have hs := tgx_subShort (p := p) (w := w) (n₀ := n₀) (ann := ann) (h := h) (gens := gens) (drawn := drawn) (os := os) (pos := pos₂) (toks := toks + 3 * c.length + 3 * cs.flatten.length) (env := env) (q := q) (c := tl) (l := dObj (ents 3 toks c ++ ents 3 (toks + 3 * c.length) cs.flatten) (c.length + cs.flatten.length) :: ([] ++ subsOf (toks + 3 * c.length) cs)) hd htl' (H2.nil)
  obtain ⟨pos', k3⟩ := tgx_flush_more (p := p) (w := w) (n₀ := n₀) (ann := ann) (h := h) (gens := gens) (drawn := drawn) (os := os) (pos := pos₂) (toks := toks + 3 * c.length + 3 * cs.flatten.length) (env := env) (q := q) (c := tl) (es := ents 3 toks c ++ ents 3 (toks + 3 * c.length) cs.flatten) (subs := [] ++ subsOf (toks + 3 * c.length) cs) (ep := c.length + cs.flatten.length) (st := 2) hd h2
    (by cases c with | nil => exact absurd rfl hcn | cons => simp [ents]) (by rw [hc]; simpa using H2) htl (by simp only [ents_length, List.length_append]; lia) hs
  refine ⟨pos', ?_⟩
  rw [hB0]
  simp only [List.map_append]
  have hb : 16 * c.length + 2 + (23 * cs.flatten.length + 7 * cs.length) + (13 * tl.length + 2 + (7 * tl.length + 5)) ≤ 40000 := by
    have : cs.length ≤ cs.flatten.length := by
      clear k1 k2 z hs k3 hB hB0 H H1 H2 hsz
      induction cs with
      | nil => simp
      | cons x cs ih =>
        have := hcs x (.head _)
        have := ih fun y hy => hcs y (.tail _ hy)
        simp only [List.length_cons, List.flatten_cons, List.length_append]; lia
    lia
  refine TGx.bindE (n := 16 * c.length + 2 + (23 * cs.flatten.length + 7 * cs.length)) (m := 13 * tl.length + 2 + (7 * tl.length + 5)) z ?_ hb
  refine TGx.bindE (n := 13 * tl.length + 2 + (7 * tl.length + 5)) (m := 0) k3 ?_ (by lia)
  have e1 : ents 3 toks c ++ ents 3 (toks + 3 * c.length) cs.flatten = ents 3 toks (c ++ cs.flatten) := by rw [ents_append]
  rw [e1]
  simp only [hc, List.nil_append]
  have e2 : toks + 3 * 17 + 3 * cs.flatten.length = toks + 3 * (17 + cs.flatten.length) := by lia
  have e3 : toks + 3 * (17 + cs.flatten.length) + 3 * tl.length = toks + 3 * (17 + cs.flatten.length + tl.length) := by lia
  rw [e2, e3]
  exact TGx.pure
end
end Mine
end HeadTG

section HeadD
open PySem PySem.W PyProof.Rows
set_option Elab.async false
namespace Mine
/-! the dict's statement, from the text's own terms -/
noncomputable def peOf : Option Expr × Expr → PE
  | (some (.Constant (.int k) _ pk), .Constant (.str x) _ px) => ⟨k, x, pk, px⟩
  | _ => ⟨0, ⟨#[]⟩, default, default⟩
noncomputable def chop : Nat → List PE → List (List PE)
  | 0, _ => []
  | n + 1, l => l.take 17 :: chop n (l.drop 17)
noncomputable def incrB : Int → List PE → Bool
  | _, [] => true
  | lo, a :: r => decide (lo < a.k) && (decide (a.k < 1000000) && incrB a.k r)
theorem hashInt_small {k : Int} (h0 : 0 ≤ k) (h1 : k < 1000000) : hashInt k = k := by
  have e : rawHash k = k := by
    simp only [rawHash]
    have h2 : (k.natAbs : Int) % ((2 ^ 61 - 1 : Nat) : Int) = k := by lia
    rw [h2, if_neg (show ¬ k < 0 by lia), if_neg (by simp; lia)]
  unfold hashInt
  rw [e, if_neg (by simp; lia)]
theorem incr_gt : ∀ {l : List PE} {lo : Int}, incrB lo l = true → ∀ b ∈ l, lo < b.k ∧ b.k < 1000000
  | a :: r, lo, h, b, hb => by
    simp only [incrB, Bool.and_eq_true, decide_eq_true_eq] at h
    rcases List.mem_cons.mp hb with rfl | hb
    · exact ⟨h.1, h.2.1⟩
    · have := incr_gt h.2.2 b hb
      exact ⟨by lia, this.2⟩
theorem ahead_of_incr {es : List DictEntry} : ∀ {l : List PE} {lo : Int}, 0 ≤ lo → incrB lo l = true → (∀ e ∈ es, e.hash ≤ lo) → Ahead es l
  | [], _, _, _, _ => trivial
  | a :: r, lo, h0, h, he => by
    have g := incr_gt h
    simp only [incrB, Bool.and_eq_true, decide_eq_true_eq] at h
    have ga := g a (.head _)
    have ha := hashInt_small (k := a.k) (by lia) ga.2
    refine ⟨fun e hm => ?_, fun b hb => ?_, ahead_of_incr (lo := a.k) (by lia) h.2.2 fun e hm => ?_⟩
    · have := he e hm; lia
    · have gb := incr_gt h.2.2 b hb
      rw [ha, hashInt_small (by lia) gb.2]; lia
    · have := he e hm; lia
theorem list38 {α : Type} (d : α) (l : List α) (h : l.length = 38) : l = (List.range 38).map fun i => l.getD i d := by
  apply List.ext_getElem?
  intro i
  by_cases hi : i < 38
  · simp [List.getElem?_range, hi, h]
  · rw [List.getElem?_eq_none (by lia), List.getElem?_eq_none (by simp; lia)]
theorem subsOf_length : ∀ (cs : List (List PE)) (t : Nat), (subsOf t cs).length = cs.length
  | [], _ => rfl
  | _ :: cs, t => by simp [subsOf, subsOf_length cs]
theorem chop_length : ∀ (n : Nat) (l : List PE), (chop n l).length = n
  | 0, _ => rfl
  | n + 1, l => by simp [chop, chop_length n]
theorem chop_flatten : ∀ (n : Nat) (l : List PE), (chop n l).flatten ++ l.drop (17 * n) = l
  | 0, l => by simp [chop]
  | n + 1, l => by
    have := chop_flatten n (l.drop 17)
    simp only [chop, List.flatten_cons, List.append_assoc]
    rw [List.drop_drop] at this
    rw [show 17 * (n + 1) = 17 + 17 * n by lia, this, List.take_append_drop]
theorem chop_17 : ∀ (n : Nat) (l : List PE), 17 * n ≤ l.length → ∀ c ∈ chop n l, c.length = 17
  | 0, _, _, c, hc => by simp [chop] at hc
  | n + 1, l, h, c, hc => by
    rcases List.mem_cons.mp hc with rfl | hc
    · simp; lia
    · exact chop_17 n (l.drop 17) (by simp; lia) c hc

section
variable {p : Program} {w : World} {ann : Option Value}
/-- the whole display of 650 constants -/
theorem tgx_650 {env : Env} {q pos : Pos} {h : Heap} {gens : Array GenState} {drawn : Drawn} {toks : Nat} {os : OsState} {L : List PE} (hL : L.length = 650) (hinc : incrB 0 L = true) (hd : 11 ≤ h.objs.size) :
    ∃ pos', TGx p w 11 ann 40000 (dictDisplay (L.map (itm env q))) pos ⟨hN h [], gens, drawn, toks, os⟩ (.ref h.objs.size) pos'
      ⟨hN h (dObj (ents 3 toks (L.take 17 ++ (chop 37 (L.drop 17)).flatten) ++ ents 2 (toks + 3 * 646) (L.drop 646)) 650 :: (subsOf (toks + 51) (chop 37 (L.drop 17)) ++ [dObj (ents 2 (toks + 3 * 646) (L.drop 646)) 4])),
        gens, drawn, toks + 1950, os⟩ := by
  have e1 : (chop 37 (L.drop 17)).flatten ++ L.drop 646 = L.drop 17 := by
    have := chop_flatten 37 (L.drop 17)
    rwa [List.drop_drop] at this
  have e2 : L.take 17 ++ ((chop 37 (L.drop 17)).flatten ++ L.drop 646) = L := by rw [e1, List.take_append_drop]
  have l1 : (chop 37 (L.drop 17)).flatten.length = 629 := by
    have := congrArg List.length e1
    simp only [List.length_append, List.length_drop, hL] at this
    lia
  have l2 : (L.drop 646).length = 4 := by simp [hL]
  have H : Ahead [] (L.take 17 ++ ((chop 37 (L.drop 17)).flatten ++ L.drop 646)) := by rw [e2]; exact ahead_of_incr (lo := 0) (by lia) hinc (fun e he => absurd he List.not_mem_nil)
  obtain ⟨pos', k⟩ := tgx_display (p := p) (w := w) (n₀ := 11) (ann := ann) (h := h) (gens := gens) (drawn := drawn) (os := os) (pos := pos) (toks := toks) (env := env) (q := q) hd (by lia) (c := L.take 17) (tl := L.drop 646) (cs := chop 37 (L.drop 17))
    (by simp [hL]) (chop_17 37 _ (by simp [hL])) (by intro e; rw [e] at l2; simp at l2) (by lia) H (by lia)
  refine ⟨pos', ?_⟩
  rw [e2] at k
  simp only [l1, l2] at k
  exact k
end
end Mine
end HeadD

section C0
open PySem PySem.W PyProof.Rows
set_option Elab.async false
set_option linter.unusedVariables false
namespace Mine
/-! ## the heap never shrinks -/
noncomputable abbrev hsz (s : Shared) : Nat := s.heap.objs.size
theorem hsz_push {s : Shared} {o : Obj} : (s.heap.push o).objs.size = hsz s + 1 := Heap.size_push _ _
theorem hsz_update {s : Shared} {a : Addr} {f : Obj → Obj} : (s.heap.update a f).objs.size = hsz s := by
  show (Heap.update s.heap a f).objs.size = _
  show _ = s.heap.objs.size
  generalize s.heap = h
  cases h
  exact Array.size_modify
theorem runs_size {M : Model} {Γ : Ctx} {p : Pos} {t : Sem Fin} {fs : List Frame} {s s' : Shared} {e : End} (h : Runs M Γ p t fs s e s') : hsz s ≤ hsz s' := by
  induction h <;> (try simp only [Shared.setGen, hsz, hsz_push, hsz_update] at *) <;> lia
theorem wakes_size {M : Model} {Γ : Ctx} {p : Pos} {g : Nat} {r : Resume} {s s' : Shared} {res : GenResult} (h : Wakes M Γ p g r s res s') : hsz s ≤ hsz s' := by
  unfold Wakes at h
  split at h
  · exact h.elim
  · split at h
    · obtain ⟨_, s₁, hr, _, _, rfl⟩ := h; exact (runs_size hr : hsz (s.setGen g .running) ≤ hsz s₁)
    · rw [h.2]; exact Nat.le_refl _
    · rw [h.2]; exact Nat.le_refl _
  · obtain ⟨_, s₁, hr, _, _, rfl⟩ := h; exact (runs_size hr : hsz (s.setGen g .running) ≤ hsz s₁)
  · rw [h.2]; exact Nat.le_refl _
  · rw [h.2]; exact Nat.le_refl _
theorem wp_size {α : Type} (M : Model) (Γ : Ctx) (n : Nat) (t : Sem α) : ∀ (Q : α → Pos → Shared → Prop) (E : Value → Pos → Shared → Prop) (p : Pos) (s : Shared), n ≤ hsz s → Sem.wp M Γ t Q E p s →
    Sem.wp M Γ t (fun a p' s' => n ≤ hsz s' ∧ Q a p' s') (fun e p' s' => n ≤ hsz s' ∧ E e p' s') p s := by
  induction t with
  | pure _ | raise _ => intro Q E p s g h; exact ⟨g, h⟩
  | unsupported _ | finish _ | register _ _ | yield _ _ _ _ | fork _ _ | await _ _ _ _ _ => intro Q E p s _ h; exact h
  | rule _ k ih | point _ k ih => intro Q E p s g h; exact ih () Q E p s g h
  | «at» p' k ih => intro Q E p s g h; exact ih () Q E p' s g h
  | load a _ k ih => intro Q E p s g h; obtain ⟨o, ho, h⟩ := h; exact ⟨o, ho, ih o Q E p s g h⟩
  | update a _ f k ih => intro Q E p s g h; exact ⟨h.1, ih () Q E p _ (by show n ≤ (s.heap.update a f).objs.size; rw [hsz_update]; exact g) h.2⟩
  | loadIfAlive _ k ih | handled _ k ih | stack k ih | thread k ih | ask k ih => intro Q E p s g h; exact ih _ Q E p s g h
  | alloc o k ih => intro Q E p s g h; exact ih _ Q E p _ (by show n ≤ (s.heap.push o).objs.size; rw [hsz_push]; exact Nat.le_succ_of_le g) h
  | fresh k ih | newGen _ k ih | os _ _ k ih => intro Q E p s g h; exact ih _ Q E p _ g h
  | choose _ _ k ih => intro Q E p s g h; exact ⟨h.1, ih _ Q E p _ g h.2⟩
  | call c hd _ _ k ih => intro Q E p s g h; obtain ⟨r, s', hr, h⟩ := h; exact ⟨r, s', hr, ih r Q E p s' (Nat.le_trans g (runs_size hr)) h⟩
  | genState _ k ih => intro Q E p s g h; obtain ⟨st, hs, h⟩ := h; exact ⟨st, hs, ih _ Q E p s g h⟩
  | resume _ r _ k ih => intro Q E p s g h; obtain ⟨res, s', hw, h⟩ := h; exact ⟨res, s', hw, ih res Q E p s' (Nat.le_trans g (wakes_size hw)) h⟩
theorem with_size {α : Type} {M : Model} {A : Around} {s : Shared} {t : Sem α} {Q : α → Shared → Prop} {E : Value → Shared → Prop}
    (h : wpAny M A t (fun a s' => hsz s ≤ hsz s' → Q a s') (fun e s' => hsz s ≤ hsz s' → E e s') s) : wpAny M A t Q E s :=
  wpAny_mono (Q := fun a s' => hsz s ≤ hsz s' ∧ (hsz s ≤ hsz s' → Q a s')) (E := fun e s' => hsz s ≤ hsz s' ∧ (hsz s ≤ hsz s' → E e s'))
    (fun Γ p hΓ => wp_size M Γ (hsz s) t (fun a _ s' => hsz s ≤ hsz s' → Q a s') (fun e _ s' => hsz s ≤ hsz s' → E e s') p s (Nat.le_refl _) (h Γ p hΓ)) (fun _ _ x => x.2 x.1) (fun _ _ x => x.2 x.1)
end Mine
end C0

section C1
open PySem PySem.W PyProof.Rows
set_option Elab.async false
set_option linter.unusedVariables false
namespace Mine

/-- data, as the walk sees it; a str is the list of its code points -/
inductive PV where
  | none
  | bool (b : Bool)
  | int (i : Int)
  | str (x : List Nat)
  | list (xs : List PV)
  | tuple (xs : List PV)
  | raw (v : Value)
  | ext (t : Nat) (x : List (List Nat))
  | slice (l u st : Option Int)
  | range (a b c : Int)

noncomputable abbrev Ext := Nat → List (List Nat) → (Addr → Prop) → Heap → Value → Prop

mutual
/-- the value v reads as d in the heap h; what it is made of lies outside P -/
inductive Rd (X : Ext) (P : Addr → Prop) (h : Heap) : Value → PV → Prop
  | none : Rd X P h .none .none
  | bool (b) : Rd X P h (.bool b) (.bool b)
  | int (i t) : Rd X P h (.int i t) (.int i)
  | str (x : Str) (t) : Rd X P h (.str x t) (.str x.cps.toList)
  | list {a vs n ds} : ¬ P a → h.get? a = some { cls := .type "list", data := .seq vs n } → RdL X P h vs.toList ds → Rd X P h (.ref a) (.list ds)
  | tuple {a vs n ds} : ¬ P a → h.get? a = some { cls := .type "tuple", data := .seq vs n } → RdL X P h vs.toList ds → Rd X P h (.ref a) (.tuple ds)
  | raw (v) : Rd X P h v (.raw v)
  | ext {t x v} : X t x P h v → Rd X P h v (.ext t x)
  | slice {a vl vu vs l u st} : ¬ P a → h.get? a = some { cls := .type "slice", data := .fields #[vl, vu, vs] } → IsPart vl l → IsPart vu u → IsPart vs st → Rd X P h (.ref a) (.slice l u st)
  | range {r a b c t u v} : ¬ P r → IsRange h r a b c t u v → Rd X P h (.ref r) (.range a b c)
inductive RdL (X : Ext) (P : Addr → Prop) (h : Heap) : List Value → List PV → Prop
  | nil : RdL X P h [] []
  | cons {v vs d ds} : Rd X P h v d → RdL X P h vs ds → RdL X P h (v :: vs) (d :: ds)
end

/-- from (P, h) to (P', h') everything outside P stands, and stays outside P' -/
noncomputable def Pass (P : Addr → Prop) (h : Heap) (P' : Addr → Prop) (h' : Heap) : Prop := ∀ a o, ¬ P a → h.get? a = some o → h'.get? a = some o ∧ ¬ P' a
noncomputable def ExtOk (X : Ext) : Prop := ∀ t x P h P' h' v, X t x P h v → Pass P h P' h' → X t x P' h' v

mutual
theorem Rd.pass {X : Ext} (hX : ExtOk X) {P P' : Addr → Prop} {h h' : Heap} (g : Pass P h P' h') : ∀ {v : Value} {d : PV}, Rd X P h v d → Rd X P' h' v d
  | _, _, .none => .none
  | _, _, .bool b => .bool b
  | _, _, .int i t => .int i t
  | _, _, .str x t => .str x t
  | _, _, .list a e r => .list (g _ _ a e).2 (g _ _ a e).1 (RdL.pass hX g r)
  | _, _, .tuple a e r => .tuple (g _ _ a e).2 (g _ _ a e).1 (RdL.pass hX g r)
  | _, _, .raw v => .raw v
  | _, _, .ext x => .ext (hX _ _ _ _ _ _ _ x g)
  | _, _, .slice a e p q r => .slice (g _ _ a e).2 (g _ _ a e).1 p q r
  | _, _, .range a e => .range (g _ _ a e).2 (g _ _ a e).1
theorem RdL.pass {X : Ext} (hX : ExtOk X) {P P' : Addr → Prop} {h h' : Heap} (g : Pass P h P' h') : ∀ {vs : List Value} {ds : List PV}, RdL X P h vs ds → RdL X P' h' vs ds
  | _, _, .nil => .nil
  | _, _, .cons a r => .cons (Rd.pass hX g a) (RdL.pass hX g r)
end

theorem RdL.length {X P h} : ∀ {vs ds}, RdL X P h vs ds → vs.length = ds.length
  | _, _, .nil => rfl
  | _, _, .cons _ r => by simp [r.length]
theorem RdL.get {X P h} : ∀ {vs ds} {i : Nat} {v : Value}, RdL X P h vs ds → vs[i]? = some v → ∃ d, ds[i]? = some d ∧ Rd X P h v d
  | _, _, i, v, .nil, e => by simp at e
  | _, _, 0, v, .cons a r, e => by simp at e; subst e; exact ⟨_, rfl, a⟩
  | _, _, i + 1, v, .cons a r, e => by simp at e; obtain ⟨d, h1, h2⟩ := r.get e; exact ⟨d, by simpa using h1, h2⟩
theorem RdL.get' {X P h} : ∀ {vs ds} {i : Nat} {d : PV}, RdL X P h vs ds → ds[i]? = some d → ∃ v, vs[i]? = some v ∧ Rd X P h v d
  | _, _, i, v, .nil, e => by simp at e
  | _, _, 0, v, .cons a r, e => by simp at e; subst e; exact ⟨_, rfl, a⟩
  | _, _, i + 1, v, .cons a r, e => by simp at e; obtain ⟨d, h1, h2⟩ := r.get' e; exact ⟨d, by simpa using h1, h2⟩
theorem RdL.append {X P h} : ∀ {vs ds vs' ds'}, RdL X P h vs ds → RdL X P h vs' ds' → RdL X P h (vs ++ vs') (ds ++ ds')
  | _, _, _, _, .nil, r => r
  | _, _, _, _, .cons a r, r' => .cons a (r.append r')

/-- what may change: lists, and instances of the text's one class -/
inductive AO where
  | mlist (xs : List PV)
  | inst (d : Addr) (fs : List (String × PV))
noncomputable abbrev Sto := List (Addr × AO)
noncomputable def AO.more : AO → List Addr
  | .mlist _ => []
  | .inst d _ => [d]
noncomputable def dom : Sto → List Addr
  | [] => []
  | p :: r => p.1 :: (p.2.more ++ dom r)

/-- what the top left, and what the walk may lean on -/
structure Cx where
  prog : Program
  w : World
  tb : List Addr
  base : Nat
  cls : Addr
  X : Ext
  extOk : ExtOk X
  gi : Heap → Prop
  mg : Str → Option Value
  mb : Str → Option Value
  g : ∀ {h}, gi h → h.Ns mainGlobals mg
  b : ∀ {h}, gi h → h.Ns builtinsNs mb
  nolimit : ∀ {h}, gi h → h.NoLimit
  low : ∀ {h}, gi h → base ≤ h.objs.size
  low2 : 8 ≤ base
  keep : ∀ {h h'}, gi h → (∀ b o, b < base → h.get? b = some o → h'.get? b = some o) → h.objs.size ≤ h'.objs.size → gi h'
  tbLow : ∀ a ∈ tb, a < base

/-- what an instance's dict holds -/
noncomputable def FieldsAre (X : Ext) (P : Addr → Prop) (h : Heap) (mA : Str → Option Value) (fs : List (String × PV)) : Prop :=
  (∀ x d, fs.lookup x = some d → ∃ v, mA (Str.ofString x) = some v ∧ Rd X P h v d) ∧ ∀ y v, mA y = some v → ∃ x d, y = Str.ofString x ∧ fs.lookup x = some d
/-- an instance of the text's class -/
noncomputable def InstOf (C : Cx) (h : Heap) (a d : Addr) : Prop := ∃ o, h.get? a = some o ∧ o.cls = .ref C.cls ∧ o.dict = some d ∧ ∀ c, o.data ≠ .cls c
noncomputable def AoIs (C : Cx) (P : Addr → Prop) (h : Heap) (a : Addr) : AO → Prop
  | .mlist xs => ∃ vs n, h.get? a = some { cls := .type "list", data := .seq vs n } ∧ RdL C.X P h vs.toList xs
  | .inst d fs => InstOf C h a d ∧ d ≠ a ∧ ∃ mA, h.Ns1 d mA ∧ FieldsAre C.X P h mA fs
noncomputable def StRel (C : Cx) (P : Addr → Prop) (h : Heap) (σ : Sto) : Prop := ∀ a ao, (a, ao) ∈ σ → AoIs C P h a ao

theorem FieldsAre.pass {X : Ext} (hX : ExtOk X) {P P' : Addr → Prop} {h h' : Heap} (g : Pass P h P' h') {mA fs} (r : FieldsAre X P h mA fs) : FieldsAre X P' h' mA fs :=
  ⟨fun x d hx => let ⟨v, a, b⟩ := r.1 x d hx; ⟨v, a, b.pass hX g⟩, r.2⟩
theorem AoIs.pass {C : Cx} {P P' : Addr → Prop} {h h' : Heap} (g : Pass P h P' h') {a : Addr} {ao : AO} (k : ∀ b, b = a ∨ b ∈ ao.more → ∀ o, h.get? b = some o → h'.get? b = some o) (r : AoIs C P h a ao) : AoIs C P' h' a ao := by
  cases ao with
  | mlist xs => obtain ⟨vs, n, e, r⟩ := r; exact ⟨vs, n, k a (.inl rfl) _ e, r.pass C.extOk g⟩
  | inst d fs => obtain ⟨⟨o, e, q⟩, hd, mA, n, r⟩ := r; exact ⟨⟨o, k a (.inl rfl) _ e, q⟩, hd, mA, n.at (k d (.inr (List.mem_singleton.mpr rfl))), r.pass C.extOk g⟩
theorem mem_dom {σ : Sto} {a : Addr} {ao : AO} (h : (a, ao) ∈ σ) : ∀ b, b = a ∨ b ∈ ao.more → b ∈ dom σ := by
  induction σ with
  | nil => exact absurd h List.not_mem_nil
  | cons p r ih =>
    intro b hb
    rcases List.mem_cons.mp h with rfl | h
    · rcases hb with rfl | hb
      · exact .head _
      · exact .tail _ (List.mem_append_left _ hb)
    · exact .tail _ (List.mem_append_right _ (ih h b hb))
theorem StRel.pass {C : Cx} {P P' : Addr → Prop} {h h' : Heap} {σ : Sto} (g : Pass P h P' h') (k : ∀ b ∈ dom σ, ∀ o, h.get? b = some o → h'.get? b = some o) (r : StRel C P h σ) : StRel C P' h' σ :=
  fun a ao hm => (r a ao hm).pass g fun b hb o e => k b (mem_dom hm b hb) o e

/-- room on the stack -/
structure Room (A : Around) (k : Nat) : Prop where
  depth : A.depth + k ≤ 900
  units : A.units + 100 * k ≤ 9000
  handled : A.handled = none
theorem Room.mono {A : Around} {k k' : Nat} (h : Room A k) (e : k' ≤ k) : Room A k' := ⟨by have := h.depth; lia, by have := h.units; lia, h.handled⟩
theorem Room.deeper {A : Around} {k : Nat} (h : Room A (k + 1)) (env : Env) : Room (A.deeper env) k := ⟨by have := h.depth; show A.depth + 1 + k ≤ 900; lia, by have := h.units; show A.units + 3 + 100 * k ≤ 9000; lia, h.handled⟩
theorem Room.limit {A : Around} {k : Nat} (h : Room A k) : A.depth < recursionLimit := by have := h.depth; show A.depth < 1000; lia

noncomputable def PP (P : Addr → Prop) (σ : Sto) : Addr → Prop := fun a => P a ∨ a ∈ dom σ

/-- what holds of the heap, no frame in sight -/
structure Hp (C : Cx) (P : Addr → Prop) (σ : Sto) (h : Heap) : Prop where
  gi : C.gi h
  st : StRel C P h σ
  ptb : ∀ a ∈ C.tb, P a
  pdom : ∀ a ∈ dom σ, P a ∧ C.base ≤ a
  nodup : (dom σ).Nodup
  plt : ∀ a, P a → a < h.objs.size
theorem AoIs.lt {C : Cx} {P : Addr → Prop} {h : Heap} {a : Addr} {ao : AO} (r : AoIs C P h a ao) : ∀ b, b = a ∨ b ∈ ao.more → b < h.objs.size := by
  intro b hb
  cases ao with
  | mlist xs =>
    obtain ⟨vs, n, e, r⟩ := r
    rcases hb with rfl | hb
    · exact Heap.lt_size e
    · exact absurd hb List.not_mem_nil
  | inst d fs =>
    obtain ⟨⟨o, e, q⟩, hd, mA, n, r⟩ := r
    rcases hb with rfl | hb
    · exact Heap.lt_size e
    · rw [List.mem_singleton.mp hb]; exact n.lt
theorem dom_of_mem : ∀ {σ : Sto} {b : Addr}, b ∈ dom σ → ∃ a ao, (a, ao) ∈ σ ∧ (b = a ∨ b ∈ ao.more)
  | p :: r, b, hb => by
    rcases List.mem_cons.mp hb with rfl | hb
    · exact ⟨p.1, p.2, .head _, .inl rfl⟩
    · rcases List.mem_append.mp hb with hb | hb
      · exact ⟨p.1, p.2, .head _, .inr hb⟩
      · obtain ⟨a, ao, h1, h2⟩ := dom_of_mem hb
        exact ⟨a, ao, .tail _ h1, h2⟩
theorem Hp.lt {C P σ h} (H : Hp C P σ h) : ∀ b ∈ dom σ, b < h.objs.size := fun b hb => by
  obtain ⟨a, ao, h1, h2⟩ := dom_of_mem hb
  exact (H.st a ao h1).lt b h2

/-- a step of the run: what it lets stand -/
structure Step (C : Cx) (σ σ' : Sto) (own : Addr → Prop) (s s' : Shared) : Prop where
  kept : ∀ b o, b ∉ dom σ → b ∉ C.tb → ¬ own b → s.heap.get? b = some o → s'.heap.get? b = some o
  size : s.heap.objs.size ≤ s'.heap.objs.size
  new : ∀ a ∈ dom σ', a ∈ dom σ ∨ s.heap.objs.size ≤ a
  gens : s'.gens = s.gens
  os : s'.os = s.os
noncomputable abbrev noOwn : Addr → Prop := fun _ => False
theorem Step.refl {C σ own} (s : Shared) : Step C σ σ own s s := ⟨fun _ _ _ _ _ e => e, Nat.le_refl _, fun _ h => .inl h, rfl, rfl⟩
theorem Step.trans {C σ σ₁ σ₂ own} {s s₁ s₂ : Shared} (h : Step C σ σ₁ own s s₁) (k : Step C σ₁ σ₂ own s₁ s₂) : Step C σ σ₂ own s s₂ :=
  ⟨fun b o h1 h2 h3 e => k.kept b o (fun hb => by
      rcases h.new b hb with q | q
      · exact h1 q
      · exact absurd (Heap.lt_size e) (Nat.not_lt.mpr q)) h2 h3 (h.kept b o h1 h2 h3 e),
   Nat.le_trans h.size k.size, fun a ha => by
     rcases k.new a ha with q | q
     · exact h.new a q
     · exact .inr (Nat.le_trans h.size q), k.gens.trans h.gens, k.os.trans h.os⟩
theorem Step.weak {C σ σ' own} {own' : Addr → Prop} {s s' : Shared} (h : Step C σ σ' own s s') (e : ∀ a, own a → own' a) : Step C σ σ' own' s s' :=
  ⟨fun b o h1 h2 h3 g => h.kept b o h1 h2 (fun q => h3 (e b q)) g, h.size, h.new, h.gens, h.os⟩

structure After (C : Cx) (P : Addr → Prop) (σ : Sto) (s : Shared) (σ' : Sto) (s' : Shared) : Prop where
  step : Step C σ σ' noOwn s s'
  hp : Hp C (PP P σ') σ' s'.heap
/-- what a value-level action ends in -/
noncomputable def Out (C : Cx) (P : Addr → Prop) (σ : Sto) (s : Shared) (K : PV → Sto → Prop) (v : Value) (s' : Shared) : Prop :=
  ∃ d σ', K d σ' ∧ After C P σ s σ' s' ∧ Rd C.X (PP P σ') s'.heap v d
noncomputable def OutL (C : Cx) (P : Addr → Prop) (σ : Sto) (s : Shared) (K : List PV → Sto → Prop) (vs : List Value) (s' : Shared) : Prop :=
  ∃ ds σ', K ds σ' ∧ After C P σ s σ' s' ∧ RdL C.X (PP P σ') s'.heap vs ds
noncomputable abbrev NoE : Value → Shared → Prop := fun _ _ => False

theorem pass_step {C : Cx} {P : Addr → Prop} {σ σ' : Sto} {own : Addr → Prop} {s s' : Shared} (hS : Step C σ σ' own s s') (hown : ∀ a, own a → P a) (hp : Hp C P σ s.heap) : Pass P s.heap (PP P σ') s'.heap := fun a o ha e =>
  ⟨hS.kept a o (fun q => ha (hp.pdom a q).1) (fun q => ha (hp.ptb a q)) (fun q => ha (hown a q)) e, fun q => q.elim ha fun q => by
    rcases hS.new a q with z | z
    · exact ha (hp.pdom a z).1
    · exact absurd (Heap.lt_size e) (Nat.not_lt.mpr z)⟩

theorem RdL.pass' {C : Cx} {P P' h h'} (g : Pass P h P' h') {vs ds} (r : RdL C.X P h vs ds) : RdL C.X P' h' vs ds := r.pass C.extOk g
theorem Rd.pass' {C : Cx} {P P' h h'} (g : Pass P h P' h') {v d} (r : Rd C.X P h v d) : Rd C.X P' h' v d := r.pass C.extOk g


/-- a variable of the frame -/
inductive Var (env : Env) (h : Heap) (x : Str) (v : Value) : Prop
  | loc {m} : env.kindOf x = some .local → h.Ns env.locals m → m x = some v → Var env h x v
  | cell {c} : (env.kindOf x = some .cell ∨ env.kindOf x = some .free) → env.cells.lookup x = some c → h.IsCell c (some v) → Var env h x v
noncomputable def own (env : Env) : Addr → Prop := fun a => a = env.locals ∨ ∃ x, env.cells.lookup x = some a
structure EnvOk (env : Env) (h : Heap) : Prop where
  kind : env.scope.kind = .function
  glob : env.globals = mainGlobals
  blt : env.builtins = builtinsNs
  ns : ∃ m, h.Ns env.locals m
  cells : ∀ x c, env.cells.lookup x = some c → c ≠ env.locals ∧ ∃ v, h.IsCell c v
  inj : ∀ x y c, env.cells.lookup x = some c → env.cells.lookup y = some c → x = y
  has : ∀ x, env.kindOf x = some .cell ∨ env.kindOf x = some .free → ∃ c, env.cells.lookup x = some c
noncomputable abbrev Lo := List (String × PV)
structure Inv (C : Cx) (P : Addr → Prop) (env : Env) (ρ : Lo) (σ : Sto) (h : Heap) : Prop where
  hp : Hp C P σ h
  envOk : EnvOk env h
  vars : ∀ x d, ρ.lookup x = some d → ∃ v, Var env h (Str.ofString x) v ∧ Rd C.X P h v d
  pown : ∀ a, own env a → P a ∧ C.base ≤ a ∧ a ∉ dom σ
theorem Var.keep {env : Env} {h h' : Heap} {x v} (k : ∀ b o, own env b → h.get? b = some o → h'.get? b = some o) : Var env h x v → Var env h' x v
  | .loc a n e => .loc a (let ⟨o, es, ep, ho, r⟩ := n; ⟨o, es, ep, k _ _ (.inl rfl) ho, r⟩) e
  | .cell a l c => .cell a l (let ⟨o, ho, hd⟩ := c; ⟨o, k _ _ (.inr ⟨_, l⟩) ho, hd⟩)
theorem EnvOk.keep {env : Env} {h h' : Heap} (H : EnvOk env h) (k : ∀ b o, own env b → h.get? b = some o → h'.get? b = some o) : EnvOk env h' :=
  ⟨H.kind, H.glob, H.blt, let ⟨m, o, es, ep, ho, r⟩ := H.ns; ⟨m, o, es, ep, k _ _ (.inl rfl) ho, r⟩,
   fun x c hx => let ⟨a, v, o, ho, hd⟩ := H.cells x c hx; ⟨a, v, o, k _ _ (.inr ⟨_, hx⟩) ho, hd⟩, H.inj, H.has⟩
theorem EnvOk.lt {env : Env} {h : Heap} (H : EnvOk env h) : ∀ a, own env a → a < h.objs.size := by
  rintro a (rfl | ⟨x, hx⟩)
  · obtain ⟨m, hm⟩ := H.ns; exact hm.lt
  · obtain ⟨_, v, hv⟩ := H.cells x a hx; exact hv.lt
/-- a step that stores nothing in the frame -/
theorem Inv.after {C P env ρ σ σ'} {s s' : Shared} (I : Inv C P env ρ σ s.heap) (hA : After C P σ s σ' s') : Inv C (PP P σ') env ρ σ' s'.heap := by
  obtain ⟨hS, hp⟩ := hA
  have k : ∀ b o, own env b → s.heap.get? b = some o → s'.heap.get? b = some o := fun b o hb e => hS.kept b o (I.pown b hb).2.2 (fun q => absurd (C.tbLow b q) (Nat.not_lt.mpr (I.pown b hb).2.1)) (fun q => q) e
  refine ⟨hp, I.envOk.keep k, fun x d hx => ?_, fun a ha => ⟨.inl (I.pown a ha).1, (I.pown a ha).2.1, fun q => ?_⟩⟩
  · obtain ⟨v, h1, h2⟩ := I.vars x d hx
    exact ⟨v, h1.keep k, h2.pass' (pass_step hS (fun _ q => q.elim) I.hp)⟩
  · rcases hS.new a q with z | z
    · exact (I.pown a ha).2.2 z
    · exact absurd (I.envOk.lt a ha) (Nat.not_lt.mpr z)

/-- an expression in a frame of scope sc -/
noncomputable def Ev (C : Cx) (k : Nat) (sc : Scope) (ρ : Lo) (σ : Sto) (e : Expr) (K : PV → Sto → Prop) : Prop :=
  ∀ (A : Around) (P : Addr → Prop) (env : Env) (s : Shared), env.scope = sc → Room A k → Inv C P env ρ σ s.heap →
    wpAny (model C.prog C.w) A (eval e env) (Out C P σ s K) NoE s

theorem Out.mono {C P σ s K K' v s'} (h : Out C P σ s K v s') (e : ∀ d σ', K d σ' → K' d σ') : Out C P σ s K' v s' := let ⟨d, σ', a, b⟩ := h; ⟨d, σ', e _ _ a, b⟩
theorem Ev.mono {C k sc ρ σ e K K'} (h : Ev C k sc ρ σ e K) (q : ∀ d σ', K d σ' → K' d σ') : Ev C k sc ρ σ e K' := fun A P env s h1 h2 h3 => wpAny_mono (h A P env s h1 h2 h3) (fun _ _ o => o.mono q) fun _ _ x => x

end Mine
namespace Mine
theorem Pass.refl (P : Addr → Prop) (h : Heap) : Pass P h P h := fun a o n e => ⟨e, n⟩
theorem Pass.trans {P P' P'' : Addr → Prop} {h h' h'' : Heap} (g : Pass P h P' h') (k : Pass P' h' P'' h'') : Pass P h P'' h'' := fun a o n e => let ⟨e', n'⟩ := g a o n e; k a o n' e'
theorem Pass.less {P P' : Addr → Prop} {h : Heap} (e : ∀ a, P' a → P a) : Pass P h P' h := fun a o n x => ⟨x, fun q => n (e a q)⟩
theorem Pass.pp {C P σ h} (H : Hp C P σ h) : Pass P h (PP P σ) h := fun a o n e => ⟨e, fun q => q.elim n fun q => n (H.pdom a q).1⟩
theorem Hp.pplt {C P σ h} (H : Hp C P σ h) : ∀ a, PP P σ a → a < h.objs.size := fun a q => q.elim (H.plt a) (H.lt a)
theorem Hp.weak {C : Cx} {P P' : Addr → Prop} {σ : Sto} {h : Heap} (H : Hp C P σ h) (e : ∀ a, P' a → P a) (hp : ∀ a ∈ C.tb, P' a) (hd : ∀ a ∈ dom σ, P' a) : Hp C P' σ h :=
  ⟨H.gi, H.st.pass (Pass.less e) (fun _ _ _ x => x), hp, fun a ha => ⟨hd a ha, (H.pdom a ha).2⟩, H.nodup, fun a ha => H.plt a (e a ha)⟩
theorem Hp.pp {C P σ h} (H : Hp C P σ h) : Hp C (PP P σ) σ h := ⟨H.gi, H.st.pass (Pass.pp H) (fun _ _ _ e => e), fun a ha => .inl (H.ptb a ha), fun a ha => ⟨.inr ha, (H.pdom a ha).2⟩, H.nodup, H.pplt⟩
theorem PP_up {P : Addr → Prop} {σ σ' : Sto} : ∀ a, PP P σ' a → PP (PP P σ) σ' a := fun a q => q.elim (fun q => .inl (.inl q)) .inr
theorem After.refl {C P σ s} (H : Hp C P σ s.heap) : After C P σ s σ s := ⟨Step.refl s, H.pp⟩
theorem After.toks {C P σ s} {n : Tok} (H : Hp C P σ s.heap) : After C P σ s σ { s with toks := n } := ⟨⟨fun _ _ _ _ _ e => e, Nat.le_refl _, fun _ h => .inl h, rfl, rfl⟩, H.pp⟩
theorem After.pass {C P σ σ' s s'} (h : After C P σ s σ' s') (H : Hp C P σ s.heap) : Pass P s.heap (PP P σ') s'.heap := pass_step h.step (fun _ q => q.elim) H
theorem After.trans {C P σ σ₁ σ₂ s s₁ s₂} (h : After C P σ s σ₁ s₁) (H : Hp C P σ s.heap) (k : After C (PP P σ₁) σ₁ s₁ σ₂ s₂) : After C P σ s σ₂ s₂ :=
  ⟨h.step.trans k.step, k.hp.weak PP_up (fun a ha => .inl (H.ptb a ha)) (fun a ha => .inr ha)⟩
theorem Rd.down {X P σ σ' h v d} (r : Rd X (PP (PP P σ) σ') h v d) (hX : ExtOk X) : Rd X (PP P σ') h v d := r.pass hX (Pass.less PP_up)
theorem RdL.down {X P σ σ' h v d} (r : RdL X (PP (PP P σ) σ') h v d) (hX : ExtOk X) : RdL X (PP P σ') h v d := r.pass hX (Pass.less PP_up)
theorem Out.seq {C P σ σ₁ s s₁ K v s₂} (hA : After C P σ s σ₁ s₁) (H : Hp C P σ s.heap) (o : Out C (PP P σ₁) σ₁ s₁ K v s₂) : Out C P σ s K v s₂ :=
  let ⟨d, σ', hK, k, r⟩ := o; ⟨d, σ', hK, hA.trans H k, r.down C.extOk⟩
theorem OutL.seq {C P σ σ₁ s s₁ K v s₂} (hA : After C P σ s σ₁ s₁) (H : Hp C P σ s.heap) (o : OutL C (PP P σ₁) σ₁ s₁ K v s₂) : OutL C P σ s K v s₂ :=
  let ⟨d, σ', hK, k, r⟩ := o; ⟨d, σ', hK, hA.trans H k, r.down C.extOk⟩
theorem Out.here {C P σ s K v d tk} (H : Hp C P σ s.heap) (r : Rd C.X P s.heap v d) (hK : K d σ) : Out C P σ s K v { s with toks := tk } := ⟨d, σ, hK, After.toks H, r.pass' (Pass.pp H)⟩
theorem Out.here' {C P σ s K v d} (H : Hp C P σ s.heap) (r : Rd C.X P s.heap v d) (hK : K d σ) : Out C P σ s K v s := Out.here (tk := s.toks) H r hK

/-- a new object that is not watched -/
theorem After.push {C P σ s} {o : Obj} {n : Tok} (H : Hp C P σ s.heap) : After C P σ s σ { s with heap := s.heap.push o, toks := n } := by
  have k : ∀ b x, s.heap.get? b = some x → (s.heap.push o).get? b = some x := fun b x e => Heap.get?_push_of_some _ e
  have sz : s.heap.objs.size ≤ (s.heap.push o).objs.size := by rw [Heap.size_push]; exact Nat.le_succ _
  refine ⟨⟨fun b x _ _ _ e => k b x e, sz, fun _ h => .inl h, rfl, rfl⟩, ?_⟩
  exact ⟨C.keep H.gi (fun b x _ e => k b x e) sz, H.st.pass (fun a x na e => ⟨k a x e, fun q => q.elim na fun q => na (H.pdom a q).1⟩) (fun b _ x e => k b x e), fun a ha => .inl (H.ptb a ha), fun a ha => ⟨.inr ha, (H.pdom a ha).2⟩, H.nodup, fun a q => Nat.lt_of_lt_of_le (H.pplt a q) sz⟩
theorem Hp.fresh {C P σ h} (H : Hp C P σ h) : ¬ PP P σ h.objs.size := fun q => Nat.lt_irrefl _ (H.pplt _ q)
/-- a new list -/
theorem Out.newList {C P σ s K vs ds tk} (H : Hp C P σ s.heap) (r : RdL C.X P s.heap vs ds) (hK : K (.list ds) σ) : Out C P σ s K (.ref s.heap.objs.size) { s with heap := s.heap.push { cls := .type "list", data := .seq vs.toArray }, toks := tk } :=
  let A := After.push (o := { cls := .type "list", data := .seq vs.toArray }) (n := tk) H
  ⟨_, σ, hK, A, .list H.fresh (Heap.get?_push_size _ rfl) (by simpa using r.pass' (A.pass H))⟩
theorem Out.newTuple {C P σ s K vs ds tk} (H : Hp C P σ s.heap) (r : RdL C.X P s.heap vs ds) (hK : K (.tuple ds) σ) : Out C P σ s K (.ref s.heap.objs.size) { s with heap := s.heap.push { cls := .type "tuple", data := .seq vs.toArray }, toks := tk } :=
  let A := After.push (o := { cls := .type "tuple", data := .seq vs.toArray }) (n := tk) H
  ⟨_, σ, hK, A, .tuple H.fresh (Heap.get?_push_size _ rfl) (by simpa using r.pass' (A.pass H))⟩
/-- a new list that will change -/
theorem Out.newMList {C P σ s K vs ds tk} (H : Hp C P σ s.heap) (r : RdL C.X P s.heap vs ds) (hK : K (.raw (.ref s.heap.objs.size)) ((s.heap.objs.size, .mlist ds) :: σ)) : Out C P σ s K (.ref s.heap.objs.size) { s with heap := s.heap.push { cls := .type "list", data := .seq vs.toArray }, toks := tk } := by
  have A := After.push (o := { cls := .type "list", data := .seq vs.toArray }) (n := tk) H
  have hz : s.heap.objs.size < (s.heap.push { cls := .type "list", data := .seq vs.toArray }).objs.size := by rw [Heap.size_push]; exact Nat.lt_succ_self _
  have g : Pass (PP P σ) (s.heap.push { cls := .type "list", data := .seq vs.toArray }) (PP P ((s.heap.objs.size, AO.mlist ds) :: σ)) (s.heap.push { cls := .type "list", data := .seq vs.toArray }) → True := fun _ => trivial
  have gg : Pass P s.heap (PP P ((s.heap.objs.size, AO.mlist ds) :: σ)) (s.heap.push { cls := .type "list", data := .seq vs.toArray }) := fun a o na e =>
    ⟨Heap.get?_push_of_some _ e, fun q => q.elim na fun q => by
      rcases List.mem_cons.mp q with rfl | q
      · exact absurd (Heap.lt_size e) (Nat.lt_irrefl _)
      · exact na (H.pdom a q).1⟩
  refine ⟨_, _, hK, ⟨⟨A.step.kept, A.step.size, fun a ha => ?_, rfl, rfl⟩, ?_⟩, .raw _⟩
  · rcases List.mem_cons.mp ha with rfl | ha
    · exact .inr (Nat.le_refl _)
    · exact .inl ha
  · refine ⟨A.hp.gi, ?_, fun a ha => .inl (H.ptb a ha), fun a ha => ⟨.inr ha, ?_⟩, ?_, fun a q => ?_⟩
    · intro a ao hm
      rcases List.mem_cons.mp hm with e | hm
      · cases e; exact ⟨_, _, Heap.get?_push_size _ rfl, by simpa using r.pass' gg⟩
      · exact (H.st a ao hm).pass gg fun b _ o e => Heap.get?_push_of_some _ e
    · rcases List.mem_cons.mp ha with rfl | ha
      · exact C.low H.gi
      · exact (H.pdom a ha).2
    · exact List.nodup_cons.mpr ⟨fun q => Nat.lt_irrefl _ (H.lt _ q), H.nodup⟩
    · rcases q with q | q
      · exact Nat.lt_trans (H.plt a q) hz
      · rcases List.mem_cons.mp q with rfl | q
        · exact hz
        · exact Nat.lt_trans (H.lt a q) hz
end Mine
end C1

section C2
open PySem PySem.W PyProof.Rows
set_option Elab.async false
set_option linter.unusedVariables false
namespace Mine

/-- actions on one, two, many values -/
noncomputable def Op1 (C : Cx) (k : Nat) (σ : Sto) (a : PV) (f : Value → Sem Value) (K : PV → Sto → Prop) : Prop :=
  ∀ (A : Around) (P : Addr → Prop) (s : Shared) (v : Value), Room A k → Hp C P σ s.heap → Rd C.X P s.heap v a → wpAny (model C.prog C.w) A (f v) (Out C P σ s K) NoE s
noncomputable def Op2 (C : Cx) (k : Nat) (σ : Sto) (a b : PV) (f : Value → Value → Sem Value) (K : PV → Sto → Prop) : Prop :=
  ∀ (A : Around) (P : Addr → Prop) (s : Shared) (v w : Value), Room A k → Hp C P σ s.heap → Rd C.X P s.heap v a → Rd C.X P s.heap w b → wpAny (model C.prog C.w) A (f v w) (Out C P σ s K) NoE s
noncomputable def OpL (C : Cx) (k : Nat) (σ : Sto) (ds : List PV) (f : List Value → Sem Value) (K : PV → Sto → Prop) : Prop :=
  ∀ (A : Around) (P : Addr → Prop) (s : Shared) (vs : List Value), Room A k → Hp C P σ s.heap → RdL C.X P s.heap vs ds → wpAny (model C.prog C.w) A (f vs) (Out C P σ s K) NoE s
/-- truth -/
noncomputable def OutB (C : Cx) (P : Addr → Prop) (σ : Sto) (s : Shared) (K : Bool → Sto → Prop) (b : Bool) (s' : Shared) : Prop := ∃ σ', K b σ' ∧ After C P σ s σ' s'
noncomputable def OpB (C : Cx) (k : Nat) (σ : Sto) (a : PV) (f : Value → Sem Bool) (K : Bool → Sto → Prop) : Prop :=
  ∀ (A : Around) (P : Addr → Prop) (s : Shared) (v : Value), Room A k → Hp C P σ s.heap → Rd C.X P s.heap v a → wpAny (model C.prog C.w) A (f v) (OutB C P σ s K) NoE s
noncomputable def Tr (C : Cx) (k : Nat) (sc : Scope) (ρ : Lo) (σ : Sto) (e : Expr) (K : Bool → Sto → Prop) : Prop :=
  ∀ (A : Around) (P : Addr → Prop) (env : Env) (s : Shared), env.scope = sc → Room A k → Inv C P env ρ σ s.heap →
    wpAny (model C.prog C.w) A (isTrue e env (eval e env)) (OutB C P σ s K) NoE s
/-- expressions one behind the other -/
noncomputable def EvL (C : Cx) (k : Nat) (sc : Scope) (ρ : Lo) : Sto → List Expr → (List PV → Sto → Prop) → Prop
  | σ, [], K => K [] σ
  | σ, e :: r, K => Ev C k sc ρ σ e fun d σ₁ => EvL C k sc ρ σ₁ r fun ds σ₂ => K (d :: ds) σ₂

theorem OutB.seq {C P σ σ₁ s s₁ K b s₂} (hA : After C P σ s σ₁ s₁) (H : Hp C P σ s.heap) (o : OutB C (PP P σ₁) σ₁ s₁ K b s₂) : OutB C P σ s K b s₂ := let ⟨σ', hK, k⟩ := o; ⟨σ', hK, hA.trans H k⟩
theorem OutB.here {C P σ s K b} (H : Hp C P σ s.heap) (hK : K b σ) : OutB C P σ s K b s := ⟨σ, hK, After.refl H⟩
theorem OutB.mono {C P σ s K K' b s'} (h : OutB C P σ s K b s') (e : ∀ b σ', K b σ' → K' b σ') : OutB C P σ s K' b s' := let ⟨σ', a, b⟩ := h; ⟨σ', e _ _ a, b⟩
theorem Tr.mono {C k sc ρ σ e K K'} (h : Tr C k sc ρ σ e K) (q : ∀ b σ', K b σ' → K' b σ') : Tr C k sc ρ σ e K' := fun A P env s h1 h2 h3 => wpAny_mono (h A P env s h1 h2 h3) (fun _ _ o => o.mono q) fun _ _ x => x
theorem Op1.mono {C k σ a f K K'} (h : Op1 C k σ a f K) (q : ∀ d σ', K d σ' → K' d σ') : Op1 C k σ a f K' := fun A P s v h1 h2 h3 => wpAny_mono (h A P s v h1 h2 h3) (fun _ _ o => o.mono q) fun _ _ x => x
theorem Op2.mono {C k σ a b f K K'} (h : Op2 C k σ a b f K) (q : ∀ d σ', K d σ' → K' d σ') : Op2 C k σ a b f K' := fun A P s v w h1 h2 h3 h4 => wpAny_mono (h A P s v w h1 h2 h3 h4) (fun _ _ o => o.mono q) fun _ _ x => x
theorem OpL.mono {C k σ a f K K'} (h : OpL C k σ a f K) (q : ∀ d σ', K d σ' → K' d σ') : OpL C k σ a f K' := fun A P s v h1 h2 h3 => wpAny_mono (h A P s v h1 h2 h3) (fun _ _ o => o.mono q) fun _ _ x => x
theorem EvL.mono {C k sc ρ} : ∀ {es σ K K'}, EvL C k sc ρ σ es K → (∀ d σ', K d σ' → K' d σ') → EvL C k sc ρ σ es K'
  | [], _, _, _, h, q => q _ _ h
  | e :: r, _, _, _, h, q => Ev.mono h fun d σ₁ h₁ => EvL.mono h₁ fun ds σ₂ h₂ => q _ _ h₂

/-! ## the frame's expressions -/
theorem Ev.name {C k sc ρ σ x pos d K} (hx : ρ.lookup x = some d) (h : K d σ) (hd : (Str.ofString x == ("__debug__" : Str)) = false := by decide) (hn : (Str.ofString x == ("__classdict__" : Str)) = false := by decide) : Ev C k sc ρ σ (.Name (Str.ofString x) pos) K := fun A P env s he hr I => by
  obtain ⟨v, hv, r⟩ := I.vars x d hx
  have o : Out C P σ s K v s := Out.here' I.hp r h
  cases hv with
  | loc a n e => exact wpAny_Name (wpAny_loadName_local I.envOk.kind a n e o) hd
  | cell a l c =>
    rcases a with a | a
    · exact wpAny_Name (wpAny_loadName_cell I.envOk.kind a l c o) hd
    · exact wpAny_Name (wpAny_loadName_free I.envOk.kind a l c o hn) hd
theorem Ev.global {C k sc ρ σ x pos v K} (hk : sc.names.lookup x = some .globalImplicit) (hg : C.mg x = some v) (h : K (.raw v) σ) (hd : (x == ("__debug__" : Str)) = false := by decide) : Ev C k sc ρ σ (.Name x pos) K := fun A P env s he hr I =>
  Calls.Name_function_global I.envOk.kind (by subst he; exact hk) (Calls.loadGlobal_global (mg := C.mg) (by rw [I.envOk.glob]; exact C.g I.hp.gi) hg (Out.here' I.hp (.raw v) h)) hd
theorem Ev.builtin {C k sc ρ σ x pos v K} (hk : sc.names.lookup x = some .globalImplicit) (hn : C.mg x = none) (hg : C.mb x = some v) (h : K (.raw v) σ) (hd : (x == ("__debug__" : Str)) = false := by decide) : Ev C k sc ρ σ (.Name x pos) K := fun A P env s he hr I =>
  Calls.Name_function_global I.envOk.kind (by subst he; exact hk) (Calls.loadGlobal_builtin (mg := C.mg) (mb := C.mb) (by rw [I.envOk.glob]; exact C.g I.hp.gi) hn (by rw [I.envOk.blt]; exact C.b I.hp.gi) hg (Out.here' I.hp (.raw v) h)) hd
theorem Ev.int {C k sc ρ σ i kk pos K} (h : K (.int i) σ) : Ev C k sc ρ σ (.Constant (.int i) kk pos) K := fun A P env s he hr I => wpAny_Constant_int (Out.here I.hp (.int i _) h)
theorem Ev.str {C k sc ρ σ kk pos K} {x : Str} {l : List Nat} (hl : x.cps.toList = l) (h : K (.str l) σ) : Ev C k sc ρ σ (.Constant (.str x) kk pos) K := fun A P env s he hr I => wpAny_Constant_str (Out.here I.hp (hl ▸ .str x _) h)
theorem Ev.none {C k sc ρ σ kk pos K} (h : K .none σ) : Ev C k sc ρ σ (.Constant .none kk pos) K := fun A P env s he hr I => wpAny_Constant_none (Out.here' I.hp .none h)
theorem Ev.bool {C k sc ρ σ b kk pos K} (h : K (.bool b) σ) : Ev C k sc ρ σ (.Constant (.bool b) kk pos) K := fun A P env s he hr I => wpAny_Constant_bool (Out.here' I.hp (.bool b) h)

/-- two expressions, one behind the other; the first one's value is kept -/
theorem ev_two {C k sc ρ σ e₁ e₂} {K : PV → PV → Sto → Prop} (h : Ev C k sc ρ σ e₁ fun a σ₁ => Ev C k sc ρ σ₁ e₂ (K a)) {A P env s} (he : env.scope = sc) (hr : Room A k) (I : Inv C P env ρ σ s.heap) {Q : Value → Value → Shared → Prop}
    (hQ : ∀ v₁ v₂ d₁ d₂ σ₂ s₂, K d₁ d₂ σ₂ → After C P σ s σ₂ s₂ → Rd C.X (PP P σ₂) s₂.heap v₁ d₁ → Rd C.X (PP P σ₂) s₂.heap v₂ d₂ → Q v₁ v₂ s₂) :
    wpAny (model C.prog C.w) A (eval e₁ env) (fun v₁ s₁ => wpAny (model C.prog C.w) A (eval e₂ env) (fun v₂ s₂ => Q v₁ v₂ s₂) NoE s₁) NoE s := by
  refine wpAny_mono (h A P env s he hr I) (fun v₁ s₁ o => ?_) fun _ _ x => x
  obtain ⟨d₁, σ₁, hK, hA, r⟩ := o
  refine wpAny_mono (hK A _ env s₁ he hr (I.after hA)) (fun v₂ s₂ o => ?_) fun _ _ x => x
  obtain ⟨d₂, σ₂, hK₂, hA₂, r₂⟩ := o
  exact hQ _ _ _ _ _ _ hK₂ (hA.trans I.hp hA₂) ((r.pass' (hA₂.pass hA.hp)).down C.extOk) (r₂.down C.extOk)
theorem ev_one {C k sc ρ σ e₁ K} (h : Ev C k sc ρ σ e₁ K) {A P env s} (he : env.scope = sc) (hr : Room A k) (I : Inv C P env ρ σ s.heap) {Q : Value → Shared → Prop}
    (hQ : ∀ v₁ d₁ σ₁ s₁, K d₁ σ₁ → After C P σ s σ₁ s₁ → Rd C.X (PP P σ₁) s₁.heap v₁ d₁ → Q v₁ s₁) :
    wpAny (model C.prog C.w) A (eval e₁ env) (fun v₁ s₁ => Q v₁ s₁) NoE s := by
  refine wpAny_mono (h A P env s he hr I) (fun v₁ s₁ o => ?_) fun _ _ x => x
  obtain ⟨d₁, σ₁, hK, hA, r⟩ := o
  exact hQ _ _ _ _ hK hA r

theorem wp_seq {C P σ σ₁ s s₁ A} {f : Sem Value} {K} (hA : After C P σ s σ₁ s₁) (H : Hp C P σ s.heap) (h : wpAny (model C.prog C.w) A f (Out C (PP P σ₁) σ₁ s₁ K) NoE s₁) : wpAny (model C.prog C.w) A f (Out C P σ s K) NoE s₁ :=
  wpAny_mono h (fun v s' o => Out.seq hA H o) fun _ _ x => x
theorem wp_seqB {C P σ σ₁ s s₁ A} {f : Sem Bool} {K} (hA : After C P σ s σ₁ s₁) (H : Hp C P σ s.heap) (h : wpAny (model C.prog C.w) A f (OutB C (PP P σ₁) σ₁ s₁ K) NoE s₁) : wpAny (model C.prog C.w) A f (OutB C P σ s K) NoE s₁ :=
  wpAny_mono h (fun v s' o => OutB.seq hA H o) fun _ _ x => x

theorem Ev.binop {C k sc ρ σ l op r pos K} (h : Ev C k sc ρ σ l fun a σ₁ => Ev C k sc ρ σ₁ r fun b σ₂ => Op2 C k σ₂ a b (binaryOp op) K) : Ev C k sc ρ σ (.BinOp l op r pos) K := fun A P env s he hr I =>
  wpAny_BinOp (ev_two h he hr I fun v₁ v₂ d₁ d₂ σ₂ s₂ hK hA r₁ r₂ => wp_seq hA I.hp (hK A _ s₂ v₁ v₂ hr hA.hp r₁ r₂))
theorem Ev.cmp {C k sc ρ σ l op r pos K} (h : Ev C k sc ρ σ l fun a σ₁ => Ev C k sc ρ σ₁ r fun b σ₂ => Op2 C k σ₂ a b (compareOp op) K) (hm : behindInMarks op r = false) : Ev C k sc ρ σ (.Compare l [op] [r] pos) K := fun A P env s he hr I =>
  wpAny_Compare1 (ev_two h he hr I fun v₁ v₂ d₁ d₂ σ₂ s₂ hK hA r₁ r₂ => wp_seq hA I.hp (hK A _ s₂ v₁ v₂ hr hA.hp r₁ r₂)) hm
theorem Ev.unary {C k sc ρ σ op x pos K} (h : Ev C k sc ρ σ x fun a σ₁ => Op1 C k σ₁ a (unaryOp op) K) : Ev C k sc ρ σ (.UnaryOp op x pos) K := fun A P env s he hr I =>
  wpAny_UnaryOp (ev_one h he hr I fun v d σ₁ s₁ hK hA r => wp_seq hA I.hp (hK A _ s₁ v hr hA.hp r))

/-! ## truth -/
theorem Tr.cmp {C k sc ρ σ l op r pos K} (h : Ev C k sc ρ σ l fun a σ₁ => Ev C k sc ρ σ₁ r fun b σ₂ => Op2 C k σ₂ a b (compareOp op) fun c σ₃ => OpB C k σ₃ c truthy K) (hm : behindInMarks op r = false) : Tr C k sc ρ σ (.Compare l [op] [r] pos) K := fun A P env s he hr I => by
  refine wpAny_isTrue_Compare1 (ev_two h he hr I fun v₁ v₂ d₁ d₂ σ₂ s₂ hK hA r₁ r₂ => ?_) hm
  refine wpAny_mono (hK A _ s₂ v₁ v₂ hr hA.hp r₁ r₂) (fun c s₃ o => ?_) fun _ _ x => x
  obtain ⟨d, σ₃, hK₃, hA₃, r₃⟩ := o
  have hA' := hA.trans I.hp hA₃
  exact wp_seqB hA' I.hp (hK₃ A _ s₃ c hr hA'.hp (r₃.down C.extOk))
theorem Tr.not {C k sc ρ σ x pos K} (h : Tr C k sc ρ σ x fun b σ₁ => K (!b) σ₁) : Tr C k sc ρ σ (.UnaryOp .Not x pos) K := fun A P env s he hr I =>
  wpAny_isTrue_Not (wpAny_mono (h A P env s he hr I) (fun _ _ o => o) fun _ _ x => x)
theorem Tr.value {C k sc ρ σ e K} (h : Ev C k sc ρ σ e fun a σ₁ => OpB C k σ₁ a truthy K) (he' : ∀ env whole, isTrue e env whole = (do let v ← whole; standAt e.pos; holding [v] (truthy v))) : Tr C k sc ρ σ e K := fun A P env s he hr I =>
  wpAny_isTrue_value (ev_one h he hr I fun v d σ₁ s₁ hK hA r => wp_seqB hA I.hp (hK A _ s₁ v hr hA.hp r)) (he' _ _)
theorem Ev.ifexp {C k sc ρ σ t a b pos K} (h : Tr C k sc ρ σ t fun c σ₁ => if c then Ev C k sc ρ σ₁ a K else Ev C k sc ρ σ₁ b K) : Ev C k sc ρ σ (.IfExp t a b pos) K := fun A P env s he hr I => by
  refine wpAny_IfExp (wpAny_mono (h A P env s he hr I) (fun c s₁ o => ?_) fun _ _ x => x)
  obtain ⟨σ₁, hK, hA⟩ := o
  cases c with
  | true => exact wp_seq hA I.hp (hK A _ env s₁ he hr (I.after hA))
  | false => exact wp_seq hA I.hp (hK A _ env s₁ he hr (I.after hA))
/-- tests in a row -/
noncomputable def TrAll (C : Cx) (k : Nat) (sc : Scope) (ρ : Lo) (op : BoolOp) : Sto → List Expr → (Bool → Sto → Prop) → Prop
  | σ, [], K => K (op == .And) σ
  | σ, e :: r, K => Tr C k sc ρ σ e fun b σ₁ => if b = (op == .And) then TrAll C k sc ρ op σ₁ r K else K b σ₁
theorem Tr.boolop {C k sc ρ σ op es pos K} (h : TrAll C k sc ρ op σ es K) : Tr C k sc ρ σ (.BoolOp op es pos) K := fun A P env s he hr I => by
  show wpAny (model C.prog C.w) A (allTrue op es env) (OutB C P σ s K) NoE s
  induction es generalizing P σ s with
  | nil => exact wpAny_pure (OutB.here I.hp h)
  | cons e r ih =>
    rw [arm_allTrue_cons]
    refine wpAny_bind (wpAny_mono (h A P env s he hr I) (fun b s₁ o => ?_) fun _ _ x => x)
    obtain ⟨σ₁, hK, hA⟩ := o
    by_cases hb : b = (op == .And)
    · rw [if_pos hb] at hK
      subst hb
      have g := wp_seqB hA I.hp (ih hK _ s₁ (I.after hA))
      cases op <;> exact g
    · rw [if_neg hb] at hK
      have g : OutB C P σ s K b s₁ := ⟨σ₁, hK, hA⟩
      cases op <;> cases b <;> first | exact absurd rfl hb | exact wpAny_pure g
end Mine
end C2

section C3
open PySem PySem.W PyProof.Rows
set_option Elab.async false
set_option linter.unusedVariables false
namespace Mine

noncomputable def plainE : Expr → Bool
  | .Starred .. => false
  | _ => true
theorem starEach_plain {e r env} (h : plainE e = true) : starEach (e :: r) env = (false, eval e env) :: starEach r env := by
  cases e <;> first | rfl | cases h
theorem backTo_cons {pos t r} : backTo pos ((false, t) :: r) = (false, t) :: backTo pos r := rfl
theorem plain_trees {pos env} : ∀ {es : List Expr}, es.all plainE = true → (backTo pos (starEach es env)).any (·.1) = false
  | [], _ => rfl
  | e :: r, h => by
    rw [List.all_cons, Bool.and_eq_true] at h
    rw [starEach_plain h.1, backTo_cons, List.any_cons, plain_trees h.2]; rfl
theorem plain_trees' {pos env} : ∀ {es : List Expr}, es.all plainE = true → (backTo pos (starEach es env)).all (fun x => !x.1) = true
  | [], _ => rfl
  | e :: r, h => by
    rw [List.all_cons, Bool.and_eq_true] at h
    rw [starEach_plain h.1, backTo_cons, List.all_cons, plain_trees' h.2]; rfl

theorem evL_spliced {C k sc ρ A env pos} (he : env.scope = sc) (hr : Room A k) : ∀ {es : List Expr} {σ P K s}, EvL C k sc ρ σ es K → es.all plainE = true → Inv C P env ρ σ s.heap →
    wpAny (model C.prog C.w) A (spliced (backTo pos (starEach es env))) (OutL C P σ s K) NoE s
  | [], σ, P, K, s, h, _, I => Calls.spliced_nil ⟨[], σ, h, After.refl I.hp, .nil⟩
  | e :: r, σ, P, K, s, h, hp, I => by
    rw [List.all_cons, Bool.and_eq_true] at hp
    rw [starEach_plain hp.1, backTo_cons]
    refine Calls.spliced_cons (ev_one h he hr I fun v d σ₁ s₁ hK hA r₁ => ?_)
    refine wpAny_mono (evL_spliced he hr hK hp.2 (I.after hA)) (fun vs s₂ o => ?_) fun _ _ x => x
    obtain ⟨ds, σ₂, hK₂, hA₂, r₂⟩ := o
    exact ⟨_, σ₂, hK₂, hA.trans I.hp hA₂, .cons ((r₁.pass' (hA₂.pass hA.hp)).down C.extOk) (r₂.down C.extOk)⟩

theorem Ev.list {C k sc ρ σ es pos K} (h : EvL C k sc ρ σ es fun ds σ₁ => ds.length ≤ sizeLine ∧ K (.list ds) σ₁) (hp : es.all plainE = true) : Ev C k sc ρ σ (.List es pos) K := fun A P env s he hr I => by
  refine wpAny_List (wpAny_mono (evL_spliced he hr h hp I) (fun vs s₁ o => ?_) fun _ _ x => x)
  obtain ⟨ds, σ₁, ⟨hl, hK⟩, hA, r⟩ := o
  exact ⟨by rw [r.length]; exact hl, Out.seq hA I.hp (Out.newList (tk := s₁.toks) hA.hp r hK)⟩
theorem Ev.tuple {C k sc ρ σ es x pos K} (h : EvL C k sc ρ σ es fun ds σ₁ => ds.length ≤ sizeLine ∧ K (.tuple ds) σ₁) (hp : es.all plainE = true) : Ev C k sc ρ σ (.Tuple es x pos) K := fun A P env s he hr I => by
  refine wpAny_Tuple (wpAny_mono (evL_spliced he hr h hp I) (fun vs s₁ o => ?_) fun _ _ x => x)
  obtain ⟨ds, σ₁, ⟨hl, hK⟩, hA, r⟩ := o
  exact ⟨by rw [r.length]; exact hl, Out.seq hA I.hp (Out.newTuple (tk := s₁.toks) hA.hp r hK)⟩
/-- a list that will change -/
theorem Ev.mlist {C k sc ρ σ es pos K} (h : EvL C k sc ρ σ es fun ds σ₁ => ds.length ≤ sizeLine ∧ ∀ a, a ∉ dom σ₁ → K (.raw (.ref a)) ((a, .mlist ds) :: σ₁)) (hp : es.all plainE = true) : Ev C k sc ρ σ (.List es pos) K := fun A P env s he hr I => by
  refine wpAny_List (wpAny_mono (evL_spliced he hr h hp I) (fun vs s₁ o => ?_) fun _ _ x => x)
  obtain ⟨ds, σ₁, ⟨hl, hK⟩, hA, r⟩ := o
  exact ⟨by rw [r.length]; exact hl, Out.seq hA I.hp (Out.newMList (tk := s₁.toks) hA.hp r (hK _ fun q => Nat.lt_irrefl _ (hA.hp.lt _ q)))⟩

/-! ## subscripts -/
theorem sub_ops (slice : Expr) (o i : Value) : ∃ ops, subscripted slice false o i = operate ops (getItem o i) := by
  cases slice with
  | Slice l u st p => cases st <;> exact ⟨_, rfl⟩
  | _ => exact ⟨_, rfl⟩
theorem Ev.sub {C k sc ρ σ value slice pos K} (h : Ev C k sc ρ σ value fun a σ₁ => Ev C k sc ρ σ₁ slice fun b σ₂ => Op2 C k σ₂ a b (subscriptTail value slice) K) : Ev C k sc ρ σ (.Subscript value slice pos) K := fun A P env s he hr I =>
  Subscript_ (ev_two h he hr I fun v₁ v₂ d₁ d₂ σ₂ s₂ hK hA r₁ r₂ => wp_seq hA I.hp (hK A _ s₂ v₁ v₂ hr hA.hp r₁ r₂))
/-- an optional part of a slice -/
noncomputable def EvO (C : Cx) (k : Nat) (sc : Scope) (ρ : Lo) (σ : Sto) : Option Expr → (PV → Sto → Prop) → Prop
  | none, K => K .none σ
  | some e, K => Ev C k sc ρ σ e K
theorem evO_one {C k sc ρ σ e₁ K} (h : EvO C k sc ρ σ e₁ K) {A P env s} (he : env.scope = sc) (hr : Room A k) (I : Inv C P env ρ σ s.heap) {Q : Value → Shared → Prop}
    (hQ : ∀ v₁ d₁ σ₁ s₁, K d₁ σ₁ → After C P σ s σ₁ s₁ → Rd C.X (PP P σ₁) s₁.heap v₁ d₁ → Q v₁ s₁) :
    wpAny (model C.prog C.w) A (evalPart e₁ env) (fun v₁ s₁ => Q v₁ s₁) NoE s := by
  cases e₁ with
  | none => exact wpAny_evalPart_none (hQ _ _ _ _ h (After.refl I.hp) .none)
  | some e => exact wpAny_evalPart_some (ev_one h he hr I hQ)
inductive PartIs : PV → Option Int → Prop
  | none : PartIs .none none
  | int (i : Int) : PartIs (.int i) (some i)
theorem PartIs.of {X P h v d p} (q : PartIs d p) (r : Rd X P h v d) : IsPart v p := by
  cases q <;> cases r <;> constructor
theorem Ev.slice {C k sc ρ σ lower upper step pos K}
    (h : EvO C k sc ρ σ lower fun l σ₁ => EvO C k sc ρ σ₁ upper fun u σ₂ => EvO C k sc ρ σ₂ step fun st σ₃ => ∃ lo hi t, PartIs l lo ∧ PartIs u hi ∧ PartIs st t ∧ K (.slice lo hi t) σ₃) : Ev C k sc ρ σ (.Slice lower upper step pos) K := fun A P env s he hr I => by
  refine wpAny_Slice (evO_one h he hr I fun v₁ d₁ σ₁ s₁ h₁ A₁ r₁ => ?_)
  refine evO_one h₁ he hr (I.after A₁) fun v₂ d₂ σ₂ s₂ h₂ A₂ r₂ => ?_
  refine evO_one h₂ he hr ((I.after A₁).after A₂) fun v₃ d₃ σ₃ s₃ h₃ A₃ r₃ => ?_
  obtain ⟨lo, hi, t, p₁, p₂, p₃, hK⟩ := h₃
  have A' := (A₁.trans I.hp A₂).trans I.hp (σ₂ := σ₃) (s₂ := s₃) ⟨A₃.step, A₃.hp.weak PP_up' (fun a ha => .inl (.inl (I.hp.ptb a ha))) (fun a ha => .inr ha)⟩
  have B := After.push (o := { cls := .type "slice", data := .fields #[v₁, v₂, v₃] }) (n := s₃.toks) A'.hp
  exact Out.seq A' I.hp ⟨_, σ₃, hK, B, .slice A'.hp.fresh (Heap.get?_push_size _ rfl) (p₁.of r₁) (p₂.of r₂) (p₃.of r₃)⟩
where PP_up' {P : Addr → Prop} {σ σ' σ'' : Sto} : ∀ a, PP (PP P σ') σ'' a → PP (PP (PP P σ) σ') σ'' a := fun a q => q.elim (fun q => .inl (q.elim (fun q => .inl (.inl q)) .inr)) .inr

/-! ## lists, tuples, as they are read -/
/-- d is a list of xs, one that may change or not -/
noncomputable def LRead (C : Cx) (σ : Sto) (d : PV) (xs : List PV) : Prop :=
  ∀ P (s : Shared) v, Hp C P σ s.heap → Rd C.X P s.heap v d → ∃ a vs n, v = .ref a ∧ s.heap.get? a = some { cls := .type "list", data := .seq vs n } ∧ RdL C.X P s.heap vs.toList xs
theorem LRead.list {C σ xs} : LRead C σ (.list xs) xs := fun P s v H r => by cases r with | list a e r => exact ⟨_, _, _, rfl, e, r⟩
theorem LRead.mut {C σ a xs} (h : (a, AO.mlist xs) ∈ σ) : LRead C σ (.raw (.ref a)) xs := fun P s v H r => by
  cases r with | raw => obtain ⟨vs, n, e, r⟩ := H.st _ _ h; exact ⟨_, _, _, rfl, e, r⟩
theorem isList_of {h : Heap} {a vs n} (e : h.get? a = some { cls := .type "list", data := .seq vs n }) : h.IsList a vs := ⟨_, e, rfl, n, rfl⟩
theorem isTup_of {h : Heap} {a vs n} (e : h.get? a = some { cls := .type "tuple", data := .seq vs n }) : IsTup h a vs := ⟨_, e, rfl, n, rfl⟩

theorem Op2.item {C k σ value slice a xs i d K} (hl : LRead C σ a xs) (h0 : 0 ≤ i) (h1 : i < 2 ^ 63) (hx : xs[i.toNat]? = some d) (h : K d σ) : Op2 C k σ a (.int i) (subscriptTail value slice) K := fun A P s v w hr H r₁ r₂ => by
  obtain ⟨b, vs, n, rfl, e, r⟩ := hl P s v H r₁
  cases r₂ with | int i t =>
  obtain ⟨x, hx', rx⟩ := r.get' hx
  obtain ⟨ops, ho⟩ := sub_ops slice (.ref b) (.int i t)
  exact tail_any (isList_of e).typeIs slot_list_getitem.lookup (wpAny_getItem_list (isList_of e) h0 h1 (by simpa using hx') (Out.here' H rx h)) ho

/-! ## calls -/
noncomputable def Callable (C : Cx) (fv : Value) : Prop := ∀ h, C.gi h → ∃ k, (k = Keeper.frame ∨ k = Keeper.machine ∨ k = Keeper.boundFrame) ∧ ∀ M, Looks M h (keeperOf fv) k
theorem Callable.builtin {C id} : Callable C (.builtin id) := fun h _ => ⟨.machine, .inr (.inl rfl), fun M => Looks.now⟩
theorem Callable.type {C T} : Callable C (.type T) := fun h _ => ⟨.machine, .inr (.inl rfl), fun M => Looks.now⟩
theorem evalArgs_of {M A E s} {f : Value} {trees : List (Bool × Sem Value)} {Q : Args → Shared → Prop} (hp : trees.any (·.1) = false) (h : wpAny M A (spliced trees) (fun vs s' => Q ⟨vs, []⟩ s') E s) : wpAny M A (evalArgs f true trees []) Q E s := by
  cases trees with
  | nil =>
    unfold evalArgs
    show wpAny M A (spliced [] >>= _) Q E s
    refine wpAny_bind (wpAny_mono h (fun vs s' h' => wpAny_bind (wpAny_pure ?_)) fun _ _ x => x)
    refine wpAny_holding ?_
    exact wpAny_bind (wpAny_pure (wpAny_bind (wpAny_pure (wpAny_pure h'))))
  | cons p r =>
    obtain ⟨b, x⟩ := p
    cases b with
    | true => simp at hp
    | false => exact Calls.evalArgs_plain h
/-- a call whose callee is a value in hand, with `first` ahead of the arguments -/
theorem callWith_L {C k sc ρ σ P env s A pos fv first fs es K} (he : env.scope = sc) (hr : Room A k) (I : Inv C P env ρ σ s.heap) (hc : Callable C fv) (hf : RdL C.X P s.heap first fs)
    (h : EvL C k sc ρ σ es fun ds σ₁ => OpL C k σ₁ (fs ++ ds) (fun vs => PySem.call fv vs) K) (hp : es.all plainE = true) :
    wpAny (model C.prog C.w) A (callWith pos fv first (backTo pos (starEach es env)) []) (Out C P σ s K) NoE s := by
  refine callWith_of (P := C.gi) (by rw [plain_trees hp]; rfl) (fun h' g => let ⟨k, a, b⟩ := hc h' g; ⟨k, a, b _⟩) (evalArgs_of (plain_trees hp) ?_)
  refine wpAny_mono (evL_spliced he hr h hp I) (fun vs s₁ o => ?_) fun _ _ x => x
  obtain ⟨ds, σ₁, hK, hA, r⟩ := o
  exact ⟨hA.hp.gi, wp_seq hA I.hp (hK A _ s₁ (first ++ vs) hr hA.hp ((hf.pass' (hA.pass I.hp)).append r))⟩
theorem Ev.call {C k sc ρ σ func es pos K} (h : Ev C k sc ρ σ func fun f σ₁ => ∃ fv, f = .raw fv ∧ Callable C fv ∧ EvL C k sc ρ σ₁ es fun ds σ₂ => OpL C k σ₂ ds (fun vs => PySem.call fv vs) K) (hp : es.all plainE = true)
    (hev : ∀ env, eval (.Call func es [] pos) env = (do callWith pos (← eval func env) [] (backTo pos (starEach es env)) (backToKw pos (keywordEach [] env)))) : Ev C k sc ρ σ (.Call func es [] pos) K := fun A P env s he hr I => by
  refine Call_ (ev_one h he hr I fun v d σ₁ s₁ hK hA r => ?_) (hev env)
  obtain ⟨fv, rfl, hc, hK⟩ := hK
  cases r with | raw =>
  exact wp_seq hA I.hp (callWith_L he hr (I.after hA) hc .nil hK hp)

/-- d is of the built-in type T -/
noncomputable def OfType (C : Cx) (σ : Sto) (d : PV) (T : String) : Prop := ∀ P (s : Shared) v, Hp C P σ s.heap → Rd C.X P s.heap v d → s.TypeIs v T ∧ ∀ a, v = .ref a → ∃ ob, s.heap.get? a = some ob ∧ ob.dict = none
theorem OfType.str {C σ x} : OfType C σ (.str x) "str" := fun P s v H r => by cases r; exact ⟨rfl, fun a e => by cases e⟩
theorem OfType.list {C σ d xs} (h : LRead C σ d xs) : OfType C σ d "list" := fun P s v H r => by
  obtain ⟨b, vs, n, rfl, e, r⟩ := h P s v H r
  exact ⟨(isList_of e).typeIs, fun a ha => by cases ha; exact ⟨_, e, rfl⟩⟩
theorem OfType.int {C σ i} : OfType C σ (.int i) "int" := fun P s v H r => by cases r; exact ⟨rfl, fun a e => by cases e⟩
theorem OfType.tuple {C σ xs} : OfType C σ (.tuple xs) "tuple" := fun P s v H r => by cases r with | tuple na e r => exact ⟨(isTup_of e).typeIs, fun a ha => by cases ha; exact ⟨_, e, rfl⟩⟩
theorem Ev.method {C k sc ρ σ o name apos pos es T id_ K} (h : Ev C k sc ρ σ o fun a σ₁ => OfType C σ₁ a T ∧ EvL C k sc ρ σ₁ es fun ds σ₂ => OpL C k σ₂ (a :: ds) (fun vs => PySem.call (.builtin id_) vs) K)
    (pa : PlainAttrs T) (slot : PySem.Slot T name id_) (hty : typeOf (.builtin id_) = pure (.type "method_descriptor"))
    (hp : es.all plainE = true) (hfew : es.length < 30) (hline : (apos.endLine == pos.line) = true) (hbase : ∀ env, attributeBase o name env (eval o env) = eval o env) :
    Ev C k sc ρ σ (.Call (.Attribute o name apos) es [] pos) K := fun A P env s he hr I => by
  refine wpAny_Call_method_lateS (hbase env) ?_ hline (ev_one h he hr I fun v d σ₁ s₁ hK hA r => ?_)
  · rw [plain_trees' hp]; simpa [keywordEach, backToKw] using hfew
  · obtain ⟨hT, hd⟩ := hK.1 _ s₁ v hA.hp r
    exact ⟨T, id_, pa, slot, hty, hT, hd, wp_seq hA I.hp (callWith_L he hr (I.after hA) Callable.builtin (.cons r .nil) hK.2 hp)⟩
end Mine
end C3

section C4
open PySem PySem.W PyProof.Rows
set_option Elab.async false
set_option linter.unusedVariables false
namespace Mine

theorem ofString_inj {a b : String} (h : Str.ofString a = Str.ofString b) : a = b := by
  rw [Str.ofString_eq_toList, Str.ofString_eq_toList] at h
  have h1 : a.toList.map Char.toNat = b.toList.map Char.toNat := by simpa using h
  have h2 : a.toList = b.toList := (List.map_inj_right fun x y e => Char.ext (UInt32.toNat_inj.mp e)).mp h1
  exact String.toList_inj.mp h2

/-- every name that ρ' knows ρ knows, too -/
noncomputable def Has (ρ : Lo) : Lo → Prop
  | [] => True
  | p :: r => ρ.lookup p.1 = some p.2 ∧ Has ρ r
theorem Has.get {ρ : Lo} : ∀ {ρ' : Lo} {x d}, Has ρ ρ' → ρ'.lookup x = some d → ρ.lookup x = some d
  | [], _, _, _, h => by cases h
  | (y, e) :: r, x, d, hh, h => by
    by_cases hx : x = y
    · subst hx; rw [List.lookup_cons_self] at h; cases h; exact hh.1
    · rw [List.lookup_cons, beq_false_of_ne hx] at h; exact hh.2.get h
theorem Inv.has {C P env ρ ρ' σ h} (I : Inv C P env ρ σ h) (e : Has ρ ρ') : Inv C P env ρ' σ h := ⟨I.hp, I.envOk, fun x d hx => I.vars x d (e.get hx), I.pown⟩
theorem Ev.has {C k sc ρ ρ' σ e K} (h : Has ρ ρ') (q : Ev C k sc ρ' σ e K) : Ev C k sc ρ σ e K := fun A P env s h1 h2 h3 => q A P env s h1 h2 (h3.has h)

/-! ## statements -/
inductive Fl where
  | next | brk | cont
  | ret (d : PV)
inductive FlowIs (X : Ext) (P : Addr → Prop) (h : Heap) : Flow → Fl → Prop
  | next : FlowIs X P h .next .next
  | brk : FlowIs X P h .brk .brk
  | cont : FlowIs X P h .cont .cont
  | ret {v d} : Rd X P h v d → FlowIs X P h (.ret v) (.ret d)
structure AfterF (C : Cx) (P : Addr → Prop) (env : Env) (σ : Sto) (s : Shared) (ρ' : Lo) (σ' : Sto) (s' : Shared) : Prop where
  step : Step C σ σ' (own env) s s'
  inv : Inv C (PP P σ') env ρ' σ' s'.heap
noncomputable def OutF (C : Cx) (P : Addr → Prop) (env : Env) (σ : Sto) (s : Shared) (K : Fl → Lo → Sto → Prop) (f : Flow) (s' : Shared) : Prop :=
  ∃ g ρ' σ', K g ρ' σ' ∧ AfterF C P env σ s ρ' σ' s' ∧ FlowIs C.X (PP P σ') s'.heap f g
/-- a statement; statements -/
noncomputable def Ex1 (C : Cx) (k : Nat) (sc : Scope) (ρ : Lo) (σ : Sto) (st : Stmt) (K : Fl → Lo → Sto → Prop) : Prop :=
  ∀ (A : Around) (P : Addr → Prop) (env : Env) (s : Shared), env.scope = sc → Room A k → Inv C P env ρ σ s.heap → wpAny (model C.prog C.w) A (exec st env) (OutF C P env σ s K) NoE s
noncomputable def Ex (C : Cx) (k : Nat) (sc : Scope) (ρ : Lo) (σ : Sto) (st : List Stmt) (K : Fl → Lo → Sto → Prop) : Prop :=
  ∀ (A : Around) (P : Addr → Prop) (env : Env) (s : Shared), env.scope = sc → Room A k → Inv C P env ρ σ s.heap → wpAny (model C.prog C.w) A (execs st env) (OutF C P env σ s K) NoE s
theorem OutF.mono {C P env σ s K K' f s'} (h : OutF C P env σ s K f s') (q : ∀ g ρ' σ', K g ρ' σ' → K' g ρ' σ') : OutF C P env σ s K' f s' := let ⟨g, ρ', σ', a, b⟩ := h; ⟨g, ρ', σ', q _ _ _ a, b⟩
theorem Ex.mono {C k sc ρ σ st K K'} (h : Ex C k sc ρ σ st K) (q : ∀ g ρ' σ', K g ρ' σ' → K' g ρ' σ') : Ex C k sc ρ σ st K' := fun A P env s h1 h2 h3 => wpAny_mono (h A P env s h1 h2 h3) (fun _ _ o => o.mono q) fun _ _ x => x
theorem Ex.has {C k sc ρ ρ' σ e K} (h : Has ρ ρ') (q : Ex C k sc ρ' σ e K) : Ex C k sc ρ σ e K := fun A P env s h1 h2 h3 => q A P env s h1 h2 (h3.has h)

theorem Inv.pp {C P env ρ σ h} (I : Inv C P env ρ σ h) : Inv C (PP P σ) env ρ σ h :=
  ⟨I.hp.pp, I.envOk, fun x d hx => let ⟨v, a, r⟩ := I.vars x d hx; ⟨v, a, r.pass' (Pass.pp I.hp)⟩, fun a ha => ⟨.inl (I.pown a ha).1, (I.pown a ha).2⟩⟩
theorem Inv.down {C P env ρ σ σ' h} (I : Inv C (PP (PP P σ) σ') env ρ σ' h) (hp : ∀ a ∈ C.tb, P a) (ho : ∀ a, own env a → P a) : Inv C (PP P σ') env ρ σ' h :=
  ⟨I.hp.weak PP_up (fun a ha => .inl (hp a ha)) (fun a ha => .inr ha), I.envOk, fun x d hx => let ⟨v, a, r⟩ := I.vars x d hx; ⟨v, a, r.down C.extOk⟩, fun a ha => ⟨.inl (ho a ha), (I.pown a ha).2⟩⟩
theorem FlowIs.down {C : Cx} {P σ σ' h f g} (r : FlowIs C.X (PP (PP P σ) σ') h f g) : FlowIs C.X (PP P σ') h f g := by
  cases r with
  | next => exact .next
  | brk => exact .brk
  | cont => exact .cont
  | ret r => exact .ret (r.down C.extOk)
theorem AfterF.refl {C P env ρ σ s} (I : Inv C P env ρ σ s.heap) : AfterF C P env σ s ρ σ s := ⟨Step.refl s, I.pp⟩
theorem AfterF.of {C P env ρ σ s σ' s'} (I : Inv C P env ρ σ s.heap) (hA : After C P σ s σ' s') : AfterF C P env σ s ρ σ' s' := ⟨hA.step.weak fun _ q => q.elim, I.after hA⟩
theorem AfterF.trans {C P env ρ σ s ρ₁ σ₁ s₁ ρ₂ σ₂ s₂} (h : AfterF C P env σ s ρ₁ σ₁ s₁) (I : Inv C P env ρ σ s.heap) (k : AfterF C (PP P σ₁) env σ₁ s₁ ρ₂ σ₂ s₂) : AfterF C P env σ s ρ₂ σ₂ s₂ :=
  ⟨h.step.trans k.step, k.inv.down I.hp.ptb fun a ha => (I.pown a ha).1⟩
theorem OutF.seq {C P env ρ σ s ρ₁ σ₁ s₁ K f s₂} (hA : AfterF C P env σ s ρ₁ σ₁ s₁) (I : Inv C P env ρ σ s.heap) (o : OutF C (PP P σ₁) env σ₁ s₁ K f s₂) : OutF C P env σ s K f s₂ :=
  let ⟨g, ρ', σ', hK, k, r⟩ := o; ⟨g, ρ', σ', hK, hA.trans I k, r.down⟩
theorem wp_seqF {C P env ρ σ s ρ₁ σ₁ s₁ A} {f : Sem Flow} {K} (hA : AfterF C P env σ s ρ₁ σ₁ s₁) (I : Inv C P env ρ σ s.heap) (h : wpAny (model C.prog C.w) A f (OutF C (PP P σ₁) env σ₁ s₁ K) NoE s₁) : wpAny (model C.prog C.w) A f (OutF C P env σ s K) NoE s₁ :=
  wpAny_mono h (fun v s' o => OutF.seq hA I o) fun _ _ x => x
theorem AfterF.pass {C P env ρ σ s ρ₁ σ₁ s₁} (h : AfterF C P env σ s ρ₁ σ₁ s₁) (I : Inv C P env ρ σ s.heap) : Pass P s.heap (PP P σ₁) s₁.heap := pass_step h.step (fun a q => (I.pown a q).1) I.hp

theorem Ex.nil {C k sc ρ σ K} (h : K .next ρ σ) : Ex C k sc ρ σ [] K := fun A P env s he hr I => wpAny_execs_nil ⟨.next, ρ, σ, h, .refl I, .next⟩
theorem Ex.cons {C k sc ρ σ st rest K} (h : Ex1 C k sc ρ σ st fun g ρ' σ' => match g with | .next => Ex C k sc ρ' σ' rest K | g => K g ρ' σ') : Ex C k sc ρ σ (st :: rest) K := fun A P env s he hr I => by
  refine wpAny_execs_cons (wpAny_mono (h A P env s he hr I) (fun f s₁ o => ?_) fun _ _ x => x)
  obtain ⟨g, ρ', σ', hK, hA, r⟩ := o
  cases r with
  | next => exact wp_seqF hA I (hK A _ env s₁ he hr hA.inv)
  | brk => exact ⟨_, _, _, hK, hA, .brk⟩
  | cont => exact ⟨_, _, _, hK, hA, .cont⟩
  | ret r => exact ⟨_, _, _, hK, hA, .ret r⟩
theorem Ex1.if {C k sc ρ σ t a b pos K} (h : Tr C k sc ρ σ t fun c σ₁ => if c then Ex C k sc ρ σ₁ a K else Ex C k sc ρ σ₁ b K) : Ex1 C k sc ρ σ (.If t a b pos) K := fun A P env s he hr I => by
  refine wpAny_If (wpAny_mono (h A P env s he hr I) (fun c s₁ o => ?_) fun _ _ x => x)
  obtain ⟨σ₁, hK, hA⟩ := o
  have hA' := AfterF.of I hA
  cases c with
  | true => exact wp_seqF hA' I (hK A _ env s₁ he hr hA'.inv)
  | false => exact wp_seqF hA' I (hK A _ env s₁ he hr hA'.inv)
theorem Ex1.ret {C k sc ρ σ e pos K} (h : Ev C k sc ρ σ e fun d σ₁ => K (.ret d) ρ σ₁) : Ex1 C k sc ρ σ (.Return (some e) pos) K := fun A P env s he hr I =>
  wpAny_Return_some (ev_one h he hr I fun v d σ₁ s₁ hK hA r => ⟨_, _, _, hK, .of I hA, .ret r⟩)
theorem Ex1.expr {C k sc ρ σ e pos K} (h : Ev C k sc ρ σ e fun d σ₁ => K .next ρ σ₁) (hs : ∀ env, swapsWith e none pos.line env = pure false) : Ex1 C k sc ρ σ (.Expr e pos) K := fun A P env s he hr I =>
  wpAny_Expr_any (ev_one h he hr I fun v d σ₁ s₁ hK hA r => ⟨_, _, _, hK, .of I hA, .next⟩) (by unfold interactive; rw [I.envOk.kind]; rfl) (hs env)

/-! ## names are bound -/
noncomputable def Storable (sc : Scope) (x : String) : Prop := sc.names.lookup (Str.ofString x) = some .local ∨ sc.names.lookup (Str.ofString x) = some .cell
theorem Step.store {C σ env} {s : Shared} {b : Addr} {h' : Heap} {n : Tok} (hb : own env b) (e : Heap.SameBut b s.heap h') : Step C σ σ (own env) s { s with heap := h', toks := n } :=
  ⟨fun a o _ _ ha x => (e.2 a (fun q => ha (q ▸ hb))).trans x, Nat.le_of_eq e.1.symm, fun _ h => .inl h, rfl, rfl⟩
theorem Hp.store {C P σ} {h h' : Heap} {b : Addr} (H : Hp C P σ h) (hb : P b ∧ C.base ≤ b ∧ b ∉ dom σ) (e : Heap.SameBut b h h') : Hp C P σ h' := by
  have k : ∀ a o, a ≠ b → h.get? a = some o → h'.get? a = some o := fun a o ha x => (e.2 a ha).trans x
  exact ⟨C.keep H.gi (fun a o ha x => k a o (fun q => absurd (q ▸ ha) (Nat.not_lt.mpr hb.2.1)) x) (Nat.le_of_eq e.1.symm), H.st.pass (fun a o na x => ⟨k a o (fun q => na (q ▸ hb.1)) x, na⟩) (fun a ha o x => k a o (fun q => hb.2.2 (q ▸ ha)) x), H.ptb, H.pdom, H.nodup, fun a ha => by rw [e.1]; exact H.plt a ha⟩
theorem inv_store {C P env ρ σ s sc x v d A} {Q : Unit → Shared → Prop} (he : env.scope = sc) (hk : Storable sc x) (I : Inv C P env ρ σ s.heap) (r : Rd C.X P s.heap v d)
    (hQ : ∀ s', Step C σ σ (own env) s s' → Inv C P env ((x, d) :: ρ) σ s'.heap → Q () s') : wpAny (model C.prog C.w) A (storeName env (Str.ofString x) v) Q NoE s := by
  subst he
  rcases hk with hk | hk
  · obtain ⟨m, hn⟩ := I.envOk.ns
    have ow : own env env.locals := .inl rfl
    refine wpAny_storeName_local hk hn (fun h' hn' hs => hQ _ (Step.store ow hs) ?_) (by rw [I.envOk.kind]; rfl)
    have g : Pass P s.heap P h' := fun a o na e => ⟨hs.extBut a o (fun q => na (q ▸ (I.pown _ ow).1)) e, na⟩
    have kc : ∀ c v, c ≠ env.locals → s.heap.IsCell c v → h'.IsCell c v := fun c v hc ⟨o, ho, hd⟩ => ⟨o, hs.extBut c o hc ho, hd⟩
    refine ⟨I.hp.store (I.pown _ ow) hs, ⟨I.envOk.kind, I.envOk.glob, I.envOk.blt, ⟨_, hn'⟩, fun y c hy => let ⟨a, w, b⟩ := I.envOk.cells y c hy; ⟨a, w, kc c w a b⟩, I.envOk.inj, I.envOk.has⟩, fun y e hy => ?_, I.pown⟩
    by_cases hyx : y = x
    · subst hyx
      rw [List.lookup_cons_self] at hy; cases hy
      exact ⟨v, .loc hk hn' (by simp), r.pass' g⟩
    · rw [List.lookup_cons, beq_false_of_ne hyx] at hy
      obtain ⟨w, hw, rw'⟩ := I.vars y e hy
      refine ⟨w, ?_, rw'.pass' g⟩
      cases hw with
      | loc a n2 e2 =>
        refine .loc a hn' ?_
        rw [if_neg fun q => hyx (ofString_inj q)]
        rw [← e2]; exact Heap.Ns.agree hn n2 _
      | cell a l c => exact .cell a l (kc _ _ (I.envOk.cells _ _ l).1 c)
  · obtain ⟨c, hc⟩ := I.envOk.has _ (.inl hk)
    obtain ⟨hcl, v₀, hv₀⟩ := I.envOk.cells _ _ hc
    have ow : own env c := .inr ⟨_, hc⟩
    refine wpAny_storeName_cell I.envOk.kind hk hc hv₀ (fun h' hv' hs => hQ _ (Step.store (n := s.toks) ow hs) ?_)
    have g : Pass P s.heap P h' := fun a o na e => ⟨hs.extBut a o (fun q => na (q ▸ (I.pown _ ow).1)) e, na⟩
    have kn : ∀ m, s.heap.Ns env.locals m → h'.Ns env.locals m := fun m hm => hm.extBut hs.extBut (Ne.symm hcl)
    refine ⟨I.hp.store (I.pown _ ow) hs, ⟨I.envOk.kind, I.envOk.glob, I.envOk.blt, let ⟨m, hm⟩ := I.envOk.ns; ⟨m, kn m hm⟩, fun y c' hy => ?_, I.envOk.inj, I.envOk.has⟩, fun y e hy => ?_, I.pown⟩
    · obtain ⟨a, w, o, ho, hd⟩ := I.envOk.cells y c' hy
      by_cases hcc : c' = c
      · subst hcc; exact ⟨a, _, hv'⟩
      · exact ⟨a, w, o, hs.extBut c' o hcc ho, hd⟩
    · by_cases hyx : y = x
      · subst hyx
        rw [List.lookup_cons_self] at hy; cases hy
        exact ⟨v, .cell (.inl hk) hc hv', r.pass' g⟩
      · rw [List.lookup_cons, beq_false_of_ne hyx] at hy
        obtain ⟨w, hw, rw'⟩ := I.vars y e hy
        refine ⟨w, ?_, rw'.pass' g⟩
        cases hw with
        | loc a n2 e2 => exact .loc a (kn _ n2) e2
        | cell a l c2 =>
          obtain ⟨o, ho, hd⟩ := c2
          refine .cell a l ⟨o, hs.extBut _ o (fun q => hyx ?_) ho, hd⟩
          exact ofString_inj (I.envOk.inj _ _ _ l (q ▸ hc))

theorem Ex1.assign {C k sc ρ σ x p e pos K} (h : Ev C k sc ρ σ e fun d σ₁ => K .next ((x, d) :: ρ) σ₁) (hk : Storable sc x) (hs : ∀ env, swapsWith e (some (.Name (Str.ofString x) p)) pos.line env = pure false) : Ex1 C k sc ρ σ (.Assign [.Name (Str.ofString x) p] e pos) K := fun A P env s he hr I =>
  wpAny_Assign_Name (ev_one h he hr I fun v d σ₁ s₁ hK hA r => by
    have hF := AfterF.of I hA
    exact inv_store he hk hF.inv r fun s' hS I' => ⟨_, _, _, hK, ⟨hF.step.trans hS, I'⟩, .next⟩) (hs env)
end Mine
end C4

section C5
open PySem PySem.W PyProof.Rows
set_option Elab.async false
set_option linter.unusedVariables false
namespace Mine

/-- an iterator at I that has xs ahead -/
noncomputable def ItAt (C : Cx) (A : Around) (P : Addr → Prop) (h : Heap) (I : Addr) (xs : List PV) : Prop :=
  ∃ (fp : List Addr) (n : Nat) (Pn : Nat → Value → Prop) (St : Nat → Heap → Prop) (i : Nat), Walks C.prog C.w A I fp [I] n Pn St ∧ i + xs.length = n ∧ St i h ∧ (∀ b ∈ fp, b ≠ I → ¬ P b ∧ ∃ o, h.get? b = some o) ∧ P I ∧
    (∀ j v d, Pn (i + j) v → xs[j]? = some d → Rd C.X P h v d) ∧
    ∀ (k : Nat) (target : Expr) (v : Value) (s : Shared) (Q : Unit → Shared → Prop) (E : Value → Shared → Prop), St k s.heap → Q () s → wpAny (model C.prog C.w) A (letOwnedTupleGo target (.ref I) v) Q E s
theorem ItAt.pass {C A P P' h h' I xs} (t : ItAt C A P h I xs) (g : Pass P h P' h') (k : ∀ o, h.get? I = some o → h'.get? I = some o) (hI : P' I) : ItAt C A P' h' I xs := by
  obtain ⟨fp, n, Pn, St, i, W, hn, st, hf, _, hr, go⟩ := t
  refine ⟨fp, n, Pn, St, i, W, hn, W.frame _ _ _ st fun b hb o e => ?_, fun b hb hne => ?_, hI, fun j v d a b => (hr j v d a b).pass' g, go⟩
  · by_cases hne : b = I
    · subst hne; exact k o e
    · exact (g b o (hf b hb hne).1 e).1
  · obtain ⟨na, o, e⟩ := hf b hb hne; exact ⟨(g b o na e).2, o, (g b o na e).1⟩
theorem ItAt.next {C A P I d xs} {s : Shared} {Q : Option Value → Shared → Prop} {E : Value → Shared → Prop} (t : ItAt C A P s.heap I (d :: xs))
    (hQ : ∀ v h' tk, hsz s ≤ h'.objs.size → (∀ b o, b ≠ I → s.heap.get? b = some o → h'.get? b = some o) → Rd C.X P h' v d → ItAt C A P h' I xs →
      (∀ (target : Expr) (s' : Shared) (Q : Unit → Shared → Prop) (E : Value → Shared → Prop), s'.heap = h' → Q () s' → wpAny (model C.prog C.w) A (letOwnedTupleGo target (.ref I) v) Q E s') → Q (some v) { s with heap := h', toks := tk }) :
    wpAny (model C.prog C.w) A (pyNext (.ref I)) Q E s := by
  obtain ⟨fp, n, Pn, St, i, W, hn, st, hf, hI, hr, go⟩ := t
  refine with_size (W.item i s _ _ (by rw [List.length_cons] at hn; lia) st fun v h' tk hv st' hk hz => ?_)
  have k : ∀ b o, b ≠ I → s.heap.get? b = some o → h'.get? b = some o := fun b o hb e => hk b o (by simpa using hb) e
  have g : Pass P s.heap P h' := fun b o na e => ⟨k b o (fun q => na (q ▸ hI)) e, na⟩
  refine hQ v h' tk hz k ((hr 0 v d (by simpa using hv) rfl).pass' g) ⟨fp, n, Pn, St, i + 1, W, by rw [List.length_cons] at hn; lia, st', fun b hb hne => ?_, hI, fun j v' d' a b => (hr (j + 1) v' d' (by rw [show i + (j + 1) = i + 1 + j by lia]; exact a) (by simpa using b)).pass' g, go⟩
    fun target s' Q E hs q => go _ _ _ _ _ _ (hs ▸ st') q
  obtain ⟨na, o, e⟩ := hf b hb hne; exact ⟨na, o, k b o hne e⟩
theorem ItAt.done {C A P I} {s : Shared} {Q : Option Value → Shared → Prop} {E : Value → Shared → Prop} (t : ItAt C A P s.heap I [])
    (hQ : ∀ h' tk, hsz s ≤ h'.objs.size → (∀ b o, b ≠ I → s.heap.get? b = some o → h'.get? b = some o) → Q none { s with heap := h', toks := tk }) : wpAny (model C.prog C.w) A (pyNext (.ref I)) Q E s := by
  obtain ⟨fp, n, Pn, St, i, W, hn, st, hf, hI, hr, go⟩ := t
  refine with_size (W.done s _ _ (by rw [show n = i by simpa using hn.symm]; exact st) fun h' tk hk hz => hQ h' tk hz fun b o hb e => hk b o (by simpa using hb) e)
theorem ItAt.self {C A P I xs} {s : Shared} {Q : Value → Shared → Prop} {E : Value → Shared → Prop} (t : ItAt C A P s.heap I xs) (hQ : Q (.ref I) s) : wpAny (model C.prog C.w) A (pyIter (.ref I)) Q E s := by
  obtain ⟨fp, n, Pn, St, i, W, hn, st, hf, hI, hr, go⟩ := t
  exact W.self i s _ _ st hQ

/-- a reads as something that is walked as xs -/
noncomputable def Iterable (C : Cx) (k : Nat) (σ : Sto) (a : PV) (xs : List PV) : Prop :=
  ∀ (A : Around) (P : Addr → Prop) (s : Shared) (v : Value) (E : Value → Shared → Prop) (Q : Value → Shared → Prop), Room A k → Hp C P σ s.heap → Rd C.X P s.heap v a →
    (∀ (o : Obj) (tk : Tok), ItAt C A (fun b => P b ∨ b = hsz s) (s.heap.push o) (hsz s) xs → Q (.ref (hsz s)) { s with heap := s.heap.push o, toks := tk }) → wpAny (model C.prog C.w) A (pyIter v) Q E s

theorem goes {M A I v} {target : Expr} {s : Shared} {o : Obj} {n : String} {Q : Unit → Shared → Prop} {E : Value → Shared → Prop} (ho : s.heap.get? I = some o) (hc : o.cls = .type n)
    (hn : ["enumerate", "zip", "dict_itemiterator", "dict_reverseitemiterator", "odict_iterator", "itertools.zip_longest", "itertools.pairwise"].contains n = false) (q : Q () s) : wpAny M A (letOwnedTupleGo target (.ref I) v) Q E s := by
  unfold letOwnedTupleGo
  split
  · split
    · rename_i r a heq
      cases heq
      refine wpAny_bind (wpAny_load ho ?_)
      rw [hc]
      cases o.data <;> first | exact wpAny_pure q | (simp only [hn, Bool.false_and, Bool.false_eq_true, if_false]; exact wpAny_pure q)
    · exact wpAny_pure q
  · split
    · rename_i r a heq
      cases heq
      refine wpAny_bind (wpAny_load ho ?_)
      rw [hc]
      cases o.data <;> first | exact wpAny_pure q | (simp only [hn, Bool.false_and, Bool.false_eq_true, if_false]; exact wpAny_pure q)
    · exact wpAny_pure q
  · exact wpAny_pure q

theorem Iterable.of_list {C k σ a xs} (hl : LRead C σ a xs) (hd : ∀ P (s : Shared) b, Hp C P σ s.heap → Rd C.X P s.heap (.ref b) a → ¬ P b) : Iterable C k σ a xs := fun A P s v E Q hr H r hQ => by
  obtain ⟨b, vs, n, rfl, e, r'⟩ := hl P s v H r
  have hb := hd P s b H r
  have hne : b ≠ hsz s := Nat.ne_of_lt (Heap.lt_size e)
  refine wpAny_pyIter_list (isList_of e) (hQ _ s.toks ?_)
  have g : Pass P s.heap (fun b => P b ∨ b = hsz s) (s.heap.push { cls := .type "list_iterator", data := .fields #[.ref b, .int 0 0] }) := fun a o na ea => ⟨Heap.get?_push_of_some _ ea, fun q => q.elim na fun q => by subst q; exact absurd (Heap.lt_size ea) (Nat.lt_irrefl _)⟩
  have hz : vs.size = xs.length := by rw [← r'.length, Array.length_toList]
  refine ⟨_, _, _, _, 0, Walks.list hr.handled (hsz s) b hne vs, by rw [hz]; lia, ⟨⟨_, Heap.get?_push_size _ rfl, rfl, rfl⟩, (isList_of e).push _⟩, fun c hc hcn => ?_, .inr rfl, fun j v d hv hx => ?_, fun k target v s' Q' E' st q => ?_⟩
  · have : c = b := by simpa [hcn] using hc
    subst this
    exact ⟨fun q => q.elim hb hne, _, Heap.get?_push_of_some _ e⟩
  · obtain ⟨w, hw, rw'⟩ := r'.get' hx
    have : w = v := by rw [Nat.zero_add] at hv; simpa using (hw.symm.trans (by simpa using hv) : some w = some v)
    exact this ▸ rw'.pass' g
  · obtain ⟨⟨o, ho, hc, _⟩, _⟩ := st
    exact goes ho hc (by decide) q
theorem Iterable.list {C k σ xs} : Iterable C k σ (.list xs) xs := Iterable.of_list .list fun P s b H r => by cases r; assumption

theorem Iterable.str {C k σ x} : Iterable C k σ (.str x) (x.map fun c => .str [c]) := fun A P s v E Q hr H r hQ => by
  cases r with | str y t =>
  refine wpAny_pyIter_strU (hQ _ s.toks ?_)
  have fin : ∀ (T : String) (W : Walks C.prog C.w A (hsz s) [hsz s] [hsz s] y.cps.size (SignAt y) (fun i h => h.IsStrIter (hsz s) T y t i)), ["enumerate", "zip", "dict_itemiterator", "dict_reverseitemiterator", "odict_iterator", "itertools.zip_longest", "itertools.pairwise"].contains T = false → strIterType y = T →
      ItAt C A (fun b => P b ∨ b = hsz s) (s.heap.push { cls := .type (strIterType y), data := .fields #[.str y t, .int 0 0] }) (hsz s) (y.cps.toList.map fun c => .str [c]) := fun T W hT hy => by
    refine ⟨_, _, _, _, 0, W, by simp, ⟨_, Heap.get?_push_size _ rfl, by rw [hy], rfl⟩, fun c hc hcn => absurd (by simpa using hc) hcn, .inr rfl, fun j v d hv hx => ?_, fun k target v s' Q' E' st q => ?_⟩
    · obtain ⟨c, u, hc, rfl⟩ := hv
      rw [List.getElem?_map] at hx
      have : y.cps.toList[j]? = some c := by simpa using hc
      rw [this] at hx; cases hx
      exact .str ⟨#[c]⟩ u
    · obtain ⟨o, ho, hc, _⟩ := st
      exact goes ho hc hT q
  cases ha : y.cps.all (· < 128)
  · exact fin "str_iterator" (Walks.strWide hr.handled _ y t) (by decide) (by unfold strIterType; rw [ha]; rfl)
  · exact fin "str_ascii_iterator" (Walks.strAscii hr.handled _ y t) (by decide) (by unfold strIterType; rw [ha]; rfl)
end Mine
end C5

section C6
open PySem PySem.W PyProof.Rows
set_option Elab.async false
set_option linter.unusedVariables false
namespace Mine

noncomputable def rangeL (a b c : Int) : List PV := (List.range (Builtin.Range.rangeSize a b c).toNat).map fun (i : Nat) => .int (a + (i : Int) * c)
theorem Iterable.range {C k σ a b c} (hs : Builtin.Range.small a b c = true) : Iterable C k σ (.range a b c) (rangeL a b c) := fun A P s v E Q hr H r hQ => by
  cases r with | range na e =>
  refine wpAny_pyIter_range e hs (hQ _ s.toks ?_)
  have h0 : 0 ≤ Builtin.Range.rangeSize a b c := by
    unfold Builtin.Range.rangeSize
    split <;> split <;> first | exact Int.le_refl _ | skip
    · have := Int.ediv_nonneg (a := b - a - 1) (b := c) (by lia) (by lia); lia
    · have := Int.ediv_nonneg (a := a - b - 1) (b := -c) (by lia) (by lia); lia
  refine ⟨_, _, _, _, 0, Walks.range hr.handled _ a c (Builtin.Range.rangeSize a b c).toNat, by simp [rangeL], ?_, fun d hd hdn => absurd (by simpa using hd) hdn, .inr rfl, fun j v d hv hx => ?_, fun k target v s' Q' E' st q => ?_⟩
  · have : ((Builtin.Range.rangeSize a b c).toNat : Int) = Builtin.Range.rangeSize a b c := Int.toNat_of_nonneg h0
    show IsRangeIter _ _ _ _ _
    rw [this]
    simpa using Heap.get?_push_size s.heap rfl
  · obtain ⟨t, rfl⟩ := hv
    unfold rangeL at hx
    rw [List.getElem?_map] at hx
    cases hj : (List.range (Builtin.Range.rangeSize a b c).toNat)[j]? with
    | none => rw [hj] at hx; cases hx
    | some m =>
      rw [hj] at hx; cases hx
      have : m = j := by
        have := List.getElem?_eq_some_iff.mp hj
        obtain ⟨h1, h2⟩ := this
        simpa using h2.symm
      subst this
      simpa using Rd.int (X := C.X) (a + (m : Int) * c) t
  · exact goes st rfl (by decide) q

theorem walks_tuple {prog : Program} {w : World} {A : Around} (hh : A.handled = none) (I ax : Addr) (hne : ax ≠ I) (items : Array Value) :
    Walks prog w A I [I, ax] [I] items.size (fun i v => items[i]? = some v) (fun i h => h.IsTupleIter I ax i ∧ h.IsTuple ax items) where
  sub := fun b hb => by simp at hb; simp [hb]
  frame := fun _ _ _ st hk => by
    obtain ⟨⟨o, ho, r⟩, ⟨o', ho', r'⟩⟩ := st
    exact ⟨⟨o, hk I (by simp) o ho, r⟩, ⟨o', hk ax (by simp) o' ho', r'⟩⟩
  item := fun i s Q E hi st hQ => by
    refine wpAny_pyNext_tuple_item st.1 st.2 (x := items[i]) (by simp [hi]) fun h' hit' hs' => ?_
    exact hQ _ h' s.toks (by simp [hi]) ⟨hit', st.2.extBut hs'.extBut hne⟩ fun b o hb e => hs'.extBut b o (fun h => hb (by simp [h])) e
  done := fun s Q E st hQ => wpAny_pyNext_tuple_end hh st.1 st.2 (by simp) fun h' he' => hQ h' s.toks fun b o hb e => he' b o (fun h => hb (by simp [h])) e
  self := fun _ _ _ _ st hQ => wpAny_pyIter_tupleiter st.1 hQ
theorem Iterable.tuple {C k σ xs} : Iterable C k σ (.tuple xs) xs := fun A P s v E Q hr H r hQ => by
  cases r with | tuple na e r' =>
  rename_i b vs n
  have hne : b ≠ hsz s := Nat.ne_of_lt (Heap.lt_size e)
  refine wpAny_pyIter_tuple ⟨_, e, rfl, n, rfl⟩ (hQ _ s.toks ?_)
  have g : Pass P s.heap (fun b => P b ∨ b = hsz s) (s.heap.push { cls := .type "tuple_iterator", data := .fields #[.ref b, .int 0 0] }) := fun a o na ea => ⟨Heap.get?_push_of_some _ ea, fun q => q.elim na fun q => by subst q; exact absurd (Heap.lt_size ea) (Nat.lt_irrefl _)⟩
  have hz : vs.size = xs.length := by rw [← r'.length, Array.length_toList]
  refine ⟨_, _, _, _, 0, walks_tuple hr.handled (hsz s) b hne vs, by rw [hz]; lia, ⟨⟨_, Heap.get?_push_size _ rfl, rfl, rfl⟩, ⟨_, Heap.get?_push_of_some _ e, rfl, n, rfl⟩⟩, fun c hc hcn => ?_, .inr rfl, fun j v d hv hx => ?_, fun k target v s' Q' E' st q => ?_⟩
  · have : c = b := by simpa [hcn] using hc
    subst this
    exact ⟨fun q => q.elim na hne, _, Heap.get?_push_of_some _ e⟩
  · obtain ⟨w, hw, rw'⟩ := r'.get' hx
    have : w = v := by rw [Nat.zero_add] at hv; simpa using (hw.symm.trans (by simpa using hv) : some w = some v)
    exact this ▸ rw'.pass' g
  · obtain ⟨⟨o, ho, hc, _⟩, _⟩ := st
    exact goes ho hc (by decide) q

/-! ## targets -/
/-- what a target stores into -/
noncomputable def Bind (C : Cx) (k : Nat) (sc : Scope) (ρ : Lo) (σ : Sto) (t : Expr) (d : PV) (ow : Env → Addr → Prop) (K : Lo → Sto → Prop) : Prop :=
  ∀ (A : Around) (P : Addr → Prop) (env : Env) (s : Shared) (v : Value), env.scope = sc → Room A k → Inv C P env ρ σ s.heap → Rd C.X P s.heap v d →
    wpAny (model C.prog C.w) A (assign t env v) (fun _ s' => ∃ ρ' σ', K ρ' σ' ∧ Step C σ σ' (ow env) s s' ∧ Inv C (PP P σ') env ρ' σ' s'.heap) NoE s
noncomputable abbrev ownL : Env → Addr → Prop := fun env a => a = env.locals
theorem inv_storeL {C P env ρ σ s sc x v d A} {Q : Unit → Shared → Prop} (he : env.scope = sc) (hk : sc.names.lookup (Str.ofString x) = some .local) (I : Inv C P env ρ σ s.heap) (r : Rd C.X P s.heap v d)
    (hQ : ∀ s', Step C σ σ (ownL env) s s' → Inv C P env ((x, d) :: ρ) σ s'.heap → Q () s') : wpAny (model C.prog C.w) A (storeName env (Str.ofString x) v) Q NoE s := by
  subst he
  obtain ⟨m, hn⟩ := I.envOk.ns
  have ow : own env env.locals := .inl rfl
  refine wpAny_storeName_local hk hn (fun h' hn' hs => hQ _ ⟨fun a o _ _ ha x => (hs.2 a (fun q => ha q)).trans x, Nat.le_of_eq hs.1.symm, fun _ h => .inl h, rfl, rfl⟩ ?_) (by rw [I.envOk.kind]; rfl)
  have g : Pass P s.heap P h' := fun a o na e => ⟨hs.extBut a o (fun q => na (q ▸ (I.pown _ ow).1)) e, na⟩
  have kc : ∀ c v, c ≠ env.locals → s.heap.IsCell c v → h'.IsCell c v := fun c v hc ⟨o, ho, hd⟩ => ⟨o, hs.extBut c o hc ho, hd⟩
  refine ⟨I.hp.store (I.pown _ ow) hs, ⟨I.envOk.kind, I.envOk.glob, I.envOk.blt, ⟨_, hn'⟩, fun y c hy => let ⟨a, w, b⟩ := I.envOk.cells y c hy; ⟨a, w, kc c w a b⟩, I.envOk.inj, I.envOk.has⟩, fun y e hy => ?_, I.pown⟩
  by_cases hyx : y = x
  · subst hyx
    rw [List.lookup_cons_self] at hy; cases hy
    exact ⟨v, .loc hk hn' (by simp), r.pass' g⟩
  · rw [List.lookup_cons, beq_false_of_ne hyx] at hy
    obtain ⟨w, hw, rw'⟩ := I.vars y e hy
    refine ⟨w, ?_, rw'.pass' g⟩
    cases hw with
    | loc a n2 e2 =>
      refine .loc a hn' ?_
      rw [if_neg fun q => hyx (ofString_inj q)]
      rw [← e2]; exact Heap.Ns.agree hn n2 _
    | cell a l c => exact .cell a l (kc _ _ (I.envOk.cells _ _ l).1 c)
theorem Bind.name {C k sc ρ σ x p d K} (hk : Storable sc x) (h : K ((x, d) :: ρ) σ) : Bind C k sc ρ σ (.Name (Str.ofString x) p) d own K := fun A P env s v he hr I r =>
  wpAny_assign_Name (inv_store he hk I r fun s' hS I' => ⟨_, _, h, hS, I'.pp⟩)
theorem Bind.nameL {C k sc ρ σ x p d K} (hk : sc.names.lookup (Str.ofString x) = some .local) (h : K ((x, d) :: ρ) σ) : Bind C k sc ρ σ (.Name (Str.ofString x) p) d ownL K := fun A P env s v he hr I r =>
  wpAny_assign_Name (inv_storeL he hk I r fun s' hS I' => ⟨_, _, h, hS, I'.pp⟩)

/-- the frame's own facts after a change elsewhere -/
theorem Inv.moved {C P env ρ σ} {h h' : Heap} {I : Addr} (V : Inv C P env ρ σ h) (k : ∀ b o, b ≠ I → h.get? b = some o → h'.get? b = some o) (hz : h.objs.size ≤ h'.objs.size) (hI : P I ∧ C.base ≤ I ∧ I ∉ dom σ ∧ ¬ own env I) : Inv C P env ρ σ h' := by
  have g : Pass P h P h' := fun a o na e => ⟨k a o (fun q => na (q ▸ hI.1)) e, na⟩
  have ko : ∀ b o, own env b → h.get? b = some o → h'.get? b = some o := fun b o hb e => k b o (fun q => hI.2.2.2 (q ▸ hb)) e
  exact ⟨⟨C.keep V.hp.gi (fun b o hb e => k b o (fun q => absurd (q ▸ hb) (Nat.not_lt.mpr hI.2.1)) e) hz, V.hp.st.pass g (fun b hb o e => k b o (fun q => hI.2.2.1 (q ▸ hb)) e), V.hp.ptb, V.hp.pdom, V.hp.nodup, fun a ha => Nat.lt_of_lt_of_le (V.hp.plt a ha) hz⟩,
    V.envOk.keep ko, fun x d hx => let ⟨v, a, r⟩ := V.vars x d hx; ⟨v, a.keep ko, r.pass' g⟩, V.pown⟩
theorem Inv.less {C P P' env ρ σ h} (V : Inv C P env ρ σ h) (e : ∀ a, P' a → P a) (ht : ∀ a ∈ C.tb, P' a) (hd : ∀ a ∈ dom σ, P' a) (ho : ∀ a, own env a → P' a) : Inv C P' env ρ σ h :=
  ⟨V.hp.weak e ht hd, V.envOk, fun x d hx => let ⟨v, a, r⟩ := V.vars x d hx; ⟨v, a, r.pass' (Pass.less e)⟩, fun a ha => ⟨ho a ha, (V.pown a ha).2⟩⟩
/-- one more watched address -/
theorem Inv.more {C P env ρ σ} {s : Shared} {o : Obj} (V : Inv C P env ρ σ s.heap) : Inv C (fun b => P b ∨ b = hsz s) env ρ σ (s.heap.push o) := by
  have k : ∀ b x, s.heap.get? b = some x → (s.heap.push o).get? b = some x := fun b x e => Heap.get?_push_of_some _ e
  have hz : s.heap.objs.size ≤ (s.heap.push o).objs.size := by rw [Heap.size_push]; exact Nat.le_succ _
  have g : Pass P s.heap (fun b => P b ∨ b = hsz s) (s.heap.push o) := fun a x na e => ⟨k a x e, fun q => q.elim na fun q => by subst q; exact absurd (Heap.lt_size e) (Nat.lt_irrefl _)⟩
  exact ⟨⟨C.keep V.hp.gi (fun b o _ e => k b o e) hz, V.hp.st.pass g (fun b _ o e => k b o e), fun a ha => .inl (V.hp.ptb a ha), fun a ha => ⟨.inl (V.hp.pdom a ha).1, (V.hp.pdom a ha).2⟩, V.hp.nodup, fun a ha => ha.elim (fun q => Nat.lt_of_lt_of_le (V.hp.plt a q) hz) fun q => by subst q; rw [Heap.size_push]; exact Nat.lt_succ_self _⟩,
    V.envOk.keep (fun b o _ e => k b o e), fun x d hx => let ⟨v, a, r⟩ := V.vars x d hx; ⟨v, a.keep (fun b o _ e => k b o e), r.pass' g⟩, fun a ha => ⟨.inl (V.pown a ha).1, (V.pown a ha).2⟩⟩
end Mine
end C6

section C7
open PySem PySem.W PyProof.Rows
set_option Elab.async false
set_option linter.unusedVariables false
namespace Mine

theorem Inv.grown {C P env ρ σ} {h h' : Heap} (V : Inv C P env ρ σ h) (k : ∀ b o, h.get? b = some o → h'.get? b = some o) (hz : h.objs.size ≤ h'.objs.size) : Inv C P env ρ σ h' := by
  have g : Pass P h P h' := fun a o na e => ⟨k a o e, na⟩
  exact ⟨⟨C.keep V.hp.gi (fun b o _ e => k b o e) hz, V.hp.st.pass g (fun b _ o e => k b o e), V.hp.ptb, V.hp.pdom, V.hp.nodup, fun a ha => Nat.lt_of_lt_of_le (V.hp.plt a ha) hz⟩,
    V.envOk.keep (fun b o _ e => k b o e), fun x d hx => let ⟨v, a, r⟩ := V.vars x d hx; ⟨v, a.keep (fun b o _ e => k b o e), r.pass' g⟩, V.pown⟩

/-! ## unpacking -/
theorem draw_it {C A P I E} : ∀ {xs : List PV} {s : Shared} {Q : List Value → Shared → Prop}, ItAt C A P s.heap I xs →
    (∀ vs h' tk, hsz s ≤ h'.objs.size → (∀ b o, b ≠ I → s.heap.get? b = some o → h'.get? b = some o) → RdL C.X P h' vs xs → ItAt C A P h' I [] → Q vs { s with heap := h', toks := tk }) → wpAny (model C.prog C.w) A (draw (.ref I) xs.length) Q E s
  | [], s, Q, t, hQ => wpAny_pure (hQ [] s.heap s.toks (Nat.le_refl _) (fun _ _ _ e => e) .nil t)
  | x :: xs, s, Q, t, hQ => by
    show wpAny _ _ (pyNext (.ref I) >>= _) Q E s
    refine wpAny_bind (t.next fun v h₁ tk₁ hz₁ k₁ r₁ t₁ _ => ?_)
    refine wpAny_bind (wpAny_holding (draw_it t₁ fun vs h₂ tk₂ hz₂ k₂ r₂ t₂ => wpAny_pure ?_))
    have hI : P I := by obtain ⟨_, _, _, _, _, _, _, _, _, hI, _⟩ := t; exact hI
    exact hQ _ h₂ tk₂ (Nat.le_trans hz₁ hz₂) (fun b o hb e => k₂ b o hb (k₁ b o hb e)) (.cons (r₁.pass' fun a o na e => ⟨k₂ a o (fun q => na (q ▸ hI)) e, na⟩) r₂) t₂
/-- v can be walked -/
noncomputable def Unpackable (C : Cx) (σ : Sto) (d : PV) : Prop := ∃ T id_, OfType C σ d T ∧ PySem.Slot T "__iter__" id_
theorem unpack_it {C k σ d xs A P s v} {E : Value → Shared → Prop} {Q : List Value → Shared → Prop} (hI : Iterable C k σ d xs) (hU : Unpackable C σ d) (hr : Room A k) (H : Hp C P σ s.heap) (r : Rd C.X P s.heap v d)
    (hQ : ∀ vs h' tk, hsz s ≤ h'.objs.size → (∀ b o, s.heap.get? b = some o → h'.get? b = some o) → RdL C.X P h' vs xs → Q vs { s with heap := h', toks := tk }) : wpAny (model C.prog C.w) A (unpackItems v xs.length none) Q E s := by
  obtain ⟨T, id_, hT, sl⟩ := hU
  unfold unpackItems
  refine wpAny_bind ?_
  unfold notIterableAtAll
  refine wpAny_bind (wpAny_specialOf (hT P s v H r).1 sl.lookup ?_)
  refine wpAny_pure ?_
  simp only [Bool.false_eq_true, if_false]
  refine wpAny_bind (wpAny_holding (hI A P s v E _ hr H r fun o tk t => ?_))
  refine wpAny_bind (wpAny_holding (draw_it t fun vs h₁ tk₁ hz₁ k₁ r₁ t₁ => ?_))
  rw [if_neg (by rw [r₁.length]; simp)]
  refine wpAny_bind (wpAny_holding (t₁.done fun h₂ tk₂ hz₂ k₂ => ?_))
  simp only [Option.isSome_none, Bool.false_eq_true, if_false]
  have p : s.heap.objs.size ≤ (s.heap.push o).objs.size := by rw [Heap.size_push]; exact Nat.le_succ _
  refine wpAny_pure (hQ vs h₂ tk₂ (Nat.le_trans p (Nat.le_trans hz₁ hz₂)) (fun b o' e => ?_) ?_)
  · have hb : b ≠ hsz s := Nat.ne_of_lt (Heap.lt_size e)
    exact k₂ b o' hb (k₁ b o' hb (Heap.get?_push_of_some _ e))
  · exact r₁.pass' fun a o' na e => ⟨k₂ a o' (fun q => na (.inr q)) e, fun q => na (.inl q)⟩

noncomputable def BindAll (C : Cx) (k : Nat) (sc : Scope) (ow : Env → Addr → Prop) : Lo → Sto → List Expr → List PV → (Lo → Sto → Prop) → Prop
  | ρ, σ, [], [], K => K ρ σ
  | ρ, σ, t :: ts, d :: ds, K => Bind C k sc ρ σ t d ow fun ρ' σ' => BindAll C k sc ow ρ' σ' ts ds K
  | _, _, _, _, _ => False
theorem assignEach_plain {t r env} (h : plainE t = true) : assignEach (t :: r) env = (false, assign t env) :: assignEach r env := by
  cases t <;> first | rfl | cases h
theorem assignEach_facts {env} : ∀ {ts : List Expr}, ts.all plainE = true → (assignEach ts env).length = ts.length ∧ (assignEach ts env).findIdx? (·.1) = none
  | [], _ => ⟨rfl, rfl⟩
  | t :: r, h => by
    rw [List.all_cons, Bool.and_eq_true] at h
    rw [assignEach_plain h.1]
    obtain ⟨a, b⟩ := assignEach_facts (env := env) h.2
    refine ⟨by rw [List.length_cons, List.length_cons, a], ?_⟩
    rw [List.findIdx?_cons, b]; rfl
theorem bindAll_run {C k sc ow env A} (he : env.scope = sc) (hr : Room A k) (how : ∀ a, ow env a → own env a) {ts : List Expr} : ∀ {ds : List PV} {vs : List Value} {ρ σ P s K}, BindAll C k sc ow ρ σ ts ds K → ts.all plainE = true → Inv C P env ρ σ s.heap → RdL C.X P s.heap vs ds →
    wpAny (model C.prog C.w) A (assignInOrder ((assignEach ts env).map (·.2)) vs) (fun _ s' => ∃ ρ' σ', K ρ' σ' ∧ Step C σ σ' (ow env) s s' ∧ Inv C (PP P σ') env ρ' σ' s'.heap) NoE s := by
  induction ts with
  | nil =>
    intro ds vs ρ σ P s K h _ I rs
    cases ds with
    | nil => cases rs; exact wpAny_pure ⟨ρ, σ, h, Step.refl s, I.pp⟩
    | cons => exact h.elim
  | cons t ts ih =>
    intro ds vs ρ σ P s K h hp I rs
    cases ds with
    | nil => exact h.elim
    | cons d ds =>
    cases rs with
    | cons r rs =>
    rw [List.all_cons, Bool.and_eq_true] at hp
    rw [assignEach_plain hp.1]
    refine wpAny_assignInOrder_more (wpAny_mono (h A P env s _ he hr I r) (fun _ s₁ o => ?_) fun _ _ x => x)
    obtain ⟨ρ₁, σ₁, hK, hS, I₁⟩ := o
    have g := pass_step hS (fun a q => (I.pown a (how a q)).1) I.hp
    refine wpAny_mono (ih hK hp.2 I₁ (rs.pass' g)) (fun _ s₂ o => ?_) fun _ _ x => x
    obtain ⟨ρ₂, σ₂, hK₂, hS₂, I₂⟩ := o
    exact ⟨ρ₂, σ₂, hK₂, hS.trans hS₂, I₂.down I.hp.ptb fun a ha => (I.pown a ha).1⟩
theorem Bind.tuple {C k sc ρ σ ts x1 pos d ow K} {xs : List PV} (hI : Iterable C k σ d xs) (hU : Unpackable C σ d) (h : BindAll C k sc ow ρ σ ts xs K) (hl : xs.length = ts.length) (hp : ts.all plainE = true) (how : ∀ env a, ow env a → own env a) :
    Bind C k sc ρ σ (.Tuple ts x1 pos) d ow K := fun A P env s v he hr I r => by
  rw [arm_assign_Tuple]
  refine wpAny_bind (wpAny_standAt ?_)
  unfold unpack
  obtain ⟨h1, h2⟩ := assignEach_facts (env := env) hp
  rw [h1, h2, ← hl]
  refine wpAny_bind (wpAny_holding (unpack_it hI hU hr I.hp r fun vs h' tk hz hk rl => ?_))
  refine wpAny_mono (bindAll_run (s := { s with heap := h', toks := tk }) he hr (how env) h hp (I.grown hk hz) rl) (fun _ s₂ o => ?_) fun _ _ x => x
  obtain ⟨ρ₂, σ₂, hK₂, hS₂, I₂⟩ := o
  have S0 : Step C σ σ (ow env) s { s with heap := h', toks := tk } := ⟨fun b o _ _ _ e => hk b o e, hz, fun _ q => .inl q, rfl, rfl⟩
  exact ⟨ρ₂, σ₂, hK₂, S0.trans hS₂, I₂⟩
theorem Unpackable.tuple {C σ xs} : Unpackable C σ (.tuple xs) := ⟨_, _, OfType.tuple, F.slot_tuple_iter⟩
theorem Unpackable.list {C σ xs} : Unpackable C σ (.list xs) := ⟨_, _, OfType.list .list, F.slot_list_iter⟩

/-! ## assignments by a target -/

/-! ## for -/
section
variable {prog : Program} {w : World} {A : Around} {s : Shared}
theorem for_go {R : Result → Shared → Prop} {target it body orelse env} (I : Nat → Shared → Prop)
    (turn : ∀ n s, I n s → wpAny (model prog w) A (pyNext it) (fun r s₁ => match r with
      | none => wpAny (model prog w) A (execs orelse env) (fun f s₃ => R (.ok f) s₃) NoE s₁
      | some v => wpAny (model prog w) A (letOwnedTupleGo target it v) (fun _ s₂ => wpAny (model prog w) A (assign target env v) (fun _ s₃ => wpAny (model prog w) A (execs body env) (fun f s₄ => match f with
          | .next | .cont => ∃ m, m < n ∧ I m s₄
          | .brk => R (.ok .next) s₄
          | .ret v => R (.ok (.ret v)) s₄) NoE s₃) NoE s₂) NoE s₁) NoE s) (n : Nat) (h : I n s) : codeAny (model prog w) A (.forLoop target it body orelse env) R s := by
  have no : ∀ {α : Type} {t : Sem α} {Q : α → Shared → Prop} {E : Value → Shared → Prop} {s : Shared}, wpAny (model prog w) A t Q NoE s → wpAny (model prog w) A t Q E s := fun h => wpAny_mono h (fun _ _ x => x) fun _ _ x => x.elim
  refine codeAny_loop' rfl I (fun n s hI => ?_) n h
  show wpAny _ _ ((forTurn target it body orelse env).onRaise (fun x => do noteFrame x env; theTreesLotGoes x)) _ _ s
  refine wpAny_noted ?_
  simp only [forTurn]
  refine wpAny_bind (wpAny_standAt (wpAny_bind (wpAny_onRaise (wpAny_mono (turn n s hI) (fun r s₁ h₁ => ?_) fun _ _ h' => h'.elim))))
  cases r with
  | none => exact wpAny_pure (.inr ⟨rfl, codeAny_block (no h₁)⟩)
  | some v =>
    refine wpAny_bind (wpAny_mono h₁ (fun _ s₂ h₂ => ?_) fun _ _ x => x.elim)
    refine wpAny_bind (wpAny_mono h₂ (fun _ s₃ h₃ => wpAny_bind (wpAny_mono h₃ (fun f s₄ h₄ => ?_) fun _ _ h' => h'.elim)) fun _ _ h' => h'.elim)
    cases f with
    | next => exact wpAny_pure (.inl ⟨rfl, h₄⟩)
    | cont => exact wpAny_pure (.inl ⟨rfl, h₄⟩)
    | brk => exact wpAny_pure h₄
    | ret v => exact wpAny_pure h₄
end

theorem Ex1.for {C k sc ρ σ target iter body pos K} (J : List PV → Lo → Sto → Prop)
    (h : Ev C k sc ρ σ iter fun a σ₁ => ∃ xs, Iterable C k σ₁ a xs ∧ J xs ρ σ₁)
    (turn : ∀ x r ρ' σ', J (x :: r) ρ' σ' → Bind C k sc ρ' σ' target x own fun ρ₁ σ₂ => Ex C k sc ρ₁ σ₂ body fun g ρ₂ σ₃ => match g with | .next | .cont => J r ρ₂ σ₃ | .brk => K .next ρ₂ σ₃ | .ret d => K (.ret d) ρ₂ σ₃)
    (fin : ∀ ρ' σ', J [] ρ' σ' → K .next ρ' σ') (hs : ∀ env x, foldedSetIterable iter env x = pure x) : Ex1 C k sc ρ σ (.For target iter body [] pos) K := fun A P env s he hr I => by
  refine wpAny_For (ev_one h he hr I fun v d σ₁ s₁ hK hA r => ?_) (hs env)
  obtain ⟨xs, hI, hJ⟩ := hK
  have I₁ := I.after hA
  refine hI A _ s₁ v _ _ hr I₁.hp r fun o tk t => ?_
  have S₁ : Step C σ σ₁ (own env) s s₁ := hA.step.weak fun _ q => q.elim
  refine for_go (fun n s' => ∃ rest ρ' σ', n = rest.length ∧ J rest ρ' σ' ∧ Step C σ₁ σ' (own env) s₁ s' ∧ Inv C (PP (fun b => PP P σ₁ b ∨ b = hsz s₁) σ') env ρ' σ' s'.heap ∧ ItAt C A (PP (fun b => PP P σ₁ b ∨ b = hsz s₁) σ') s'.heap (hsz s₁) rest ∧ hsz s₁ ∉ dom σ') ?_ xs.length ?_
  · rintro n s' ⟨rest, ρ', σ', rfl, hJ', hS', I', t', hd⟩
    have hown : ¬ own env (hsz s₁) := fun q => Nat.lt_irrefl _ (I₁.envOk.lt _ q)
    have hbase : C.base ≤ hsz s₁ := C.low I₁.hp.gi
    have hnew : ∀ {h' : Heap} {tk'}, hsz s' ≤ h'.objs.size → (∀ b o, b ≠ hsz s₁ → s'.heap.get? b = some o → h'.get? b = some o) → Step C σ₁ σ' (own env) s₁ { s' with heap := h', toks := tk' } := fun {h'} {tk'} hz k =>
      ⟨fun b o h1 h2 h3 e => k b o (fun q => by subst q; exact Nat.lt_irrefl _ (Heap.lt_size e)) (hS'.kept b o h1 h2 h3 e), Nat.le_trans hS'.size hz, hS'.new, hS'.gens, hS'.os⟩
    have hlast : ∀ {s''} {ρ'' σ''}, Step C σ₁ σ'' (own env) s₁ s'' → Inv C (PP (fun b => PP P σ₁ b ∨ b = hsz s₁) σ'') env ρ'' σ'' s''.heap → AfterF C P env σ s ρ'' σ'' s'' := fun {s''} {ρ'' σ''} hS I'' =>
      ⟨S₁.trans hS, I''.less (fun a q => q.elim (fun q => .inl (.inl (.inl q))) .inr) (fun a ha => .inl (I.hp.ptb a ha)) (fun a ha => .inr ha) (fun a ha => .inl (I.pown a ha).1)⟩
    have rdless : ∀ {h' σ'' v d}, Rd C.X (PP (fun b => PP P σ₁ b ∨ b = hsz s₁) σ'') h' v d → Rd C.X (PP P σ'') h' v d := fun q => q.pass' (Pass.less fun a q => q.elim (fun q => .inl (.inl (.inl q))) .inr)
    cases rest with
    | nil =>
      refine t'.done fun h' tk' hz k => ?_
      exact wpAny_execs_nil ⟨.next, ρ', σ', fin _ _ hJ', hlast (hnew hz k) (I'.moved k hz ⟨.inl (.inr rfl), hbase, hd, hown⟩), .next⟩
    | cons x rest =>
      refine t'.next fun v h' tk' hz k rv t₂ go => ?_
      refine go target _ _ _ rfl ?_
      have I₂ := I'.moved k hz ⟨.inl (.inr rfl), hbase, hd, hown⟩
      have S₂ := hnew (tk' := tk') hz k
      refine wpAny_mono (turn _ _ _ _ hJ' A _ env { s' with heap := h', toks := tk' } v he hr I₂ rv) (fun _ s₃ o => ?_) fun _ _ x => x
      obtain ⟨ρ₁, σ₂, hB, hS₃, I₃⟩ := o
      have pt : ∀ a ∈ C.tb, (fun b => PP P σ₁ b ∨ b = hsz s₁) a := fun a ha => Or.inl (Or.inl (I.hp.ptb a ha))
      have po : ∀ a, own env a → (fun b => PP P σ₁ b ∨ b = hsz s₁) a := fun a ha => Or.inl (Or.inl (I.pown a ha).1)
      have I₃' := I₃.down pt po
      refine wpAny_mono (hB A _ env s₃ he hr I₃') (fun f s₄ o => ?_) fun _ _ x => x
      obtain ⟨g, ρ₂, σ₃, hK, hA₄, fl⟩ := o
      have S₄ := S₂.trans (hS₃.trans hA₄.step)
      have I₄ := hA₄.inv.down pt po
      have d4 : ∀ σ'' {sx : Shared}, (∀ a ∈ dom σ'', a ∈ dom σ' ∨ h'.objs.size ≤ a) → hsz s₁ ∉ dom σ'' := fun σ'' _ q ha => by
        rcases q _ ha with z | z
        · exact hd z
        · have : hsz s₁ < hsz s' := by
            obtain ⟨_, _, _, _, _, _, _, st, _⟩ := t'
            exact I'.hp.plt _ (.inl (.inr rfl))
          exact absurd (Nat.lt_of_lt_of_le this hz) (Nat.not_lt.mpr z)
      have hd₄ : hsz s₁ ∉ dom σ₃ := d4 σ₃ (sx := s₄) (hS₃.trans hA₄.step).new
      have back : J rest ρ₂ σ₃ → ∃ m, m < (x :: rest).length ∧ ∃ rest' ρ'' σ'', m = rest'.length ∧ J rest' ρ'' σ'' ∧ Step C σ₁ σ'' (own env) s₁ s₄ ∧ Inv C (PP (fun b => PP P σ₁ b ∨ b = hsz s₁) σ'') env ρ'' σ'' s₄.heap ∧ ItAt C A (PP (fun b => PP P σ₁ b ∨ b = hsz s₁) σ'') s₄.heap (hsz s₁) rest' ∧ hsz s₁ ∉ dom σ'' := fun j => by
        refine ⟨rest.length, by simp, rest, ρ₂, σ₃, rfl, j, S₄, I₄, ?_, hd₄⟩
        have g := pass_step (hS₃.trans hA₄.step) (fun a q => (I₂.pown a q).1) I₂.hp
        refine t₂.pass (fun a o na e => ⟨(g a o na e).1, fun q => (g a o na e).2 (PP_up a q)⟩) (fun o e => ?_) (.inl (.inr rfl))
        exact (hS₃.trans hA₄.step).kept _ o hd (fun q => absurd (C.tbLow _ q) (Nat.not_lt.mpr hbase)) hown e
      cases fl with
      | next => exact back hK
      | cont => exact back hK
      | brk => exact ⟨.next, _, _, hK, hlast S₄ I₄, .next⟩
      | ret rv' => exact ⟨.ret _, _, _, hK, hlast S₄ I₄, .ret (rdless (rv'.down C.extOk))⟩
  · refine ⟨xs, ρ, σ₁, rfl, hJ, ⟨fun b o _ _ _ e => Heap.get?_push_of_some _ e, by show s₁.heap.objs.size ≤ (s₁.heap.push o).objs.size; rw [Heap.size_push]; exact Nat.le_succ _, fun _ q => .inl q, rfl, rfl⟩, I₁.more.pp, ?_, fun q => Nat.lt_irrefl _ (I₁.hp.lt _ q)⟩
    exact t.pass (Pass.pp I₁.more.hp) (fun _ e => e) (.inl (.inr rfl))
end Mine
end C7

section C8
open PySem PySem.W PyProof.Rows
set_option Elab.async false
set_option linter.unusedVariables false
namespace Mine

theorem tests_run {C k sc cenv A} (he : cenv.scope = sc) (hr : Room A k) {ifs : List Expr} : ∀ {ρ σ P s K}, TrAll C k sc ρ .And σ ifs K → Inv C P cenv ρ σ s.heap →
    wpAny (model C.prog C.w) A (forIn ifs true fun c r => if r = true then do let ok ← isTrue c cenv (eval c cenv); pure (ForInStep.yield ok) else pure (ForInStep.yield r)) (OutB C P σ s K) NoE s := by
  induction ifs with
  | nil => intro ρ σ P s K h I; rw [List.forIn_nil]; exact wpAny_pure (OutB.here I.hp h)
  | cons c r ih =>
    intro ρ σ P s K h I
    rw [List.forIn_cons]
    simp only [if_true]
    refine wpAny_bind (wpAny_bind (wpAny_mono (h A P cenv s he hr I) (fun b s₁ o => wpAny_pure ?_) fun _ _ x => x))
    obtain ⟨σ₁, hK, hA⟩ := o
    cases b with
    | true => exact wp_seqB hA I.hp (ih hK (I.after hA))
    | false =>
      have hK' : K false σ₁ := hK
      clear ih h hK
      dsimp only
      induction r with
      | nil => rw [List.forIn_nil]; exact wpAny_pure ⟨σ₁, hK', hA⟩
      | cons c' r' ih' =>
        rw [List.forIn_cons]
        simp only [Bool.false_eq_true, if_false]
        exact wpAny_bind (wpAny_pure ih')

/-- what the clauses still to come do -/
noncomputable def CompOk (C : Cx) (k : Nat) (sc : Scope) (elt : Expr) : List Comprehension → List PV → Lo → Sto → (List PV → Lo → Sto → Prop) → Prop
  | [], acc, ρ, σ, K => Ev C k sc ρ σ elt fun d σ' => acc.length ≤ sizeLine ∧ K (acc ++ [d]) ρ σ'
  | g :: gs, acc, ρ, σ, K => Ev C k sc ρ σ g.iter fun a σ₁ => ∃ xs, Iterable C k σ₁ a xs ∧ ∃ J : List PV → List PV → Lo → Sto → Prop, J xs acc ρ σ₁ ∧
      (∀ x r acc ρ σ, J (x :: r) acc ρ σ → Bind C k sc ρ σ g.target x ownL fun ρ' σ' => TrAll C k sc ρ' .And σ' g.ifs fun b σ₂ => if b then CompOk C k sc elt gs acc ρ' σ₂ (fun acc' ρ'' σ₃ => J r acc' ρ'' σ₃) else J r acc ρ' σ₂) ∧
      (∀ acc ρ σ, J [] acc ρ σ → K acc ρ σ)

noncomputable abbrev owD (cenv : Env) (D : Addr) : Addr → Prop := fun a => a = cenv.locals ∨ a = D
/-- the state of a comprehension under way -/
structure CSt (C : Cx) (P : Addr → Prop) (cenv : Env) (D : Addr) (ρ : Lo) (σ : Sto) (acc : List PV) (s : Shared) : Prop where
  inv : Inv C P cenv ρ σ s.heap
  list : ∃ vs, s.heap.PlainList D vs ∧ RdL C.X P s.heap vs.toList acc
  hD : P D ∧ C.base ≤ D ∧ D ∉ dom σ ∧ ¬ own cenv D
theorem CSt.down {C P σ₁ cenv D ρ σ acc s} (c : CSt C (PP (PP P σ₁) σ) cenv D ρ σ acc s) (hp : ∀ a ∈ C.tb, P a) (ho : ∀ a, own cenv a → P a) (hD : P D) : CSt C (PP P σ) cenv D ρ σ acc s :=
  ⟨c.inv.down hp ho, let ⟨vs, a, b⟩ := c.list; ⟨vs, a, b.down C.extOk⟩, .inl hD, c.hD.2⟩
theorem CSt.pp {C P cenv D ρ σ acc s} (c : CSt C P cenv D ρ σ acc s) : CSt C (PP P σ) cenv D ρ σ acc s :=
  ⟨c.inv.pp, let ⟨vs, a, b⟩ := c.list; ⟨vs, a, b.pass' (Pass.pp c.inv.hp)⟩, .inl c.hD.1, c.hD.2⟩
/-- a step that leaves the list alone -/
theorem CSt.step {C P cenv D ρ σ acc s ρ' σ' s'} (c : CSt C P cenv D ρ σ acc s) (S : Step C σ σ' (ownL cenv) s s') (I : Inv C (PP P σ') cenv ρ' σ' s'.heap) : CSt C (PP P σ') cenv D ρ' σ' acc s' := by
  have g := pass_step S (fun a q => (c.inv.pown a (.inl q)).1) c.inv.hp
  obtain ⟨vs, ⟨n, e⟩, r⟩ := c.list
  refine ⟨I, ⟨vs, ⟨n, S.kept D _ c.hD.2.2.1 (fun q => absurd (C.tbLow _ q) (Nat.not_lt.mpr c.hD.2.1)) (fun q => c.hD.2.2.2 (.inl q)) e⟩, r.pass' g⟩, .inl c.hD.1, c.hD.2.1, fun q => ?_, c.hD.2.2.2⟩
  rcases S.new _ q with z | z
  · exact c.hD.2.2.1 z
  · exact absurd (Heap.lt_size e) (Nat.not_lt.mpr z)

theorem drop_get {α : Type} {l : List α} {d : Nat} {g : α} {gs : List α} (h : l.drop d = g :: gs) : l[d]? = some g ∧ l.drop (d + 1) = gs ∧ l[d + 1]? = gs.head? := by
  have h1 : l[d]? = some g := by rw [← List.head?_drop, h]; rfl
  have h2 : l.drop (d + 1) = gs := by rw [← List.tail_drop, h]; rfl
  exact ⟨h1, h2, by rw [← List.head?_drop, h2]⟩


section
variable {prog : Program} {w : World} {A : Around} {s : Shared} {elt : Expr} {gens : List Comprehension} {scope : Scope} {pos : Pos}
theorem comp_go {R : Result → Shared → Prop} {d : Nat} {g : Comprehension} {gs : List Comprehension} {it acc : Value} {env : Env} (hg : gens.drop d = g :: gs) (ha : g.is_async = 0) (I : Nat → Shared → Prop)
    (turn : ∀ n s, I n s → wpAny (model prog w) A (pyNext it) (fun r s₁ => match r with
      | none => R (.ok .next) s₁
      | some v => wpAny (model prog w) A (letOwnedTupleGo g.target it v) (fun _ s₂ => wpAny (model prog w) A (assign g.target env v) (fun _ s₃ =>
          wpAny (model prog w) A (forIn g.ifs true fun c r => if r = true then do let ok ← isTrue c env (eval c env); pure (ForInStep.yield ok) else pure (ForInStep.yield r)) (fun ok s₄ =>
            if ok = true then (match gs with
              | [] => wpAny (model prog w) A (eval elt env) (fun x s₅ => wpAny (model prog w) A (call (.builtin "list.append") [acc, x]) (fun _ s₆ => ∃ m, m < n ∧ I m s₆) NoE s₅) NoE s₄
              | g' :: _ => wpAny (model prog w) A (eval g'.iter env) (fun x s₅ => wpAny (model prog w) A (pyIter x) (fun it' s₆ => codeAny (model prog w) A (.compStart (.ListComp elt gens scope pos) (d + 1) it' acc env) (fun r s₇ => r = .ok .next ∧ ∃ m, m < n ∧ I m s₇) s₆) NoE s₅) NoE s₄)
            else ∃ m, m < n ∧ I m s₄) NoE s₃) NoE s₂) NoE s₁) NoE s)
    (hin : ∀ g' ∈ gs.head?, g'.is_async = 0 ∧ ∀ x, foldedSetIterable g'.iter env x = pure x)
    (n : Nat) (h : I n s) : codeAny (model prog w) A (.compLoop (.ListComp elt gens scope pos) d it acc env) R s := by
  obtain ⟨h1, h2, h3⟩ := drop_get hg
  refine codeAny_loop rfl I (fun n s hI => ?_) n h
  show wpAny _ A ((compTurn (.ListComp elt gens scope pos) d it acc env).onRaise (fun x => do noteFrame x env; theTreesLotGoes x)) _ _ s
  refine wpAny_noted ?_
  unfold compTurn
  simp only [h1, ha]
  refine wpAny_bind (wpAny_standAt (wpAny_bind (wpAny_mono (turn n s hI) (fun r s₁ h₁ => ?_) fun _ _ h' => h'.elim)))
  cases r with
  | none => exact wpAny_pure h₁
  | some v =>
    refine wpAny_bind (wpAny_mono h₁ (fun _ s₂ h₂ => ?_) fun _ _ h' => h'.elim)
    refine wpAny_bind (wpAny_mono h₂ (fun _ s₃ h₃ => wpAny_bind (wpAny_mono h₃ (fun ok s₄ h₄ => ?_) fun _ _ h' => h'.elim)) fun _ _ h' => h'.elim)
    cases ok with
    | false => exact wpAny_pure ⟨rfl, h₄⟩
    | true =>
      try dsimp only at h₄ ⊢
      simp only [if_true] at h₄ ⊢
      rw [h3]
      cases gs with
      | nil => exact wpAny_bind (wpAny_bind (wpAny_mono h₄ (fun x s₄ h₄ => wpAny_bind (wpAny_mono h₄ (fun _ s₅ h₅ => wpAny_pure (wpAny_pure ⟨rfl, h₅⟩)) fun _ _ h' => h'.elim)) fun _ _ h' => h'.elim))
      | cons g' gs' =>
        obtain ⟨a', f'⟩ := hin g' rfl
        try dsimp only [List.head?_cons]
        simp only [a']
        refine wpAny_bind (wpAny_mono h₄ (fun x s₅ h₅ => wpAny_bind (wpAny_standAt (wpAny_bind (wpAny_of_eq (f' x) ?_)))) fun _ _ h' => h'.elim)
        refine wpAny_bind (wpAny_holding (wpAny_mono h₅ (fun it' s₆ h₆ => ?_) fun _ _ h' => h'.elim))
        refine wpAny_bind (wpAny_runOwn ?_)
        rw [Around.mark_none]
        refine codeAny_mono h₆ fun r s₇ h₇ => ?_
        obtain ⟨rfl, h₇⟩ := h₇
        exact wpAny_pure ⟨rfl, h₇⟩
theorem compStart_go {R : Result → Shared → Prop} {d : Nat} {g : Comprehension} {gs : List Comprehension} {it acc : Value} {env : Env} (hg : gens.drop d = g :: gs) (ha : g.is_async = 0)
    (h0 : codeAny (model prog w) A (.compLoop (.ListComp elt gens scope pos) d it acc env) R s)
    (h : ∀ Q : Value → Shared → Prop, Q it s → wpAny (model prog w) A (pyIter it) Q NoE s) :
    codeAny (model prog w) A (.compStart (.ListComp elt gens scope pos) d it acc env) R s := by
  obtain ⟨h1, h2, h3⟩ := drop_get hg
  refine codeAny_of_tree ?_
  show wpAny _ _ ((compStart (.ListComp elt gens scope pos) d it acc env).onRaise (fun x => do noteFrame x env; standAt theWindowsPlace)) _ _ s
  refine wpAny_notedAt ?_
  unfold compStart
  have hc : (clausesOf (.ListComp elt gens scope pos))[d]? = some g := h1
  simp only [hc, Option.elim, ha]
  show wpAny _ _ (ask >>= _) _ _ s
  refine wpAny_bind (wpAny_askSetting (wpAny_ite ?_))
  split
  · first
      | exact wpAny_bind (wpAny_pure (wpAny_pure (And.intro rfl h0)))
      | exact wpAny_pure (And.intro rfl h0)
  · refine wpAny_bind (wpAny_rule ?_)
    show wpAny _ _ (standAt g.iter.pos >>= _) _ _ s
    exact wpAny_bind (wpAny_standAt (wpAny_bind (wpAny_mono (h (fun v s' => v = it ∧ s' = s) ⟨rfl, rfl⟩) (fun it' s' h' => by obtain ⟨rfl, rfl⟩ := h'; exact wpAny_pure (And.intro rfl h0)) fun _ _ x => x.elim)))
end
end Mine
end C8

section C9
open PySem PySem.W PyProof.Rows
set_option Elab.async false
set_option linter.unusedVariables false
namespace Mine

/-- the clauses are plain -/
noncomputable def PlainC (gens : List Comprehension) : Prop := ∀ g ∈ gens, g.is_async = 0 ∧ ∀ env x, foldedSetIterable g.iter env x = pure x

theorem comp_loop {C k sc A cenv D elt gens scope pos} (he : cenv.scope = sc) (hr : Room A k) (hp : PlainC gens) : ∀ {gs : List Comprehension} {g : Comprehension} {d : Nat} (hg : gens.drop d = g :: gs)
    {P : Addr → Prop} {I : Addr} {xs : List PV} {acc : List PV} {ρ σ} {s₀ s : Shared} {K : List PV → Lo → Sto → Prop} {R : Result → Shared → Prop} (J : List PV → List PV → Lo → Sto → Prop)
    (hJ : J xs acc ρ σ) (turn : ∀ x r acc ρ σ, J (x :: r) acc ρ σ → Bind C k sc ρ σ g.target x ownL fun ρ' σ' => TrAll C k sc ρ' .And σ' g.ifs fun b σ₂ => if b then CompOk C k sc elt gs acc ρ' σ₂ (fun acc' ρ'' σ₃ => J r acc' ρ'' σ₃) else J r acc ρ' σ₂)
    (fin : ∀ acc ρ σ, J [] acc ρ σ → K acc ρ σ) (c : CSt C P cenv D ρ σ acc s) (t : ItAt C A P s.heap I xs) (hI : P I ∧ C.base ≤ I ∧ I ∉ dom σ ∧ ¬ own cenv I ∧ I ≠ D) (h0 : hsz s₀ ≤ I) (S₀ : Step C σ σ (owD cenv D) s₀ s)
    (hR : ∀ acc' ρ' σ' s', K acc' ρ' σ' → Step C σ σ' (owD cenv D) s₀ s' → CSt C (PP P σ') cenv D ρ' σ' acc' s' → R (.ok .next) s'),
    codeAny (model C.prog C.w) A (.compLoop (.ListComp elt gens scope pos) d (.ref I) (.ref D) cenv) R s := by
  intro gs
  induction gs with
  | nil => ?_
  | cons g' gs ih => ?_
  all_goals
    intro g d hg P I xs acc ρ σ s₀ s K R J hJ turn fin c t hI h0 S₀ hR
    have hgm : g ∈ gens := List.mem_of_mem_drop (hg ▸ List.mem_cons_self)
    refine comp_go hg (hp g hgm).1 (fun n s' => ∃ rest acc' ρ' σ', n = rest.length ∧ J rest acc' ρ' σ' ∧ Step C σ σ' (owD cenv D) s₀ s' ∧ CSt C (PP P σ') cenv D ρ' σ' acc' s' ∧ ItAt C A (PP P σ') s'.heap I rest ∧ I ∉ dom σ') ?_ ?_ xs.length
      ⟨xs, acc, ρ, σ, rfl, hJ, S₀, c.pp, t.pass (Pass.pp c.inv.hp) (fun _ e => e) (.inl hI.1), hI.2.2.1⟩
    case refine_2 =>
      first
        | (intro g' h; cases h; done)
        | (intro g'' h
           have : g'' = g' := by simpa using h.symm
           subst this
           have hm : g'' ∈ gens := List.mem_of_mem_drop (hg ▸ List.mem_cons_of_mem _ List.mem_cons_self)
           exact ⟨(hp g'' hm).1, fun x => (hp g'' hm).2 _ x⟩)
    rintro n s' ⟨rest, acc', ρ', σ', rfl, hJ', S', c', t', hd⟩
    have hk : ∀ {h' : Heap} {tk'}, hsz s' ≤ h'.objs.size → (∀ b o, b ≠ I → s'.heap.get? b = some o → h'.get? b = some o) → Step C σ σ' (owD cenv D) s₀ { s' with heap := h', toks := tk' } ∧ CSt C (PP P σ') cenv D ρ' σ' acc' { s' with heap := h', toks := tk' } := fun {h'} {tk'} hz k => by
      have hI' : PP P σ' I ∧ C.base ≤ I ∧ I ∉ dom σ' ∧ ¬ own cenv I := ⟨.inl hI.1, hI.2.1, hd, hI.2.2.2.1⟩
      refine ⟨⟨fun b o h1 h2 h3 e => k b o (fun q => by subst q; exact Nat.not_lt.mpr h0 (Heap.lt_size e)) (S'.kept b o h1 h2 h3 e), Nat.le_trans S'.size hz, S'.new, S'.gens, S'.os⟩, c'.inv.moved k hz hI', ?_, c'.hD⟩
      obtain ⟨vs, ⟨n, e⟩, r⟩ := c'.list
      exact ⟨vs, ⟨n, k D _ (Ne.symm hI.2.2.2.2) e⟩, r.pass' fun a o na e => ⟨k a o (fun q => na (q ▸ hI'.1)) e, na⟩⟩
    cases rest with
    | nil =>
      refine t'.done fun h' tk' hz k => ?_
      exact hR _ _ _ _ (fin _ _ _ hJ') (hk hz k).1 (hk hz k).2
    | cons x rest => ?_
    refine t'.next fun v h' tk' hz k rv t₂ go => ?_
    refine go g.target _ _ _ rfl ?_
    obtain ⟨S₂, c₂⟩ := hk (tk' := tk') hz k
    refine wpAny_mono (turn _ _ _ _ _ hJ' A _ cenv { s' with heap := h', toks := tk' } v he hr c₂.inv rv) (fun _ s₃ o => ?_) fun _ _ x => x
    obtain ⟨ρ₁, σ₂, hB, S₃, I₃⟩ := o
    have ptb : ∀ a ∈ C.tb, P a := c.inv.hp.ptb
    have pown : ∀ a, own cenv a → P a := fun a ha => (c.inv.pown a ha).1
    have c₃ := (c₂.step S₃ I₃).down ptb pown c.hD.1
    refine wpAny_mono (tests_run he hr hB c₃.inv) (fun b s₄ o => ?_) fun _ _ x => x
    obtain ⟨σ₃, hT, A₄⟩ := o
    have S₄ : Step C σ₂ σ₃ (ownL cenv) s₃ s₄ := A₄.step.weak fun _ q => q.elim
    have c₄ := (c₃.step S₄ (c₃.inv.after A₄)).down ptb pown c.hD.1
    have S34 := S₃.trans S₄
    -- the iterator goes on
    have keepI : ∀ {σ₄ : Sto} {s₅ : Shared}, Step C σ' σ₄ (owD cenv D) { s' with heap := h', toks := tk' } s₅ → Hp C (PP P σ₄) σ₄ s₅.heap → ItAt C A (PP P σ₄) s₅.heap I rest ∧ I ∉ dom σ₄ := fun {σ₄ s₅} S H => by
      have g := pass_step S (fun a q => q.elim (fun q => .inl (q ▸ pown _ (.inl rfl))) fun q => .inl (q ▸ c.hD.1)) c₂.inv.hp
      have hne : ¬ owD cenv D I := fun q => q.elim (fun q => hI.2.2.2.1 (.inl q)) hI.2.2.2.2
      refine ⟨t₂.pass (fun a o na e => ⟨(g a o na e).1, fun q => (g a o na e).2 (PP_up a q)⟩) (fun o e => S.kept _ o hd (fun q => absurd (C.tbLow _ q) (Nat.not_lt.mpr hI.2.1)) hne e) (.inl hI.1), fun q => ?_⟩
      rcases S.new _ q with z | z
      · exact hd z
      · exact absurd (Nat.lt_of_lt_of_le (c'.inv.hp.plt I (.inl hI.1)) hz) (Nat.not_lt.mpr z)
    cases b with
    | false =>
      obtain ⟨t₅, hd₅⟩ := keepI (S34.weak fun a q => .inl q) c₄.inv.hp
      exact ⟨rest.length, by simp, rest, acc', ρ₁, σ₃, rfl, hT, S₂.trans (S34.weak fun a q => .inl q), c₄, t₅, hd₅⟩
    | true => ?_
    simp only [if_true] at hT ⊢
  · -- the element
    refine wpAny_mono (hT A _ cenv s₄ he hr c₄.inv) (fun x₁ s₅ o => ?_) fun _ _ x => x
    obtain ⟨dx, σ₄, ⟨hlen, hK⟩, A₅, rx⟩ := o
    have S₅ : Step C σ₃ σ₄ (ownL cenv) s₄ s₅ := A₅.step.weak fun _ q => q.elim
    have c₅ := (c₄.step S₅ (c₄.inv.after A₅)).down ptb pown c.hD.1
    obtain ⟨vs, pl, rl⟩ := c₅.list
    have hz5 : vs.size = acc'.length := by rw [← rl.length, Array.length_toList]
    refine wpAny_list_append_plain pl (fun h₆ pl₆ sb₆ => ?_) (by rw [hz5]; exact hlen)
    have S₆ : Step C σ₄ σ₄ (owD cenv D) s₅ { s₅ with heap := h₆ } := ⟨fun b o _ _ hb e => sb₆.extBut b o (fun q => hb (.inr q)) e, Nat.le_of_eq sb₆.1.symm, fun _ q => .inl q, rfl, rfl⟩
    have g6 : Pass (PP P σ₄) s₅.heap (PP P σ₄) h₆ := fun a o na e => ⟨sb₆.extBut a o (fun q => na (q ▸ .inl c.hD.1)) e, na⟩
    have Sall := (S34.trans S₅).weak (own' := owD cenv D) (fun a q => .inl q) |>.trans S₆
    have c₆ : CSt C (PP P σ₄) cenv D ρ₁ σ₄ (acc' ++ [dx]) { s₅ with heap := h₆ } := ⟨c₅.inv.moved sb₆.extBut (Nat.le_of_eq sb₆.1.symm) c₅.hD, ⟨_, pl₆, by
      rw [Array.toList_push]; exact (rl.pass' g6).append (.cons ((rx.down C.extOk).pass' g6) .nil)⟩, c₅.hD⟩
    obtain ⟨t₆, hd₆⟩ := keepI Sall c₆.inv.hp
    exact ⟨rest.length, by simp, rest, _, ρ₁, σ₄, rfl, hK, S₂.trans Sall, c₆, t₆, hd₆⟩
  · -- the next clause
    refine ev_one hT he hr c₄.inv fun v₅ d₅ σ₄ s₅ hK A₅ r₅ => ?_
    obtain ⟨ys, hIt, J₂, hJ₂, turn₂, fin₂⟩ := hK
    have S₅ : Step C σ₃ σ₄ (ownL cenv) s₄ s₅ := A₅.step.weak fun _ q => q.elim
    have c₅ := (c₄.step S₅ (c₄.inv.after A₅)).down ptb pown c.hD.1
    refine hIt A _ s₅ v₅ _ _ hr c₅.inv.hp (r₅.down C.extOk) fun o tk ti => ?_
    have S₆ : Step C σ₄ σ₄ (owD cenv D) s₅ { s₅ with heap := s₅.heap.push o, toks := tk } := ⟨fun b o _ _ _ e => Heap.get?_push_of_some _ e, by show s₅.heap.objs.size ≤ (s₅.heap.push o).objs.size; rw [Heap.size_push]; exact Nat.le_succ _, fun _ q => .inl q, rfl, rfl⟩
    have c₆ : CSt C (fun b => PP P σ₄ b ∨ b = hsz s₅) cenv D ρ₁ σ₄ acc' { s₅ with heap := s₅.heap.push o, toks := tk } := by
      obtain ⟨vs, ⟨n, e⟩, rl⟩ := c₅.list
      refine ⟨c₅.inv.more, ⟨vs, ⟨n, Heap.get?_push_of_some _ e⟩, rl.pass' fun a x na ea => ⟨Heap.get?_push_of_some _ ea, fun q => q.elim na fun q => by subst q; exact absurd (Heap.lt_size ea) (Nat.lt_irrefl _)⟩⟩, .inl c₅.hD.1, c₅.hD.2⟩
    have hd1 := (drop_get hg).2.1
    have hDlt : D < hsz s₅ := c₅.inv.hp.plt D c₅.hD.1
    have hI2 : (fun b => PP P σ₄ b ∨ b = hsz s₅) (hsz s₅) ∧ C.base ≤ hsz s₅ ∧ hsz s₅ ∉ dom σ₄ ∧ ¬ own cenv (hsz s₅) ∧ hsz s₅ ≠ D :=
      ⟨.inr rfl, C.low c₅.inv.hp.gi, fun q => Nat.lt_irrefl _ (c₅.inv.hp.lt _ q), fun q => Nat.lt_irrefl _ (c₅.inv.envOk.lt _ q), Ne.symm (Nat.ne_of_lt hDlt)⟩
    have hgm' : g' ∈ gens := List.mem_of_mem_drop (hg ▸ List.mem_cons_of_mem _ List.mem_cons_self)
    refine compStart_go hd1 (hp g' hgm').1 (ih hd1 J₂ hJ₂ turn₂ fin₂ c₆ ti hI2 (s₀ := s₅) (Nat.le_refl _) S₆ fun acc₇ ρ₇ σ₇ s₇ hK₇ S₇ c₇ => ⟨rfl, ?_⟩) fun Q q => ti.self q
    have Sall := (((S34.trans S₅).weak (own' := owD cenv D) fun a q => .inl q)).trans S₇
    have c₈ : CSt C (PP P σ₇) cenv D ρ₇ σ₇ acc₇ s₇ := by
      obtain ⟨vs, pl, rl⟩ := c₇.list
      have less : ∀ a, PP P σ₇ a → PP (fun b => PP P σ₄ b ∨ b = hsz s₅) σ₇ a := fun a q => q.elim (fun q => .inl (.inl (.inl q))) .inr
      exact ⟨c₇.inv.less less (fun a ha => .inl (ptb a ha)) (fun a ha => .inr ha) (fun a ha => .inl (pown a ha)), ⟨vs, pl, rl.pass' (Pass.less less)⟩, .inl c.hD.1, c₇.hD.2⟩
    obtain ⟨t₈, hd₈⟩ := keepI Sall c₈.inv.hp
    exact ⟨rest.length, by simp, rest, acc₇, ρ₇, σ₇, rfl, hK₇, S₂.trans Sall, c₈, t₈, hd₈⟩
end Mine
end C9

section C10
open PySem PySem.W PyProof.Rows
set_option Elab.async false
set_option linter.unusedVariables false
namespace Mine

/-! ## closures -/
theorem mem_of_lookup {α β : Type} [BEq α] [LawfulBEq α] {l : List (α × β)} {x : α} {c : β} (h : l.lookup x = some c) : (x, c) ∈ l := by
  induction l with
  | nil => cases h
  | cons p r ih =>
    obtain ⟨y, d⟩ := p
    by_cases e : x = y
    · subst e; rw [List.lookup_cons_self] at h; cases h; exact List.mem_cons_self
    · rw [List.lookup_cons, beq_false_of_ne e] at h; exact List.mem_cons_of_mem _ (ih h)
theorem lookup_of_mem {α β : Type} [BEq α] [LawfulBEq α] {l : List (α × β)} {x : α} {c : β} (h : (x, c) ∈ l) : ∃ d, l.lookup x = some d := by
  induction l with
  | nil => cases h
  | cons p r ih =>
    obtain ⟨y, d⟩ := p
    by_cases e : x = y
    · subst e; exact ⟨d, List.lookup_cons_self⟩
    · rcases List.mem_cons.mp h with h | h
      · cases h; exact absurd rfl e
      · rw [List.lookup_cons, beq_false_of_ne e]; exact ih h
theorem closure_loop {env : Env} : ∀ (names : List (Str × NameKind)) (cs : List (Str × Addr)), (∀ p ∈ names, p.2 = .free → ∃ c, env.cells.lookup p.1 = some c) → (∀ p ∈ cs, env.cells.lookup p.1 = some p.2) →
    ∃ cl, (forIn names cs fun (x : Str × NameKind) (r : List (Str × Addr)) => (if (x.2 == .free) = true then do let a ← cellOf env x.1; pure (ForInStep.yield ((x.1, a) :: r)) else pure (ForInStep.yield r) : Sem (ForInStep (List (Str × Addr))))) = pure cl ∧
      (∀ p ∈ cl, env.cells.lookup p.1 = some p.2) ∧ (∀ p ∈ cs, p ∈ cl) ∧ ∀ p ∈ names, p.2 = .free → ∃ c, (p.1, c) ∈ cl
  | [], cs, _, hc => ⟨cs, rfl, hc, fun p h => h, fun p h => by cases h⟩
  | (x, kd) :: r, cs, h, hc => by
    rw [List.forIn_cons]
    by_cases hk : kd = .free
    · subst hk
      obtain ⟨a, ha⟩ := h _ List.mem_cons_self rfl
      obtain ⟨cl, e, h1, h2, h3⟩ := closure_loop r ((x, a) :: cs) (fun p hp => h p (List.mem_cons_of_mem _ hp)) (fun p hp => by
        rcases List.mem_cons.mp hp with rfl | hp
        · exact ha
        · exact hc p hp)
      refine ⟨cl, ?_, h1, fun p hp => h2 p (List.mem_cons_of_mem _ hp), fun p hp hf => ?_⟩
      · rw [← e]
        have : cellOf env x = pure a := by unfold cellOf; rw [ha]
        simp only [this]
        rfl
      · rcases List.mem_cons.mp hp with rfl | hp
        · exact ⟨a, h2 _ List.mem_cons_self⟩
        · exact h3 p hp hf
    · obtain ⟨cl, e, h1, h2, h3⟩ := closure_loop r cs (fun p hp => h p (List.mem_cons_of_mem _ hp)) hc
      refine ⟨cl, ?_, h1, h2, fun p hp hf => ?_⟩
      · rw [← e]
        have : (kd == NameKind.free) = false := beq_false_of_ne hk
        simp only [this]
        rfl
      · rcases List.mem_cons.mp hp with rfl | hp
        · exact absurd hf hk
        · exact h3 p hp hf
theorem closure_ok {scope : Scope} {env : Env} (h : ∀ p ∈ scope.names, p.2 = .free → ∃ c, env.cells.lookup p.1 = some c) :
    ∃ cl, closureFor scope env = pure cl ∧ (∀ x c, cl.lookup x = some c → env.cells.lookup x = some c) ∧ ∀ p ∈ scope.names, p.2 = .free → ∃ c, cl.lookup p.1 = some c := by
  obtain ⟨cl, e, h1, _, h3⟩ := closure_loop scope.names [] h (fun p hp => by cases hp)
  refine ⟨cl, ?_, fun x c hx => h1 _ (mem_of_lookup hx), fun p hp hf => let ⟨c, hc⟩ := h3 p hp hf; lookup_of_mem hc⟩
  unfold closureFor
  show (forIn scope.names [] _ >>= fun cs => pure cs) = pure cl
  have e2 : (forIn scope.names ([] : List (Str × Addr)) fun (x : Str × NameKind) (r : List (Str × Addr)) => (match x with | (name, kind) => (if (kind == .free) = true then do let a ← cellOf env name; pure (ForInStep.yield ((name, a) :: r)) else pure (ForInStep.yield r)) : Sem (ForInStep (List (Str × Addr))))) = pure cl := e
  first
    | (rw [e2]; rfl)
    | (erw [e2]; rfl)

/-! ## the scope of a comprehension -/
noncomputable def rel (scope sc : Scope) : Scope :=
  { scope with names := scope.names.map fun (n, k) => if (k == .free && sc.kind == .function && sc.names.lookup n == some .cell) then (n, .cell) else (n, k) }
/-- what a scope must be like, looked at from sc -/
noncomputable def okScope (scope sc : Scope) : Bool :=
  scope.names.all fun p => (p.2 != .cell) && (p.2 != .local || scope.names.lookup p.1 == some .local) && (p.2 != .free || sc.names.lookup p.1 == some .cell || sc.names.lookup p.1 == some .free)
theorem rel_lookup {scope sc : Scope} {x : Str} {kd : NameKind} (h : (rel scope sc).names.lookup x = some kd) : ∃ kd', (x, kd') ∈ scope.names ∧ (kd' = kd ∨ kd' = .free) := by
  have := mem_of_lookup h
  obtain ⟨⟨n, k'⟩, hm, he⟩ := List.mem_map.mp this
  dsimp only at he
  by_cases hc : (k' == .free && sc.kind == .function && sc.names.lookup n == some .cell) = true
  · rw [if_pos hc] at he; cases he
    rw [Bool.and_eq_true, Bool.and_eq_true] at hc
    exact ⟨_, hm, .inr (eq_of_beq hc.1.1)⟩
  · rw [if_neg hc] at he; cases he
    exact ⟨_, hm, .inl rfl⟩

theorem compEnv_ok {scope : Scope} {env : Env} {cl : List (Str × Addr)} {L : Addr} {h h' : Heap} (E : EnvOk env h) (hk : scope.kind = .function) (ok : okScope scope env.scope = true)
    (h1 : ∀ x c, cl.lookup x = some c → env.cells.lookup x = some c) (h2 : ∀ p ∈ scope.names, p.2 = .free → ∃ c, cl.lookup p.1 = some c) (hn : ∃ m, h'.Ns L m) (hL : h.objs.size ≤ L)
    (kp : ∀ b o, h.get? b = some o → h'.get? b = some o) : EnvOk (compEnvC scope cl L env) h' where
  kind := hk
  glob := E.glob
  blt := E.blt
  ns := hn
  cells := fun x c hx => by
    obtain ⟨_, v, o, ho, hd⟩ := E.cells x c (h1 x c hx)
    refine ⟨fun q => ?_, v, o, kp c o ho, hd⟩
    have q' : c = L := q
    subst q'
    exact Nat.not_lt.mpr hL (Heap.lt_size ho)
  inj := fun x y c hx hy => E.inj x y c (h1 x c hx) (h1 y c hy)
  has := fun x hx => by
    have key : ∀ kd, (compEnvC scope cl L env).kindOf x = some kd → (kd = .cell ∨ kd = .free) → (x, NameKind.free) ∈ scope.names := fun kd hkd hh => by
      obtain ⟨kd', hm, he⟩ := rel_lookup (scope := scope) (sc := env.scope) hkd
      rcases he with rfl | rfl
      · rcases hh with rfl | rfl
        · have := List.all_eq_true.mp ok _ hm
          simp at this
        · exact hm
      · exact hm
    rcases hx with hx | hx
    · exact h2 _ (key _ hx (.inl rfl)) rfl
    · exact h2 _ (key _ hx (.inr rfl)) rfl
end Mine
end C10

section C11
open PySem PySem.W PyProof.Rows
set_option Elab.async false
set_option linter.unusedVariables false
namespace Mine

structure CEnd (C : Cx) (P : Addr → Prop) (env : Env) (ρ : Lo) (σ : Sto) (s : Shared) (σ' : Sto) (s' : Shared) (D Cl : Addr) (acc : List PV) : Prop where
  step : Step C σ σ' noOwn s s'
  inv : Inv C (PP (fun b => P b ∨ b = Cl) σ') env ρ σ' s'.heap
  rd : Rd C.X (PP (fun b => P b ∨ b = Cl) σ') s'.heap (.ref D) (.list acc)
  lo : hsz s ≤ Cl
  dom : Cl ∉ dom σ'
  base : C.base ≤ Cl
  own : ¬ own env Cl
  ns : ∃ m, s'.heap.Ns Cl m

/-- which names a comprehension captures, with their data -/
noncomputable def Capt (scope sc : Scope) (ρ : Lo) : Lo → Prop
  | [] => True
  | p :: r => (scope.names.lookup (Str.ofString p.1) = some .free ∧ ρ.lookup p.1 = some p.2) ∧ Capt scope sc ρ r
theorem Capt.get {scope sc ρ} : ∀ {ρc : Lo} {x d}, Capt scope sc ρ ρc → ρc.lookup x = some d → scope.names.lookup (Str.ofString x) = some .free ∧ ρ.lookup x = some d
  | [], _, _, _, h => by cases h
  | (y, e) :: r, x, d, hh, h => by
    by_cases hx : x = y
    · subst hx; rw [List.lookup_cons_self] at h; cases h; exact hh.1
    · rw [List.lookup_cons, beq_false_of_ne hx] at h; exact hh.2.get h
theorem rel_free {sc : Scope} : ∀ {names : List (Str × NameKind)} {x : Str}, names.lookup x = some .free →
    (names.map fun (n, k) => if (k == NameKind.free && sc.kind == .function && sc.names.lookup n == some .cell) then (n, NameKind.cell) else (n, k)).lookup x = some .cell ∨
    (names.map fun (n, k) => if (k == NameKind.free && sc.kind == .function && sc.names.lookup n == some .cell) then (n, NameKind.cell) else (n, k)).lookup x = some .free
  | [], _, h => by cases h
  | (n, kd) :: r, x, h => by
    by_cases hx : x = n
    · subst hx
      rw [List.lookup_cons_self] at h; cases h
      rw [List.map_cons]
      dsimp only
      split
      · exact .inl List.lookup_cons_self
      · exact .inr List.lookup_cons_self
    · rw [List.lookup_cons, beq_false_of_ne hx] at h
      rw [List.map_cons]
      dsimp only
      have ih := rel_free (sc := sc) (x := x) h
      split <;> (rw [List.lookup_cons, beq_false_of_ne hx]; exact ih)

theorem comp_core {C k sc A P env s ρ σ elt g gs scope pos pos'} {K : List PV → Sto → Prop} {use : Option (Value → Sem Unit)} {Q : Value → Shared → Prop} (he : env.scope = sc) (hr : Room A k) (I : Inv C P env ρ σ s.heap) (ρc : Lo) (hρ : Capt scope sc ρ ρc)
    (ok : okScope scope sc = true) (hk : scope.kind = .function) (hp : PlainC (g :: gs))
    (h : Ev C k sc ρ σ g.iter fun a σ₁ => ∃ xs, Iterable C k σ₁ a xs ∧ ∃ J : List PV → List PV → Lo → Sto → Prop, J xs [] ρc σ₁ ∧
      (∀ x r acc ρ σ, J (x :: r) acc ρ σ → Bind C k (rel scope sc) ρ σ g.target x ownL fun ρ' σ' => TrAll C k (rel scope sc) ρ' .And σ' g.ifs fun b σ₂ => if b then CompOk C k (rel scope sc) elt gs acc ρ' σ₂ (fun acc' ρ'' σ₃ => J r acc' ρ'' σ₃) else J r acc ρ' σ₂) ∧
      (∀ acc ρ σ, J [] acc ρ σ → K acc σ))
    (hQ : ∀ acc σ' s' D Cl, K acc σ' → CEnd C P env ρ σ s σ' s' D Cl acc → compPost (model C.prog C.w) A NoE use Q (.ref D) Cl (.ok .next) s') :
    wpAny (model C.prog C.w) A (comprehension (.ListComp elt (g :: gs) scope pos) scope env pos' (newList []) false (eval g.iter env) use) Q NoE s := by
  subst he
  have hfree : ∀ p ∈ scope.names, p.2 = .free → ∃ c, env.cells.lookup p.1 = some c := fun p hm hf => by
    have := List.all_eq_true.mp ok p hm
    rw [hf] at this
    simp only [Bool.and_eq_true, Bool.or_eq_true, bne_iff_ne, ne_eq, beq_iff_eq, not_true_eq_false, false_or] at this
    exact I.envOk.has _ this.2
  obtain ⟨cl, hcl, hcl1, hcl2⟩ := closure_ok hfree
  have hnames : ∀ x ∈ scope.names, x.2 = .local → scope.names.lookup x.1 = some .local := fun x hm hl => by
    have := List.all_eq_true.mp ok x hm
    rw [hl] at this
    simp only [Bool.and_eq_true, Bool.or_eq_true, bne_iff_ne, ne_eq, beq_iff_eq, not_true_eq_false, false_or] at this
    exact this.1.2
  have hcell : ∀ y ∈ scope.names, y.2 ≠ .cell := fun x hm hl => by
    have := List.all_eq_true.mp ok x hm
    rw [hl] at this
    simp at this
  refine wpAny_comprehension_free (gs := gs) rfl (hp g List.mem_cons_self |>.2 env) hcl hk hnames (ev_one h rfl hr I fun v₁ d₁ σ₁ s₁ hK₁ A₁ r₁ => ?_)
  obtain ⟨xs, hIt, J, hJ, turn, fin⟩ := hK₁
  have I₁ := I.after A₁
  refine hIt A _ s₁ v₁ _ _ hr I₁.hp r₁ fun o tk ti => ?_
  refine wpAny_newList ?_ (by simp [sizeLine])
  refine wpAny_newFunctionEnv hcell (by intro y hy; simp at hy) (fun h₁ hns hsb => ?_) hk
  dsimp only at hns hsb ⊢
  generalize hH2 : (s₁.heap.push o).push { cls := .type "list", data := .seq ([] : List Value).toArray } = H2 at hns hsb ⊢
  have hz2 : H2.objs.size = hsz s₁ + 2 := by rw [← hH2, Heap.size_push, Heap.size_push]
  have hzD : (s₁.heap.push o).objs.size = hsz s₁ + 1 := by rw [Heap.size_push]
  have hz3 : h₁.objs.size = hsz s₁ + 3 := by rw [hsb.1, Heap.size_push, hz2]
  -- the three new addresses
  have kp : ∀ b x, s₁.heap.get? b = some x → h₁.get? b = some x := fun b x e => hsb.extBut b x (by rw [hz2]; have := Heap.lt_size e; show b ≠ s₁.heap.objs.size + 2; (unfold Addr hsz at *; lia)) (Heap.get?_push_of_some _ (hH2 ▸ Heap.get?_push_of_some _ (Heap.get?_push_of_some _ e)))
  have eD : h₁.get? (hsz s₁ + 1) = some { cls := .type "list", data := .seq ([] : List Value).toArray } := by
    refine hsb.extBut _ _ (by rw [hz2]; (unfold Addr hsz at *; lia)) (Heap.get?_push_of_some _ ?_)
    rw [← hH2, ← hzD]; exact Heap.get?_push_size _ rfl
  have eI : ∀ x, (s₁.heap.push o).get? (hsz s₁) = some x → h₁.get? (hsz s₁) = some x := fun x e => hsb.extBut _ _ (by rw [hz2]; (unfold Addr hsz at *; lia)) (Heap.get?_push_of_some _ (hH2 ▸ Heap.get?_push_of_some _ e))
  have nI : ¬ own env (hsz s₁) := fun q => Nat.lt_irrefl _ (I₁.envOk.lt _ q)
  have fresh : ∀ i, hsz s₁ ≤ i → ¬ PP P σ₁ i ∧ i ∉ dom σ₁ ∧ ¬ own env i ∧ C.base ≤ i := fun i hi => ⟨fun q => Nat.not_lt.mpr hi (I₁.hp.plt _ q), fun q => Nat.not_lt.mpr hi (I₁.hp.lt _ q), fun q => Nat.not_lt.mpr hi (I₁.envOk.lt _ q), Nat.le_trans (C.low I₁.hp.gi) hi⟩
  -- what is watched in the loop
  let P₁ : Addr → Prop := fun b => PP P σ₁ b ∨ b = hsz s₁ ∨ b = hsz s₁ + 1 ∨ b = hsz s₁ + 2
  have g1 : Pass (PP P σ₁) s₁.heap P₁ h₁ := fun a x na e => ⟨kp a x e, fun q => q.elim na fun q => by have := Heap.lt_size e; rcases q with q | q | q <;> (unfold Addr hsz at *; lia)⟩
  have I₂ : Inv C P₁ env ρ σ₁ h₁ := by
    have V := I₁.grown kp (by rw [hz3]; show s₁.heap.objs.size ≤ s₁.heap.objs.size + 3; (unfold Addr hsz at *; lia))
    exact ⟨⟨V.hp.gi, I₁.hp.st.pass g1 (fun b _ x e => kp b x e), fun a ha => .inl (V.hp.ptb a ha), fun a ha => ⟨.inl (V.hp.pdom a ha).1, (V.hp.pdom a ha).2⟩, V.hp.nodup, fun a q => by
      rcases q with q | q | q | q
      · exact V.hp.plt a q
      all_goals (subst q; rw [hz3]; (unfold Addr hsz at *; lia))⟩, V.envOk, fun x d hx => let ⟨v, a, r⟩ := I₁.vars x d hx; ⟨v, a.keep (fun b x _ e => kp b x e), r.pass' g1⟩, fun a ha => ⟨.inl (V.pown a ha).1, (V.pown a ha).2⟩⟩
  let cenv := compEnvC scope cl (hsz s₁ + 2) env
  have hns' : h₁.Ns (hsz s₁ + 2) (fun x => List.lookup x (List.reverse [])) := by rw [← hz2]; exact hns
  have E' : EnvOk cenv h₁ := compEnv_ok I₁.envOk hk ok hcl1 hcl2 ⟨_, hns'⟩ (by show s₁.heap.objs.size ≤ _; (unfold Addr hsz at *; lia)) kp
  have ownC : ∀ a, own cenv a → a = hsz s₁ + 2 ∨ own env a := fun a q => by
    rcases q with q | ⟨x, hx⟩
    · exact .inl q
    · exact .inr (.inr ⟨x, hcl1 x a hx⟩)
  have Ic : Inv C P₁ cenv ρc σ₁ h₁ := by
    refine ⟨I₂.hp, E', fun x d hx => ?_, fun a ha => ?_⟩
    · obtain ⟨hf, hx'⟩ := hρ.get hx
      obtain ⟨v, hv, rv⟩ := I₂.vars x d hx'
      obtain ⟨c, hc⟩ := hcl2 _ (mem_of_lookup hf) rfl
      have hc' := hcl1 _ _ hc
      refine ⟨v, ?_, rv⟩
      have hkc : cenv.kindOf (Str.ofString x) = some .cell ∨ cenv.kindOf (Str.ofString x) = some .free := rel_free hf
      cases hv with
      | loc a n e =>
        exfalso
        have := List.all_eq_true.mp ok _ (mem_of_lookup hf)
        simp only [Bool.and_eq_true, Bool.or_eq_true, bne_iff_ne, ne_eq, beq_iff_eq, not_true_eq_false, false_or] at this
        have a' : env.scope.names.lookup (Str.ofString x) = some .local := a
        rw [a'] at this
        simp at this
      | cell a l c2 =>
        rw [hc'] at l; cases l
        exact .cell hkc hc c2
    · rcases ownC a ha with q | q
      · subst q
        exact ⟨.inr (.inr (.inr rfl)), (fresh _ (by (unfold Addr hsz at *; lia))).2.2.2, (fresh _ (by (unfold Addr hsz at *; lia))).2.1⟩
      · exact ⟨.inl (I₁.pown a q).1, (I₁.pown a q).2⟩
  have hno : ∀ i, hsz s₁ ≤ i → i ≠ hsz s₁ + 2 → ¬ own cenv i := fun i hi hne q => (ownC i q).elim hne (fresh i hi).2.2.1
  have c₁ : CSt C P₁ cenv (hsz s₁ + 1) ρc σ₁ [] { s₁ with heap := h₁, toks := tk } :=
    ⟨Ic, ⟨#[], ⟨_, eD⟩, .nil⟩, .inr (.inr (.inl rfl)), (fresh _ (by (unfold Addr hsz at *; lia))).2.2.2, (fresh _ (by (unfold Addr hsz at *; lia))).2.1, hno _ (by (unfold Addr hsz at *; lia)) (by (unfold Addr hsz at *; lia))⟩
  have t₁ : ItAt C A P₁ h₁ (hsz s₁) xs := by
    refine ti.pass (fun a x na e => ?_) eI (.inr (.inl rfl))
    have hlt : a < hsz s₁ := by
      have := Heap.lt_size e
      rw [Heap.size_push] at this
      have hne : a ≠ hsz s₁ := fun q => na (.inr q)
      (unfold Addr hsz at *; lia)
    have e' : h₁.get? a = some x := hsb.extBut a x (by rw [hz2]; (unfold Addr hsz at *; lia)) (Heap.get?_push_of_some _ (hH2 ▸ Heap.get?_push_of_some _ e))
    exact ⟨e', fun q => q.elim (fun q => na (.inl q)) fun q => by rcases q with q | q | q <;> (unfold Addr hsz at *; lia)⟩
  have S₁ : Step C σ₁ σ₁ (owD cenv (hsz s₁ + 1)) s₁ { s₁ with heap := h₁, toks := tk } := ⟨fun b x _ _ _ e => kp b x e, by show s₁.heap.objs.size ≤ h₁.objs.size; rw [hz3]; (unfold Addr hsz at *; lia), fun _ q => .inl q, rfl, rfl⟩
  have main : codeAny (model C.prog C.w) A (.compStart (.ListComp elt (g :: gs) scope pos) 0 (.ref (hsz s₁)) (.ref (hsz s₁ + 1)) cenv) (compPost (model C.prog C.w) A NoE use Q (.ref (hsz s₁ + 1)) (hsz s₁ + 2)) { s₁ with heap := h₁, toks := tk } := by
    refine compStart_go (gs := gs) rfl (hp g List.mem_cons_self).1 (comp_loop rfl hr hp (gens := g :: gs) (d := 0) rfl J hJ turn (K := fun acc ρ' σ' => K acc σ') fin c₁ t₁ ⟨.inr (.inl rfl), (fresh _ (Nat.le_refl _)).2.2.2, (fresh _ (Nat.le_refl _)).2.1, hno _ (Nat.le_refl _) (by (unfold Addr hsz at *; lia)), by (unfold Addr hsz at *; lia)⟩ (s₀ := s₁) (Nat.le_refl _) S₁ fun acc ρ' σ' s' hK S' c' => ?_) fun Q q => t₁.self q
    refine hQ acc σ' s' _ _ hK ?_
    have S'' : Step C σ₁ σ' noOwn s₁ s' := ⟨fun b x h1 h2 _ e => S'.kept b x h1 h2 (fun q => by
      have := Heap.lt_size e
      rcases q with q | q
      · have q' : b = s₁.heap.objs.size + 2 := q; (unfold Addr hsz at *; lia)
      · have q' : b = s₁.heap.objs.size + 1 := q; (unfold Addr hsz at *; lia)) e, S'.size, S'.new, S'.gens, S'.os⟩
    have dn : hsz s₁ + 2 ∉ dom σ' := fun q => by
      have := (c'.inv.pown (hsz s₁ + 2) (.inl rfl)).2.2; exact this q
    have less : ∀ a, PP (fun b => P b ∨ b = hsz s₁ + 2) σ' a → PP P₁ σ' a := fun a q => by
      rcases q with (q | q) | q
      · exact .inl (.inl (.inl q))
      · exact .inl (.inr (.inr (.inr q)))
      · exact .inr q
    have hsz1 : hsz s ≤ hsz s₁ := A₁.step.size
    refine ⟨A₁.step.trans S'', ?_, ?_, by show s.heap.objs.size ≤ _; have : s.heap.objs.size ≤ s₁.heap.objs.size := hsz1; show s.heap.objs.size ≤ s₁.heap.objs.size + 2; (unfold Addr hsz at *; lia), dn, (fresh _ (by (unfold Addr hsz at *; lia))).2.2.2, (fresh _ (by (unfold Addr hsz at *; lia))).2.2.1, c'.inv.envOk.ns⟩
    · -- the outer frame
      have gg := pass_step (S'.weak (own' := owD cenv (hsz s₁ + 1)) fun a q => q) (fun a q => by rcases q with q | q <;> (subst q; first | exact .inr (.inr (.inr rfl)) | exact .inr (.inr (.inl rfl)))) (P := P₁) (s := s₁) (σ := σ₁)
      have ko : ∀ b x, own env b → s₁.heap.get? b = some x → s'.heap.get? b = some x := fun b x hb e => S''.kept b x (I₁.pown b hb).2.2 (fun q => absurd (C.tbLow b q) (Nat.not_lt.mpr (I₁.pown b hb).2.1)) (fun q => q) e
      have pS : Pass (PP P σ₁) s₁.heap (PP (fun b => P b ∨ b = hsz s₁ + 2) σ') s'.heap := fun a x na e => by
        refine ⟨(pass_step S'' (fun _ q => q.elim) I₁.hp a x na e).1, fun q => ?_⟩
        rcases q with (q | q) | q
        · exact na (.inl q)
        · have := Heap.lt_size e; have q' : a = s₁.heap.objs.size + 2 := q; (unfold Addr hsz at *; lia)
        · rcases S'.new a q with z | z
          · exact na (.inr z)
          · exact absurd (Heap.lt_size e) (Nat.not_lt.mpr z)
      exact ⟨c'.inv.hp.weak less (fun a ha => .inl (.inl (I.hp.ptb a ha))) (fun a ha => .inr ha), I₁.envOk.keep ko, fun x d hx => let ⟨v, a, r⟩ := I₁.vars x d hx; ⟨v, a.keep ko, r.pass' pS⟩, fun a ha => ⟨.inl (.inl (I.pown a ha).1), (I.pown a ha).2.1, fun q => by
        rcases S'.new a q with z | z
        · exact (I₁.pown a ha).2.2 z
        · exact absurd (I₁.envOk.lt a ha) (Nat.not_lt.mpr z)⟩⟩
    · obtain ⟨vs, ⟨n, e⟩, r⟩ := c'.list
      refine .list (fun q => ?_) e (r.pass' (Pass.less less))
      rcases q with (q | q) | q
      · exact (fresh (hsz s₁ + 1) (by (unfold Addr hsz at *; lia))).1 (.inl q)
      · (unfold Addr hsz at *; lia)
      · exact c'.hD.2.2.1 q
  rw [hzD, hz2]
  exact main
end Mine
end C11

section C12
open PySem PySem.W PyProof.Rows
set_option Elab.async false
set_option linter.unusedVariables false
namespace Mine

theorem CEnd.after {C P env ρ σ s σ' s' D Cl acc} (e : CEnd C P env ρ σ s σ' s' D Cl acc) (I : Inv C P env ρ σ s.heap) {h' : Heap} (hs : Heap.SameBut Cl s'.heap h') {tk : Tok} :
    After C P σ s σ' { s' with heap := h', toks := tk } ∧ Inv C (PP P σ') env ρ σ' h' ∧ Rd C.X (PP P σ') h' (.ref D) (.list acc) := by
  have less : ∀ a, PP P σ' a → PP (fun b => P b ∨ b = Cl) σ' a := fun a q => q.elim (fun q => .inl (.inl q)) .inr
  have V := e.inv.moved hs.extBut (Nat.le_of_eq hs.1.symm) ⟨.inl (.inr rfl), e.base, e.dom, e.own⟩
  have V' := V.less less (fun a ha => .inl (I.hp.ptb a ha)) (fun a ha => .inr ha) (fun a ha => .inl (I.pown a ha).1)
  refine ⟨⟨⟨fun b o h1 h2 h3 x => hs.extBut b o (fun q => ?_) (e.step.kept b o h1 h2 h3 x), Nat.le_trans e.step.size (Nat.le_of_eq hs.1.symm), e.step.new, e.step.gens, e.step.os⟩, V'.hp⟩, V', ?_⟩
  · subst q; exact Nat.not_lt.mpr e.lo (Heap.lt_size x)
  · exact (e.rd.pass' (P' := PP (fun b => P b ∨ b = Cl) σ') (h' := h') fun a o na x => ⟨hs.extBut a o (fun q => na (q ▸ .inl (.inr rfl))) x, na⟩).pass' (Pass.less less)

/-- what the clauses of a list comprehension are to do -/
noncomputable def Comp (C : Cx) (k : Nat) (sc : Scope) (ρc : Lo) (elt : Expr) (g : Comprehension) (gs : List Comprehension) (scope : Scope) (xs : List PV) (σ₁ : Sto) (K : List PV → Sto → Prop) : Prop :=
  ∃ J : List PV → List PV → Lo → Sto → Prop, J xs [] ρc σ₁ ∧
      (∀ x r acc ρ σ, J (x :: r) acc ρ σ → Bind C k (rel scope sc) ρ σ g.target x ownL fun ρ' σ' => TrAll C k (rel scope sc) ρ' .And σ' g.ifs fun b σ₂ => if b then CompOk C k (rel scope sc) elt gs acc ρ' σ₂ (fun acc' ρ'' σ₃ => J r acc' ρ'' σ₃) else J r acc ρ' σ₂) ∧
      (∀ acc ρ σ, J [] acc ρ σ → K acc σ)
theorem Ev.listComp {C k sc ρ σ elt g gs scope pos K} (ρc : Lo) (hρ : Capt scope sc ρ ρc) (ok : okScope scope sc = true) (hk : scope.kind = .function) (hp : PlainC (g :: gs))
    (h : Ev C k sc ρ σ g.iter fun a σ₁ => ∃ xs, Iterable C k σ₁ a xs ∧ Comp C k sc ρc elt g gs scope xs σ₁ fun acc σ' => K (.list acc) σ') :
    Ev C k sc ρ σ (.ListComp elt (g :: gs) scope pos) K := fun A P env s he hr I => by
  have ha : firstAsync (g :: gs) = false := by
    obtain ⟨t, i, fs, a⟩ := g
    have : a = 0 := (hp _ List.mem_cons_self).1
    subst this; rfl
  have hi : firstIter (g :: gs) env = eval g.iter env := by
    obtain ⟨t, i, fs, a⟩ := g
    have : a = 0 := (hp _ List.mem_cons_self).1
    subst this; rfl
  rw [arm_eval_ListComp]
  show wpAny _ _ (comprehension _ scope env (firstIterPos (g :: gs) pos) (newList []) (firstAsync (g :: gs)) (firstIter (g :: gs) env)) _ _ s
  rw [ha, hi]
  refine comp_core (K := fun acc σ' => K (.list acc) σ') he hr I ρc hρ ok hk hp h fun acc σ' s' D Cl hK e => ?_
  obtain ⟨m, hm⟩ := e.ns
  refine ⟨m, hm, fun h' hs => ?_⟩
  obtain ⟨hA, _, r⟩ := e.after I hs (tk := s'.toks)
  exact ⟨_, _, hK, hA, r⟩
/-- a comprehension whose list a name of the frame takes at once -/
theorem Ex1.assignComp {C k sc ρ σ x p elt g gs scope cpos pos K} (ρc : Lo) (hρ : Capt scope sc ρ ρc) (ok : okScope scope sc = true) (hk : scope.kind = .function) (hp : PlainC (g :: gs))
    (h : Ev C k sc ρ σ g.iter fun a σ₁ => ∃ xs, Iterable C k σ₁ a xs ∧ Comp C k sc ρc elt g gs scope xs σ₁ fun acc σ' => K .next ((x, .list acc) :: ρ) σ')
    (hx : sc.names.lookup (Str.ofString x) = some .local)
    (hs : ∀ env, env.scope = sc → swapsWith (.ListComp elt (g :: gs) scope cpos) (some (.Name (Str.ofString x) p)) pos.line env = pure true) :
    Ex1 C k sc ρ σ (.Assign [.Name (Str.ofString x) p] (.ListComp elt (g :: gs) scope cpos) pos) K := fun A P env s he hr I => by
  have ha : firstAsync (g :: gs) = false := by
    obtain ⟨t, i, fs, a⟩ := g
    have : a = 0 := (hp _ List.mem_cons_self).1
    subst this; rfl
  have hi : firstIter (g :: gs) env = eval g.iter env := by
    obtain ⟨t, i, fs, a⟩ := g
    have : a = 0 := (hp _ List.mem_cons_self).1
    subst this; rfl
  rw [exec_Assign_Name_used _ _ _ _ (hs env he)]
  refine wpAny_bind (wpAny_standAt (wpAny_bind ?_))
  rw [arm_evalThenUse_ListComp]
  show wpAny _ _ (comprehension _ scope env (firstIterPos (g :: gs) cpos) (newList []) (firstAsync (g :: gs)) (firstIter (g :: gs) env) (some _) >>= _) _ _ s
  rw [ha, hi]
  refine wpAny_bind (comp_core (K := fun acc σ' => K .next ((x, .list acc) :: ρ) σ') he hr I ρc hρ ok hk hp h fun acc σ' s' D Cl hK e => ?_)
  have less : ∀ a, PP P σ' a → PP (fun b => P b ∨ b = Cl) σ' a := fun a q => q.elim (fun q => .inl (.inl q)) .inr
  refine wpAny_assign_Name (inv_storeL he hx e.inv e.rd fun s'' hS I' => ?_)
  have hns : ∃ m, s''.heap.Ns Cl m := by
    obtain ⟨m, hm⟩ := e.ns
    refine ⟨m, hm.at fun o ho => hS.kept Cl o e.dom (fun q => absurd (C.tbLow _ q) (Nat.not_lt.mpr e.base)) (fun q => e.own (.inl q)) ho⟩
  obtain ⟨m, hm⟩ := hns
  refine ⟨m, hm, fun h' hb => ?_⟩
  have V := I'.moved hb.extBut (Nat.le_of_eq hb.1.symm) ⟨.inl (.inr rfl), e.base, e.dom, e.own⟩
  have V' := V.less less (fun a ha => .inl (I.hp.ptb a ha)) (fun a ha => .inr ha) (fun a ha => .inl (I.pown a ha).1)
  refine wpAny_pure (wpAny_pure ⟨.next, _, σ', hK, ⟨?_, V'⟩, .next⟩)
  have S := (e.step.weak (own' := own env) fun _ q => q.elim).trans (hS.weak fun a q => .inl q)
  exact ⟨fun b o h1 h2 h3 x => hb.extBut b o (fun q => by subst q; exact Nat.not_lt.mpr e.lo (Heap.lt_size x)) (S.kept b o h1 h2 h3 x), Nat.le_trans S.size (Nat.le_of_eq hb.1.symm), S.new, S.gens, S.os⟩
end Mine
end C12

section C13
open PySem PySem.W PyProof.Rows
set_option Elab.async false
set_option linter.unusedVariables false
namespace Mine

/-! ## calls of the text's defs -/
theorem bindL_other {kd : Str → Option NameKind} {n : Str} : ∀ {bs : List (Str × Value)} {m : Str → Option Value}, n ∉ bs.map (·.1) → bindL kd bs m n = m n
  | [], _, _ => rfl
  | (k, v) :: r, m, h => by
    rw [List.map_cons, List.mem_cons, not_or] at h
    unfold bindL
    rw [bindL_other h.2]
    split
    · exact if_neg h.1
    · rfl
theorem bindC_other {kd : Str → Option NameKind} {n : Str} : ∀ {bs : List (Str × Value)} {m : Str → Option Value}, n ∉ bs.map (·.1) → bindC kd bs m n = m n
  | [], _, _ => rfl
  | (k, v) :: r, m, h => by
    rw [List.map_cons, List.mem_cons, not_or] at h
    unfold bindC
    rw [bindC_other h.2]
    split
    · rfl
    · exact if_neg h.1
theorem bindL_get {kd : Str → Option NameKind} {n : Str} {v : Value} : ∀ {bs : List (Str × Value)} {m : Str → Option Value}, (bs.map (·.1)).Nodup → (n, v) ∈ bs → kd n = some .local → bindL kd bs m n = some v
  | (k, w) :: r, m, hn, h, hk => by
    rw [List.map_cons, List.nodup_cons] at hn
    unfold bindL
    rcases List.mem_cons.mp h with e | h
    · cases e
      rw [bindL_other hn.1, if_pos hk]; exact if_pos rfl
    · exact bindL_get hn.2 h hk
theorem bindC_get {kd : Str → Option NameKind} {n : Str} {v : Value} : ∀ {bs : List (Str × Value)} {m : Str → Option Value}, (bs.map (·.1)).Nodup → (n, v) ∈ bs → kd n = some .cell → bindC kd bs m n = some v
  | (k, w) :: r, m, hn, h, hk => by
    rw [List.map_cons, List.nodup_cons] at hn
    unfold bindC
    rcases List.mem_cons.mp h with e | h
    · cases e
      rw [bindC_other hn.1, if_neg (by rw [hk]; decide)]; exact if_pos rfl
    · exact bindC_get hn.2 h hk
theorem cellsFrom_acc {x : Str} {c : Addr} : ∀ {names : List (Str × NameKind)} {n : Nat} {acc : List (Str × Addr)}, (x, c) ∈ acc → (x, c) ∈ cellsFrom n names acc
  | [], _, _, h => h
  | (y, kd) :: r, n, acc, h => by
    unfold cellsFrom
    split
    · exact cellsFrom_acc (List.mem_cons_of_mem _ h)
    · exact cellsFrom_acc h
theorem cellsFrom_has {x : Str} : ∀ {names : List (Str × NameKind)} {n : Nat} {acc : List (Str × Addr)}, (x, NameKind.cell) ∈ names → ∃ c, (x, c) ∈ cellsFrom n names acc
  | (y, kd) :: r, n, acc, h => by
    unfold cellsFrom
    rcases List.mem_cons.mp h with e | h
    · cases e
      exact ⟨n, by rw [if_pos (show (NameKind.cell == NameKind.cell) = true from rfl)]; exact cellsFrom_acc List.mem_cons_self⟩
    · split <;> exact cellsFrom_has h

theorem nodup_names : ∀ {l : List String}, l.Nodup → (l.map Str.ofString).Nodup
  | [], _ => List.nodup_nil
  | x :: r, h => by
    rw [List.nodup_cons] at h
    rw [List.map_cons, List.nodup_cons]
    exact ⟨fun q => by obtain ⟨y, hy, e⟩ := List.mem_map.mp q; exact h.1 (ofString_inj e ▸ hy), nodup_names h.2⟩
/-- the def at a: its parameters' names, scope, body -/
noncomputable def FnAt (C : Cx) (a : Addr) (names : List String) (scope : Scope) (body : List Stmt) : Prop :=
  ∀ h, C.gi h → ∃ o fd, h.get? a = some o ∧ o.data = .func fd ∧ h.CodeRec fd.code fd.qualname ∧ fd.body = .stmts body ∧ fd.scope = scope ∧ fd.closure = [] ∧ fd.globals = mainGlobals ∧ fd.builtins = builtinsNs ∧
    ∀ vals : List Value, vals.length = names.length → bindArgs fd ⟨vals, []⟩ = pure ((names.map Str.ofString).zip vals)
theorem FnAt.callable {C a names scope body} (F : FnAt C a names scope body) : Callable C (.ref a) := fun h g => by
  obtain ⟨o, fd, ho, hd, _⟩ := F h g
  refine ⟨.frame, .inl rfl, fun M => (Looks.ld (part := none) ho).andThen ?_⟩
  rw [hd]; exact Looks.now
noncomputable def okFn (names : List String) (scope : Scope) : Bool :=
  (scope.names.all fun p => p.2 != .free) && (names.all fun n => scope.names.lookup (Str.ofString n) == some .local || scope.names.lookup (Str.ofString n) == some .cell) && decide names.Nodup && !scope.isCoroutine && !scope.isGenerator && scope.kind == .function

theorem zip_rd {X P h} : ∀ {names : List String} {vs : List Value} {ds : List PV} {x d}, RdL X P h vs ds → (names.zip ds).lookup x = some d → ∃ v, (Str.ofString x, v) ∈ (names.map Str.ofString).zip vs ∧ Rd X P h v d
  | [], _, _, _, _, _, h => by cases h
  | n :: ns, _, _, _, _, .nil, h => by cases h
  | n :: ns, _, _, x, d, .cons (v := v) (vs := vs) (d := d₁) (ds := ds) r rs, h => by
    rw [List.zip_cons_cons] at h
    by_cases e : x = n
    · subst e
      rw [List.lookup_cons_self] at h; cases h
      exact ⟨v, by rw [List.map_cons, List.zip_cons_cons]; exact List.mem_cons_self, r⟩
    · rw [List.lookup_cons, beq_false_of_ne e] at h
      obtain ⟨w, hw, rw'⟩ := zip_rd rs h
      exact ⟨w, by rw [List.map_cons, List.zip_cons_cons]; exact List.mem_cons_of_mem _ hw, rw'⟩

theorem Fn.call {C k a names scope body σ ds K} (F : FnAt C a names scope body) (ok : okFn names scope = true) (hl : ds.length = names.length)
    (h : Ex C k scope (names.zip ds) σ body fun g _ σ' => match g with | .ret d => K d σ' | .next => K .none σ' | _ => False) :
    OpL C (k + 1) σ ds (fun vs => PySem.call (.ref a) vs) K := fun A P s vs hr H r => by
  obtain ⟨o, fd, ho, hd, hcd, hbody, hsc, hclo, hgl, hbl, hbind⟩ := F s.heap H.gi
  simp only [okFn, Bool.and_eq_true] at ok
  obtain ⟨⟨⟨⟨⟨ok1, ok2⟩, ok3⟩, ok4⟩, ok5⟩, ok6⟩ := ok
  have ok3 : names.Nodup := of_decide_eq_true ok3
  have ok6 : scope.kind = .function := eq_of_beq ok6
  subst hsc
  have hlv : vs.length = names.length := r.length.trans hl
  have hnd : (((names.map Str.ofString).zip vs).map (·.1)).Nodup := by
    rw [List.map_fst_zip (by simp [hlv])]
    exact nodup_names ok3
  have hin : ∀ x ∈ (names.map Str.ofString).zip vs, fd.scope.names.lookup x.1 = some .local ∨ fd.scope.names.lookup x.1 = some .cell := fun x hx => by
    have := (List.of_mem_zip hx).1
    obtain ⟨n, hn, e⟩ := List.mem_map.mp this
    have := List.all_eq_true.mp ok2 n hn
    rw [Bool.or_eq_true, beq_iff_eq, beq_iff_eq] at this
    rw [← e]; exact this
  refine wpAny_call (codeAny_call_cells hr.limit ho hd (C.nolimit H.gi) hcd hbody (hbind vs hlv) hclo (fun x hx => ?_) (fun s₁ hin₁ => ?_) (by simpa using ok4) (by simpa using ok5) ok6)
  · rcases hin x hx with q | q
    · exact .inl q
    · refine .inr ⟨q, ?_⟩
      obtain ⟨c, hc⟩ := cellsFrom_has (n := s.heap.objs.size + 1) (acc := []) (Mine.mem_of_lookup q)
      obtain ⟨d, hd⟩ := Mine.lookup_of_mem hc
      rw [hd]; rfl
  · generalize henv : callEnvC fd s.heap.objs.size a = env at hin₁ ⊢
    have hloc : env.locals = s.heap.objs.size := by rw [← henv]; rfl
    have hscp : env.scope = fd.scope := by rw [← henv]; rfl
    have hcells : env.cells = cellsFrom (s.heap.objs.size + 1) fd.scope.names [] := by rw [← henv]; rfl
    have hkd : env.kindOf = fun n => fd.scope.names.lookup n := by funext n; unfold Env.kindOf; rw [hscp]
    obtain ⟨h', tk, hs₁, kp⟩ := hin₁.done
    subst hs₁
    have ns := hin₁.toInCall.ns
    have cellAt : ∀ x c, env.cells.lookup x = some c → s.heap.objs.size < c := fun x c hx => hloc ▸ hin₁.above x c (Mine.mem_of_lookup hx)
    have ownF : ∀ b, own env b → s.heap.objs.size ≤ b := fun b q => by
      rcases q with q | ⟨x, hx⟩
      · rw [q, hloc]; exact Nat.le_refl _
      · exact Nat.le_of_lt (cellAt x b hx)
    have hsz1 : s.heap.objs.size ≤ h'.objs.size := by have := ns.lt; rw [hloc] at this; exact Nat.le_of_lt this
    have E : EnvOk env h' := by
      refine ⟨by rw [hscp]; exact ok6, by rw [← henv]; exact hgl, by rw [← henv]; exact hbl, ⟨_, ns⟩, fun x c hx => ⟨fun q => ?_, _, hin₁.cell x c hx⟩, fun x y c hx hy => ?_, fun x hx => ?_⟩
      · have := cellAt x c hx
        rw [q, hloc] at this
        exact Nat.lt_irrefl _ this
      · exact name_of_addr hin₁.apart (Mine.mem_of_lookup hx) (Mine.mem_of_lookup hy)
      · rw [hkd] at hx
        rcases hx with hx | hx
        · rw [hcells]
          obtain ⟨c, hc⟩ := cellsFrom_has (n := s.heap.objs.size + 1) (acc := []) (Mine.mem_of_lookup hx)
          exact Mine.lookup_of_mem hc
        · have := List.all_eq_true.mp ok1 _ (Mine.mem_of_lookup hx)
          simp at this
    have g : Pass P s.heap (fun b => P b ∨ own env b) h' := fun b x na e => ⟨kp b x e, fun q => q.elim na fun q => absurd (Heap.lt_size e) (Nat.not_lt.mpr (ownF b q))⟩
    have I : Inv C (fun b => P b ∨ own env b) env (names.zip ds) σ h' := by
      refine ⟨⟨C.keep H.gi (fun b x _ e => kp b x e) hsz1, H.st.pass g (fun b _ x e => kp b x e), fun b hb => .inl (H.ptb b hb), fun b hb => ⟨.inl (H.pdom b hb).1, (H.pdom b hb).2⟩, H.nodup, fun b q => q.elim (fun q => Nat.lt_of_lt_of_le (H.plt b q) hsz1) fun q => E.lt b q⟩, E, fun x d hx => ?_, fun b q => ⟨.inr q, Nat.le_trans (C.low H.gi) (ownF b q), fun hd => absurd (H.lt b hd) (Nat.not_lt.mpr (ownF b q))⟩⟩
      obtain ⟨v, hm, rv⟩ := zip_rd r hx
      refine ⟨v, ?_, rv.pass' g⟩
      rcases hin _ hm with q | q
      · have q' : env.kindOf (Str.ofString x) = some .local := by rw [hkd]; exact q
        exact .loc q' ns (bindL_get hnd hm q')
      · have q' : env.kindOf (Str.ofString x) = some .cell := by rw [hkd]; exact q
        obtain ⟨c, hc⟩ := E.has _ (.inl q')
        exact .cell (.inl q') hc (bindC_get hnd hm q' ▸ hin₁.cell _ c hc)
    refine wpAny_mono (h (A.deeper env) _ env _ hscp (hr.deeper env) I) (fun f s' o => ?_) fun _ _ x => x.elim
    obtain ⟨fl, ρ', σ', hK, hA, hf⟩ := o
    have S : Step C σ σ' noOwn s s' := ⟨fun b x h1 h2 _ e => hA.step.kept b x h1 h2 (fun q => absurd (Heap.lt_size e) (Nat.not_lt.mpr (ownF b q))) (kp b x e), Nat.le_trans hsz1 hA.step.size, fun b hb => (hA.step.new b hb).elim .inl fun q => .inr (Nat.le_trans hsz1 q), hA.step.gens, hA.step.os⟩
    have less : ∀ b, PP P σ' b → PP (fun b => P b ∨ own env b) σ' b := fun b q => q.elim (fun q => .inl (.inl q)) .inr
    have Af : After C P σ s σ' s' := ⟨S, hA.inv.hp.weak less (fun b hb => .inl (H.ptb b hb)) (fun b hb => .inr hb)⟩
    cases hf with
    | next => exact ⟨_, _, hK, Af, .none⟩
    | brk => exact hK.elim
    | cont => exact hK.elim
    | ret rv => exact ⟨_, _, hK, Af, rv.pass' (Pass.less less)⟩
end Mine
end C13

section C14
open PySem PySem.W PyProof.Rows
set_option Elab.async false
set_option linter.unusedVariables false
namespace Mine

/-! ## what is let go of -/
theorem dom_sub {σ σ' : Sto} (h : σ'.Sublist σ) : (dom σ').Sublist (dom σ) := by
  induction h with
  | slnil => exact .slnil
  | cons a _ ih => exact .cons _ (ih.trans (List.sublist_append_right _ _))
  | cons_cons a _ ih => exact (((List.Sublist.refl _).append ih)).cons_cons _
theorem PP_sub {P : Addr → Prop} {σ σ' : Sto} (h : σ'.Sublist σ) : ∀ a, PP P σ' a → PP P σ a := fun a q => q.elim .inl fun q => .inr ((dom_sub h).subset q)
theorem After.drop {C P σ s σ' σ'' s'} (H : Hp C P σ s.heap) (h : After C P σ s σ' s') (e : σ''.Sublist σ') : After C P σ s σ'' s' :=
  ⟨⟨h.step.kept, h.step.size, fun a ha => h.step.new a ((dom_sub e).subset ha), h.step.gens, h.step.os⟩,
   ⟨h.hp.gi, fun a ao hm => (h.hp.st a ao (e.subset hm)).pass (Pass.less (PP_sub e)) (fun _ _ _ x => x), fun a ha => .inl (H.ptb a ha), fun a ha => ⟨.inr ha, (h.hp.pdom a ((dom_sub e).subset ha)).2⟩, h.hp.nodup.sublist (dom_sub e), fun a q => h.hp.plt a (PP_sub e a q)⟩⟩
/-- a list that changes no more -/
theorem Out.freeze {C P σ s K v s'} (H : Hp C P σ s.heap) (o : Out C P σ s (fun d σ' => ∃ a xs σ'', d = .raw (.ref a) ∧ (a, AO.mlist xs) ∈ σ' ∧ σ''.Sublist σ' ∧ a ∉ dom σ'' ∧ a ∉ dom σ ∧ K (.list xs) σ'') v s') : Out C P σ s K v s' := by
  obtain ⟨d, σ', ⟨a, xs, σ'', rfl, hm, hs, hn, hn', hK⟩, A, r⟩ := o
  cases r with | raw =>
  have A' := A.drop H hs
  obtain ⟨vs, n, e, rl⟩ := A.hp.st _ _ hm
  refine ⟨_, σ'', hK, A', .list (fun q => q.elim (fun q => ?_) hn) e (rl.pass' (Pass.less (PP_sub hs)))⟩
  rcases A.step.new a (mem_dom hm a (.inl rfl)) with z | z
  · exact hn' z
  · exact Nat.not_lt.mpr z (H.plt a q)
theorem OpL.freeze {C k σ ds f K} (h : OpL C k σ ds f fun d σ' => ∃ a xs σ'', d = .raw (.ref a) ∧ (a, AO.mlist xs) ∈ σ' ∧ σ''.Sublist σ' ∧ a ∉ dom σ'' ∧ a ∉ dom σ ∧ K (.list xs) σ'') : OpL C k σ ds f K := fun A P s vs hr H r =>
  wpAny_mono (h A P s vs hr H r) (fun v s' o => Out.freeze H o) fun _ _ x => x
/-- what is watched no more -/
theorem OpL.drop {C k σ ds f K} (h : OpL C k σ ds f fun d σ' => ∃ σ'', σ''.Sublist σ' ∧ K d σ'') : OpL C k σ ds f K := fun A P s vs hr H r =>
  wpAny_mono (h A P s vs hr H r) (fun v s' o => let ⟨d, σ', ⟨σ'', hs, hK⟩, A', r'⟩ := o; ⟨d, σ'', hK, A'.drop H hs, r'.pass' (Pass.less (PP_sub hs))⟩) fun _ _ x => x

/-! ## ints -/
section
variable {C : Cx} {k : Nat} {σ : Sto} {a b : Int} {K : PV → Sto → Prop}
theorem Op2.add (h : K (.int (a + b)) σ) : Op2 C k σ (.int a) (.int b) (binaryOp .Add) K := fun A P s v w hr H r₁ r₂ => by
  cases r₁; cases r₂; exact PyProof.Rows.add_int (Out.here H (.int _ _) h)
theorem Op2.sub (h : K (.int (a - b)) σ) : Op2 C k σ (.int a) (.int b) (binaryOp .Sub) K := fun A P s v w hr H r₁ r₂ => by
  cases r₁; cases r₂; exact PyProof.Rows.sub_int (Out.here H (.int _ _) h)
theorem Op2.mul (h : K (.int (a * b)) σ) (hm : IntMulOk a b) : Op2 C k σ (.int a) (.int b) (binaryOp .Mult) K := fun A P s v w hr H r₁ r₂ => by
  cases r₁; cases r₂; exact PyProof.Rows.mul_int (Out.here H (.int _ _) h) hm
theorem Op2.mod (hb : 0 < b) (h : K (.int (a % b)) σ) : Op2 C k σ (.int a) (.int b) (binaryOp .Mod) K := fun A P s v w hr H r₁ r₂ => by
  cases r₁; cases r₂
  exact PyProof.Rows.mod_int' (by omega) (by rw [Int.fmod_eq_emod_of_nonneg _ (Int.le_of_lt hb)]; exact Out.here H (.int _ _) h)
theorem Op2.div (hb : 0 < b) (h : K (.int (a / b)) σ) (hp : Builtin.divisionGoesByPylong a b = false) : Op2 C k σ (.int a) (.int b) (binaryOp .FloorDiv) K := fun A P s v w hr H r₁ r₂ => by
  cases r₁; cases r₂
  exact PyProof.Rows.floordiv_int (by omega) (by rw [Int.fdiv_eq_ediv_of_nonneg _ (Int.le_of_lt hb)]; exact Out.here H (.int _ _) h) (.inl hp)
theorem Op2.pow (hb : 0 ≤ b) (hsz : (Builtin.Int.intBits a : Int) * b ≤ 2 ^ 27) (h : K (.int (a ^ b.toNat)) σ) : Op2 C k σ (.int a) (.int b) (binaryOp .Pow) K := fun A P s v w hr H r₁ r₂ => by
  cases r₁; cases r₂; exact PyProof.Rows.pow_int hb hsz (Out.here H (.int _ _) h)
theorem Op1.neg (h : K (.int (-a)) σ) : Op1 C k σ (.int a) (unaryOp .USub) K := fun A P s v hr H r => by
  cases r; exact PyProof.Rows.neg_int (Out.here H (.int _ _) h)
theorem Op2.lt (h : K (.bool (decide (a < b))) σ) : Op2 C k σ (.int a) (.int b) (compareOp .Lt) K := fun A P s v w hr H r₁ r₂ => by
  cases r₁; cases r₂; exact PyProof.Rows.lt_int (Out.here' H (.bool _) h)
theorem Op2.le (h : K (.bool (decide (a ≤ b))) σ) : Op2 C k σ (.int a) (.int b) (compareOp .LtE) K := fun A P s v w hr H r₁ r₂ => by
  cases r₁; cases r₂; exact PyProof.Rows.le_int (Out.here' H (.bool _) h)
theorem Op2.eqi (h : K (.bool (a == b)) σ) : Op2 C k σ (.int a) (.int b) (compareOp .Eq) K := fun A P s v w hr H r₁ r₂ => by
  cases r₁; cases r₂; exact PyProof.Rows.eq_int (Out.here' H (.bool _) h)
end

/-! ## truth of values -/
section
variable {C : Cx} {k : Nat} {σ : Sto} {K : Bool → Sto → Prop}
theorem OutB.toks {P s b n} (H : Hp C P σ s.heap) (hK : K b σ) : OutB C P σ s K b { s with toks := n } := ⟨σ, hK, After.toks H⟩
theorem OpB.bool {b} (h : K b σ) : OpB C k σ (.bool b) truthy K := fun A P s v hr H r => by cases r; exact wpAny_truthy_bool (OutB.here H h)
theorem OpB.int {a : Int} (h : K (a != 0) σ) : OpB C k σ (.int a) truthy K := fun A P s v hr H r => by cases r; exact PyProof.Rows.truthy_int (OutB.here H h)
theorem OpB.none (h : K false σ) : OpB C k σ .none truthy K := fun A P s v hr H r => by cases r; exact PyProof.Rows.truthy_none (OutB.here H h)
theorem OpB.str {x : List Nat} (hx : x.length < 2 ^ 60) (h : K (!x.isEmpty) σ) : OpB C k σ (.str x) truthy K := fun A P s v hr H r => by
  cases r with | str y t =>
  have hf : ¬ ((y.length : Int) ≥ 2 ^ 63) := by
    have : y.cps.size < 2 ^ 60 := by simpa using hx
    show ¬ ((y.cps.size : Int) ≥ _)
    omega
  refine PySem.P.truthy_str hf ?_
  have : ((y.length : Int) != 0) = !y.cps.toList.isEmpty := by
    show ((y.cps.size : Int) != 0) = _
    cases hh : y.cps.toList with
    | nil => have : y.cps.size = 0 := by rw [← Array.length_toList, hh]; rfl
             rw [this]; rfl
    | cons a r => have : y.cps.size = r.length + 1 := by rw [← Array.length_toList, hh]; rfl
                  rw [this]; simp only [bne_iff_ne, ne_eq, List.isEmpty_cons, Bool.not_false]; omega
  rw [this]; exact OutB.toks H h
end
end Mine
end C14

section C15
open PySem PySem.W PyProof.Rows
set_option Elab.async false
set_option linter.unusedVariables false
namespace Mine

/-! ## data that == looks at -/
noncomputable def strL (x : List Nat) : Str := ⟨x.toArray⟩
mutual
noncomputable def toP : PV → PyData
  | .none => .none
  | .bool b => .bool b
  | .int i => .int i
  | .str x => .str (strL x)
  | .list xs => .list (toPL xs)
  | .tuple xs => .tuple (toPL xs)
  | _ => .none
noncomputable def toPL : List PV → List PyData
  | [] => []
  | x :: r => toP x :: toPL r
end
mutual
/-- plain data, d lists deep at most -/
noncomputable def pl : Nat → PV → Bool
  | _, .none | _, .bool _ | _, .int _ => true
  | _, .str x => x.all (· < 0x110000)
  | n + 1, .list xs | n + 1, .tuple xs => plL n xs
  | _, _ => false
noncomputable def plL : Nat → List PV → Bool
  | _, [] => true
  | n, x :: r => pl n x && plL n r
end
theorem strL_toList (x : Str) : strL x.cps.toList = x := by cases x; simp [strL]
mutual
theorem rd_reads {X P h} : ∀ {n : Nat} {v : Value} {d : PV}, Rd X P h v d → pl n d = true → ∃ as, Reads h v (toP d) as
  | _, _, _, .none, _ => by rw [toP]; exact ⟨_, .none⟩
  | _, _, _, .bool b, _ => by rw [toP]; exact ⟨_, .bool b⟩
  | _, _, _, .int i t, _ => by rw [toP]; exact ⟨_, .int i t⟩
  | _, _, _, .str x t, _ => by rw [toP, strL_toList]; exact ⟨_, .str x t⟩
  | n + 1, _, _, .list a e r, hp => by
    rw [pl] at hp
    obtain ⟨as, q⟩ := rdL_reads (n := n) r hp
    rw [toP]; exact ⟨_, .list e rfl rfl q⟩
  | n + 1, _, _, .tuple a e r, hp => by
    rw [pl] at hp
    obtain ⟨as, q⟩ := rdL_reads (n := n) r hp
    rw [toP]; exact ⟨_, .tuple e rfl rfl q⟩
  | 0, _, _, .list a e r, hp => by simp [pl] at hp
  | 0, _, _, .tuple a e r, hp => by simp [pl] at hp
  | _, _, _, .raw _, h => by simp [pl] at h
  | _, _, _, .ext _, h => by simp [pl] at h
  | _, _, _, .slice _ _ _ _ _, h => by simp [pl] at h
  | _, _, _, .range _ _, h => by simp [pl] at h
theorem rdL_reads {X P h} : ∀ {n : Nat} {vs : List Value} {ds : List PV}, RdL X P h vs ds → plL n ds = true → ∃ as, ReadsAll h vs (toPL ds) as
  | _, _, _, .nil, _ => by rw [toPL]; exact ⟨_, .nil⟩
  | n, _, _, .cons a r, hp => by
    rw [plL, Bool.and_eq_true] at hp
    obtain ⟨as, q⟩ := rd_reads a hp.1
    obtain ⟨bs, q'⟩ := rdL_reads r hp.2
    rw [toPL]; exact ⟨_, .cons q q'⟩
end
mutual
theorem pl_can : ∀ {n : Nat} {d : PV}, pl n d = true → (toP d).canLay0 = true ∧ (toP d).depth ≤ n
  | _, .none, _ => by rw [toP]; simp [PyData.canLay0, PyData.depth]
  | _, .bool _, _ => by rw [toP]; simp [PyData.canLay0, PyData.depth]
  | _, .int _, _ => by rw [toP]; simp [PyData.canLay0, PyData.depth]
  | _, .str x, h => by rw [toP]; rw [pl] at h; simp only [PyData.canLay0, PyData.depth, PyData.strOk, strL]; exact ⟨by simpa using h, Nat.zero_le _⟩
  | n + 1, .list xs, h => by
    rw [pl] at h; rw [toP]
    obtain ⟨a, b⟩ := plL_can (n := n) (ds := xs) h
    simp only [PyData.canLay0, PyData.depth]; exact ⟨a, Nat.succ_le_succ b⟩
  | n + 1, .tuple xs, h => by
    rw [pl] at h; rw [toP]
    obtain ⟨a, b⟩ := plL_can (n := n) (ds := xs) h
    simp only [PyData.canLay0, PyData.depth]; exact ⟨a, Nat.succ_le_succ b⟩
  | 0, .list xs, h => by simp [pl] at h
  | 0, .tuple xs, h => by simp [pl] at h
  | _, .raw _, h => by simp [pl] at h
  | _, .ext _ _, h => by simp [pl] at h
  | _, .slice _ _ _, h => by simp [pl] at h
  | _, .range _ _ _, h => by simp [pl] at h
theorem plL_can : ∀ {n : Nat} {ds : List PV}, plL n ds = true → PyData.canLayAll0 (toPL ds) = true ∧ PyData.depthAll (toPL ds) ≤ n
  | _, [], _ => by rw [toPL]; simp [PyData.canLayAll0, PyData.depthAll]
  | n, d :: r, h => by
    rw [plL, Bool.and_eq_true] at h
    obtain ⟨a, b⟩ := pl_can h.1
    obtain ⟨a', b'⟩ := plL_can h.2
    rw [toPL]; simp only [PyData.canLayAll0, PyData.depthAll, a, a']; exact ⟨rfl, Nat.max_le.mpr ⟨b, b'⟩⟩
end
noncomputable def peq (a b : PV) : Bool := PyData.eqv (toP a) (toP b)
theorem Op2.eq {C k σ a b K} (ha : pl 60 a = true) (hb : pl 60 b = true) (h : K (.bool (peq a b)) σ) : Op2 C k σ a b (compareOp .Eq) K := fun A P s v w hr H r₁ r₂ => by
  obtain ⟨_, q₁⟩ := rd_reads r₁ ha
  obtain ⟨_, q₂⟩ := rd_reads r₂ hb
  have c₁ := pl_can ha; have c₂ := pl_can hb
  exact SeqAt.compareEq_shaped q₁ q₂ (by unfold SeqAt.shaped; rw [c₁.1]; simp; lia) (by unfold SeqAt.shaped; rw [c₂.1]; simp; lia) (by have := hr.units; show A.units + 64 < 9900; lia) (Out.here' H (.bool _) h)
theorem Op2.ne {C k σ a b K} (ha : pl 60 a = true) (hb : pl 60 b = true) (h : K (.bool (!peq a b)) σ) : Op2 C k σ a b (compareOp .NotEq) K := fun A P s v w hr H r₁ r₂ => by
  obtain ⟨_, q₁⟩ := rd_reads r₁ ha
  obtain ⟨_, q₂⟩ := rd_reads r₂ hb
  have c₁ := pl_can ha; have c₂ := pl_can hb
  exact SeqAt.compareNe_shaped q₁ q₂ (by unfold SeqAt.shaped; rw [c₁.1]; simp; lia) (by unfold SeqAt.shaped; rw [c₂.1]; simp; lia) (by have := hr.units; show A.units + 64 < 9900; lia) (Out.here' H (.bool _) h)
/-- in, not in a list -/
noncomputable def datOf (h : Heap) (y : Value) : PyData := by
  classical
  exact if q : ∃ e as, e.canLay0 = true ∧ Reads h y e as then q.choose else .none
theorem datOf_eq {h : Heap} {y : Value} {e : PyData} {as} (r : Reads h y e as) (c : e.canLay0 = true) : datOf h y = e := by
  have q : ∃ e as, e.canLay0 = true ∧ Reads h y e as := ⟨e, as, c, r⟩
  unfold datOf
  rw [dif_pos q]
  obtain ⟨as', c', r'⟩ := q.choose_spec
  exact (PySem.Reads.unique r' _ _ r).1
theorem in_core {X : Ext} {k A P} {s : Shared} {d : PV} {w : Value} (hr : Room A k) (rx : Rd X P s.heap w d) (hb : pl 59 d = true) : ∀ {l : List Value} {xs : List PV}, RdL X P s.heap l xs → plL 59 xs = true →
    (∀ y, y ∈ l → SeqAt.EqAt A.in1 s y w (PyData.eqv (datOf s.heap y) (toP d))) ∧ (l.any fun y => PyData.eqv (datOf s.heap y) (toP d)) = xs.any fun y => peq y d
  | _, _, .nil, _ => ⟨fun y hy => (nomatch hy), rfl⟩
  | _, _, .cons (v := v) r rs, hp => by
    rw [plL, Bool.and_eq_true] at hp
    obtain ⟨_, q⟩ := rd_reads rx hb
    obtain ⟨_, q₁⟩ := rd_reads r hp.1
    have cb := pl_can hb
    have ca := pl_can hp.1
    have e := datOf_eq q₁ ca.1
    obtain ⟨h1, h2⟩ := in_core hr rx hb rs hp.2
    refine ⟨fun y hy => ?_, ?_⟩
    · rcases List.mem_cons.mp hy with rfl | hy
      · rw [e]; exact SeqAt.eqAt_reads _ _ _ _ _ _ _ _ q₁ q ca.1 cb.1 (by have := hr.units; show A.units + 1 + _ < 9900; lia)
      · exact h1 y hy
    · rw [List.any_cons, List.any_cons, h2, e]; rfl
theorem Op2.in {C k σ d a xs K} (hl : LRead C σ a xs) (ha : plL 59 xs = true) (hb : pl 59 d = true) (h : K (.bool (xs.any fun y => peq y d)) σ) : Op2 C k σ d a (compareOp .In) K := fun A P s v w hr H r₁ r₂ => by
  obtain ⟨a₁, vs, n, rfl, e, r⟩ := hl P s w H r₂
  obtain ⟨h1, h2⟩ := in_core hr r₁ hb r ha
  refine SeqAt.in_listAt _ (isList_of e) (fun y hy => h1 y (by simpa using hy)) ?_
  rw [← Array.any_toList, h2]; exact Out.here' H (.bool _) h

/-! ## is -/
noncomputable def plainI : PV → Bool
  | .none | .bool _ => true
  | _ => false
/-- `a is b`, b None, True or False -/
noncomputable def pis : PV → PV → Bool
  | .none, .none => true
  | .bool a, .bool b => a == b
  | _, _ => false
theorem is_core {X P h} {v w : Value} {a b : PV} (r₁ : Rd X P h v a) (r₂ : Rd X P h w b) (hb : plainI b = true) (ha : ∀ x, a ≠ .raw x) (ha' : ∀ t x, a ≠ .ext t x) : PySem.plainIs v w = true ∧ (v == w) = pis a b := by
  cases r₂ <;> simp [plainI] at hb <;> cases r₁ <;> first | exact ⟨rfl, rfl⟩ | exact absurd rfl (ha _) | exact absurd rfl (ha' _ _) | skip
  rename_i b₂ b₁
  cases b₁ <;> cases b₂ <;> exact ⟨rfl, rfl⟩
noncomputable def notRaw : PV → Bool
  | .raw _ | .ext _ _ => false
  | _ => true
theorem Op2.is {C k σ a b K} (hb : plainI b = true) (ha : notRaw a = true) (h : K (.bool (pis a b)) σ) : Op2 C k σ a b (compareOp .Is) K := fun A P s v w hr H r₁ r₂ => by
  obtain ⟨h1, h2⟩ := is_core r₁ r₂ hb (by rintro x rfl; cases ha) (by rintro t x rfl; cases ha)
  exact wpAny_is_plain h1 (by rw [h2]; exact Out.here' H (.bool _) h)
theorem Op2.isNot {C k σ a b K} (hb : plainI b = true) (ha : notRaw a = true) (h : K (.bool (!pis a b)) σ) : Op2 C k σ a b (compareOp .IsNot) K := fun A P s v w hr H r₁ r₂ => by
  obtain ⟨h1, h2⟩ := is_core r₁ r₂ hb (by rintro x rfl; cases ha) (by rintro t x rfl; cases ha)
  exact wpAny_isNot_plain h1 (by rw [h2]; exact Out.here' H (.bool _) h)
end Mine
end C15

section C16
open PySem PySem.W PyProof.Rows
set_option Elab.async false
set_option linter.unusedVariables false
namespace Mine

theorem RdL.one {X P h vs d} (r : RdL X P h vs [d]) : ∃ v, vs = [v] ∧ Rd X P h v d := by
  cases r with
  | cons r₁ r₂ => cases r₂; exact ⟨_, rfl, r₁⟩
theorem RdL.two {X P h vs d e} (r : RdL X P h vs [d, e]) : ∃ v w, vs = [v, w] ∧ Rd X P h v d ∧ Rd X P h w e := by
  cases r with
  | cons r₁ r₂ => obtain ⟨w, rfl, r₃⟩ := RdL.one r₂; exact ⟨_, w, rfl, r₁, r₃⟩
theorem Rd.str_inv {X P h v l} (r : Rd X P h v (.str l)) : ∃ y t, v = .str y t ∧ y.cps.toList = l := by
  generalize hd : PV.str l = d at r
  cases r <;> first | (cases hd; done) | skip
  · rename_i y t
    exact ⟨y, t, rfl, by injection hd with e; exact e.symm⟩
theorem str_toList (x y : Str) : (x ++ y).cps.toList = x.cps.toList ++ y.cps.toList := by
  show (x.cps ++ y.cps).toList = _
  simp
theorem str_len (x : Str) : x.length = x.cps.toList.length := by show x.cps.size = _; simp
section
variable {C : Cx} {k : Nat} {σ : Sto} {K : PV → Sto → Prop}
theorem Op2.adds {a b : List Nat} (hsz : a.length + b.length ≤ sizeLine) (h : K (.str (a ++ b)) σ) : Op2 C k σ (.str a) (.str b) (binaryOp .Add) K := fun A P s v w hr H r₁ r₂ => by
  cases r₁ with | str x t => cases r₂ with | str y u =>
  refine PyProof.Rows.add_str (fun t' tk => Out.here H ?_ h) (by rw [str_len, str_len]; exact hsz)
  rw [← str_toList]; exact .str _ _
theorem Op2.addl {a b : PV} {xs ys : List PV} (ha : LRead C σ a xs) (hb : LRead C σ b ys) (hsz : xs.length + ys.length ≤ sizeLine) (h : K (.list (xs ++ ys)) σ) : Op2 C k σ a b (binaryOp .Add) K := fun A P s v w hr H r₁ r₂ => by
  obtain ⟨l, vs, n, rfl, e, r⟩ := ha P s v H r₁
  obtain ⟨l', vs', n', rfl, e', r'⟩ := hb P s w H r₂
  have z := r.length; have z' := r'.length
  refine concat_meets ⟨_, e, rfl⟩ ⟨_, e', rfl⟩ noFill_list_add seq_list_add PySem.F.slot_list_add PySem.F.entry_list_add (PySem.F.args_list_add_2 _ _) (list_addW l l' vs vs' n n' _ _ _ _ (by simp at z z'; lia)) ⟨e, e', ?_⟩
  have o := Out.newList (C := C) (P := P) (K := K) (vs := vs.toList ++ vs'.toList) (tk := s.toks) H (r.append r') h
  have e2 : (vs.toList ++ vs'.toList).toArray = vs ++ vs' := by simp
  rw [e2] at o
  exact o
/-- str * int, int * str is not asked -/
theorem Op2.muls {a : List Nat} {i : Int} (h0 : 0 ≤ i) (h1 : i ≤ 4096) (hx : a.length ≤ 4096) (h : K (.str (List.replicate i.toNat a).flatten) σ) : Op2 C k σ (.str a) (.int i) (binaryOp .Mult) K := fun A P s v w hr H r₁ r₂ => by
  cases r₁ with | str x t => cases r₂ with | int i u =>
  refine SB.mul (mulOk_of 4096 4096 (by rw [str_len]; exact hx) (by lia) (by lia) (by decide) (by decide)) fun t' tk => Out.here H ?_ h
  have : (Txt.mul x i).cps.toList = (List.replicate i.toNat x.cps.toList).flatten := by
    unfold Txt.mul
    have key : ∀ (n : Nat) (acc : Array Nat), ((List.replicate n x.cps).foldl (· ++ ·) acc).toList = acc.toList ++ (List.replicate n x.cps.toList).flatten := by
      intro n
      induction n with
      | zero => intro acc; simp
      | succ n ih => intro acc; rw [List.replicate_succ, List.foldl_cons, ih, List.replicate_succ, List.flatten_cons]; simp
    split
    · have : i.toNat = 0 := by lia
      rw [this]; rfl
    · split
      · rename_i h3 h4
        rw [Bool.or_eq_true] at h4
        rcases h4 with h4 | h4
        · have : i = 1 := eq_of_beq h4
          subst this; simp
        · have : x.cps.toList = [] := by have : x.length = 0 := eq_of_beq h4
                                         rw [str_len] at this; exact List.eq_nil_of_length_eq_zero this
          rw [this]; simp
      · rw [key]; simp
  rw [← this]; exact .str _ _
theorem OpL.len_l {a : PV} {xs : List PV} (ha : LRead C σ a xs) (hsz : xs.length < 2 ^ 60) (h : K (.int xs.length) σ) : OpL C k σ [a] (fun vs => PySem.call (.builtin "len") vs) K := fun A P s vs hr H r => by
  obtain ⟨v, rfl, r₁⟩ := r.one
  obtain ⟨l, vs, n, rfl, e, r⟩ := ha P s v H r₁
  have z : vs.size = xs.length := by rw [← r.length, Array.length_toList]
  exact Calls.call_len_list (isList_of e) (by rw [z]; lia) (by rw [z]; exact Out.here H (.int _ _) h)
theorem OpL.len_s {x : List Nat} (hsz : x.length < 2 ^ 60) (h : K (.int x.length) σ) : OpL C k σ [.str x] (fun vs => PySem.call (.builtin "len") vs) K := fun A P s vs hr H r => by
  obtain ⟨v, rfl, r₁⟩ := r.one
  cases r₁ with | str y t =>
  refine PySem.P.len_str (by have := str_len y; lia) ?_
  rw [str_len y]; exact Out.here H (.int _ _) h
theorem OpL.ord {c : Nat} (h : K (.int c) σ) : OpL C k σ [.str [c]] (fun vs => PySem.call (.builtin "ord") vs) K := fun A P s vs hr H r => by
  obtain ⟨v, rfl, r₁⟩ := r.one
  obtain ⟨y, t, rfl, hy⟩ := r₁.str_inv
  have : y = ⟨#[c]⟩ := by
    obtain ⟨z⟩ := y
    have : z.toList = [c] := hy
    have : z = #[c] := by rw [← Array.toArray_toList (xs := z), this]
    rw [this]
  subst this
  exact PySem.P.ord_of_char (Out.here H (.int _ _) h)
theorem OpL.chr {i : Int} (h0 : 0 ≤ i) (h1 : i ≤ 0x10FFFF) (h : K (.str [i.toNat]) σ) : OpL C k σ [.int i] (fun vs => PySem.call (.builtin "chr") vs) K := fun A P s vs hr H r => by
  obtain ⟨v, rfl, r₁⟩ := r.one
  cases r₁ with | int _ t =>
  exact PySem.P.chr_of_int (by simp; lia) (Out.here H (.str _ _) h)
end
end Mine
end C16

section C17
open PySem PySem.W PyProof.Rows
set_option Elab.async false
set_option linter.unusedVariables false
set_option maxRecDepth 100000
namespace Mine

/-! ## lists that change -/
inductive Upd : Sto → Addr → AO → AO → Sto → Prop
  | here {a o n r} : Upd ((a, o) :: r) a o n ((a, n) :: r)
  | there {p r a o n r'} : Upd r a o n r' → Upd (p :: r) a o n (p :: r')
theorem Upd.mem {σ a o n σ'} (u : Upd σ a o n σ') : (a, o) ∈ σ := by
  induction u with
  | here => exact List.mem_cons_self
  | there _ ih => exact List.mem_cons_of_mem _ ih
theorem Upd.dom {σ a o n σ'} (u : Upd σ a o n σ') (h : o.more = n.more) : dom σ' = dom σ := by
  induction u with
  | here => simp only [Mine.dom, h]
  | there _ ih => simp only [Mine.dom]; rw [ih h]
theorem Upd.cases {σ a o n σ'} (u : Upd σ a o n σ') (hn : (Mine.dom σ).Nodup) : ∀ b ao, (b, ao) ∈ σ' → (b = a ∧ ao = n) ∨ ((b, ao) ∈ σ ∧ a ≠ b ∧ a ∉ ao.more) := by
  induction u with
  | here =>
    intro b ao hm
    rcases List.mem_cons.mp hm with e | hm
    · cases e; exact .inl ⟨rfl, rfl⟩
    · have h1 := (List.nodup_cons.mp hn).1
      have h2 : ∀ c, c = b ∨ c ∈ ao.more → c ∈ Mine.dom _ := mem_dom hm
      exact .inr ⟨List.mem_cons_of_mem _ hm, fun q => h1 (List.mem_append_right _ (h2 _ (.inl q))), fun q => h1 (List.mem_append_right _ (h2 _ (.inr q)))⟩
  | there u ih =>
    rename_i p r a o n r'
    intro b ao hm
    have hn' : (Mine.dom r).Nodup := by
      have := (List.nodup_cons.mp hn).2
      exact (List.nodup_append.mp this).2.1
    rcases List.mem_cons.mp hm with e | hm
    · subst e
      have ha : a ∈ Mine.dom r := mem_dom u.mem a (.inl rfl)
      refine .inr ⟨List.mem_cons_self, fun q => (List.nodup_cons.mp hn).1 (List.mem_append_right _ (q ▸ ha)), fun q => ?_⟩
      exact (List.nodup_append.mp (List.nodup_cons.mp hn).2).2.2 _ q _ ha rfl
    · rcases ih hn' b ao hm with h | h
      · exact .inl h
      · exact .inr ⟨List.mem_cons_of_mem _ h.1, h.2⟩
theorem After.mset {C P σ s σ' a xs ys} {h' : Heap} {n : Tok} {vs : Array Value} {m : Nat} (u : Upd σ a (.mlist xs) (.mlist ys) σ') (H : Hp C P σ s.heap) (hs : Heap.SameBut a s.heap h') (e : h'.get? a = some { cls := .type "list", data := .seq vs m })
    (r : RdL C.X P s.heap vs.toList ys) : After C P σ s σ' { s with heap := h', toks := n } := by
  have hd : dom σ' = dom σ := u.dom rfl
  have ha : a ∈ dom σ := mem_dom u.mem a (.inl rfl)
  have hP := H.pdom a ha
  have g : Pass P s.heap P h' := fun b o na x => ⟨hs.extBut b o (fun q => na (q ▸ hP.1)) x, na⟩
  have hpp : ∀ b, PP P σ' b → P b := fun b q => q.elim (fun q => q) fun q => (H.pdom b (hd ▸ q)).1
  refine ⟨⟨fun b o h1 _ _ x => hs.extBut b o (fun q => h1 (q ▸ ha)) x, Nat.le_of_eq hs.1.symm, fun b hb => .inl (hd ▸ hb), rfl, rfl⟩, ?_⟩
  refine ⟨C.keep H.gi (fun b o hb x => hs.extBut b o (fun q => absurd (q ▸ hb) (Nat.not_lt.mpr hP.2)) x) (Nat.le_of_eq hs.1.symm), fun b ao hm => ?_, fun b hb => .inl (H.ptb b hb), fun b hb => ⟨.inr hb, (H.pdom b (hd ▸ hb)).2⟩, hd ▸ H.nodup, fun b q => by show b < h'.objs.size; rw [hs.1]; exact H.plt b (hpp b q)⟩
  rcases u.cases H.nodup b ao hm with ⟨rfl, rfl⟩ | ⟨hm', hne, hno⟩
  · exact ⟨vs, m, e, r.pass' (g.trans (Pass.less hpp))⟩
  · refine (H.st b ao hm').pass (g.trans (Pass.less hpp)) fun c hc o x => hs.extBut c o (fun q => ?_) x
    subst q
    rcases hc with hc | hc
    · exact hne hc
    · exact hno hc

theorem upd_list {h : Heap} {l : Addr} {items : Array Value} {n : Nat} (f : Array Value → Array Value) (e : h.get? l = some { cls := .type "list", data := .seq items n }) :
    ∃ m, (h.update l (Obj.mapSeq f)).get? l = some { cls := .type "list", data := .seq (f items) m } := by
  obtain ⟨m, hm⟩ := Obj.data_mapSeq (o := { cls := .type "list", data := .seq items n }) rfl f
  have e2 := Heap.get?_update_self (Obj.mapSeq f) e (Obj.isFreed_of_seq hm)
  refine ⟨m, ?_⟩
  rw [e2]
  congr 1
  have hc := Obj.cls_mapSeq ({ cls := .type "list", data := .seq items n } : Obj) f
  unfold Obj.mapSeq at hm hc ⊢
  simp only at hm hc ⊢
  simp_all

section
variable {C : Cx} {k : Nat} {σ σ' : Sto} {K : PV → Sto → Prop} {a : Addr} {xs : List PV}
theorem OpL.append {d : PV} (u : Upd σ a (.mlist xs) (.mlist (xs ++ [d])) σ') (hsz : xs.length ≤ sizeLine) (h : K .none σ') : OpL C k σ [.raw (.ref a), d] (fun vs => PySem.call (.builtin "list.append") vs) K := fun A P s vs hr H r => by
  obtain ⟨v, w, rfl, r₁, r₂⟩ := r.two
  cases r₁ with | raw =>
  obtain ⟨vs, n, e, rl⟩ := H.st _ _ u.mem
  have z : vs.size = xs.length := by rw [← rl.length, Array.length_toList]
  refine wpAny_list_append_plain ⟨n, e⟩ (fun h' pl sb => ?_) (by rw [z]; exact hsz)
  obtain ⟨m, e'⟩ := pl
  exact ⟨_, _, h, After.mset (n := s.toks) u H sb e' (by rw [Array.toList_push]; exact rl.append (.cons r₂ .nil)), .none⟩
theorem OpL.extend {d : PV} {ys : List PV} (hd : LRead C σ d ys) (u : Upd σ a (.mlist xs) (.mlist (xs ++ ys)) σ') (hsz : xs.length + ys.length ≤ 2 ^ 20) (h : K .none σ') : OpL C k σ [.raw (.ref a), d] (fun vs => PySem.call (.builtin "list.extend") vs) K := fun A P s vs hr H r => by
  obtain ⟨v, w, rfl, r₁, r₂⟩ := r.two
  cases r₁ with | raw =>
  obtain ⟨vs, n, e, rl⟩ := H.st _ _ u.mem
  obtain ⟨b, vs', n', rfl, e', rl'⟩ := hd P s w H r₂
  have z : vs.size = xs.length := by rw [← rl.length, Array.length_toList]
  have z' : vs'.size = ys.length := by rw [← rl'.length, Array.length_toList]
  have hdoor : ¬(!vs.isEmpty && Builtin.List.listTooLong (vs.size + vs'.size)) = true := by
    have : Builtin.List.listTooLong (vs.size + vs'.size) = false := by unfold Builtin.List.listTooLong; simp [sizeLine]; lia
    rw [this]; simp
  refine call_meets F.slot_list_extend ⟨_, e, rfl⟩ F.entry_list_extend (F.args_list_extend_2 _ _) (AutoSeq1.list_extend_list_list_0 a vs n b vs' n' hdoor (by simp [sizeLine]; lia) (by simp [sizeLine]; lia)) ⟨e, e', ?_⟩
  obtain ⟨m, e2⟩ := upd_list (fun x => x ++ vs') e
  exact ⟨_, _, h, After.mset (n := s.toks) u H (Heap.SameBut.update ..) e2 (by rw [Array.toList_append]; exact rl.append rl'), .none⟩
end
/-- a store into a list -/
noncomputable def Op3u (C : Cx) (k : Nat) (σ : Sto) (a b c : PV) (f : Value → Value → Value → Sem Unit) (K : Sto → Prop) : Prop :=
  ∀ (A : Around) (P : Addr → Prop) (s : Shared) (v w x : Value), Room A k → Hp C P σ s.heap → Rd C.X P s.heap v a → Rd C.X P s.heap w b → Rd C.X P s.heap x c → wpAny (model C.prog C.w) A (f v w x) (fun _ s' => ∃ σ', K σ' ∧ After C P σ s σ' s') NoE s
theorem setItem_exact {prog w A E} {s : Shared} {l : Addr} {items : Array Value} {n : Nat} {k : Int} {t : Tok} {v : Value} {Q : Unit → Shared → Prop} (e : s.heap.get? l = some { cls := .type "list", data := .seq items n })
    (h0 : 0 ≤ k) (hfit : k < 2 ^ 63) (hn : k < items.size) (hQ : Q () { s with heap := s.heap.update l (Obj.mapSeq (·.setIfInBounds k.toNat v)) }) :
    wpAny (model prog w) A (setItem (.ref l) (.int k t) v) Q E s := by
  have hl := isList_of e
  obtain ⟨o, ho, hd, hQ⟩ : ∃ o, s.heap.get? l = some o ∧ o.data = .seq items n ∧ Q () { s with heap := s.heap.update l (Obj.mapSeq (·.setIfInBounds k.toNat v)) } := ⟨_, e, rfl, hQ⟩
  clear e
  unfold setItem
  try with_reducible refine wpAny_holding ?_
  first | refine wpAny_bind (wpAny_pure ?_) | skip
  refine wpAny_bind (wpAny_sequenceKey hl.typeIs (by decide) ?_)
  refine wpAny_bind (wpAny_callSpecial?_slot (name := Str.ofString "__setitem__") hl.typeIs slot_list_setitem
    (wpAny_call_entry slot_list_setitem hl.typeIs entry_list_setitem ?_ (args_list_setitem _ _ _)))
  show wpAny _ _ (Builtin.List.listSubscript? (.int k t) >>= _) _ _ s
  refine wpAny_bind (wpAny_listSubscript_int (fitsIndex_of h0 hfit) ?_)
  clear hfit
  obtain ⟨j, rfl⟩ := Int.eq_ofNat_of_zero_le h0
  have hj : j < items.size := by lia
  have hx' : items[j]? = some items[j] := Array.getElem?_eq_getElem hj
  show wpAny _ _ ((seqItemAt l j >>= fun r => pure (r.map (j, ·))) >>= _) _ _ s
  refine wpAny_bind (wpAny_bind (wpAny_seqItemAt ho hd (wpAny_pure ?_)))
  rw [hx']
  show wpAny _ _ (setSeqItemAt l j v >>= _) _ _ s
  refine wpAny_bind (wpAny_setSeqItemAt ho hd ?_)
  first
    | exact wpAny_bind (wpAny_pure (wpAny_pure ⟨.none, rfl, wpAny_pure hQ⟩))
    | exact wpAny_pure ⟨.none, rfl, wpAny_pure hQ⟩
theorem RdL.set {X P h} : ∀ {vs : List Value} {ds : List PV} {i : Nat} {v d}, RdL X P h vs ds → Rd X P h v d → RdL X P h (vs.set i v) (ds.set i d)
  | _, _, _, _, _, .nil, _ => .nil
  | _, _, 0, _, _, .cons r rs, r' => .cons r' rs
  | _, _, i + 1, _, _, .cons r rs, r' => .cons r (RdL.set rs r')
theorem Op3u.setList {C k σ σ' a xs i d K} (u : Upd σ a (.mlist xs) (.mlist (xs.set i d)) σ') (hi : i < xs.length) (hsz : xs.length < 2 ^ 60) (h : K σ') : Op3u C k σ (.raw (.ref a)) (.int (i : Nat)) d setItem K := fun A P s v w x hr H r₁ r₂ r₃ => by
  cases r₁ with | raw =>
  cases r₂ with | int _ t =>
  obtain ⟨vs, n, e, rl⟩ := H.st _ _ u.mem
  have z : vs.size = xs.length := by rw [← rl.length, Array.length_toList]
  refine setItem_exact e (Int.natCast_nonneg i) (by lia) (by lia) ?_
  obtain ⟨m, e2⟩ := upd_list (fun y => y.setIfInBounds i x) e
  exact ⟨_, h, After.mset (n := s.toks) u H (Heap.SameBut.update ..) e2 (by rw [Array.toList_setIfInBounds]; exact rl.set r₃)⟩
theorem Ex1.setSub {C k sc ρ σ e o i p pos K} (h : Ev C k sc ρ σ e fun d σ₁ => Ev C k sc ρ σ₁ o fun a σ₂ => Ev C k sc ρ σ₂ i fun b σ₃ => Op3u C k σ₃ a b d setItem fun σ₄ => K .next ρ σ₄)
    (hs : ∀ env, swapsWith e (some (.Subscript o i p)) pos.line env = pure false) : Ex1 C k sc ρ σ (.Assign [.Subscript o i p] e pos) K := fun A P env s he hr I => by
  refine wpAny_Assign_Subscript (ev_one h he hr I fun v d σ₁ s₁ hK A₁ r₁ => ?_) (hs env)
  refine ev_one hK he hr (I.after A₁) fun v₂ d₂ σ₂ s₂ hK₂ A₂ r₂ => ?_
  have A12 := A₁.trans I.hp A₂
  refine ev_one hK₂ he hr (I.after A12) fun v₃ d₃ σ₃ s₃ hK₃ A₃ r₃ => ?_
  have A123 := A12.trans I.hp A₃
  have q₁ := (((r₁.pass' (A₂.pass A₁.hp)).down C.extOk).pass' (A₃.pass A12.hp)).down C.extOk
  have q₂ := (((r₂.down C.extOk)).pass' (A₃.pass A12.hp)).down C.extOk
  refine wpAny_mono (hK₃ A _ s₃ v₂ v₃ v hr A123.hp q₂ (r₃.down C.extOk) q₁) (fun _ s₄ o => ?_) fun _ _ x => x
  obtain ⟨σ₄, hK₄, A₄⟩ := o
  exact ⟨_, _, _, hK₄, .of I (A123.trans I.hp A₄), .next⟩
end Mine
end C17

section C18
open PySem PySem.W PyProof.Rows
set_option Elab.async false
set_option linter.unusedVariables false
set_option maxRecDepth 100000
namespace Mine

theorem After.kept {C P σ} {s : Shared} {h' : Heap} {n : Tok} (H : Hp C P σ s.heap) (k : ∀ b o, s.heap.get? b = some o → h'.get? b = some o) (hz : hsz s ≤ h'.objs.size) : After C P σ s σ { s with heap := h', toks := n } := by
  have g : Pass P s.heap P h' := fun a o na e => ⟨k a o e, na⟩
  exact ⟨⟨fun b o _ _ _ e => k b o e, hz, fun _ q => .inl q, rfl, rfl⟩,
    (Hp.pp (C := C) (P := P) (σ := σ) (h := h') ⟨C.keep H.gi (fun b o _ e => k b o e) hz, H.st.pass g (fun b _ o e => k b o e), H.ptb, H.pdom, H.nodup, fun a ha => Nat.lt_of_lt_of_le (H.plt a ha) hz⟩)⟩

/-! ## slices -/
theorem RdL.pick {X P h} {vs : List Value} {ds : List PV} (r : RdL X P h vs ds) : ∀ idx : List Nat, RdL X P h (idx.filterMap (vs[·]?)) (idx.filterMap (ds[·]?))
  | [] => .nil
  | i :: t => by
    rw [List.filterMap_cons, List.filterMap_cons]
    cases e : vs[i]? with
    | none =>
      have : ds[i]? = none := by
        rw [List.getElem?_eq_none_iff] at e ⊢
        rw [← r.length]; exact e
      rw [this]; exact r.pick t
    | some v =>
      obtain ⟨d, hd, rd⟩ := r.get e
      rw [hd]; exact .cons rd (r.pick t)
noncomputable def slcL {α : Type} (xs : List α) (lo hi st : Option Int) : List α := (sliceRange (sliceBounds lo hi st xs.length).1 (sliceBounds lo hi st xs.length).2.1 (sliceBounds lo hi st xs.length).2.2).filterMap (xs[·]?)
section
variable {C : Cx} {k : Nat} {σ : Sto} {K : PV → Sto → Prop}
theorem Op2.slice {value slice : Expr} {a : PV} {xs : List PV} {lo hi st : Option Int} (hl : LRead C σ a xs) (h0 : st ≠ some 0) (hsz : xs.length ≤ sizeLine) (h : K (.list (slcL xs lo hi st)) σ) : Op2 C k σ a (.slice lo hi st) (subscriptTail value slice) K := fun A P s v w hr H r₁ r₂ => by
  obtain ⟨b, vs, n, rfl, e, r⟩ := hl P s v H r₁
  cases r₂ with | slice na e2 p1 p2 p3 =>
  rename_i c vl vu vst
  have z : vs.size = xs.length := by rw [← r.length, Array.length_toList]
  obtain ⟨ops, ho⟩ := sub_ops slice (.ref b) (.ref c)
  refine tail_any (isList_of e).typeIs slot_list_getitem.lookup (wpAny_getItem_list_slice (isList_of e) ⟨_, e2, rfl, rfl⟩ p1 p2 p3 h0 ?_ (by rw [z]; exact hsz)) ho
  have e3 : (slicePick vs lo hi st).toList = (sliceRange (sliceBounds lo hi st vs.toList.length).1 (sliceBounds lo hi st vs.toList.length).2.1 (sliceBounds lo hi st vs.toList.length).2.2).filterMap (vs.toList[·]?) := by
    unfold slicePick; simp
  have q : RdL C.X P s.heap (slicePick vs lo hi st).toList (slcL xs lo hi st) := by
    rw [e3]; unfold slcL; rw [r.length]; exact r.pick _
  have o := Out.newList (tk := s.toks) H q h
  simpa using o
/-- a str's slice -/
noncomputable def slcS (xs : List Nat) (lo hi st : Option Int) : List Nat := (Builtin.Str.strSliceIndices lo hi (st.getD 1) xs.length).filterMap (xs[·]?)
theorem range_pick (x : List Nat) : (List.range x.length).filterMap (x[·]?) = x := by
  apply List.ext_getElem?
  intro i
  have : (List.range x.length).filterMap (x[·]?) = (List.range x.length).map (fun i => x.getD i 0) := by
    have key : ∀ l : List Nat, (∀ i ∈ l, i < x.length) → l.filterMap (x[·]?) = l.map (fun i => x.getD i 0) := by
      intro l
      induction l with
      | nil => intro _; rfl
      | cons a t ih =>
        intro h
        have ha := h a List.mem_cons_self
        rw [List.filterMap_cons, List.map_cons, List.getElem?_eq_getElem ha]
        simp only [ih fun i hi => h i (List.mem_cons_of_mem _ hi), List.getD_eq_getElem?_getD, List.getElem?_eq_getElem ha, Option.getD_some]
    exact key _ fun i hi => List.mem_range.mp hi
  rw [this, List.getElem?_map]
  by_cases hi : i < x.length
  · rw [List.getElem?_range hi]; simp [List.getElem?_eq_getElem hi]
  · rw [List.getElem?_eq_none (by simpa using hi), List.getElem?_eq_none (by simpa using hi)]; rfl
theorem sr_one {a b : Int} {n : Nat} (a0 : 0 ≤ a) (bn : b ≤ n) (h : (sliceRange a b 1).length = n) : sliceRange a b 1 = List.range n := by
  unfold sliceRange at h ⊢
  simp only [List.length_map, List.length_range, Int.ediv_one, Int.one_mul, gt_iff_lt, show (0 : Int) < 1 from by decide, if_true] at h ⊢
  by_cases hab : a < b
  · rw [if_pos hab] at h ⊢
    have ha : a = 0 := by omega
    have hb : b = n := by omega
    subst ha; rw [h]
    apply List.ext_getElem?
    intro i
    simp
  · rw [if_neg hab] at h ⊢
    have : n = 0 := by simpa using h.symm
    rw [this]; rfl
theorem slcS_whole {x : List Nat} {lo hi st : Option Int} (h1 : st.getD 1 = 1) (h2 : (Builtin.Str.strSliceIndices lo hi (st.getD 1) x.length).length = x.length) : slcS x lo hi st = x := by
  unfold slcS
  have : Builtin.Str.strSliceIndices lo hi (st.getD 1) x.length = List.range x.length := by
    rw [h1] at h2 ⊢
    unfold Builtin.Str.strSliceIndices at h2 ⊢
    refine sr_one ?_ ?_ h2
    · cases lo <;> simp <;> omega
    · cases hi <;> simp <;> omega
  rw [this, range_pick]
theorem Op2.slice_s {value slice : Expr} {x : List Nat} {lo hi st : Option Int} (h0 : st.getD 1 ≠ 0) (hsz : (slcS x lo hi st).length ≤ sizeLine) (h : K (.str (slcS x lo hi st)) σ) : Op2 C k σ (.str x) (.slice lo hi st) (subscriptTail value slice) K := fun A P s v w hr H r₁ r₂ => by
  obtain ⟨y, t, rfl, rfl⟩ := r₁.str_inv
  cases r₂ with | slice na e2 p1 p2 p3 =>
  rename_i c vl vu vst
  have part : ∀ {v : Value} {p : Option Int}, IsPart v p → ∃ q : Option (Int × Tok), v = partValue q ∧ q.map (·.1) = p := fun hp => by
    cases hp with
    | none => exact ⟨none, rfl, rfl⟩
    | int i t => exact ⟨some (i, t), rfl, rfl⟩
  obtain ⟨l, rfl, rfl⟩ := part p1
  obtain ⟨u, rfl, rfl⟩ := part p2
  obtain ⟨q, rfl, rfl⟩ := part p3
  obtain ⟨ops, ho⟩ := sub_ops slice (.str y t) (.ref c)
  refine tail_any rfl F.slot_str_getitem.lookup (wpAny_getItem_str_slice ⟨_, e2, rfl, rfl⟩ (beq_false_of_ne h0) ?_) ho
  have hz : y.length = y.cps.toList.length := str_len y
  unfold sliceMade
  split
  · rename_i hc
    rw [Bool.and_eq_true] at hc
    have : slcS y.cps.toList (l.map (·.1)) (u.map (·.1)) (q.map (·.1)) = y.cps.toList := slcS_whole (eq_of_beq hc.1) (by
      have := eq_of_beq hc.2
      unfold slicePicked at this
      rw [hz] at this; exact this)
    rw [this] at h
    exact Out.here' H (.str _ _) h
  · have : (⟨((slicePicked y l u q).filterMap (y.cps[·]?)).toArray⟩ : Str).cps.toList = slcS y.cps.toList (l.map (·.1)) (u.map (·.1)) (q.map (·.1)) := by
      unfold slcS slicePicked
      rw [hz]; simp
    rw [← this] at h hsz
    exact ⟨by rw [str_len]; exact hsz, Out.here H (.str _ _) h⟩
end
end Mine
end C18

section C19
open PySem PySem.W PyProof.Rows
set_option Elab.async false
set_option linter.unusedVariables false
set_option maxRecDepth 100000
namespace Mine

noncomputable def lowerL (x : List Nat) : List Nat := (Txt.lower (strL x)).cps.toList
noncomputable def upperL (x : List Nat) : List Nat := (Txt.upper (strL x)).cps.toList
theorem strL_eq {y : Str} {x : List Nat} (h : y.cps.toList = x) : y = strL x := by rw [← h, strL_toList]
section
variable {C : Cx} {k : Nat} {σ : Sto} {K : PV → Sto → Prop}
theorem OpL.lower {x : List Nat} (hsz : (lowerL x).length ≤ sizeLine) (h : K (.str (lowerL x)) σ) : OpL C k σ [.str x] (fun vs => PySem.call (.builtin "str.lower") vs) K := fun A P s vs hr H r => by
  obtain ⟨v, rfl, r₁⟩ := r.one
  obtain ⟨y, t, rfl, hy⟩ := r₁.str_inv
  have e := strL_eq hy
  subst e
  exact SC.lower (by unfold Builtin.Str.tooLong; rw [str_len]; exact decide_eq_false (Nat.not_lt.mpr hsz)) (Out.here H (.str _ _) h)
theorem OpL.upper {x : List Nat} (hsz : (upperL x).length ≤ sizeLine) (h : K (.str (upperL x)) σ) : OpL C k σ [.str x] (fun vs => PySem.call (.builtin "str.upper") vs) K := fun A P s vs hr H r => by
  obtain ⟨v, rfl, r₁⟩ := r.one
  obtain ⟨y, t, rfl, hy⟩ := r₁.str_inv
  have e := strL_eq hy
  subst e
  exact SC.upper (by unfold Builtin.Str.tooLong; rw [str_len]; exact decide_eq_false (Nat.not_lt.mpr hsz)) (Out.here H (.str _ _) h)

theorem strs_are {X : Ext} {P h} : ∀ {xs : List (List Nat)} {vs : List Value}, RdL X P h vs (xs.map .str) → ∃ ys, StrsAre vs ys ∧ ys.map (fun y => y.cps.toList) = xs
  | [], _, r => by cases r; exact ⟨[], .nil, rfl⟩
  | x :: xs, _, r => by
    rw [List.map_cons] at r
    cases r with
    | cons r₁ rs =>
      obtain ⟨y, t, rfl, hy⟩ := r₁.str_inv
      obtain ⟨ys, h1, h2⟩ := strs_are rs
      exact ⟨y :: ys, .cons y t h1, by rw [List.map_cons, hy, h2]⟩
theorem join_empty : ∀ ys : List Str, (Txt.join Str.empty ys).cps.toList = (ys.map fun y => y.cps.toList).flatten := by
  intro ys
  unfold Txt.join Builtin.Str.glued
  have key : ∀ (l : List Str) (acc : Array Nat), (l.foldl (fun acc p => acc ++ Str.empty.cps ++ p.cps) acc).toList = acc.toList ++ (l.map fun y => y.cps.toList).flatten := by
    intro l
    induction l with
    | nil => intro acc; simp
    | cons a t ih => intro acc; rw [List.foldl_cons, ih, List.map_cons, List.flatten_cons]; simp [Str.empty]
  cases ys with
  | nil => rfl
  | cons a t => simp only [List.drop_succ_cons, List.drop_zero, List.headD_cons]; rw [key, List.map_cons, List.flatten_cons]
theorem OpL.join0 {a : PV} {xs : List (List Nat)} (ha : LRead C σ a (xs.map .str)) (hsz : (xs.map List.length).sum ≤ 16777216) (h : K (.str xs.flatten) σ) : OpL C k σ [.str [], a] (fun vs => PySem.call (.builtin "str.join") vs) K := fun A P s vs hr H r => by
  obtain ⟨v, w, rfl, r₁, r₂⟩ := r.two
  obtain ⟨y, t, rfl, hy⟩ := r₁.str_inv
  obtain ⟨b, vs, n, rfl, e, rl⟩ := ha P s w H r₂
  obtain ⟨ys, h1, h2⟩ := strs_are rl
  have e1 : y = Str.empty := by have := strL_eq hy; rw [this]; rfl
  subst e1
  have hl : (ys.map fun y : Str => y.length) = xs.map List.length := by
    rw [← h2, List.map_map]; exact List.map_congr_left fun y _ => str_len y
  refine join_list (isList_of e) h1 (by rw [hl]; show _ + _ * 0 ≤ _; omega) fun t' tk => Out.here H ?_ h
  rw [← h2, ← join_empty]; exact .str _ _
theorem Op2.in_s {x y : List Nat} (h : K (.bool (Txt.contains (strL x) (strL y))) σ) : Op2 C k σ (.str y) (.str x) (compareOp .In) K := fun A P s v w hr H r₁ r₂ => by
  obtain ⟨y', t, rfl, hy⟩ := r₁.str_inv
  obtain ⟨x', u, rfl, hx⟩ := r₂.str_inv
  rw [strL_eq hy, strL_eq hx]
  exact SB.contains (Out.here' H (.bool _) h)

/-! ## range, max, min, sum, sorted -/
theorem OpL.range1 {n : Int} (h : K (.range 0 n 1) σ) : OpL C k σ [.int n] (fun vs => PySem.call (.type "range") vs) K := fun A P s vs hr H r => by
  obtain ⟨v, rfl, r₁⟩ := r.one
  cases r₁ with | int _ t =>
  refine call_range_1 ?_
  have A' := After.push (o := { cls := .type "range", data := .fields #[.int 0 s.toks, .int n t, .int 1 (s.toks + 1)] }) (n := s.toks + 1 + 1) H
  exact ⟨_, σ, h, A', .range H.fresh (IsRange.new ..)⟩
theorem OpL.range2 {a b : Int} (h : K (.range a b 1) σ) : OpL C k σ [.int a, .int b] (fun vs => PySem.call (.type "range") vs) K := fun A P s vs hr H r => by
  obtain ⟨v, w, rfl, r₁, r₂⟩ := r.two
  cases r₁ with | int _ t =>
  cases r₂ with | int _ u =>
  refine call_range_2 ?_
  have A' := After.push (o := { cls := .type "range", data := .fields #[.int a t, .int b u, .int 1 s.toks] }) (n := s.toks + 1) H
  exact ⟨_, σ, h, A', .range H.fresh (IsRange.new ..)⟩

theorem ints_items {X : Ext} {P h} : ∀ {ns : List Int} {vs : List Value}, RdL X P h vs (ns.map .int) → ∃ ps : List (Int × Tok), vs = ps.map (fun p => .int p.1 p.2) ∧ ps.map (·.1) = ns
  | [], _, r => by cases r; exact ⟨[], rfl, rfl⟩
  | n :: ns, _, r => by
    rw [List.map_cons] at r
    cases r with
    | cons r₁ rs =>
      cases r₁ with
      | int _ t =>
        obtain ⟨ps, h1, h2⟩ := ints_items rs
        exact ⟨(n, t) :: ps, by rw [h1]; rfl, by rw [List.map_cons, h2]⟩
theorem ints_arr {X : Ext} {P h} {ns : List Int} {vs : Array Value} (r : RdL X P h vs.toList (ns.map .int)) : ∃ xs : Array (Int × Tok), vs = intItems xs ∧ xs.toList.map (·.1) = ns := by
  obtain ⟨ps, h1, h2⟩ := ints_items r
  refine ⟨ps.toArray, ?_, by simpa using h2⟩
  unfold intItems
  rw [← Array.toArray_toList (xs := vs), h1]
  simp
theorem OpL.sum {a : PV} {ns : List Int} (ha : LRead C σ a (ns.map .int)) (h : K (.int ns.sum) σ) : OpL C k σ [a] (fun vs => PySem.call (.builtin "sum") vs) K := fun A P s vs hr H r => by
  obtain ⟨v, rfl, r₁⟩ := r.one
  obtain ⟨b, vs, n, rfl, e, rl⟩ := ha P s v H r₁
  obtain ⟨xs, rfl, hx⟩ := ints_arr rl
  refine with_size (sum_intListG hr.handled (isList_of e) fun h' tk t' kp hz => ?_)
  refine ⟨_, σ, h, After.kept H kp hz, ?_⟩
  have : preSum (numAt xs) xs.size = ns.sum := by rw [preSum_eq, ← hx, List.take_of_length_le (by simp)]
  rw [this]; exact .int _ _
end
end Mine
end C19

section C20
open PySem PySem.W PyProof.Rows
set_option Elab.async false
set_option linter.unusedVariables false
set_option maxRecDepth 100000
namespace Mine

/-! ## the two tables of the top -/
noncomputable def DictAt (C : Cx) (a : Addr) (D : List (PyData × PyData)) : Prop := ∀ h, C.gi h → IntTab C.prog C.w h a D
noncomputable def SetAt (C : Cx) (a : Addr) (S : Int → Bool) (n : Nat) : Prop := ∀ h, C.gi h → h.SetOf (intKind C.prog C.w) a S n
inductive PvOf : PyData → PV → Prop
  | none : PvOf .none .none
  | str (x : Str) : PvOf (.str x) (.str x.cps.toList)
theorem flat_rd {X P h v e d} (f : PyProof.V.Flat v e) (p : PvOf e d) : Rd X P h v d := by
  have r := f h
  cases p with
  | none => cases r; exact .none
  | str x => cases r; exact .str x _
section
variable {C : Cx} {k : Nat} {σ : Sto} {K : PV → Sto → Prop}
theorem OfType.dictAt {a D} (T : DictAt C a D) : OfType C σ (.raw (.ref a)) "dict" := fun P s v H r => by
  cases r
  obtain ⟨_, kvs, ⟨o, es, ep, ho, hd, _⟩, _⟩ := T _ H.gi
  exact ⟨⟨o, ho, hd.1⟩, fun b e => by cases e; exact ⟨o, ho, hd.2.1⟩⟩
theorem OpL.dget {a D} {i : Int} {d : PV} (T : DictAt C a D) (p : PvOf ((PySem.Spec.lookup (.int i) D).getD .none) d) (h : K d σ) : OpL C k σ [.raw (.ref a), .int i] (fun vs => PySem.call (.builtin "dict.get") vs) K := fun A P s vs hr H r => by
  obtain ⟨v, w, rfl, r₁, r₂⟩ := r.two
  cases r₁ with | raw =>
  cases r₂ with | int _ t =>
  exact call_get1_intTab (T _ H.gi) fun v f => Out.here H (flat_rd f p) h
theorem Op2.inSet {a S n} {i : Int} (T : SetAt C a S n) (h : K (.bool (S i)) σ) : Op2 C k σ (.int i) (.raw (.ref a)) (compareOp .In) K := fun A P s v w hr H r₁ r₂ => by
  cases r₁ with | int _ t =>
  cases r₂ with | raw =>
  refine wpAny_inSet_of (knd := intKind C.prog C.w) (k := i) ?_ ?_ (T _ H.gi) (Out.here H (.bool _) h)
  · show Value.isInt i (.int i t) = true
    simp [Value.isInt]
  · rfl
end
end Mine
end C20

section C21
open PySem PySem.W PyProof.Rows
set_option Elab.async false
set_option linter.unusedVariables false
set_option maxRecDepth 100000
namespace Mine

/-! ## the text's one class -/
/-- the class, its names -/
noncomputable def ClsOk (C : Cx) (N : Addr) (mN : Str → Option Value) : Prop := ∀ h, C.gi h → ClsAt h C.cls N mN
/-- a value that an attribute hands out as it is -/
noncomputable def handed : PV → Bool
  | .raw (.builtin _) => false
  | .ext _ _ => false
  | _ => true
theorem handed_ok {X P h v d} (r : Rd X P h v d) (hd : handed d = true) : handedOut v = pure v := by
  cases r with
  | raw v => cases v <;> first | rfl | cases hd
  | ext => cases hd
  | _ => rfl
theorem inst_of {C : Cx} {P h a d fs} (r : AoIs C P h a (.inst d fs)) : ∃ mA, h.Inst a C.cls mA ∧ h.Ns1 d mA ∧ FieldsAre C.X P h mA fs := by
  obtain ⟨⟨o, e, hc, hd, hn⟩, hne, mA, ns, hf⟩ := r
  exact ⟨mA, ⟨o, e, hc, hn, .inr ⟨d, hd, hne, ns⟩⟩, ns, hf⟩
theorem Ev.attr {C k sc ρ σ e name pos K} (h : Ev C k sc ρ σ e fun a σ₁ => Op1 C k σ₁ a (fun v => getAttr v name true) K) (he' : ∀ env, eval (.Attribute e name pos) env = (do
      let o ← eval e env
      standAt pos.atName
      let r ← holding [o] (getAttr o name true)
      letTemporaryGo e o r
      pure r)) : Ev C k sc ρ σ (.Attribute e name pos) K := fun A P env s he hr I =>
  Attribute_any_ (ev_one h he hr I fun v d σ₁ s₁ hK hA r => wp_seq hA I.hp (hK A _ s₁ v hr hA.hp r)) (he' env)
section
variable {C : Cx} {k : Nat} {σ : Sto} {K : PV → Sto → Prop} {N : Addr} {mN : Str → Option Value}
theorem Op1.field {a d : Addr} {fs : List (String × PV)} {x : String} {dv : PV} (X : ClsOk C N mN) (hm : (a, AO.inst d fs) ∈ σ) (hx : fs.lookup x = some dv) (hh : handed dv = true) (h : K dv σ)
    (hng : mN "__getattribute__" = none) (hna : mN (Str.ofString x) = none) (hB : typeLookup (.type "object") (Str.ofString x) = pure none) : Op1 C k σ (.raw (.ref a)) (fun v => getAttr v (Str.ofString x) true) K := fun A P s v hr H r => by
  cases r with | raw =>
  obtain ⟨mA, I, ns, hf⟩ := inst_of (H.st _ _ hm)
  obtain ⟨w, hw, rw'⟩ := hf.1 x dv hx
  have X' := X _ H.gi
  obtain ⟨hh', g, dd, t, os⟩ := s
  obtain ⟨nm, q, bs, sn, sub, col, ddd, k0, k1, k2, k3, k5, hC⟩ := X'.obj
  exact load_attr hC X'.ns hng hna hB I hw (handed_ok rw' hh) (Out.here (tk := t + 1) H rw' h)
end
/-- a field's store -/
noncomputable def setF (fs : List (String × PV)) (x : String) (d : PV) : List (String × PV) := (x, d) :: fs
theorem setF_lookup {fs : List (String × PV)} {x : String} {d : PV} (y : String) : (setF fs x d).lookup y = if y = x then some d else fs.lookup y := by
  unfold setF
  by_cases h : y = x
  · subst h; rw [List.lookup_cons_self, if_pos rfl]
  · rw [List.lookup_cons, beq_false_of_ne h, if_neg h]
theorem Upd.other {σ a o n σ'} (u : Upd σ a o n σ') (hn : (Mine.dom σ).Nodup) : ∀ b ao, (b, ao) ∈ σ' → (b = a ∧ ao = n) ∨ ((b, ao) ∈ σ ∧ ∀ c, (c = a ∨ c ∈ o.more) → c ≠ b ∧ c ∉ ao.more) := by
  induction u with
  | here =>
    intro b ao hm
    rename_i a o n r
    rcases List.mem_cons.mp hm with e | hm
    · cases e; exact .inl ⟨rfl, rfl⟩
    · refine .inr ⟨List.mem_cons_of_mem _ hm, fun c hc => ?_⟩
      have h2 : ∀ c, c = b ∨ c ∈ ao.more → c ∈ Mine.dom r := mem_dom hm
      have h1 : c ∉ Mine.dom r := by
        rcases hc with rfl | hc
        · exact fun q => (List.nodup_cons.mp hn).1 (List.mem_append_right _ q)
        · exact fun q => (List.nodup_append.mp (List.nodup_cons.mp hn).2).2.2 _ hc _ q rfl
      exact ⟨fun q => h1 (h2 _ (.inl q)), fun q => h1 (h2 _ (.inr q))⟩
  | there u ih =>
    rename_i p r a o n r'
    intro b ao hm
    have hn' : (Mine.dom r).Nodup := (List.nodup_append.mp (List.nodup_cons.mp hn).2).2.1
    rcases List.mem_cons.mp hm with e | hm
    · subst e
      refine .inr ⟨List.mem_cons_self, fun c hc => ?_⟩
      have ha : c ∈ Mine.dom r := mem_dom u.mem c hc
      refine ⟨fun q => (List.nodup_cons.mp hn).1 (List.mem_append_right _ (q ▸ ha)), fun q => ?_⟩
      exact (List.nodup_append.mp (List.nodup_cons.mp hn).2).2.2 _ q _ ha rfl
    · rcases ih hn' b ao hm with h | h
      · exact .inl h
      · exact .inr ⟨List.mem_cons_of_mem _ h.1, h.2⟩
/-- a store into a field -/
theorem store_field {C : Cx} {k : Nat} {σ σ' : Sto} {N : Addr} {mN : Str → Option Value} {a d : Addr} {fs : List (String × PV)} {x : String} {dv : PV} {A P} {s : Shared} {w : Value} (X : ClsOk C N mN) (u : Upd σ a (.inst d fs) (.inst d (setF fs x dv)) σ') (H : Hp C P σ s.heap) (r : Rd C.X P s.heap w dv)
    (hcls : C.cls < C.base) (hns : mN "__setattr__" = none) (hna : mN (Str.ofString x) = none) (hB : typeLookup (.type "object") (Str.ofString x) = pure none) (hsz : fs.length ≤ sizeLine) {Q : Unit → Shared → Prop}
    (hQ : ∀ s', After C P σ s σ' s' → Q () s') : wpAny (model C.prog C.w) A (setAttr (.ref a) (Str.ofString x) w) Q NoE s := by
  have hd := u.dom rfl
  have hda : a ∈ dom σ := mem_dom u.mem a (.inl rfl)
  have hdd : d ∈ dom σ := mem_dom u.mem d (.inr List.mem_cons_self)
  have Pa := H.pdom a hda
  have Pd := H.pdom d hdd
  have aoi := H.st _ _ u.mem
  obtain ⟨⟨o, e, hc, hdict, hnc⟩, hne, mA, ns, hf⟩ := id aoi
  have I : s.heap.Inst a C.cls mA := ⟨o, e, hc, hnc, .inr ⟨d, hdict, hne, ns⟩⟩
  have X' := X _ H.gi
  obtain ⟨hh', g, dd, t, os⟩ := s
  obtain ⟨nm, q, bs, sn, sub, col, ddd, k0, k1, k2, k3, k5, hC⟩ := X'.obj
  have hxC : a ≠ C.cls := fun q => Nat.not_lt.mpr Pa.2 (q ▸ hcls)
  have hw : Within mA (fs.map fun p => Str.ofString p.1) := fun y hy => by
    cases hm : mA y with
    | none => exact absurd hm hy
    | some v =>
      obtain ⟨z, dz, rfl, hz⟩ := hf.2 y v hm
      exact List.mem_map.mpr ⟨(z, dz), Mine.mem_of_lookup hz, rfl⟩
  refine with_size (store_attr PySem.F.store_object hC X'.ns hns hna hB hxC I (fun h' tk' I' hk hsame hz => hQ _ ?_) hw (by simpa using hsz))
  have kk : ∀ b o, b ≠ a → b ≠ d → hh'.get? b = some o → h'.get? b = some o := fun b o h1 h2 e' => hk b o h1 (fun o₀ d' e₀ ed => by
    obtain rfl := Option.some.inj (e.symm.trans e₀); obtain rfl := Option.some.inj (hdict.symm.trans ed); exact h2) e'
  obtain ⟨o₁, e₁, c₁, dt₁, _, dk₁⟩ := hsame o e
  have gp : Pass P hh' P h' := fun b o' na e' => ⟨kk b o' (fun q => na (q ▸ Pa.1)) (fun q => na (q ▸ Pd.1)) e', na⟩
  have hpp : ∀ b, PP P σ' b → P b := fun b q => q.elim (fun q => q) fun q => (H.pdom b (hd ▸ q)).1
  refine ⟨⟨fun b o' h1 _ _ e' => kk b o' (fun q => h1 (q ▸ hda)) (fun q => h1 (q ▸ hdd)) e', hz, fun b hb => .inl (hd ▸ hb), rfl, rfl⟩, ?_⟩
  refine ⟨C.keep H.gi (fun b o' hb e' => kk b o' (fun q => Nat.not_lt.mpr Pa.2 (q ▸ hb)) (fun q => Nat.not_lt.mpr Pd.2 (q ▸ hb)) e') hz, fun b ao hm => ?_, fun b hb => .inl (H.ptb b hb), fun b hb => ⟨.inr hb, (H.pdom b (hd ▸ hb)).2⟩, hd ▸ H.nodup, fun b q => Nat.lt_of_lt_of_le (H.plt b (hpp b q)) hz⟩
  rcases u.other H.nodup b ao hm with ⟨rfl, rfl⟩ | ⟨hm', hap⟩
  · obtain ⟨o', e', _, _, hd'⟩ := I'
    obtain rfl := Option.some.inj (e₁.symm.trans e')
    rcases hd' with ⟨hn0, _⟩ | ⟨d', hd', _, hns'⟩
    · rw [dk₁ d hdict] at hn0; cases hn0
    · obtain rfl := Option.some.inj ((dk₁ d hdict).symm.trans hd')
      have gp' : Pass P hh' (PP P σ') h' := gp.trans (Pass.less hpp)
      refine ⟨⟨o₁, e₁, c₁.trans hc, dk₁ _ hdict, fun c => dt₁ ▸ hnc c⟩, hne, _, hns', fun y dy hy => ?_, fun y v hy => ?_⟩
      · rw [setF_lookup] at hy
        by_cases hyx : y = x
        · subst hyx
          rw [if_pos rfl] at hy; cases hy
          exact ⟨w, if_pos rfl, r.pass' gp'⟩
        · rw [if_neg hyx] at hy
          obtain ⟨v, hv, rv⟩ := hf.1 y dy hy
          exact ⟨v, (if_neg fun q => hyx (ofString_inj q)).trans hv, rv.pass' gp'⟩
      · by_cases hyx : y = Str.ofString x
        · exact ⟨x, dv, hyx, by rw [setF_lookup, if_pos rfl]⟩
        · obtain ⟨z, dz, rfl, hz'⟩ := hf.2 y v ((if_neg hyx).symm.trans hy)
          exact ⟨z, dz, rfl, by rw [setF_lookup, if_neg fun q => hyx (by rw [q])]; exact hz'⟩
  · refine (H.st b ao hm').pass (gp.trans (Pass.less hpp)) fun c hc' o' e' => kk c o' (fun q => ?_) (fun q => ?_) e'
    · have := hap a (.inl rfl)
      rcases hc' with z | z
      · exact this.1 (q ▸ z)
      · exact this.2 (q ▸ z)
    · have := hap d (.inr List.mem_cons_self)
      rcases hc' with z | z
      · exact this.1 (q ▸ z)
      · exact this.2 (q ▸ z)
theorem Ex1.setAttr {C k sc ρ σ e o x p pos K N mN} (X : ClsOk C N mN) (h : Ev C k sc ρ σ e fun dv σ₁ => Ev C k sc ρ σ₁ o fun a σ₂ => ∃ b d fs σ₃, a = .raw (.ref b) ∧ Upd σ₂ b (.inst d fs) (.inst d (setF fs x dv)) σ₃ ∧ fs.length ≤ sizeLine ∧ K .next ρ σ₃)
    (hcls : C.cls < C.base) (hns : mN "__setattr__" = none) (hna : mN (Str.ofString x) = none) (hB : typeLookup (.type "object") (Str.ofString x) = pure none)
    (hs : ∀ env, swapsWith e (some (Expr.Attribute o (Str.ofString x) p)) pos.line env = pure false) (hw : ∀ env, swappedStores [Expr.Attribute o (Str.ofString x) p] e env = pure none) : Ex1 C k sc ρ σ (.Assign [Expr.Attribute o (Str.ofString x) p] e pos) K := fun A P env s he hr I => by
  refine wpAny_Assign_stores (ev_one h he hr I fun v d₁ σ₁ s₁ hK A₁ r₁ => ?_) (hs env) (hw env)
  show wpAny _ _ (PySem.assign (Expr.Attribute o (Str.ofString x) p) env v) _ _ _
  rw [arm_assign_Attribute]
  refine wpAny_bind (wpAny_holding (ev_one hK he hr (I.after A₁) fun v₂ d₂ σ₂ s₂ hK₂ A₂ r₂ => ?_))
  obtain ⟨b, d, fs, σ₃, rfl, u, hsz, hK₃⟩ := hK₂
  have A12 := A₁.trans I.hp A₂
  cases r₂ with | raw =>
  refine wpAny_bind (wpAny_standAt (wpAny_bind (wpAny_holding (store_field (k := k) X u A12.hp (((r₁.pass' (A₂.pass A₁.hp)).down C.extOk)) hcls hns hna hB hsz fun s' A₃ => ?_))))
  exact wpAny_release ⟨_, _, _, hK₃, .of I (A12.trans I.hp A₃), .next⟩
end Mine
end C21

section C22
open PySem PySem.W PyProof.Rows
set_option Elab.async false
set_option linter.unusedVariables false
set_option maxRecDepth 100000
namespace Mine

/-! ## an instance is made -/
section
variable {prog : Program} {w : World} {A : Around} {E : Value → Shared → Prop} {h : Heap} {g : Array GenState} {d : Drawn} {t : Nat} {os : OsState}
variable {nm q : Str} {C N : Addr} {bs : List Value} {sn : List Str} {sub : List Value} {col : Option Bool} {dd : Option Addr} {k0 k1 k2 k3 k5 : Option Value} {newId : String}
noncomputable abbrev made (h : Heap) (C : Addr) : Heap := (h.push { cls := .type "dict", data := .dict #[] }).push { cls := .ref C, dict := some h.objs.size, data := .plain }
theorem type_call_made (F : ObjNewFacts newId) {mN : Str → Option Value} {rest : List Value} {fI : Addr} {oI : Obj} {Q : Fin → Shared → Prop}
    (hC : h.get? C = some (excClassObj nm q C N bs [.type "object"] true sn sub false col dd k0 k1 k2 k3 k5 newId)) (hn : h.Ns N mN) (hi : mN "__init__" = some (.ref fI))
    (hfI : h.get? fI = some oI) (hfc : oI.cls = .type "function")
    (hq : wpAny (model prog w) A (call (.ref fI) (.ref (h.objs.size + 1) :: rest)) (fun r s' => r = .none ∧ Q (.done (.ret (.ref (h.objs.size + 1)))) s') E ⟨made h C, g, d, t, os⟩) :
    wpAny (model prog w) A (Builtin.«type.__call__» ⟨.ref C :: rest, []⟩) Q E ⟨h, g, d, t, os⟩ := by
  have hmro : mroOf (.type "object") = pure [.type "object"] := by kernel_rfl
  have hlk : typeLookup (.type "object") "__init__" = pure (some (.builtin "object.__init__")) := by rw [typeLookup_type, builtinLookup_eq_fast]; kernel_rfl
  repeat (first | with_reducible refine wpAny_loadPart_at hC ?_ | with_reducible refine wpAny_madeBy_exc hC ?_ | wp_step)
  refine codeAny_call_builtin_code (Code.quiet_builtin _ F.quiet) (wpAny_check_obj_new F hC ?_)
  refine codeAny_obj_new F hC hn hi ?_
  show wpAny _ _ _ _ _ _
  have hC₁ := Heap.get?_push_of_some { cls := .ref C, dict := some h.objs.size, data := .plain } (Heap.get?_push_of_some { cls := .type "dict", data := .dict #[] } hC)
  have hfI₁ := Heap.get?_push_of_some { cls := .ref C, dict := some h.objs.size, data := .plain } (Heap.get?_push_of_some { cls := .type "dict", data := .dict #[] } hfI)
  have hn₁ : (made h C).Ns N mN := let ⟨o, es, ep, e, r⟩ := hn; ⟨o, es, ep, Heap.get?_push_of_some _ (Heap.get?_push_of_some _ e), r⟩
  have hget : (made h C).get? (h.objs.size + 1) = some { cls := .ref C, dict := some h.objs.size, data := .plain } := by heap_get
  have hcC : (Value.ref C :: [Value.type "object"]).contains (.ref C) = true := by simp
  unfold isInstance
  repeat (first | with_reducible refine wpAny_loadPart_at hget ?_ | (with_reducible refine wpAny_isSubtype_exc hC₁ ?_; rw [hcC]) | wp_step)
  show wpAny _ _ (typeLookup (.ref C) _) _ _ _
  refine wpAny_typeLookup_exc hC₁ hn₁ hmro hlk ?_
  rw [hi]
  refine wpAny_holding (wpAny_bind ?_)
  unfold bindSpecial
  refine wpAny_bind (wpAny_typeOf (T := "function") ⟨_, hfI₁, hfc⟩ ?_)
  rw [if_pos (by decide)]
  refine wpAny_pure (wpAny_bind (wpAny_mono hq (fun r s' hr => ?_) fun _ _ x => x))
  obtain ⟨rfl, hQ⟩ := hr
  wp_walk
  exact hQ
theorem call_made (F : ObjNewFacts newId) {mN : Str → Option Value} {rest : List Value} {fI : Addr} {oI : Obj} {Q : Value → Shared → Prop}
    (hC : h.get? C = some (excClassObj nm q C N bs [.type "object"] true sn sub false col dd k0 k1 k2 k3 k5 newId)) (hn : h.Ns N mN) (hi : mN "__init__" = some (.ref fI))
    (hfI : h.get? fI = some oI) (hfc : oI.cls = .type "function")
    (hq : wpAny (model prog w) (A.under (.builtin "type.__call__" ⟨.ref C :: rest, []⟩)) (call (.ref fI) (.ref (h.objs.size + 1) :: rest)) (fun r s' => r = .none ∧ Q (.ref (h.objs.size + 1)) s') E ⟨made h C, g, d, t, os⟩) :
    wpAny (model prog w) A (call (.ref C) rest) Q E ⟨h, g, d, t, os⟩ := by
  have f1 := tc_lookup
  have f2 := tc_bind (.ref C)
  have hT : (⟨h, g, d, t, os⟩ : Shared).TypeIs (.ref C) "type" := ⟨_, hC, rfl⟩
  refine wpAny_call (codeAny_of_tree ?_)
  show wpAny _ _ (callAny (.ref C) _) _ _ _
  repeat (any_goals (first | assumption | with_reducible refine wpAny_loadPart_at hC ?_ | wp_step))
  refine ⟨rfl, ?_⟩
  exact codeAny_call_builtin_at (Code.quiet_builtin _ (by decide +kernel)) entry_typeCall (wpAny_check_type_call_sub hC (type_call_made F hC hn hi hfI hfc hq))
end
theorem ClsOk.callable {C N mN} (X : ClsOk C N mN) : Callable C (.ref C.cls) := fun h g => ⟨.machine, .inr (.inl rfl), fun M A Q E s kp hq => by
  obtain ⟨hh, g', d, t, os⟩ := s
  obtain ⟨nm, q, bs, sn, sub, col, dd, k0, k1, k2, k3, k5, hC⟩ := ((X h g).keeps kp).obj
  have f1 := tc_lookup
  have hT : (⟨hh, g', d, t, os⟩ : Shared).TypeIs (.ref C.cls) "type" := ⟨_, hC, rfl⟩
  unfold keeperOf specialOf
  repeat (any_goals (first | assumption | with_reducible refine wpAny_loadPart_at hC ?_ | with_reducible refine wpAny_load' hC ?_ | wp_step))
  all_goals first | exact hq | (rw [if_pos (by rfl)]; exact hq)⟩
theorem OpL.make {C : Cx} {k : Nat} {σ : Sto} {K : PV → Sto → Prop} {N : Addr} {mN : Str → Option Value} {fI : Addr} (X : ClsOk C N mN) (hi : mN "__init__" = some (.ref fI)) (hf : ∀ h, C.gi h → ∃ o, h.get? fI = some o ∧ o.cls = .type "function")
    (h : ∀ a d, a ∉ dom σ → d ∉ dom σ → a ≠ d → OpL C k ((a, .inst d []) :: σ) [.raw (.ref a)] (fun vs => PySem.call (.ref fI) vs) fun r σ' => r = .none ∧ K (.raw (.ref a)) σ') :
    OpL C (k + 1) σ [] (fun vs => PySem.call (.ref C.cls) vs) K := fun A P s vs hr H r => by
  cases r
  obtain ⟨hh, g, d, t, os⟩ := s
  have X' := X _ H.gi
  obtain ⟨nm, q, bs, sn, sub, col, dd, k0, k1, k2, k3, k5, hC⟩ := X'.obj
  obtain ⟨oI, hfI, hfc⟩ := hf _ H.gi
  refine call_made PySem.F.objNew hC X'.ns hi hfI hfc ?_
  have hkeep : ∀ b o, hh.get? b = some o → (made hh C.cls).get? b = some o := fun b o e => Heap.get?_push_of_some _ (Heap.get?_push_of_some _ e)
  have hsz2 : (made hh C.cls).objs.size = hh.objs.size + 2 := by rw [Heap.size_push, Heap.size_push]
  have hget : (made hh C.cls).get? (hh.objs.size + 1) = some { cls := .ref C.cls, dict := some hh.objs.size, data := .plain } := by heap_get
  have hgd : (made hh C.cls).get? hh.objs.size = some { cls := .type "dict", data := .dict #[] } := Heap.get?_push_of_some _ (Heap.get?_push_at rfl rfl)
  have hns : (made hh C.cls).Ns1 hh.objs.size fun _ => none := Heap.Ns1.of_empty ⟨_, #[], _, hgd, rfl, fun e he => absurd he (by simp), fun _ => rfl⟩
  have hlo : C.base ≤ hh.objs.size := C.low H.gi
  have hP0 : ∀ i, hh.objs.size ≤ i → ¬ P i ∧ i ∉ dom σ := fun i hi => ⟨fun q => Nat.not_lt.mpr hi (H.plt i q), fun q => Nat.not_lt.mpr hi (H.lt i q)⟩
  let P' : Addr → Prop := fun b => P b ∨ b = hh.objs.size ∨ b = hh.objs.size + 1
  have gp : Pass P hh P' (made hh C.cls) := fun b o na e => ⟨hkeep b o e, fun q => q.elim na fun q => by
    have := Heap.lt_size e
    rcases q with q | q <;> (unfold Addr at *; lia)⟩
  have H' : Hp C P' ((hh.objs.size + 1, .inst hh.objs.size []) :: σ) (made hh C.cls) := by
    refine ⟨C.keep H.gi (fun b o _ e => hkeep b o e) (by rw [hsz2]; exact Nat.le_add_right _ _), fun b ao hm => ?_, fun b hb => .inl (H.ptb b hb), fun b hb => ?_, ?_, fun b q => ?_⟩
    · rcases List.mem_cons.mp hm with e | hm
      · cases e
        exact ⟨⟨_, hget, rfl, rfl, fun c => by simp⟩, Nat.ne_of_lt (Nat.lt_succ_self _), _, hns, And.intro (fun y e' (hy : ([] : List (String × PV)).lookup y = some e') => by cases hy) (fun y v (hy : (none : Option Value) = some v) => by cases hy)⟩
      · exact (H.st b ao hm).pass gp fun c _ o e => hkeep c o e
    · rcases List.mem_cons.mp hb with rfl | hb
      · exact ⟨.inr (.inr rfl), Nat.le_succ_of_le hlo⟩
      · rcases List.mem_cons.mp hb with rfl | hb
        · exact ⟨.inr (.inl rfl), hlo⟩
        · exact ⟨.inl (H.pdom b hb).1, (H.pdom b hb).2⟩
    · show ((hh.objs.size + 1) :: (hh.objs.size :: dom σ)).Nodup
      refine List.nodup_cons.mpr ⟨fun q => ?_, List.nodup_cons.mpr ⟨(hP0 _ (Nat.le_refl _)).2, H.nodup⟩⟩
      rcases List.mem_cons.mp q with q | q
      · exact absurd q (Nat.ne_of_gt (Nat.lt_succ_self _))
      · exact (hP0 _ (Nat.le_succ _)).2 q
    · rw [hsz2]
      rcases q with q | q | q
      · exact Nat.lt_of_lt_of_le (H.plt b q) (Nat.le_add_right _ _)
      · subst q; exact Nat.lt_add_of_pos_right (by decide)
      · subst q; exact Nat.lt_succ_self _
  have hc : (Code.builtin "type.__call__" ⟨[.ref C.cls], []⟩).cUnits ≤ 50 := Nat.le_of_ble_eq_true rfl
  have hr' : Room (A.under (.builtin "type.__call__" ⟨.ref C.cls :: [], []⟩)) k := by
    refine ⟨?_, ?_, hr.handled⟩
    · have := hr.depth
      show A.depth + 1 + k ≤ 900
      lia
    · have := hr.units
      show A.units + (Code.builtin "type.__call__" ⟨[.ref C.cls], []⟩).cUnits + 100 * k ≤ 9000
      lia
  refine wpAny_mono (h _ _ (hP0 _ (Nat.le_succ _)).2 (hP0 _ (Nat.le_refl _)).2 (Nat.ne_of_gt (Nat.lt_succ_self _)) _ P' ⟨made hh C.cls, g, d, t, os⟩ [.ref (hh.objs.size + 1)] hr' H' (.cons (.raw _) .nil)) (fun v s' o => ?_) fun _ _ x => x
  obtain ⟨dv, σ', ⟨rfl, hK⟩, A', rv⟩ := o
  cases rv
  refine ⟨rfl, _, σ', hK, ⟨⟨fun b o h1 h2 h3 e => A'.step.kept b o (fun q => ?_) h2 h3 (hkeep b o e), Nat.le_trans (by show hh.objs.size ≤ (made hh C.cls).objs.size; rw [hsz2]; exact Nat.le_add_right _ _) A'.step.size, fun b hb => ?_, A'.step.gens, A'.step.os⟩, ?_⟩, .raw _⟩
  · have := Heap.lt_size e
    rcases List.mem_cons.mp q with q | q
    · subst q; exact Nat.not_lt.mpr (Nat.le_succ _) this
    · rcases List.mem_cons.mp q with q | q
      · subst q; exact Nat.lt_irrefl _ this
      · exact h1 q
  · rcases A'.step.new b hb with q | q
    · rcases List.mem_cons.mp q with q | q
      · subst q; exact .inr (Nat.le_succ _)
      · rcases List.mem_cons.mp q with q | q
        · subst q; exact .inr (Nat.le_refl _)
        · exact .inl q
    · exact .inr (Nat.le_trans (by show hh.objs.size ≤ (made hh C.cls).objs.size; rw [hsz2]; exact Nat.le_add_right _ _) q)
  · exact A'.hp.weak (fun b q => q.elim (fun q => .inl (.inl q)) .inr) (fun b hb => .inl (H.ptb b hb)) (fun b hb => .inr hb)
end Mine
end C22

section C23
open PySem PySem.W PyProof.Rows
set_option Elab.async false
set_option linter.unusedVariables false
set_option maxRecDepth 100000
namespace Mine

/-- a method of an instance -/
theorem Ev.methodI {C k sc ρ σ o x apos pos es K N mN f} (X : ClsOk C N mN) (hfn : ∀ h, C.gi h → ∃ ob fd, h.get? f = some ob ∧ ob.cls = .type "function" ∧ ob.data = .func fd)
    (h : Ev C k sc ρ σ o fun a σ₁ => ∃ b d fs, a = .raw (.ref b) ∧ (b, AO.inst d fs) ∈ σ₁ ∧ fs.lookup x = Option.none ∧ EvL C k sc ρ σ₁ es fun ds σ₂ => OpL C k σ₂ (a :: ds) (fun vs => PySem.call (.ref f) vs) K)
    (hf : mN (Str.ofString x) = some (.ref f)) (hng : mN "__getattribute__" = Option.none) (hnh : mN "__getattr__" = Option.none) (hB : ∃ y, typeLookup (.type "object") (Str.ofString x) = pure y)
    (hp : es.all plainE = true) (hfew : es.length < 30) (hline : (apos.endLine == pos.line) = true) (hbase : ∀ env, attributeBase o (Str.ofString x) env (eval o env) = eval o env) :
    Ev C k sc ρ σ (.Call (.Attribute o (Str.ofString x) apos) es [] pos) K := fun A P env s he hr I => by
  rw [arm_eval_Call, hbase env]
  refine wpAny_bind (ev_one h he hr I fun v d₁ σ₁ s₁ hK hA r => ?_)
  obtain ⟨b, d, fs, rfl, hm, hlk, hK⟩ := hK
  cases r with | raw =>
  refine wpAny_bind (wpAny_standAt ?_)
  have hform : methodCallForm (es.length + ([] : List Keyword).length) (backTo pos (starEach es env)) (backToKw pos (keywordEach [] env)) = true := by
    unfold methodCallForm
    rw [plain_trees' hp]
    simpa [keywordEach, backToKw] using hfew
  have hpos : methodCallPos true o env apos pos = pure pos := by unfold methodCallPos; simp [hline]
  unfold methodCall
  rw [hform]
  obtain ⟨mA, Ii, ns, hf'⟩ := inst_of (hA.hp.st _ _ hm)
  have hsh : mA (Str.ofString x) = Option.none := by
    cases hq : mA (Str.ofString x) with
    | none => rfl
    | some v =>
      obtain ⟨z, dz, e, hz⟩ := hf'.2 _ _ hq
      rw [← ofString_inj e, hlk] at hz; cases hz
  obtain ⟨ob, fd, hfo, hfc, hfd⟩ := hfn _ hA.hp.gi
  have hcal : Callable C (.ref f) := fun h g => by
    obtain ⟨o, fd, ho, _, hd⟩ := hfn h g
    refine ⟨.frame, .inl rfl, fun M => (Looks.ld (part := Option.none) ho).andThen ?_⟩
    rw [hd]; exact Looks.now
  have X' := X _ hA.hp.gi
  obtain ⟨y, hB⟩ := hB
  have fin := wp_seq hA I.hp (callWith_L (pos := pos) he hr (I.after hA) hcal (.cons (.raw (.ref b)) .nil) hK hp)
  obtain ⟨hh', g, dd, t, os⟩ := s₁
  obtain ⟨nm, q, bs, sn, sub, col, ddd, k0, k1, k2, k3, k5, hC⟩ := X'.obj
  exact wpAny_bind (wpAny_holding (PySem.method_of hC X'.ns hng hnh hf hfo hfc hB Ii hsh (wpAny_bind (wpAny_of_eq hpos fin))))
end Mine
end C23

section C24
open PySem PySem.W PyProof.Rows
set_option Elab.async false
set_option linter.unusedVariables false
set_option maxRecDepth 100000
namespace Mine


theorem RdL.reverse {X : Ext} {P h} : ∀ {vs : List Value} {ds : List PV}, RdL X P h vs ds → RdL X P h vs.reverse ds.reverse
  | _, _, .nil => .nil
  | _, _, .cons r rs => by rw [List.reverse_cons, List.reverse_cons]; exact rs.reverse.append (.cons r .nil)
theorem Inv.sub {C P env ρ ρ' σ h} (I : Inv C P env ρ σ h) (e : ∀ x d, ρ'.lookup x = some d → ρ.lookup x = some d) : Inv C P env ρ' σ h := ⟨I.hp, I.envOk, fun x d hx => I.vars x d (e x d hx), I.pown⟩
theorem zip_rev {α β : Type} : ∀ {a : List α} {b : List β}, a.length = b.length → (a.reverse.zip b.reverse).reverse = a.zip b
  | [], [], _ => rfl
  | x :: a, y :: b, h => by
    have h' : a.length = b.length := by simpa using h
    rw [List.reverse_cons, List.reverse_cons, List.zip_append (by simpa using h'), List.reverse_append, zip_rev h']
    rfl
/-- two or three names at once, from a written tuple: the last one first -/
theorem Ex1.swap {C k sc ρ σ ts x1 p vs x2 p2 pos K} {names : List String} (h : Ev C k sc ρ σ (.Tuple vs x2 p2) fun d σ₁ => ∃ ds, d = .tuple ds ∧ ds.length = names.length ∧ K .next ((names.zip ds) ++ ρ) σ₁)
    (hn : ∀ n ∈ names, sc.names.lookup (Str.ofString n) = some .local) (hs : ∀ env, env.scope = sc → swapsWith (.Tuple vs x2 p2) (some (.Tuple ts x1 p)) pos.line env = pure false)
    (hw : ∀ env, env.scope = sc → swappedStores [.Tuple ts x1 p] (.Tuple vs x2 p2) env = pure (some (names.map Str.ofString))) (hl : names.length = ts.length) : Ex1 C k sc ρ σ (.Assign [.Tuple ts x1 p] (.Tuple vs x2 p2) pos) K := fun A P env s he hr I => by
  rw [arm_exec_Assign]
  refine wpAny_bind (wpAny_standAt (wpAny_bind (wpAny_of_eq (show swapsWithSole [.Tuple ts x1 p] (.Tuple vs x2 p2) pos.line env = pure false from hs env he) ?_)))
  simp only [Bool.false_eq_true, if_false]
  refine wpAny_bind (ev_one h he hr I fun v d σ₁ s₁ hK hA r => ?_)
  obtain ⟨ds, rfl, hdl, hK⟩ := hK
  refine wpAny_bind (wpAny_of_eq (hw env he) ?_)
  have hF := AfterF.of I hA
  unfold assignStores
  refine wpAny_bind (wpAny_rule ?_)
  rw [List.length_map, ← hdl]
  refine wpAny_bind (unpack_it Iterable.tuple Unpackable.tuple hr hA.hp r fun ws h' tk hz hk rl => ?_)
  have I₂ := hF.inv.grown hk hz
  have S₂ : Step C σ σ₁ (own env) s { s₁ with heap := h', toks := tk } := hF.step.trans ⟨fun b o _ _ _ e => hk b o e, hz, fun _ q => .inl q, rfl, rfl⟩
  -- the stores, from behind
  have run : ∀ (ns : List String) (es : List PV) (us : List Value) (ρ₀ : Lo) (s₀ : Shared), (∀ n ∈ ns, sc.names.lookup (Str.ofString n) = some .local) → ns.length = es.length → Step C σ σ₁ (own env) s s₀ → Inv C (PP P σ₁) env ρ₀ σ₁ s₀.heap → RdL C.X (PP P σ₁) s₀.heap us es →
      wpAny (model C.prog C.w) A (assignInOrder (ns.map fun n => bindName env (Str.ofString n)) us) (fun _ s' => ∃ ρ', (∀ y dy, (((ns.zip es).reverse) ++ ρ₀).lookup y = some dy → ρ'.lookup y = some dy) ∧ Step C σ σ₁ (own env) s s' ∧ Inv C (PP P σ₁) env ρ' σ₁ s'.heap) NoE s₀ := by
    intro ns
    induction ns with
    | nil => intro es us ρ₀ s₀ _ hl S V rr; exact wpAny_pure ⟨ρ₀, fun y dy hy => by simpa using hy, S, V⟩
    | cons n ns ih =>
      intro es us ρ₀ s₀ hloc hl S V rr
      cases rr with
      | nil => simp at hl
      | cons r₁ rs =>
      rename_i u us e es
      refine wpAny_assignInOrder_more (wpAny_bindName (inv_storeL he (hloc n List.mem_cons_self) V r₁ fun s' S' V' => ?_))
      have S1 : Step C σ₁ σ₁ (own env) s₀ s' := S'.weak fun a q => .inl q
      have g := pass_step S1 (fun a q => (V.pown a q).1) V.hp
      have gg : Pass (PP P σ₁) s₀.heap (PP P σ₁) s'.heap := g.trans (Pass.less fun a q => .inl q)
      refine wpAny_mono (ih es us _ s' (fun m hm => hloc m (List.mem_cons_of_mem _ hm)) (by simpa using hl) (S.trans S1) V' (rs.pass' gg)) (fun _ s'' o => ?_) fun _ _ x => x
      obtain ⟨ρ', h1, h2, h3⟩ := o
      refine ⟨ρ', fun y dy hy => h1 y dy ?_, h2, h3⟩
      simpa [List.zip_cons_cons, List.reverse_cons, List.append_assoc] using hy
  have go := run names.reverse ds.reverse ws.reverse ρ _ (fun n hm => hn n (List.mem_reverse.mp hm)) (by simpa using hdl.symm) S₂ I₂ rl.reverse
  have eq1 : ((names.map Str.ofString).reverse.map fun n => bindName env n) = names.reverse.map fun n => bindName env (Str.ofString n) := by
    rw [← List.map_reverse, List.map_map]; rfl
  rw [eq1]
  refine wpAny_bind (wpAny_mono go (fun _ s' o => ?_) fun _ _ x => x)
  obtain ⟨ρ', h1, h2, h3⟩ := o
  rw [zip_rev hdl.symm] at h1
  exact wpAny_pure ⟨.next, _, σ₁, hK, ⟨h2, h3.sub h1⟩, .next⟩
end Mine
end C24

section C25
open PySem PySem.W PyProof.Rows
set_option Elab.async false
set_option linter.unusedVariables false
set_option maxRecDepth 100000
namespace Mine

noncomputable abbrev LSub (ρ ρ' : Lo) : Prop := ∀ y d, ρ'.lookup y = some d → ρ.lookup y = some d
theorem Ev.lsub {C k sc ρ ρ' σ e K} (h : LSub ρ ρ') (q : Ev C k sc ρ' σ e K) : Ev C k sc ρ σ e K := fun A P env s h1 h2 h3 => q A P env s h1 h2 (h3.sub h)
theorem Tr.sub {C k sc ρ ρ' σ e K} (h : LSub ρ ρ') (q : Tr C k sc ρ' σ e K) : Tr C k sc ρ σ e K := fun A P env s h1 h2 h3 => q A P env s h1 h2 (h3.sub h)
theorem TrAll.sub {C k sc ρ ρ' op} (h : LSub ρ ρ') : ∀ {es σ K}, TrAll C k sc ρ' op σ es K → TrAll C k sc ρ op σ es K
  | [], _, _, q => q
  | e :: r, _, _, q => Tr.sub h (Tr.mono q fun b σ₁ z => by
      by_cases hb : b = (op == .And)
      · rw [if_pos hb] at z ⊢; exact TrAll.sub h z
      · rw [if_neg hb] at z ⊢; exact z)
theorem LSub.cons {ρ ρc : Lo} {t : String} {x : PV} (h : LSub ρ ρc) (ht : ρc.lookup t = none) : LSub ((t, x) :: ρ) ((t, x) :: ρc) := fun y d hy => by
  by_cases e : y = t
  · subst e; rw [List.lookup_cons_self] at hy ⊢; exact hy
  · rw [List.lookup_cons, beq_false_of_ne e] at hy ⊢; exact h y d hy
theorem LSub.skip {ρ ρc : Lo} {t : String} {x : PV} (h : LSub ρ ρc) (ht : ρc.lookup t = none) : LSub ((t, x) :: ρ) ρc := fun y d hy => by
  by_cases e : y = t
  · subst e; rw [ht] at hy; cases hy
  · rw [List.lookup_cons, beq_false_of_ne e]; exact h y d hy
/-- one clause, a name, nothing stored: filter and map -/
theorem Comp.pure1 {C k sc ρc elt t p iter ifs scope xs σ} {K : List PV → Sto → Prop} (keep : PV → Bool) (f : PV → PV) (hx : (rel scope sc).names.lookup (Str.ofString t) = some .local) (ht0 : ρc.lookup t = none)
    (ht : ∀ x ∈ xs, ∀ K' : Bool → Sto → Prop, K' (keep x) σ → TrAll C k (rel scope sc) ((t, x) :: ρc) .And σ ifs K')
    (he : ∀ x ∈ xs, keep x = true → ∀ K' : PV → Sto → Prop, K' (f x) σ → Ev C k (rel scope sc) ((t, x) :: ρc) σ elt K')
    (hl : xs.length ≤ sizeLine) (h : K ((xs.filter keep).map f) σ) : Comp C k sc ρc elt ⟨.Name (Str.ofString t) p, iter, ifs, 0⟩ [] scope xs σ K := by
  refine ⟨fun rest acc ρ σ' => σ' = σ ∧ LSub ρ ρc ∧ ∃ done, done ++ rest = xs ∧ acc = (done.filter keep).map f, ⟨rfl, fun _ _ h => h, [], rfl, rfl⟩, ?_, ?_⟩
  · rintro x r acc ρ σ' ⟨rfl, hs, done, hd, rfl⟩
    have hm : x ∈ xs := hd ▸ List.mem_append_right _ List.mem_cons_self
    refine Bind.nameL hx (TrAll.sub (hs.cons ht0) (ht x hm _ ?_))
    cases hk : keep x with
    | false =>
      refine ⟨rfl, hs.skip ht0, done ++ [x], by simpa using hd, ?_⟩
      simp [List.filter_append, hk]
    | true =>
      refine Ev.lsub (hs.cons ht0) (he x hm hk _ ?_)
      refine ⟨?_, rfl, hs.skip ht0, done ++ [x], by simpa using hd, ?_⟩
      · have h1 : ((done.filter keep).map f).length ≤ done.length := by rw [List.length_map]; exact List.length_filter_le ..
        have h2 : done.length ≤ xs.length := by rw [← hd]; simp
        lia
      · simp [List.filter_append, hk]
  · rintro acc ρ σ' ⟨rfl, hs, done, hd, rfl⟩
    rw [List.append_nil] at hd
    rw [hd]; exact h

theorem lookup_app {ρ₁ ρ₂ : Lo} {y : String} : (ρ₁ ++ ρ₂).lookup y = (ρ₁.lookup y).or (ρ₂.lookup y) := by
  induction ρ₁ with
  | nil => rfl
  | cons p r ih =>
    obtain ⟨a, b⟩ := p
    by_cases e : y = a
    · subst e; rw [List.cons_append, List.lookup_cons_self, List.lookup_cons_self]; rfl
    · rw [List.cons_append, List.lookup_cons, List.lookup_cons, beq_false_of_ne e]; exact ih
theorem LSub.app {ρ ρc b : Lo} (h : LSub ρ ρc) : LSub (b ++ ρ) (b ++ ρc) := fun y d hy => by
  rw [lookup_app] at hy ⊢
  cases hb : b.lookup y with
  | some e => rw [hb] at hy; exact hy
  | none => rw [hb] at hy; exact h y d hy
theorem LSub.skipApp {ρ ρc b : Lo} (h : LSub ρ ρc) (hd : ∀ y d, ρc.lookup y = some d → b.lookup y = none) : LSub (b ++ ρ) ρc := fun y d hy => by
  rw [lookup_app, hd y d hy]; exact h y d hy
/-- one clause, any target, nothing stored -/
theorem Comp.pure {C k sc ρc elt target iter ifs scope xs σ} {K : List PV → Sto → Prop} (bs : PV → Lo) (keep : PV → Bool) (f : PV → PV)
    (hb : ∀ x ∈ xs, ∀ ρ (K' : Lo → Sto → Prop), K' (bs x ++ ρ) σ → Bind C k (rel scope sc) ρ σ target x ownL K') (hd0 : ∀ x ∈ xs, ∀ y d, ρc.lookup y = some d → (bs x).lookup y = none)
    (ht : ∀ x ∈ xs, ∀ K' : Bool → Sto → Prop, K' (keep x) σ → TrAll C k (rel scope sc) (bs x ++ ρc) .And σ ifs K')
    (he : ∀ x ∈ xs, keep x = true → ∀ K' : PV → Sto → Prop, K' (f x) σ → Ev C k (rel scope sc) (bs x ++ ρc) σ elt K')
    (hl : xs.length ≤ sizeLine) (h : K ((xs.filter keep).map f) σ) : Comp C k sc ρc elt ⟨target, iter, ifs, 0⟩ [] scope xs σ K := by
  refine ⟨fun rest acc ρ σ' => σ' = σ ∧ LSub ρ ρc ∧ ∃ done, done ++ rest = xs ∧ acc = (done.filter keep).map f, ⟨rfl, fun _ _ h => h, [], rfl, rfl⟩, ?_, ?_⟩
  · rintro x r acc ρ σ' ⟨rfl, hs, done, hd, rfl⟩
    have hm : x ∈ xs := hd ▸ List.mem_append_right _ List.mem_cons_self
    refine hb x hm _ _ (TrAll.sub hs.app (ht x hm _ ?_))
    cases hk : keep x with
    | false =>
      refine ⟨rfl, hs.skipApp (hd0 x hm), done ++ [x], by simpa using hd, ?_⟩
      simp [List.filter_append, hk]
    | true =>
      refine Ev.lsub hs.app (he x hm hk _ ?_)
      refine ⟨?_, rfl, hs.skipApp (hd0 x hm), done ++ [x], by simpa using hd, ?_⟩
      · have h1 : ((done.filter keep).map f).length ≤ done.length := by rw [List.length_map]; exact List.length_filter_le ..
        have h2 : done.length ≤ xs.length := by rw [← hd]; simp
        lia
      · simp [List.filter_append, hk]
  · rintro acc ρ σ' ⟨rfl, hs, done, hd, rfl⟩
    rw [List.append_nil] at hd
    rw [hd]; exact h
/-- two names out of a pair -/
theorem Bind.pair {C k sc ρ σ t₁ t₂ p₁ p₂ x1 pos a b K} (h1 : sc.names.lookup (Str.ofString t₁) = some .local) (h2 : sc.names.lookup (Str.ofString t₂) = some .local) (h : K ((t₂, b) :: (t₁, a) :: ρ) σ) :
    Bind C k sc ρ σ (.Tuple [.Name (Str.ofString t₁) p₁, .Name (Str.ofString t₂) p₂] x1 pos) (.tuple [a, b]) ownL K :=
  Bind.tuple Iterable.tuple Unpackable.tuple (Bind.nameL h1 (Bind.nameL h2 h)) rfl rfl fun env a q => .inl q
theorem Bind.pairF {C k sc ρ σ t₁ t₂ p₁ p₂ x1 pos a b K} (h1 : Storable sc t₁) (h2 : Storable sc t₂) (h : K ((t₂, b) :: (t₁, a) :: ρ) σ) :
    Bind C k sc ρ σ (.Tuple [.Name (Str.ofString t₁) p₁, .Name (Str.ofString t₂) p₂] x1 pos) (.tuple [a, b]) own K :=
  Bind.tuple Iterable.tuple Unpackable.tuple (Bind.name h1 (Bind.name h2 h)) rfl rfl fun env a q => q
end Mine
end C25

section C26
open PySem PySem.W PyProof.Rows
set_option Elab.async false
set_option linter.unusedVariables false
set_option maxRecDepth 100000
namespace Mine
theorem pick_range {α : Type} (xs : List α) (a : Nat) : ∀ n, a + n ≤ xs.length → ((List.range n).map fun k => a + k).filterMap (xs[·]?) = (xs.drop a).take n
  | 0, _ => by simp
  | n + 1, h => by
    rw [List.range_succ, List.map_append, List.filterMap_append, pick_range xs a n (by lia), List.take_add_one]
    have : xs[a + n]? = some xs[a + n] := List.getElem?_eq_getElem (by lia)
    simp [this]
theorem sr_up (a n : Nat) : sliceRange (a : Int) ((a + n : Nat) : Int) 1 = (List.range n).map fun k => a + k := by
  unfold sliceRange
  simp only [gt_iff_lt, show (0 : Int) < 1 from by decide, if_true, Int.ediv_one, Int.one_mul]
  by_cases h : n = 0
  · subst h; simp
  · rw [if_pos (by lia)]
    have : ((((a + n : Nat) : Int) - (a : Int) + 1 - 1)).toNat = n := by lia
    rw [this]
    exact List.map_congr_left fun k _ => by lia
/-- xs[:n] -/
theorem slcL_to {α : Type} (xs : List α) (n : Nat) : slcL xs none (some (n : Int)) none = xs.take n := by
  unfold slcL sliceBounds
  simp only [Option.getD_none, gt_iff_lt, show (0 : Int) < 1 from by decide, if_true]
  have h1 : ¬ ((n : Int) < 0) := by lia
  simp only [h1, if_false]
  have h2 : max (0 : Int) (min (n : Int) (xs.length : Int)) = ((0 + min n xs.length : Nat) : Int) := by lia
  rw [h2]
  have := sr_up 0 (min n xs.length)
  rw [Int.natCast_zero] at this
  rw [this, pick_range xs 0 _ (by lia), List.drop_zero]
  by_cases h : n ≤ xs.length
  · rw [Nat.min_eq_left h]
  · rw [Nat.min_eq_right (by lia), List.take_of_length_le (Nat.le_refl _), List.take_of_length_le (by lia)]
/-- xs[n:] -/
theorem slcL_from {α : Type} (xs : List α) (n : Nat) : slcL xs (some (n : Int)) none none = xs.drop n := by
  unfold slcL sliceBounds
  simp only [Option.getD_none, gt_iff_lt, show (0 : Int) < 1 from by decide, if_true]
  have h1 : ¬ ((n : Int) < 0) := by lia
  simp only [h1, if_false]
  have h2 : max (0 : Int) (min (n : Int) (xs.length : Int)) = ((min n xs.length : Nat) : Int) := by lia
  have h3 : ((xs.length : Nat) : Int) = ((min n xs.length + (xs.length - min n xs.length) : Nat) : Int) := by lia
  rw [h2, h3, sr_up, pick_range xs _ _ (by lia)]
  by_cases h : n ≤ xs.length
  · rw [Nat.min_eq_left h, List.take_of_length_le (by simp)]
  · rw [Nat.min_eq_right (by lia), List.drop_of_length_le (Nat.le_refl _), List.drop_of_length_le (by lia)]; simp
theorem slcS_eq (xs : List Nat) (lo hi : Option Int) : slcS xs lo hi none = slcL xs lo hi none := by
  unfold slcS slcL Builtin.Str.strSliceIndices sliceBounds
  rfl
theorem small_up {a b : Int} (h1 : -(10 ^ 9) ≤ a) (h2 : a ≤ 10 ^ 9) (h3 : -(10 ^ 9) ≤ b) (h4 : b ≤ 10 ^ 9) : Builtin.Range.small a b 1 = true := by
  unfold Builtin.Range.small Builtin.Range.rangeFitsLong
  rw [PySem.rangeSize_one]
  split <;> simp <;> lia
end Mine
end C26

section C27
open PySem PySem.W PyProof.Rows
set_option Elab.async false
set_option linter.unusedVariables false
set_option maxRecDepth 100000
namespace Mine
/-- a written list of ints -/
noncomputable def constInts : List Expr → Option (List Int)
  | [] => some []
  | .Constant (.int i) _ _ :: r => (constInts r).map (i :: ·)
  | _ => none
theorem evL_ints {C k sc ρ σ} : ∀ {es : List Expr} {ns : List Int} {K : List PV → Sto → Prop}, constInts es = some ns → K (ns.map .int) σ → EvL C k sc ρ σ es K ∧ es.all plainE = true
  | [], ns, K, h, hK => by
    rw [constInts] at h; cases h; exact ⟨hK, rfl⟩
  | e :: r, ns, K, h, hK => by
    unfold constInts at h
    split at h
    · rename_i heq; cases heq
    · rename_i i a b r' heq
      cases heq
      cases hr : constInts r with
      | none => rw [hr] at h; cases h
      | some ms =>
        rw [hr] at h; cases h
        obtain ⟨h1, h2⟩ := evL_ints (C := C) (k := k) (sc := sc) (ρ := ρ) (σ := σ) (K := fun ds σ' => K (.int i :: ds) σ') hr hK
        exact ⟨Ev.int h1, by rw [List.all_cons, h2]; rfl⟩
    · cases h
theorem Ev.ints {C k sc ρ σ es pos K} (ns : List Int) (h : constInts es = some ns) (hl : ns.length ≤ 1000) (hK : K (.list (ns.map .int)) σ) : Ev C k sc ρ σ (.List es pos) K :=
  let ⟨a, b⟩ := evL_ints (K := fun ds σ' => ds.length ≤ sizeLine ∧ K (.list ds) σ') h ⟨by rw [List.length_map]; simp [sizeLine]; lia, hK⟩
  Ev.list a b
end Mine
end C27

section C28
open PySem PySem.W PyProof.Rows
set_option Elab.async false
set_option linter.unusedVariables false
set_option maxRecDepth 100000
namespace Mine
/-! ## a set of the texts of a list -/
theorem setOf_as {prog : Program} {w : World} {h : Heap} {a : Addr} {S S' : Str → Bool} {n n' : Nat} (q : h.SetOf (strKind prog w) a S n) (e : ∀ k, S k = S' k) (en : n = n') : h.SetOf (strKind prog w) a S' n' := by
  have : S = S' := funext e
  subst this; subst en; exact q
section
variable {prog : Program} {w : World} {A : Around} {R : Result → Shared → Prop} {I : Addr} {fp wr : List Addr} {G : Array GenState → Array GenState → Prop} {P : Nat → Value → Prop} {St : Nat → Shared → Prop}
theorem strs_loop {ys : List Str} (W : WalksS prog w A.in1 I fp wr G ys.length P St) (D : Addr) (hD : D ∉ fp) (hv : ∀ i v, P i v → ∃ y t, ys[i]? = some y ∧ v = .str y t) (hb : ys.length + 1 < scanBound) :
    ∀ (todo i m : Nat) (s : Shared), i + todo = ys.length → m ≤ i → St i s → s.heap.SetOf (strKind prog w) D (fun y => decide (y ∈ ys.take i)) m →
      (∀ s', Moved (D :: wr) G s s' → (∃ m, s'.heap.SetOf (strKind prog w) D (fun y => decide (y ∈ ys)) m) → R (.ok (.ret .none)) s') →
      codeAny (model prog w) A (.builtin "set.update.loop" ⟨[.ref D, .ref I], []⟩) R s := by
  have hDw : D ∉ wr := fun q => hD (W.sub _ q)
  have up : ∀ b ∈ wr, b ∈ D :: wr := fun b q => List.mem_cons_of_mem _ q
  intro todo
  induction todo with
  | zero =>
    intro i m s hi hm st hS hR
    obtain rfl : i = ys.length := by lia
    refine codeAny_builtin PyProof.Rows.F.entry_set_update_loop ?_
    rw [Around.under_plainId PyProof.Rows.F.plain_set_update_loop _]
    show wpAny _ A.in1 (pyNext (.ref I) >>= _) _ _ s
    refine wpAny_bind (W.done s _ _ st fun s' mv => ?_)
    show wpAny _ A.in1 (ret Value.none) _ _ s'
    refine wpAny_pure (hR s' (mv.mono up) ⟨m, ?_⟩)
    obtain ⟨o, es, ep, t, ho, rest⟩ := hS
    rw [List.take_length] at rest
    exact ⟨o, es, ep, t, mv.heap D _ hDw ho, rest⟩
  | succ todo ih =>
    intro i m s hi hm st hS hR
    refine codeAny_builtin PyProof.Rows.F.entry_set_update_loop ?_
    rw [Around.under_plainId PyProof.Rows.F.plain_set_update_loop _]
    show wpAny _ A.in1 (pyNext (.ref I) >>= _) _ _ s
    refine wpAny_bind (W.item i s _ _ (by lia) st fun v s' hP st' mv => ?_)
    obtain ⟨y, t, hy, rfl⟩ := hv i v hP
    have hS' : s'.heap.SetOf (strKind prog w) D (fun y => decide (y ∈ ys.take i)) m := by
      obtain ⟨o, es, ep, tb, ho, rest⟩ := hS
      exact ⟨o, es, ep, tb, mv.heap D _ hDw ho, rest⟩
    show wpAny _ A.in1 (holding [Value.str y t] (setAdd D (.str y t)) >>= _) _ _ s'
    refine wpAny_bind (wpAny_holding ?_)
    unfold setAdd
    refine wpAny_holding ?_
    refine wpAny_bind ((strKind prog w).pyHash (k := y) (strKind_is _ _ _ _) ?_)
    refine wpAny_setAddHashed_of (knd := strKind prog w) (s := { s' with toks := s'.toks + 1 }) (strKind_is _ _ _ _) rfl hS' (by lia) fun h' sb hS2 => ?_
    have hS3 : ∃ m' ≤ i + 1, h'.SetOf (strKind prog w) D (fun y => decide (y ∈ ys.take (i + 1))) m' := by
      refine ⟨_, ?_, setOf_as hS2 (fun k => ?_) rfl⟩
      · split <;> lia
      · rw [List.take_add_one, hy]; simp [Bool.decide_or]
    obtain ⟨m', hm', hS3⟩ := hS3
    refine wpAny_pure ⟨plainId_quiet PyProof.Rows.F.plain_set_update_loop _, ih (i + 1) m' _ (by lia) hm' (W.frame _ s' _ _ st' (Nat.le_succ _) fun b hb o e => ?_) hS3 fun s'' mv'' q => hR s'' (Moved.trans W.gtrans ((mv.mono up).then_heap (Nat.le_succ _) fun b o hb e => ?_) mv'') q⟩
    · rw [sb.2 b (fun q : b = D => hD (by rw [← q]; exact hb))]; exact e
    · rw [sb.2 b (fun q : b = D => hb (by rw [q]; exact List.mem_cons_self))]; exact e
end
section
variable {prog : Program} {w : World} {A : Around} {E : Value → Shared → Prop} {s : Shared}
set_option maxHeartbeats 3200000 in
theorem set_of_strs {l : Addr} {items : Array Value} {ys : List Str} {Q : Value → Shared → Prop} (hh : A.handled = none) (hl : s.heap.IsList l items) (hi : StrsAre items.toList ys) (hb : ys.length + 1 < scanBound)
    (h : ∀ (h' : Heap) (tk : Nat) m, h'.SetOf (strKind prog w) s.heap.objs.size (fun y => decide (y ∈ ys)) m → (∀ b o, s.heap.get? b = some o → h'.get? b = some o) → Q (.ref s.heap.objs.size) { s with heap := h', toks := tk }) :
    wpAny (model prog w) A (call (.type "set") [.ref l]) Q E s := by
  have hz : items.size = ys.length := by rw [← hi.length, Array.length_toList]
  obtain ⟨c, tl, hmro⟩ := F.called_set.mro
  have hmade := F.called_set.made
  have hsub := F.called_set.sub
  refine wpAny_call (codeAny_of_tree ?_)
  show wpAny _ _ (callAny (.type "set") _) _ _ _
  refine wpAny_pure ⟨Code.quiet_builtin _ (by decide +kernel), codeAny_builtin F.entry_type_call ?_⟩
  rw [Around.under_plain (weight_type_call_type "set" [.ref l] []) rfl]
  have h1 := F.called_set.notType
  have h2 := F.called_set.canCreate
  have hct := F.typeCall_set_1 (.ref l)
  repeat (any_goals (first | assumption | wp_step))
  refine codeAny_mono (code_set_new_1 (.ref l) (E := E) (Q₁ := fun obj s₁ => ∃ led : Bool, obj = .ref s.heap.objs.size ∧ s₁ = { s with heap := s.heap.push { cls := .type "set", dict := none, data := .set #[] 0 (.fresh 0 0 led) } }) fun led => ⟨led, rfl, rfl⟩) fun r s₁ hr => ?_
  obtain _ | (_ | _ | _ | obj) := r
  · exact hr
  · exact hr.elim
  · exact hr.elim
  · exact hr.elim
  obtain ⟨led, rfl, rfl⟩ := hr
  generalize hH : s.heap.push { cls := .type "set", dict := none, data := .set #[] 0 (.fresh 0 0 led) } = H₁
  have hS : H₁.get? s.heap.objs.size = some { cls := .type "set", dict := none, data := .set #[] 0 (.fresh 0 0 led) } := hH ▸ Heap.get?_push_size _ rfl
  have hk₁ : ∀ b o, s.heap.get? b = some o → H₁.get? b = some o := fun b o e => hH ▸ Heap.get?_push_of_some _ e
  have hz₁ : H₁.objs.size = s.heap.objs.size + 1 := by rw [← hH, Heap.size_push]
  have hT : Shared.TypeIs { s with heap := H₁ } (.ref s.heap.objs.size) "set" := ⟨_, hS, rfl⟩
  have hli := F.called_set.init.lookup
  have hbi := F.called_set.init.bind (.ref s.heap.objs.size)
  repeat (any_goals (first | assumption | wp_step))
  refine codeAny_mono (codeAny_call_builtin (R := wants (fun r s₂ => r = .none ∧ ∃ h' tk m, s₂ = { s with heap := h', toks := tk } ∧ h'.SetOf (strKind prog w) s.heap.objs.size (fun y => decide (y ∈ ys)) m ∧ (∀ b o, s.heap.get? b = some o → h'.get? b = some o)) E)
    F.called_set.init.plain F.entry_set_init (check_set_init_1 hT ?_)) fun r₂ s₂ hr₂ => ?_
  · obtain ⟨ol, hol, hcl, nl, hdl⟩ := hl
    obtain ⟨ocls, odict, odata, oslots⟩ := ol
    simp only at hcl hdl
    subst hcl; subst hdl
    have hol' := hk₁ _ _ hol
    have hsls := F.sub_list_set
    have hslf := F.sub_list_frozenset
    have hne : (Value.type "list" == Value.type "dict") = false := by decide
    have hl1 : H₁.IsList l items := ⟨_, hol', rfl, nl, rfl⟩
    unfold Builtin.«set.__init__» noKeywords Builtin.Frozenset.updateFrom
    generalize hPI : pyIter = PI
    wp_walk
    subst hPI
    refine wpAny_pyIter_list hl1 ?_
    refine wpAny_bind (wpAny_runValue ?_)
    have hlS : l < s.heap.objs.size := Heap.lt_size hol
    have hh3 : A.in1.in1.in1.handled = none := by simp [hh]
    have hneI : l ≠ H₁.objs.size := by rw [hz₁]; exact Nat.ne_of_lt (Nat.lt_succ_of_lt hlS)
    have hSf : s.heap.objs.size ∉ [H₁.objs.size, l] := by
      rw [hz₁]; simp only [List.mem_cons, List.not_mem_nil, or_false, not_or]
      exact ⟨Nat.ne_of_lt (Nat.lt_succ_self _), Nat.ne_of_gt hlS⟩
    have hval : ∀ (i : Nat) (v : Value), items[i]? = some v → ∃ y t, ys[i]? = some y ∧ v = .str y t := fun i v hv => by
      have : items.toList[i]? = some v := by simpa using hv
      clear hz hb hl1 hol hol' h
      generalize items.toList = vs at hi this
      clear hv
      induction hi generalizing i with
      | nil => cases this
      | cons y t r ih =>
        cases i with
        | zero => exact ⟨y, t, rfl, by simpa using this.symm⟩
        | succ i => exact ih i (by simpa using this)
    have W := (Walks.list (prog := prog) (w := w) hh3 H₁.objs.size l hneI items).toS
    rw [hz] at W
    refine strs_loop W s.heap.objs.size hSf hval hb ys.length 0 0 _ (by lia) (Nat.le_refl _) ⟨⟨_, Heap.get?_push_size _ rfl, rfl, rfl⟩, (hl1.push _)⟩ ?_ fun s' mv q => ?_
    · exact setOf_as ((setObjOf_fresh (knd := strKind prog w) led).setOf (Heap.get?_push_of_some _ hS) (by unfold scanBound; lia)) (fun _ => by simp) rfl
    · obtain ⟨h', g', d', tk', os'⟩ := s'
      have eg : g' = s.gens := mv.gens
      have ed : d' = s.drawn := mv.drawn
      have eo : os' = s.os := mv.os
      subst eg; subst ed; subst eo
      obtain ⟨m, q⟩ := q
      show wpAny _ _ _ _ _ _
      refine wpAny_pure ?_
      show wpAny _ _ (ret Value.none) _ _ _
      refine wpAny_pure ⟨rfl, h', tk', m, rfl, q, fun b o e => mv.heap b o ?_ (Heap.get?_push_of_some _ (hk₁ b o e))⟩
      have hlt := Heap.lt_size e
      simp only [List.mem_cons, List.not_mem_nil, or_false, not_or]
      rw [hz₁]
      exact ⟨Nat.ne_of_lt hlt, Nat.ne_of_lt (Nat.lt_succ_of_lt hlt)⟩
  · obtain _ | (_ | _ | _ | r) := r₂
    · exact hr₂
    · exact hr₂.elim
    · exact hr₂.elim
    · exact hr₂.elim
    obtain ⟨rfl, h', tk, m, rfl, q, k⟩ := hr₂
    repeat (any_goals (first | assumption | wp_step))
    exact h _ _ _ q k
end
end Mine
end C28

section C29
open PySem PySem.W PyProof.Rows Builtin Builtin.ObjectAttr
set_option Elab.async false
set_option linter.unusedVariables false
set_option maxRecDepth 100000
namespace Mine
namespace G
theorem slot_set_ga : Slot "set" "__getattribute__" "set.__getattribute__" :=
  .of (owner := "set") (n := "__getattribute__") (by rw [typeLookup_type, builtinLookup_eq_fast]; kernel_rfl) (by decide +kernel) (by decide +kernel) (by decide +kernel)
    (by first | exact .inl (by decide +kernel) | exact .inr (by decide +kernel)) (by rw [isSubtype_type]; kernel_rfl)
theorem slot_md_get : Slot "method_descriptor" "__get__" "method_descriptor.__get__" :=
  .of (owner := "method_descriptor") (n := "__get__") (by rw [typeLookup_type, builtinLookup_eq_fast]; kernel_rfl) (by decide +kernel) (by decide +kernel) (by decide +kernel)
    (by first | exact .inl (by decide +kernel) | exact .inr (by decide +kernel)) (by rw [isSubtype_type]; kernel_rfl)
theorem lk_md_set : typeLookup (.type "method_descriptor") "__set__" = pure none := by rw [typeLookup_type, builtinLookup_eq_fast]; kernel_rfl
theorem lk_md_del : typeLookup (.type "method_descriptor") "__delete__" = pure none := by rw [typeLookup_type, builtinLookup_eq_fast]; kernel_rfl
theorem entry_sga : entryFor table "set.__getattribute__" = some Builtin.«object.__getattribute__» := entryFor_alias (id' := "object.__getattribute__") (by kernel_rfl) rfl (by decide +kernel) (by kernel_rfl)
theorem entry_mdget : entryFor table "method_descriptor.__get__" = some Builtin.«method_descriptor.__get__» := entryFor_of_tree (by kernel_rfl)
theorem args_sga (a b : Value) : argsOk "set.__getattribute__" ⟨[a, b], []⟩ := by unfold argsOk; kernel_rfl
theorem args_mdget (a b c : Value) : argsOk "method_descriptor.__get__" ⟨[a, b, c], []⟩ := by unfold argsOk; kernel_rfl
theorem told : Manifest.toldItsClass.contains "set.__contains__" = false := by decide +kernel
theorem own : ".".intercalate ("set.__contains__".cutAt '.').dropLast = "set" := by decide +kernel
end G
noncomputable def boundC (a : Addr) : Obj := { cls := .type "builtin_function_or_method", data := .fields #[.builtin "set.__contains__", .ref a] }
section
variable {prog : Program} {w : World} {A : Around} {E : Value → Shared → Prop} {s : Shared} {a : Addr}
theorem run_mdget {o : Obj} {P : Fin → Shared → Prop} (ho : s.heap.get? a = some o) (hc : o.cls = .type "set") (h : P (.done (.ret (.ref s.heap.objs.size))) { s with heap := s.heap.push (boundC a) }) :
    wpAny (model prog w) A (Builtin.«method_descriptor.__get__» ⟨[.builtin "set.__contains__", .ref a, .type "set"], []⟩) P E s := by
  unfold Builtin.«method_descriptor.__get__»
  refine wpAny_bind (wpAny_of_eq (a := (.builtin "set.__contains__", some (.ref a), some (.type "set"))) (by first | rfl | kernel_rfl) ?_)
  have ht : s.TypeIs (.ref a) "set" := ⟨o, ho, hc⟩
  have hsub : isSubtype (.type "set") (.type "set") = pure true := by rw [isSubtype_type]; kernel_rfl
  simp only [G.told]
  repeat wp_step
  rw [G.own]
  repeat wp_step
  exact h
theorem run_sga {es : Array (Int × Value)} {n : Nat} {tb : SetTable} {osl : Array (Option Value)} {tk : Tok} {P : Fin → Shared → Prop} (ho : s.heap.get? a = some { cls := .type "set", dict := none, data := .set es n tb, slots := osl }) (h : P (.done (.ret (.ref s.heap.objs.size))) { s with heap := s.heap.push (boundC a) }) :
    wpAny (model prog w) A (Builtin.«object.__getattribute__» ⟨[.ref a, .str (Str.ofString "__contains__") tk], []⟩) P E s := by
  have ht : s.TypeIs (.ref a) "set" := ⟨_, ho, rfl⟩
  have l2 := F.slot_set_contains.lookup
  have l3 := F.type_set_contains
  have l4 := G.slot_md_get.lookup
  have l5 := G.lk_md_set
  have l6 := G.lk_md_del
  unfold Builtin.«object.__getattribute__»
  have hf : ∀ {Q : Found → Shared → Prop}, Q (.bind (.builtin "method_descriptor.__get__") (.builtin "set.__contains__")) s → wpAny (model prog w) A (find (.ref a) (.type "set") (Str.ofString "__contains__")) Q E s := fun hq => by
    repeat wp_step
    exact hq
  refine wpAny_bind (wpAny_of_eq (a := (.ref a, [.str (Str.ofString "__contains__") tk])) (by rfl) ?_)
  refine wpAny_bind (wpAny_of_eq (a := Str.ofString "__contains__") (by rfl) ?_)
  refine wpAny_bind (wpAny_typeOf ht ?_)
  refine wpAny_bind (hf ?_)
  show wpAny _ _ (bindTo _ _ _ _) _ _ _
  unfold bindTo
  refine wpAny_bind (wpAny_holding (wpAny_call (codeAny_call_builtin G.slot_md_get.plain G.entry_mdget (G.slot_md_get.check _ _ _ _ _ _ _ _ (by exact F.type_set_contains) (G.args_mdget _ _ _) ?_))))
  exact run_mdget ho rfl (wpAny_pure h)
theorem set_bound {es : Array (Int × Value)} {n : Nat} {tb : SetTable} {osl : Array (Option Value)} {Q : Value → Shared → Prop} (ho : s.heap.get? a = some { cls := .type "set", dict := none, data := .set es n tb, slots := osl }) (h : Q (.ref s.heap.objs.size) { s with heap := s.heap.push (boundC a), toks := s.toks + 1 }) :
    wpAny (model prog w) A (getAttr (.ref a) "__contains__" true) Q E s := by
  have ht : s.TypeIs (.ref a) "set" := ⟨_, ho, rfl⟩
  have l1 := G.slot_set_ga.lookup
  have b1 := G.slot_set_ga.bind (.ref a)
  unfold getAttr getAttrBy
  repeat wp_step
  refine codeAny_call_builtin G.slot_set_ga.plain G.entry_sga (G.slot_set_ga.check _ _ _ _ _ _ _ _ ht (G.args_sga _ _) ?_)
  refine run_sga (s := { s with toks := s.toks + 1 }) ho ?_
  exact wpAny_pure h
theorem bm_kind : builtinKind "set.__contains__" = some .method := by decide +kernel
theorem bm_sig : Manifest.signature? "set.__contains__" = some ⟨.oneArg, "set.__contains__", "__contains__", .self, [⟨"object", .posOnly, true⟩]⟩ := by
  rw [PySem.F.owner_set |> signature?_of (id := "set.__contains__") (n := ['_', '_', 's', 'n', 'i', 'a', 't', 'n', 'o', 'c', '_', '_']) (o := ['t', 'e', 's']) (by kernel_rfl)]; kernel_rfl
theorem bm_va : Manifest.varargsMethods.contains "set.__contains__" = false := by decide +kernel
theorem set_mod : isSubtype (.type "set") (.type "module") = pure false := by rw [isSubtype_type]; kernel_rfl
theorem check_bound {es : Array (Int × Value)} {n : Nat} {tb : SetTable} {osl : Array (Option Value)} {v : Value} {Q : Unit → Shared → Prop} (ho : s.heap.get? a = some { cls := .type "set", dict := none, data := .set es n tb, slots := osl }) (hQ : Q () s) : wpAny (model prog w) A (checkBoundCall "set.__contains__" ⟨[.ref a, v], []⟩) Q E s := by
  have ht : s.TypeIs (.ref a) "set" := ⟨_, ho, rfl⟩
  have k3 := bm_va
  have k4 := set_mod
  unfold checkBoundCall
  rw [bm_kind, bm_sig]
  repeat wp_step
  exact hQ
theorem call_bound {b : Addr} {S : Str → Bool} {m : Nat} {x : Str} {t : Tok} {Q : Value → Shared → Prop} (hb : s.heap.get? b = some (boundC a)) (hS : s.heap.SetOf (strKind prog w) a S m) (h : Q (.bool (S x)) { s with toks := s.toks + 1 }) :
    wpAny (model prog w) A (call (.ref b) [.str x t]) Q E s := by
  obtain ⟨o, es, ep, tb, ho, hex, hd, r⟩ := id hS
  obtain ⟨oc, od, odata, osl⟩ := o
  obtain ⟨h1, h2, h3⟩ := hex
  simp only at h1 h2 hd
  subst h1; subst h2; subst hd
  refine wpAny_call (codeAny_of_tree ?_)
  show wpAny _ _ (callAny (.ref b) _) _ _ _
  unfold callAny
  refine wpAny_bind (wpAny_load hb ?_)
  show wpAny _ _ (checkBoundCall "set.__contains__" ⟨[.ref a, .str x t], []⟩ >>= fun _ => _) _ _ _
  refine wpAny_bind (check_bound ho ?_)
  refine wpAny_pure ⟨Code.quiet_builtin _ (by decide +kernel), codeAny_builtin entry_set_contains ?_⟩
  unfold Builtin.«frozenset.__contains__» Builtin.Frozenset.oneOther
  simp only [List.isEmpty_nil, bind_assoc]
  unfold Builtin.Frozenset.addrOf Builtin.Frozenset.withSetAsKey setContains
  refine wpAny_bind (wpAny_pure ?_)
  try dsimp only
  refine wpAny_bind (wpAny_pure ?_)
  try dsimp only
  refine wpAny_bind (wpAny_tryCatch ?_)
  refine wpAny_holding ?_
  refine wpAny_bind ((strKind prog w).pyHash (k := x) (strKind_is _ _ _ _) ?_)
  refine wpAny_bind (wpAny_setFind_of (s := { s with toks := s.toks + 1 }) (strKind_is _ _ _ _) rfl hS fun r hr => ?_)
  refine wpAny_pure ?_
  show wpAny _ _ (ret (Value.bool r.isSome)) _ _ _
  rw [hr]
  exact wpAny_pure h
end
end Mine
end C29

section C30
open PySem PySem.W PyProof.Rows Builtin
set_option Elab.async false
set_option linter.unusedVariables false
set_option maxRecDepth 100000
namespace Mine
namespace G
theorem slot_filter_init : Slot "filter" "__init__" "object.__init__" :=
  .of (owner := "object") (n := "__init__") (by rw [typeLookup_type, builtinLookup_eq_fast]; kernel_rfl) (by decide +kernel) (by decide +kernel) (by decide +kernel)
    (by first | exact .inl (by decide +kernel) | exact .inr (by decide +kernel)) (by rw [isSubtype_type]; kernel_rfl)
theorem slot_filter_iter : Slot "filter" "__iter__" "filter.__iter__" :=
  .of (owner := "filter") (n := "__iter__") (by rw [typeLookup_type, builtinLookup_eq_fast]; kernel_rfl) (by decide +kernel) (by decide +kernel) (by decide +kernel)
    (by first | exact .inl (by decide +kernel) | exact .inr (by decide +kernel)) (by rw [isSubtype_type]; kernel_rfl)
theorem slot_filter_next : Slot "filter" "__next__" "filter.__next__" :=
  .of (owner := "filter") (n := "__next__") (by rw [typeLookup_type, builtinLookup_eq_fast]; kernel_rfl) (by decide +kernel) (by decide +kernel) (by decide +kernel)
    (by first | exact .inl (by decide +kernel) | exact .inr (by decide +kernel)) (by rw [isSubtype_type]; kernel_rfl)
theorem entry_filter_next : entryFor table "filter.__next__" = some Builtin.«filter.__next__» := entryFor_of_tree (by kernel_rfl)
theorem entry_filter_iter : entryFor table "filter.__iter__" = some Builtin.«dict_keyiterator.__iter__» :=
  entryFor_alias (id' := "dict_keyiterator.__iter__") (by kernel_rfl) (by first | rfl | decide +kernel) (by decide +kernel) (by kernel_rfl)
theorem args_filter_next (a : Value) : argsOk "filter.__next__" ⟨[a], []⟩ := by unfold argsOk; kernel_rfl
theorem args_filter_iter (a : Value) : argsOk "filter.__iter__" ⟨[a], []⟩ := by unfold argsOk; kernel_rfl
theorem plain_filter_next : plainId "filter.__next__" = true := by decide +kernel
theorem mro_filter : mroOf (.type "filter") = pure [.type "filter", .type "object"] := by rw [mroOf_type]; kernel_rfl
theorem lookup_filter_new : typeLookup (.type "filter") "__new__" = pure (some (.builtin "filter.__new__")) := by rw [typeLookup_type, builtinLookup_eq_fast]; kernel_rfl
theorem sub_filter : isSubtype (.type "filter") (.type "filter") = pure true := by rw [isSubtype_type]; kernel_rfl
theorem called_filter : TypeCalled "filter" "filter.__new__" "object.__init__" :=
  ⟨by decide +kernel, by decide +kernel, ⟨_, _, mro_filter⟩, madeBy_type mro_filter lookup_filter_new (by decide +kernel), by decide +kernel, sub_filter, slot_filter_init⟩
theorem typeCall_filter (a b : Value) : checkTypeCall "filter" ⟨[a, b], []⟩ = pure () := by kernel_rfl
theorem newCall_filter (a b : Value) : checkBuiltinCall "filter.__new__" ⟨[.type "filter", a, b], []⟩ = pure () := by kernel_rfl
theorem entry_filter_new : entryFor table "filter.__new__" = some Builtin.«filter.__new__» := entryFor_of_tree (by kernel_rfl)
theorem no_len : typeLookup (.type "filter") "__len__" = pure none := by rw [typeLookup_type, builtinLookup_eq_fast]; kernel_rfl
theorem no_hint : typeLookup (.type "filter") "__length_hint__" = pure none := by rw [typeLookup_type, builtinLookup_eq_fast]; kernel_rfl
end G
end Mine
end C30

section C31
open PySem PySem.W PyProof.Rows Builtin
set_option Elab.async false
set_option linter.unusedVariables false
set_option maxRecDepth 100000
namespace Mine
section
variable {prog : Program} {w : World} {A : Around} {E : Value → Shared → Prop} {s : Shared} {it l : Addr} {j : Nat} {items : Array Value}
theorem iter_item {x : Value} {Q : Option Value → Shared → Prop} (hit : s.heap.IsListIter it l j) (hl : s.heap.IsList l items) (hx : items[j]? = some x)
    (hQ : ∀ h', h'.IsListIter it l (j + 1) → (∀ c o, c ≠ it → s.heap.get? c = some o → h'.get? c = some o) → Q (some x) { s with heap := h' }) : wpAny (model prog w) A (callSpecial? (.ref it) "__next__") Q E s := by
  obtain ⟨o, ho, hc, hd⟩ := id hit
  obtain ⟨ol, hol, _, nl, hdl⟩ := hl
  have hneq : ¬ ((Value.ref l == Value.none) = true) := Bool.false_ne_true
  refine wpAny_callSpecial?_slot hit.typeIs slot_listiter_next (wpAny_call_entry slot_listiter_next hit.typeIs entry_listiter_next ?_ (args_listiter_next _))
  refine wpAny_bind (m := field (.ref it) 0) (wpAny_field ho hd (x := .ref l) rfl ?_)
  dsimp only
  rw [if_neg hneq]
  refine wpAny_bind (m := field (.ref it) 1) (wpAny_field ho hd (x := .int j 0) rfl (wpAny_bind (m := seqItems? (.ref l)) (wpAny_seqItems hol hdl ?_)))
  simp only [Int.toNat_natCast, hx]
  refine wpAny_bind (wpAny_setField ho hd (by simp) (wpAny_pure ⟨x, rfl, hQ _ ⟨_, Heap.get?_update_self _ ho (Obj.isFreed_of_fields (Obj.data_mapFields hd _)), (Obj.cls_mapFields ..).trans hc, ?_⟩ fun c o hcn e => (Heap.SameBut.update ..).extBut c o hcn e⟩))
  rw [Obj.data_mapFields hd]; simp [rawInt]
theorem iter_end {Q : Option Value → Shared → Prop} (hh : A.handled = none) (hit : s.heap.IsListIter it l j) (hl : s.heap.IsList l items) (hx : items[j]? = none)
    (hE : ∀ h' e, (∀ c o, c ≠ it → s.heap.get? c = some o → h'.get? c = some o) → (∃ o, h'.get? e = some o ∧ o.cls = .type "StopIteration") → E (.ref e) { s with heap := h' }) : wpAny (model prog w) A (callSpecial? (.ref it) "__next__") Q E s := by
  obtain ⟨o, ho, hc, hd⟩ := id hit
  obtain ⟨ol, hol, _, nl, hdl⟩ := hl
  have hneq : ¬ ((Value.ref l == Value.none) = true) := Bool.false_ne_true
  refine wpAny_callSpecial?_slot hit.typeIs slot_listiter_next (wpAny_call_entry slot_listiter_next hit.typeIs entry_listiter_next ?_ (args_listiter_next _))
  refine wpAny_bind (m := field (.ref it) 0) (wpAny_field ho hd (x := .ref l) rfl ?_)
  dsimp only
  rw [if_neg hneq]
  refine wpAny_bind (m := field (.ref it) 1) (wpAny_field ho hd (x := .int j 0) rfl (wpAny_bind (m := seqItems? (.ref l)) (wpAny_seqItems hol hdl ?_)))
  simp only [Int.toNat_natCast, hx]
  refine wpAny_bind (wpAny_rule (wpAny_bind (wpAny_setField ho hd (by simp) ?_)))
  refine wpAny_bind (m := newExc (.type "StopIteration") []) ?_
  simp only [newExc, newTuple]
  refine wpAny_bind (wpAny_newObj_type ?_ (by size_fits))
  refine wpAny_bind (m := firstArgMember _ _) (wpAny_of_eq (a := Value.none) (by first | rfl | (simp only [firstArgMember]; rfl)) ?_)
  refine wpAny_newObj_type ?_ (by size_fits)
  simp only [raiseNew]
  refine wpAny_bind (wpAny_handled ?_)
  first | rw [show A.in1.handled = none from hh] | rw [hh]
  exact wpAny_bind (wpAny_pure (wpAny_throw (hE _ _ (fun c o hcn e => (((Heap.SameBut.update ..).extBut.push _).push _) c o hcn e) ⟨_, Heap.get?_push_size _ rfl, rfl⟩)))
end
noncomputable abbrev filtO (b it : Addr) : Obj := { cls := .type "filter", data := .fields #[.ref b, .ref it] }
noncomputable abbrev litO (l : Addr) : Obj := { cls := .type "list_iterator", data := .fields #[.ref l, .int 0 0] }
/-- a filter object of a set's __contains__, over a list of texts, j items on -/
structure FiltAt (prog : Program) (w : World) (F it l b D : Addr) (items : Array Value) (S : Str → Bool) (m : Nat) (h : Heap) (j : Nat) : Prop where
  f : h.get? F = some (filtO b it)
  i : h.IsListIter it l j
  l : h.IsList l items
  b : h.get? b = some (boundC D)
  s : h.SetOf (strKind prog w) D S m
structure FiltApart (F it l b D : Addr) : Prop where
  f : it ≠ F
  l : it ≠ l
  b : it ≠ b
  d : it ≠ D
theorem FiltAt.keep {prog : Program} {w : World} {F it l b D : Addr} {items : Array Value} {S : Str → Bool} {m : Nat} {h h' : Heap} {j j' : Nat} (Z : FiltApart F it l b D) (q : FiltAt prog w F it l b D items S m h j) (hi : h'.IsListIter it l j')
    (k : ∀ c o, c ≠ it → h.get? c = some o → h'.get? c = some o) : FiltAt prog w F it l b D items S m h' j' :=
  ⟨k _ _ Z.f.symm q.f, hi, q.l.at fun o e => k _ _ Z.l.symm e, k _ _ Z.b.symm q.b, by obtain ⟨o, es, ep, t, ho, rest⟩ := q.s; exact ⟨o, es, ep, t, k _ _ Z.d.symm ho, rest⟩⟩
section
variable {prog : Program} {w : World} {A : Around} {E : Value → Shared → Prop} {s : Shared} {F it l b D : Addr} {items : Array Value} {ys : List Str} {S : Str → Bool} {m : Nat}
theorem filt_body {R : PySem.Result → Shared → Prop} (hh : A.handled = none) (Z : FiltApart F it l b D) (hi : ∀ (i : Nat) (v : Value), items[i]? = some v → ∃ y t, ys[i]? = some y ∧ v = .str y t) (hz : items.size = ys.length) : ∀ (todo j : Nat) (s : Shared), j + todo = ys.length → FiltAt prog w F it l b D items S m s.heap j →
    (∀ j' y t h' tk, j ≤ j' → ys[j']? = some y → S y = true → (∀ i x, j ≤ i → i < j' → ys[i]? = some x → S x = false) → h'.IsListIter it l (j' + 1) → (∀ c o, c ≠ it → s.heap.get? c = some o → h'.get? c = some o) → s.toks ≤ tk → R (.ok (.ret (Value.str y t))) { s with heap := h', toks := tk }) →
    ((∀ i x, j ≤ i → ys[i]? = some x → S x = false) → ∀ h' e tk, (∀ c o, c ≠ it → s.heap.get? c = some o → h'.get? c = some o) → s.toks ≤ tk → (∃ o, h'.get? e = some o ∧ o.cls = .type "StopIteration") → R (.error (.ref e)) { s with heap := h', toks := tk }) →
    wpAny (model prog w) A.in1 (Builtin.«filter.__next__» ⟨[.ref F], []⟩) (fun fin s' => match fin with | .done f => R (.ok f) s' | .again c' => c'.quiet = true ∧ codeAny (model prog w) A c' R s') (fun e s' => R (.error e) s') s := by
  intro todo
  induction todo with
  | zero =>
    intro j s hj Q hit miss
    unfold Builtin.«filter.__next__»
    refine wpAny_bind (wpAny_of_eq (a := (.ref F, [])) (by rfl) ?_)
    refine wpAny_bind (wpAny_field Q.f rfl (x := .ref b) rfl ?_)
    refine wpAny_bind (wpAny_field Q.f rfl (x := .ref it) rfl ?_)
    have hx : items[j]? = none := by rw [Array.getElem?_eq_none_iff]; lia
    refine wpAny_bind (iter_end (A := A.in1) hh Q.i Q.l hx fun h' e k he => miss (fun i x h1 h2 => ?_) h' e s.toks k (Nat.le_refl _) he)
    have := (List.getElem?_eq_some_iff.mp h2).1
    lia
  | succ todo ih =>
    intro j s hj Q hit miss
    have hlt : j < items.size := by lia
    obtain ⟨y, t, hy, hv⟩ := hi j _ (Array.getElem?_eq_getElem hlt)
    unfold Builtin.«filter.__next__»
    refine wpAny_bind (wpAny_of_eq (a := (.ref F, [])) (by rfl) ?_)
    refine wpAny_bind (wpAny_field Q.f rfl (x := .ref b) rfl ?_)
    refine wpAny_bind (wpAny_field Q.f rfl (x := .ref it) rfl ?_)
    refine wpAny_bind (iter_item Q.i Q.l (Array.getElem?_eq_getElem hlt) fun h' hi' k => ?_)
    rw [hv]
    have Q' := Q.keep Z hi' k
    dsimp only
    refine wpAny_bind (wpAny_holding ?_)
    rw [if_neg (by simp)]
    refine wpAny_bind (call_bound (s := { s with heap := h' }) Q'.b Q'.s ?_)
    refine wpAny_holding (wpAny_truthy_bool ?_)
    cases hS : S y with
    | true =>
      exact wpAny_pure (hit j y t h' (s.toks + 1) (Nat.le_refl _) hy hS (fun i x h1 h2 _ => absurd h1 (Nat.not_le.mpr h2)) hi' k (Nat.le_succ _))
    | false =>
      refine wpAny_pure ⟨plainId_quiet G.plain_filter_next _, codeAny_builtin G.entry_filter_next ?_⟩
      rw [Around.under_plainId G.plain_filter_next _]
      have less : ∀ i x, j ≤ i → (∀ i x, j + 1 ≤ i → ys[i]? = some x → S x = false) → ys[i]? = some x → S x = false := fun i x h1 h2 h3 => by
        rcases Nat.eq_or_lt_of_le h1 with rfl | h1
        · rw [hy] at h3; cases h3; exact hS
        · exact h2 i x h1 h3
      refine ih (j + 1) _ (by lia) Q' (fun j' y' t' h'' tk h1 h2 h3 h4 h5 h6 h7 => ?_) (fun h1 h'' e tk h2 h3 h4 => ?_)
      · refine hit j' y' t' h'' tk (by lia) h2 h3 (fun i x q1 q2 q3 => ?_) h5 (fun c o hc e => h6 c o hc (k c o hc e)) (Nat.le_trans (Nat.le_succ _) h7)
        rcases Nat.eq_or_lt_of_le q1 with rfl | q1
        · rw [hy] at q3; cases q3; exact hS
        · exact h4 i x q1 q2 q3
      · exact miss (fun i x q1 q2 => less i x q1 h1 q2) h'' e tk (fun c o hc e => h2 c o hc (k c o hc e)) (Nat.le_trans (Nat.le_succ _) h3) h4
end
end Mine
end C31

section C32
open PySem PySem.W PyProof.Rows Builtin
set_option Elab.async false
set_option linter.unusedVariables false
set_option maxRecDepth 100000
namespace Mine
theorem filter_at {ys : List Str} {S : Str → Bool} {j j' i : Nat} {y : Str} (hj : j ≤ j') (hy : ys[j']? = some y) (hS : S y = true) (hno : ∀ i x, j ≤ i → i < j' → ys[i]? = some x → S x = false) (hi : ((ys.take j).filter S).length = i) :
    (ys.filter S)[i]? = some y ∧ ((ys.take (j' + 1)).filter S).length = i + 1 := by
  have hlt := (List.getElem?_eq_some_iff.mp hy).1
  have h1 : (ys.take j').filter S = (ys.take j).filter S := by
    have e : ys.take j' = ys.take j ++ (ys.drop j).take (j' - j) := by
      rw [← List.take_append_drop j (ys.take j'), List.take_take, Nat.min_eq_left hj, List.drop_take]
    rw [e, List.filter_append]
    have : ((ys.drop j).take (j' - j)).filter S = [] := by
      rw [List.filter_eq_nil_iff]
      intro x hx
      obtain ⟨n, hn, rfl⟩ := List.getElem_of_mem hx
      simp only [List.length_take, List.length_drop] at hn
      have := hno (j + n) _ (by lia) (by lia) (List.getElem?_eq_getElem (by lia))
      simp only [List.getElem_take, List.getElem_drop]
      rw [this]; exact Bool.false_ne_true
    rw [this, List.append_nil]
  have h2 : ys.take (j' + 1) = ys.take j' ++ [y] := by rw [List.take_add_one, hy]; rfl
  have h3 : ys = ys.take (j' + 1) ++ ys.drop (j' + 1) := (List.take_append_drop _ _).symm
  refine ⟨?_, by rw [h2, List.filter_append, h1, List.length_append, hi]; simp [hS]⟩
  rw [h3, List.filter_append, h2, List.filter_append, h1]
  have : [y].filter S = [y] := by simp [hS]
  rw [this, List.getElem?_append_left (by rw [List.length_append, hi]; simp), List.getElem?_append_right (by lia), hi, Nat.sub_self]
  rfl
theorem filter_none {ys : List Str} {S : Str → Bool} {j i : Nat} (hno : ∀ i x, j ≤ i → ys[i]? = some x → S x = false) (hi : ((ys.take j).filter S).length = i) : (ys.filter S).length = i := by
  have h3 : ys = ys.take j ++ ys.drop j := (List.take_append_drop _ _).symm
  rw [h3, List.filter_append, List.length_append, hi]
  have : (ys.drop j).filter S = [] := by
    rw [List.filter_eq_nil_iff]
    intro x hx
    obtain ⟨n, hn, rfl⟩ := List.getElem_of_mem hx
    simp only [List.length_drop] at hn
    have := hno (j + n) _ (by lia) (List.getElem?_eq_getElem (by lia))
    simp only [List.getElem_drop]
    rw [this]; exact Bool.false_ne_true
  rw [this]; rfl
section
variable {prog : Program} {w : World} {A : Around} {E : Value → Shared → Prop} {s : Shared} {F it l b D : Addr} {items : Array Value} {ys : List Str} {S : Str → Bool} {m : Nat}
/-- the i-th text that is kept -/
noncomputable def Kept (ys : List Str) (S : Str → Bool) (i : Nat) (v : Value) : Prop := ∃ y t, (ys.filter S)[i]? = some y ∧ v = Value.str y t
noncomputable def FSt (prog : Program) (w : World) (F it l b D : Addr) (items : Array Value) (ys : List Str) (S : Str → Bool) (m : Nat) (i : Nat) (s : Shared) : Prop := ∃ j, j ≤ ys.length ∧ FiltAt prog w F it l b D items S m s.heap j ∧ ((ys.take j).filter S).length = i
theorem FiltAt.type {j : Nat} (q : FiltAt prog w F it l b D items S m s.heap j) : s.TypeIs (.ref F) "filter" := ⟨_, q.f, rfl⟩
theorem filt_next {Q : Option Value → Shared → Prop} (hh : A.handled = none) (Z : FiltApart F it l b D) (hi : ∀ (i : Nat) (v : Value), items[i]? = some v → ∃ y t, ys[i]? = some y ∧ v = .str y t) (hz : items.size = ys.length) {j : Nat} (hj : j ≤ ys.length) (q : FiltAt prog w F it l b D items S m s.heap j)
    (hit : ∀ j' y t h' tk, j ≤ j' → ys[j']? = some y → S y = true → (∀ i x, j ≤ i → i < j' → ys[i]? = some x → S x = false) → h'.IsListIter it l (j' + 1) → (∀ c o, c ≠ it → s.heap.get? c = some o → h'.get? c = some o) → s.toks ≤ tk → Q (some (Value.str y t)) { s with heap := h', toks := tk })
    (miss : (∀ i x, j ≤ i → ys[i]? = some x → S x = false) → ∀ h' tk, (∀ c o, c ≠ it → s.heap.get? c = some o → h'.get? c = some o) → s.toks ≤ tk → Q none { s with heap := h', toks := tk }) : wpAny (model prog w) A (pyNext (.ref F)) Q E s := by
  unfold pyNext
  refine wpAny_bind (wpAny_attempt (wpAny_callSpecial?_slot (name := Str.ofString "__next__") q.type G.slot_filter_next ?_))
  refine wpAny_mono (Q := fun v s' => Q (some v) s') (E := fun e s' => ∃ o, ∃ a, e = .ref a ∧ s'.heap.get? a = some o ∧ o.cls = .type "StopIteration" ∧ Q none s') ?_ (fun v s' h => wpAny_pure h) fun e s' ⟨o, a, he, ho, hc, h⟩ => ?_
  · refine wpAny_call (codeAny_call_builtin G.slot_filter_next.plain G.entry_filter_next (G.slot_filter_next.check _ _ _ _ _ _ _ _ q.type (G.args_filter_next _) ?_))
    refine filt_body (R := wants (fun v s' => Q (some v) s') fun e s' => ∃ o, ∃ a, e = .ref a ∧ s'.heap.get? a = some o ∧ o.cls = .type "StopIteration" ∧ Q none s') (ys := ys) hh Z hi hz (ys.length - j) j s (by lia) q hit fun hno h' e' tk h2 h3 ⟨o, ho, hc⟩ => ?_
    exact ⟨o, e', rfl, ho, hc, miss hno h' tk h2 h3⟩
  · subst he
    exact wpAny_bind (wpAny_isInstance (T := "StopIteration") (b := true) ⟨o, ho, hc⟩ isSubtype_stop (wpAny_pure h))
theorem filt_walks (hh : A.handled = none) (Z : FiltApart F it l b D) (hi : ∀ (i : Nat) (v : Value), items[i]? = some v → ∃ y t, ys[i]? = some y ∧ v = .str y t) (hz : items.size = ys.length) :
    WalksS prog w A F [F, it, l, b, D] [it] (fun a b => b = a) (ys.filter S).length (Kept ys S) (FSt prog w F it l b D items ys S m) where
  sub := fun c hc => by simp at hc; simp [hc]
  grefl := fun _ => rfl
  gtrans := fun _ _ _ h1 h2 => h2.trans h1
  frame := fun i s h' tk ⟨j, hj, q, e⟩ _ k => ⟨j, hj, ⟨k F (by simp) _ q.f, q.i.at fun o e => k it (by simp) o e, q.l.at fun o e => k l (by simp) o e, k b (by simp) _ q.b, by obtain ⟨o, es, ep, t, ho, rest⟩ := q.s; exact ⟨o, es, ep, t, k D (by simp) _ ho, rest⟩⟩, e⟩
  item := fun i s Q E hlt ⟨j, hj, q, e⟩ hQ => by
    refine filt_next (ys := ys) hh Z hi hz hj q (fun j' y t h' tk h1 h2 h3 h4 h5 h6 h7 => ?_) fun hno h' tk h2 h3 => ?_
    · obtain ⟨p1, p2⟩ := filter_at h1 h2 h3 h4 e
      have hlt' := (List.getElem?_eq_some_iff.mp h2).1
      exact hQ _ _ ⟨y, t, p1, rfl⟩ ⟨j' + 1, hlt', q.keep Z h5 h6, p2⟩ ⟨fun c o hc ec => h6 c o (fun z => hc (by simp [z])) ec, rfl, rfl, rfl, h7⟩
    · have := filter_none hno e
      lia
  done := fun s Q E ⟨j, hj, q, e⟩ hQ => by
    refine filt_next (ys := ys) hh Z hi hz hj q (fun j' y t h' tk h1 h2 h3 h4 h5 h6 h7 => ?_) fun hno h' tk h2 h3 => ?_
    · obtain ⟨p1, p2⟩ := filter_at h1 h2 h3 h4 e
      have := (List.getElem?_eq_some_iff.mp p1).1
      lia
    · exact hQ _ ⟨fun c o hc ec => h2 c o (fun z => hc (by simp [z])) ec, rfl, rfl, rfl, h3⟩
  self := fun i s Q E ⟨j, hj, q, e⟩ hQ => by
    refine wpAny_pyIter_slot q.type G.slot_filter_iter (wpAny_call_entry G.slot_filter_iter q.type G.entry_filter_iter ?_ (G.args_filter_iter _))
    show wpAny _ _ (ret (.ref F)) _ _ s
    exact wpAny_pure ⟨_, rfl, "filter", _, q.type, G.slot_filter_next.lookup, hQ⟩
theorem meets_filter_new (b l : Addr) (xs : Array Value) :
    Meets (Builtin.«filter.__new__» ⟨[.type "filter", .ref b, .ref l], []⟩) (fun _ R s => s.heap.IsList l xs ∧ R (.ok (.ret (.ref (s.heap.push (litO l)).objs.size))) { s with heap := (s.heap.push (litO l)).push (filtO b s.heap.objs.size) }) :=
  .of_wp fun prog w A R s h => by
    obtain ⟨hp, g, d, tk, os⟩ := s; obtain ⟨hl1, h⟩ := h
    have hsub := G.sub_filter
    have hL1 : Heap.IsList (Shared.heap ⟨hp, g, d, tk, os⟩) l xs := hl1
    wp_walk using wpAny_pyIter_list hL1
    exact ⟨_, rfl, h⟩
theorem call_filter {Q : Value → Shared → Prop} (hl : s.heap.IsList l items) (h : Q (.ref (s.heap.objs.size + 1)) { s with heap := (s.heap.push (litO l)).push (filtO b s.heap.objs.size) }) : wpAny (model prog w) A (call (.type "filter") [.ref b, .ref l]) Q E s := by
  refine callType_new G.called_filter (by decide) (G.typeCall_filter _ _) (G.newCall_filter _ _) (fun obj => F.args_object_init_3 obj _ _) G.entry_filter_new (meets_filter_new b l items) ⟨hl, ?_⟩
  have z : (s.heap.push (litO l)).objs.size = s.heap.objs.size + 1 := Heap.size_push ..
  show _ ∧ _
  refine ⟨⟨_, Heap.get?_push_size _ rfl, rfl⟩, ?_⟩
  rw [z]; exact h
end
end Mine
end C32

section C33
open PySem PySem.W PyProof.Rows Builtin
set_option Elab.async false
set_option linter.unusedVariables false
set_option maxRecDepth 100000
namespace Mine
section
variable {prog : Program} {w : World} {A : Around} {E : Value → Shared → Prop} {s : Shared} {R : PySem.Result → Shared → Prop}
variable {I : Addr} {fp wr : List Addr} {Gn : Array GenState → Array GenState → Prop} {n : Nat} {P : Nat → Value → Prop} {St : Nat → Shared → Prop}
theorem extend_filt (W : WalksS prog w A.in1 I fp wr Gn n P St) (hT : ∀ i s, St i s → s.TypeIs (.ref I) "filter") (D : Addr) (st : St 0 s) (hD : D ∉ fp) (hI : I ∈ fp) {c₀ : Nat} (hS : s.heap.get? D = some { cls := .type "list", data := .seq #[] c₀ })
    (hR : ∀ s' acc' c', Moved (D :: wr) Gn s s' → s'.heap.get? D = some { cls := .type "list", dict := none, data := .seq acc' c', slots := #[] } → ItemsOf P acc' n → R (.ok (.ret .none)) s') (hn : n ≤ sizeLine) :
    wpAny (model prog w) A.in1 (Builtin.List.listExtendWith (.ref D) (.ref I) .none)
      (fun fin s' => match fin with | .done f => R (.ok f) s' | .again c' => c'.quiet = true ∧ codeAny (model prog w) A c' R s') (fun e s' => R (.error e) s') s := by
  have hne : D ≠ I := fun e => hD (e ▸ hI)
  have T0 := hT 0 _ st
  unfold Builtin.List.listExtendWith
  refine wpAny_bind (wpAny_typeOf T0 ?_)
  have h1 : Builtin.List.listSameRef (.ref D) (.ref I) = false := by simp [Builtin.List.listSameRef, hne]
  have h2 : (Value.type "filter" == Value.type "list") = false := by decide
  have h3 : (Value.type "filter" == Value.type "tuple") = false := by decide
  simp only [h1, h2, h3, Bool.or_false, Bool.false_eq_true, if_false]
  refine wpAny_bind (W.self 0 _ _ _ st (wpAny_bind (wpAny_holding ?_)))
  unfold Builtin.List.listLengthHint
  refine wpAny_bind (wpAny_specialOf T0 G.no_len ?_)
  show wpAny _ A.in1 (specialOf (Value.ref I) (Str.ofString "__length_hint__") >>= _) _ _ _
  refine wpAny_bind (wpAny_specialOf T0 G.no_hint (wpAny_pure ?_))
  show wpAny _ A.in1 (rule "list.extend.makes-room" >>= fun _ => Builtin.List.listTouch (.ref D) >>= fun _ =>
    again (.builtin "list.extend.loop" ⟨[.ref D, .ref I, .none], []⟩)) _ _ _
  refine wpAny_bind (wpAny_rule (wpAny_bind ?_))
  show wpAny _ A.in1 (updateSeq D (·.push .none) >>= fun _ => updateSeq D (·.pop)) _ _ _
  refine wpAny_bind (wpAny_updateSeq hS rfl ?_)
  have e₂ := Heap.get?_update_self (Obj.mapSeq (·.push Value.none)) hS rfl
  refine wpAny_updateSeq (hz := by seq_fits) e₂ rfl ?_
  have e₃ := Heap.get?_update_self (Obj.mapSeq (·.pop)) e₂ rfl
  have oth : ∀ b o, b ≠ D → s.heap.get? b = some o → ((s.heap.update D (Obj.mapSeq (·.push Value.none))).update D (Obj.mapSeq (·.pop))).get? b = some o :=
    fun b o hb e => (Heap.get?_update_other _ _ (Ne.symm hb)).trans ((Heap.get?_update_other _ _ (Ne.symm hb)).trans e)
  refine wpAny_pure ⟨plainId_quiet F.plain_extend_loop _, codeAny_extend_loopS W hn _ hD _ n 0 _ _ _ rfl (Nat.zero_le _)
    (W.frame 0 s _ s.toks st (Nat.le_refl _) fun b hb o e => oth b o (fun h => hD (h ▸ hb)) e) e₃ (ItemsOf.nil P) fun s' acc' c' mv hS' hacc => ?_⟩
  exact hR s' acc' c' (Moved.trans W.gtrans ((Moved.refl W.grefl).then_heap (Nat.le_refl _) fun b o hb e => oth b o (fun h => hb (h ▸ List.mem_cons_self)) e) mv) hS' hacc
theorem list_of_filt {Q : Value → Shared → Prop} (W : WalksS prog w A.in1.in1 I fp wr Gn n P St) (hT : ∀ i s, St i s → s.TypeIs (.ref I) "filter") (st : St 0 s) (hfp : ∀ b ∈ fp, b < s.heap.objs.size) (hI : I ∈ fp)
    (hQ : ∀ s' acc' c', Moved (s.heap.objs.size :: wr) Gn { s with heap := s.heap.push { cls := .type "list", data := .seq #[] } } s' →
      s'.heap.get? s.heap.objs.size = some { cls := .type "list", dict := none, data := .seq acc' c', slots := #[] } → ItemsOf P acc' n → Q (.ref s.heap.objs.size) s') (hn : n ≤ sizeLine) :
    wpAny (model prog w) A (call (.type "list") [.ref I]) Q E s := by
  have hD : s.heap.objs.size ∉ fp := fun hm => Nat.lt_irrefl _ (hfp _ hm)
  refine callType_codes (Q₁ := fun obj s₁ => obj = .ref s.heap.objs.size ∧ s₁ = { s with heap := s.heap.push { cls := .type "list", data := .seq #[] } }) F.called_list (F.typeCall_list_1 _) F.entry_list_init
    (code_list_new _ ⟨rfl, rfl⟩) fun obj s₁ h₁ => ?_
  obtain ⟨rfl, rfl⟩ := h₁
  have hS : (s.heap.push { cls := .type "list", data := .seq #[] }).get? s.heap.objs.size = some { cls := .type "list", data := .seq #[] } := Heap.get?_push_size _ rfl
  refine ⟨⟨_, hS, rfl⟩, F.args_list_init_2 _ _, ?_⟩
  have st₁ := W.frame 0 s (s.heap.push { cls := .type "list", data := .seq #[] }) s.toks st (Nat.le_refl _) fun b _ o e => Heap.get?_push_of_some _ e
  show wpAny _ A.in1.in1 (do let old ← Builtin.List.listItems (.ref s.heap.objs.size); Builtin.List.listUpdate (.ref s.heap.objs.size) (fun _ => #[]); letGo old.toList.reverse; Builtin.List.listExtendWith (.ref s.heap.objs.size) (.ref I) .none) _ _ _
  refine wpAny_bind ?_
  unfold Builtin.List.listItems
  refine wpAny_bind (wpAny_seqItems hS rfl (wpAny_pure ?_))
  show wpAny _ A.in1.in1 (updateSeq s.heap.objs.size (fun _ => #[]) >>= fun _ => letGo (#[] : Array Value).toList.reverse >>= fun _ => Builtin.List.listExtendWith (.ref s.heap.objs.size) (.ref I) .none) _ _ _
  refine wpAny_bind (wpAny_updateSeq hS rfl ?_)
  have e₂ := Heap.get?_update_self (Obj.mapSeq (fun _ => (#[] : Array Value))) hS rfl
  have oth : ∀ b o, b ≠ s.heap.objs.size → (s.heap.push { cls := .type "list", data := .seq #[] }).get? b = some o → ((s.heap.push { cls := .type "list", data := .seq #[] }).update s.heap.objs.size (Obj.mapSeq (fun _ => (#[] : Array Value)))).get? b = some o :=
    fun b o hb e => (Heap.get?_update_other _ _ (Ne.symm hb)).trans e
  refine wpAny_bind (wpAny_letGo ?_)
  refine extend_filt (s := { s with heap := (s.heap.push { cls := .type "list", data := .seq #[] }).update s.heap.objs.size (Obj.mapSeq (fun _ => (#[] : Array Value))) }) W hT _ (W.frame 0 { s with heap := s.heap.push { cls := .type "list", data := .seq #[] } } _ s.toks st₁ (Nat.le_refl _) fun b hb o e => oth b o (fun h => hD (h ▸ hb)) e) hD hI e₂ (fun s' acc' c' mv hS' hacc => ?_) hn
  exact ⟨rfl, hQ s' acc' c' (Moved.trans W.gtrans ((Moved.refl W.grefl).then_heap (Nat.le_refl _) fun b o hb e => oth b o (fun h => hb (h ▸ List.mem_cons_self)) e) mv) hS' hacc⟩
end
end Mine
end C33

section C34
open PySem PySem.W PyProof.Rows
set_option Elab.async false
set_option linter.unusedVariables false
set_option maxRecDepth 100000
namespace Mine
/-- sets of texts, and what their __contains__ is as a value -/
noncomputable def strIn (ys : List (List Nat)) (y : Str) : Bool := decide (y ∈ ys.map strL)
noncomputable def setX (prog : Program) (w : World) (ys : List (List Nat)) (P : Addr → Prop) (h : Heap) (v : Value) : Prop := ∃ a m, v = .ref a ∧ ¬ P a ∧ h.SetOf (strKind prog w) a (strIn ys) m
noncomputable def conX (prog : Program) (w : World) (ys : List (List Nat)) (P : Addr → Prop) (h : Heap) (v : Value) : Prop := ∃ b a m, v = .ref b ∧ ¬ P b ∧ ¬ P a ∧ h.get? b = some (boundC a) ∧ h.SetOf (strKind prog w) a (strIn ys) m
theorem setOf_pass {prog : Program} {w : World} {P P' : Addr → Prop} {h h' : Heap} {a : Addr} {S : Str → Bool} {m : Nat} (g : Pass P h P' h') (na : ¬ P a) (q : h.SetOf (strKind prog w) a S m) : h'.SetOf (strKind prog w) a S m ∧ ¬ P' a := by
  obtain ⟨o, es, ep, t, ho, rest⟩ := q
  exact ⟨⟨o, es, ep, t, (g a o na ho).1, rest⟩, (g a o na ho).2⟩
/-- kinds 2 and 3 of the extra values -/
noncomputable def extX (prog : Program) (w : World) (X : Ext) : Ext := fun t x P h v => match t with
  | 2 => setX prog w x P h v
  | 3 => conX prog w x P h v
  | t => X t x P h v
theorem extX_ok {prog : Program} {w : World} {X : Ext} (hX : ExtOk X) : ExtOk (extX prog w X) := fun t x P h P' h' v q g => by
  unfold extX at q ⊢
  split at q
  · obtain ⟨a, m, rfl, na, q⟩ := q
    have r := setOf_pass g na q
    exact ⟨a, m, rfl, r.2, r.1⟩
  · obtain ⟨b, a, m, rfl, nb, na, e, q⟩ := q
    have r := setOf_pass g na q
    exact ⟨b, a, m, rfl, (g b _ nb e).2, r.2, (g b _ nb e).1, r.1⟩
  · exact hX _ _ _ _ _ _ _ q g
noncomputable def SetsX (C : Cx) : Prop := ∀ x P h v, (C.X 2 x P h v ↔ setX C.prog C.w x P h v) ∧ (C.X 3 x P h v ↔ conX C.prog C.w x P h v)
theorem strs_are' {X : Ext} {P h} {xs : List (List Nat)} {vs : List Value} (r : RdL X P h vs (xs.map .str)) : StrsAre vs (xs.map strL) := by
  obtain ⟨ys, h1, h2⟩ := strs_are r
  have : xs.map strL = ys := by
    rw [← h2, List.map_map]
    conv => rhs; rw [← List.map_id ys]
    exact List.map_congr_left fun y _ => strL_toList y
  rw [this]; exact h1
section
variable {C : Cx} {k : Nat} {σ : Sto} {K : PV → Sto → Prop}
theorem OpL.setNew {a : PV} {ys : List (List Nat)} (X : SetsX C) (ha : LRead C σ a (ys.map .str)) (hb : ys.length + 1 < 4096) (h : K (.ext 2 ys) σ) : OpL C k σ [a] (fun vs => PySem.call (.type "set") vs) K := fun A P s vs hr H r => by
  obtain ⟨v, rfl, r₁⟩ := r.one
  obtain ⟨l, vs, n, rfl, e, rl⟩ := ha P s v H r₁
  refine with_size (set_of_strs hr.handled (isList_of e) (strs_are' rl) (by rw [List.length_map]; exact hb) fun h' tk m hS k hz => ?_)
  exact ⟨_, σ, h, After.kept H k hz, .ext ((X _ _ _ _).1.mpr ⟨_, m, rfl, H.fresh, hS⟩)⟩
theorem Op1.contains {ys : List (List Nat)} (X : SetsX C) (h : K (.ext 3 ys) σ) : Op1 C k σ (.ext 2 ys) (fun v => getAttr v "__contains__" true) K := fun A P s v hr H r => by
  cases r with | ext q =>
  obtain ⟨a, m, rfl, na, hS⟩ := (X _ _ _ _).1.mp q
  obtain ⟨o, es, ep, tb, ho, hex, hd, rest⟩ := id hS
  obtain ⟨oc, od, odata, osl⟩ := o
  obtain ⟨h1, h2, h3⟩ := id hex
  simp only at h1 h2 hd
  subst h1; subst h2; subst hd
  refine set_bound ho ?_
  have A' := After.push (o := boundC a) (n := s.toks + 1) H
  refine ⟨_, σ, h, A', .ext ((X _ _ _ _).2.mpr ⟨_, a, m, rfl, H.fresh, fun q => ?_, Heap.get?_push_size _ rfl, ⟨_, es, ep, tb, Heap.get?_push_of_some _ ho, hex, rfl, rest⟩⟩)⟩
  exact q.elim na fun q => na (H.pdom a q).1
end
theorem kept_rd {X : Ext} {P h} {ys xs : List (List Nat)} {acc : Array Value} (hi : ItemsOf (Kept (xs.map strL) (strIn ys)) acc ((xs.map strL).filter (strIn ys)).length) : RdL X P h acc.toList ((xs.filter fun x => decide (x ∈ ys)).map .str) := by
  have e0 : (xs.map strL).filter (strIn ys) = (xs.filter fun x => decide (x ∈ ys)).map strL := by
    rw [List.filter_map]
    congr 1
    apply List.filter_congr
    intro x _
    show strIn ys (strL x) = decide (x ∈ ys)
    unfold strIn
    have : strL x ∈ ys.map strL ↔ x ∈ ys := by
      constructor
      · intro q
        obtain ⟨z, hz, e⟩ := List.mem_map.mp q
        have := congrArg (fun s : Str => s.cps.toList) e
        simp [strL] at this
        exact this ▸ hz
      · exact fun q => List.mem_map_of_mem q
    simp [this]
  rw [e0, List.length_map] at hi
  unfold Kept at hi
  rw [e0] at hi
  generalize (xs.filter fun x => decide (x ∈ ys)) = zs at hi
  obtain ⟨hz, hi⟩ := hi
  obtain ⟨acc⟩ := acc
  simp only [List.size_toArray] at hz
  have hi' : ∀ (j : Nat) (v : Value), acc[j]? = some v → ∃ y t, (zs.map strL)[j]? = some y ∧ v = Value.str y t := fun j v e => hi j v (by simpa using e)
  clear hi e0
  show RdL X P h acc _
  induction acc generalizing zs with
  | nil =>
    cases zs with
    | nil => exact .nil
    | cons z zs => cases hz
  | cons v acc ih =>
    cases zs with
    | nil => cases hz
    | cons z zs =>
      obtain ⟨y, t, hy, rfl⟩ := hi' 0 v rfl
      simp at hy
      subst hy
      have : Rd X P h (Value.str (strL z) t) (.str (strL z).cps.toList) := .str _ _
      rw [show (strL z).cps.toList = z by simp [strL]] at this
      exact .cons this (ih zs (by simpa using hz) fun j v e => by simpa using hi' (j + 1) v (by simpa using e))
theorem Ev.listFilter {C : Cx} {k : Nat} {sc ρ σ K fe xe p1 p2 pos1 pos2} {ys xs : List (List Nat)} (X : SetsX C) (bl : C.mg "list" = Option.none ∧ C.mb "list" = some (.type "list")) (bf : C.mg "filter" = Option.none ∧ C.mb "filter" = some (.type "filter"))
    (hk1 : sc.names.lookup (Str.ofString "list") = some NameKind.globalImplicit) (hk2 : sc.names.lookup (Str.ofString "filter") = some NameKind.globalImplicit) (hp : [fe, xe].all plainE = true)
    (h : Ev C k sc ρ σ fe fun f σ₁ => f = .ext 3 ys ∧ Ev C k sc ρ σ₁ xe fun d σ₂ => LRead C σ₂ d (xs.map .str) ∧ xs.length ≤ 10000 ∧ K (.list ((xs.filter fun x => decide (x ∈ ys)).map .str)) σ₂) :
    Ev C k sc ρ σ (.Call (.Name "list" p1) [.Call (.Name "filter" p2) [fe, xe] [] pos2] [] pos1) K := fun A P env s he hr I => by
  have E1 : Ev C k sc ρ σ (.Name "list" p1) fun d σ' => d = .raw (.type "list") ∧ σ' = σ := Ev.builtin hk1 bl.1 bl.2 ⟨rfl, rfl⟩
  have E2 : Ev C k sc ρ σ (.Name "filter" p2) fun d σ' => d = .raw (.type "filter") ∧ σ' = σ := Ev.builtin hk2 bf.1 bf.2 ⟨rfl, rfl⟩
  refine Call_ (ev_one E1 he hr I fun v d σ₁ s₁ hK A₁ r => ?_) rfl
  obtain ⟨rfl, rfl⟩ := hK
  cases r with | raw =>
  have I₁ := I.after A₁
  refine wp_seq A₁ I.hp ?_
  refine callWith_of (P := C.gi) rfl (fun h' g => let ⟨k, a, b⟩ := (Callable.type (C := C) (T := "list")) h' g; ⟨k, a, b _⟩) (evalArgs_of rfl ?_)
  refine Calls.spliced_cons ?_
  refine Call_ (ev_one E2 he hr I₁ fun v₂ d₂ σ₂ s₂ hK₂ A₂ r₂ => ?_) rfl
  obtain ⟨rfl, rfl⟩ := hK₂
  cases r₂ with | raw =>
  have A12 := A₂
  have I₂ := I₁.after A₂
  refine callWith_of (P := C.gi) (by rw [plain_trees hp]; rfl) (fun h' g => let ⟨k, a, b⟩ := (Callable.type (C := C) (T := "filter")) h' g; ⟨k, a, b _⟩) (evalArgs_of (plain_trees hp) ?_)
  have hL : EvL C k sc ρ σ₂ [fe, xe] fun ds σ₃ => ∃ d, ds = [.ext 3 ys, d] ∧ LRead C σ₃ d (xs.map .str) ∧ xs.length ≤ 10000 ∧ K (.list ((xs.filter fun x => decide (x ∈ ys)).map .str)) σ₃ :=
    Ev.mono h fun f σ₁ ⟨e, q⟩ => Ev.mono q fun d σ₂ q => ⟨d, by rw [e], q⟩
  refine wpAny_mono (evL_spliced he hr hL hp I₂) (fun vs s₃ o => ?_) fun _ _ x => x
  obtain ⟨ds, σ₃, ⟨d, rfl, hl, hn, hK⟩, A₃, r₃⟩ := o
  obtain ⟨vf, vx, rfl, rf, rx⟩ := r₃.two
  cases rf with | ext q =>
  obtain ⟨b, D, m, rfl, nb, nD, hb, hS⟩ := (X _ _ _ _).2.mp q
  obtain ⟨l, vs, n, rfl, e, rl⟩ := hl _ s₃ vx A₃.hp rx
  refine ⟨A₃.hp.gi, ?_⟩
  refine call_filter (isList_of e) ?_
  have hlt : ∀ {c o}, s₃.heap.get? c = some o → c < s₃.heap.objs.size := fun e => Heap.lt_size e
  have hDlt : D < s₃.heap.objs.size := by obtain ⟨o, es, ep, t, ho, _⟩ := hS; exact hlt ho
  have k2 : ∀ c o, s₃.heap.get? c = some o → ((s₃.heap.push (litO l)).push (filtO b s₃.heap.objs.size)).get? c = some o := fun c o e => Heap.get?_push_of_some _ (Heap.get?_push_of_some _ e)
  have z2 : ((s₃.heap.push (litO l)).push (filtO b s₃.heap.objs.size)).objs.size = s₃.heap.objs.size + 2 := by rw [Heap.size_push, Heap.size_push]
  have e1 : (s₃.heap.push (litO l)).objs.size = s₃.heap.objs.size + 1 := Heap.size_push ..
  refine Calls.spliced_nil ?_
  have A₄ : After C (PP (PP P σ₂) σ₂) σ₂ s₂ σ₃ { s₃ with heap := (s₃.heap.push (litO l)).push (filtO b s₃.heap.objs.size) } := A₃.trans I₂.hp (After.kept A₃.hp k2 (by show s₃.heap.objs.size ≤ _; rw [z2]; lia))
  refine ⟨A₄.hp.gi, ?_⟩
  have Z : FiltApart (s₃.heap.objs.size + 1) s₃.heap.objs.size l b D := ⟨by unfold Addr at *; lia, (Nat.ne_of_gt (hlt e)), (Nat.ne_of_gt (hlt hb)), Nat.ne_of_gt hDlt⟩
  have hi := strs_are' rl
  have hz : vs.size = (xs.map strL).length := by rw [← hi.length, Array.length_toList]
  have hval : ∀ (i : Nat) (v : Value), vs[i]? = some v → ∃ y t, (xs.map strL)[i]? = some y ∧ v = .str y t := fun i v hv => by
    have : vs.toList[i]? = some v := by simpa using hv
    clear hz hv rl e hl
    generalize vs.toList = us at hi this
    generalize xs.map strL = zs at hi
    induction hi generalizing i with
    | nil => cases this
    | cons y t r ih =>
      cases i with
      | zero => exact ⟨y, t, rfl, by simpa using this.symm⟩
      | succ i => exact ih i (by simpa using this)
  have W := filt_walks (prog := C.prog) (w := C.w) (A := A.in1.in1) (F := s₃.heap.objs.size + 1) (it := s₃.heap.objs.size) (l := l) (b := b) (D := D) (items := vs) (ys := xs.map strL) (S := strIn ys) (m := m) hr.handled Z hval hz
  have st : FSt C.prog C.w (s₃.heap.objs.size + 1) s₃.heap.objs.size l b D vs (xs.map strL) (strIn ys) m 0 { s₃ with heap := (s₃.heap.push (litO l)).push (filtO b s₃.heap.objs.size) } := by
    refine ⟨0, Nat.zero_le _, ⟨?_, ⟨_, Heap.get?_push_of_some _ (Heap.get?_push_size _ rfl), rfl, rfl⟩, (isList_of (k2 _ _ e)), k2 _ _ hb, ?_⟩, by simp⟩
    · have : ((s₃.heap.push (litO l)).push (filtO b s₃.heap.objs.size)).get? (s₃.heap.push (litO l)).objs.size = some (filtO b s₃.heap.objs.size) := Heap.get?_push_size _ rfl
      rw [e1] at this; exact this
    · obtain ⟨o, es, ep, t, ho, rest⟩ := hS; exact ⟨o, es, ep, t, k2 _ _ ho, rest⟩
  have hfl : ((xs.map strL).filter (strIn ys)).length ≤ sizeLine := by
    have := List.length_filter_le (strIn ys) (xs.map strL)
    rw [List.length_map] at this
    simp [sizeLine]; lia
  refine with_size (list_of_filt W (fun i s ⟨j, _, q, _⟩ => q.type) st (fun c hc => ?_) (by simp) (fun s' acc c' mv hl' hit hzz => ?_) hfl)
  · show c < ((s₃.heap.push (litO l)).push (filtO b s₃.heap.objs.size)).objs.size
    rw [z2]
    have := hlt e; have := hlt hb
    simp only [List.mem_cons, List.not_mem_nil, or_false] at hc
    unfold Addr at *
    rcases hc with rfl | rfl | rfl | rfl | rfl <;> lia
  · obtain ⟨h', g', d', tk', os'⟩ := s'
    have eg : g' = s₃.gens := mv.gens
    have ed : d' = s₃.drawn := mv.drawn
    have eo : os' = s₃.os := mv.os
    subst eg; subst ed; subst eo
    have kk : ∀ c o, s₃.heap.get? c = some o → h'.get? c = some o := fun c o ec => mv.heap c o (by
      have := hlt ec
      simp only [List.mem_cons, List.not_mem_nil, or_false, not_or]
      show ¬ c = ((s₃.heap.push (litO l)).push (filtO b s₃.heap.objs.size)).objs.size ∧ _
      rw [z2]; unfold Addr at *; lia) (Heap.get?_push_of_some _ (k2 c o ec))
    have hszz : hsz s₃ ≤ h'.objs.size := by
      refine Nat.le_trans ?_ hzz
      show s₃.heap.objs.size ≤ ((s₃.heap.push (litO l)).push (filtO b s₃.heap.objs.size)).objs.size
      rw [z2]; lia
    have A₅ : After C (PP (PP P σ₂) σ₂) σ₂ s₂ σ₃ { s₃ with heap := h', toks := tk' } := A₃.trans I₂.hp (After.kept A₃.hp kk hszz)
    refine Out.seq A₂ I₁.hp ⟨_, σ₃, hK, A₅, .list (fun q => ?_) hl' (kept_rd hit)⟩
    have : ¬ PP (PP (PP P σ₂) σ₂) σ₃ s₃.heap.objs.size := fun q => Nat.lt_irrefl _ (A₃.hp.plt _ q)
    have lt2 := A₃.hp.plt _ q
    have : s₃.heap.objs.size + 2 < s₃.heap.objs.size := z2 ▸ lt2
    lia
end Mine
end C34

section P3
open PySem PySem.W PyProof.Rows
set_option Elab.async false
set_option linter.unusedVariables false
set_option maxRecDepth 100000
namespace Mine
noncomputable abbrev PR : Program := PySem.Challenge.pw_rs0172_03
noncomputable def stAt (i : Nat) : Stmt := PR.main.body.getD i (.Pass default)
noncomputable def fArgs : Stmt → Arguments | .FunctionDef _ a .. => a | _ => ⟨[], [], none, [], [], none, []⟩
noncomputable def fBody : Stmt → List Stmt | .FunctionDef _ _ b .. => b | _ => []
noncomputable def fScope : Stmt → Scope | .FunctionDef _ _ _ _ _ _ s .. => s | _ => default
noncomputable def inCls : Stmt → Nat → Stmt | .ClassDef _ _ _ b .., i => b.getD i (.Pass default) | s, _ => s
noncomputable abbrev sInit : Stmt := inCls (stAt 2) 0
noncomputable abbrev sApplies : Stmt := inCls (stAt 2) 2
noncomputable abbrev sAllow : Stmt := inCls (stAt 2) 3
noncomputable abbrev sMerge : Stmt := stAt 3
noncomputable abbrev sB1 : Stmt := stAt 6
noncomputable abbrev sB3 : Stmt := stAt 8
end Mine
end P3

section H3
open PySem PySem.W PyProof.Rows
set_option Elab.async false
set_option maxRecDepth 1000000
namespace Mine
noncomputable section

/-! # the head of rs0172_03 -/
noncomputable def o11a (P : Params) : Obj := ⟨(.type "tuple"), none, (.seq ⟨[]⟩ 0), ⟨[]⟩⟩
noncomputable def o12a (P : Params) : Obj := ⟨.none, none, (.fields ⟨[]⟩), ⟨[]⟩⟩
noncomputable def o13a (P : Params) : Obj := ⟨(.type "code"), none, (.fields ⟨[(.str (Str.ofString "<module>") 182), (.str (Str.ofString "<module>") 183), (.str (Str.ofString "/claim/cut.py") 184), (.int (1) 0), (.int (0) 0), (.int (0) 0), (.int (0) 0), (.int (0) 0), (.ref 11), (.bool false), (.int (181) 0), (.ref 12), .none, .none, .none, .none, (.int (185) 0), (.int (1) 0), (.str (Str.ofString "/claim/cut.py") 186)]⟩), ⟨[]⟩⟩
noncomputable def o14a (P : Params) : Obj := ⟨(.type "frame"), none, .plain, ⟨[(some (.ref 13)), (some (.ref 3)), (some (.ref 3)), none, (some (.str (Str.ofString "__main__") 164)), none, (some (.ref 0))]⟩⟩
noncomputable def hpPre (P : Params) : Heap := ⟨⟨[boot_o_0 P, boot_o_1 P, boot_o_2 P, boot_o_3 P, boot_o_4 P, boot_o_5 P, boot_o_6 P, boot_o_7 P, boot_o_8 P, boot_o_9 P, boot_o_10 P, o11a P, o12a P, o13a P, o14a P]⟩, {}⟩
noncomputable def o3b (P : Params) : Obj := ⟨(.type "dict"), none, (.dict ⟨[⟨(PyData.keyHash P (Str.ofString "__name__")), (.str (Str.ofString "__name__") 165), (.str (Str.ofString "cpy313.stringprep") 263)⟩, ⟨(PyData.keyHash P (Str.ofString "__doc__")), (.str (Str.ofString "__doc__") 166), .none⟩, ⟨(PyData.keyHash P (Str.ofString "__package__")), (.str (Str.ofString "__package__") 167), .none⟩, ⟨(PyData.keyHash P (Str.ofString "__loader__")), (.str (Str.ofString "__loader__") 168), (.builtin "__main__.__loader__#opaque")⟩, ⟨(PyData.keyHash P (Str.ofString "__spec__")), (.str (Str.ofString "__spec__") 169), .none⟩, ⟨(PyData.keyHash P (Str.ofString "__annotations__")), (.str (Str.ofString "__annotations__") 170), (.ref 6)⟩, ⟨(PyData.keyHash P (Str.ofString "__builtins__")), (.str (Str.ofString "__builtins__") 171), (.ref 4)⟩, ⟨(PyData.keyHash P (Str.ofString "__file__")), (.str (Str.ofString "__file__") 173), (.str (Str.ofString "/claim/cut.py") 172)⟩, ⟨(PyData.keyHash P (Str.ofString "__cached__")), (.str (Str.ofString "__cached__") 174), .none⟩, ⟨(PyData.keyHash P (Str.ofString "_wall")), (.str (Str.ofString "_wall") 193), (.ref 21)⟩, ⟨(PyData.keyHash P (Str.ofString "Entry")), (.str (Str.ofString "Entry") 253), (.ref 59)⟩, ⟨(PyData.keyHash P (Str.ofString "merge_entries")), (.str (Str.ofString "merge_entries") 262), (.ref 70)⟩]⟩ 12), ⟨[]⟩⟩
noncomputable def o12b (P : Params) : Obj := ⟨.none, none, (.fields ⟨[(.int (1) 0), (.int (0) 0), (.ref 20), (.int (5) 0), (.int (0) 0), (.ref 27), (.int (43) 0), (.int (0) 0), (.ref 69)]⟩), ⟨[]⟩⟩
noncomputable def o15b (P : Params) : Obj := ⟨(.type "tuple"), none, (.seq ⟨[]⟩ 0), ⟨[]⟩⟩
noncomputable def o16b (P : Params) : Obj := ⟨.none, none, (.fields ⟨[]⟩), ⟨[]⟩⟩
noncomputable def o17b (P : Params) : Obj := ⟨(.type "tuple"), none, (.seq ⟨[(.str (Str.ofString "k") 190)]⟩ 0), ⟨[]⟩⟩
noncomputable def o18b (P : Params) : Obj := ⟨(.type "tuple"), none, (.seq ⟨[]⟩ 0), ⟨[]⟩⟩
noncomputable def o19b (P : Params) : Obj := ⟨.none, none, (.func { name := (Str.ofString "_wall"), qualname := (Str.ofString "_wall"), params := fArgs (stAt 0), body := .stmts (fBody (stAt 0)), scope := fScope (stAt 0), globals := 0, closure := [], defaults := .none, kwdefaults := .none, doc := .none, pyModule := .none, annotations := none, code := .none, closureTuple := .none, builtins := 0 }), ⟨[]⟩⟩
noncomputable def o20b (P : Params) : Obj := ⟨(.type "code"), none, (.fields ⟨[(.str (Str.ofString "_wall") 187), (.str (Str.ofString "_wall") 188), (.str (Str.ofString "/claim/cut.py") 189), (.int (1) 0), (.int (1) 0), (.int (0) 0), (.int (0) 0), (.int (3) 0), (.ref 15), (.bool true), (.int (181) 0), (.ref 16), .none, (.ref 17), (.ref 18), (.ref 19), (.int (191) 0), (.int (1) 0), (.str (Str.ofString "/claim/cut.py") 192)]⟩), ⟨[]⟩⟩
noncomputable def o21b (P : Params) : Obj := ⟨(.type "function"), none, (.func { name := (Str.ofString "_wall"), qualname := (Str.ofString "_wall"), params := fArgs (stAt 0), body := .stmts (fBody (stAt 0)), scope := fScope (stAt 0), globals := 3, closure := [], defaults := .none, kwdefaults := .none, doc := .none, pyModule := (.str (Str.ofString "__main__") 164), annotations := none, code := (.ref 20), closureTuple := .none, builtins := 0 }), ⟨[]⟩⟩
noncomputable def o22b (P : Params) : Obj := ⟨(.type "tuple"), none, (.seq ⟨[]⟩ 0), ⟨[]⟩⟩
noncomputable def o23b (P : Params) : Obj := ⟨(.type "builtin_function_or_method"), none, (.fields ⟨[(.builtin "type.__prepare__"), (.type "type")]⟩), ⟨[]⟩⟩
noncomputable def o24b (P : Params) : Obj := ⟨(.type "dict"), none, (.dict ⟨[⟨(PyData.keyHash P (Str.ofString "__module__")), (.str (Str.ofString "__module__") 203), (.str (Str.ofString "cpy313.urllib.robotparser") 194)⟩, ⟨(PyData.keyHash P (Str.ofString "__qualname__")), (.str (Str.ofString "__qualname__") 205), (.str (Str.ofString "Entry") 204)⟩, ⟨(PyData.keyHash P (Str.ofString "__firstlineno__")), (.str (Str.ofString "__firstlineno__") 207), (.int (5) 206)⟩, ⟨(PyData.keyHash P (Str.ofString "__init__")), (.str (Str.ofString "__init__") 214), (.ref 35)⟩, ⟨(PyData.keyHash P (Str.ofString "__str__")), (.str (Str.ofString "__str__") 224), (.ref 42)⟩, ⟨(PyData.keyHash P (Str.ofString "applies_to")), (.str (Str.ofString "applies_to") 233), (.ref 49)⟩, ⟨(PyData.keyHash P (Str.ofString "allowance")), (.str (Str.ofString "allowance") 241), (.ref 56)⟩, ⟨(PyData.keyHash P (Str.ofString "__static_attributes__")), (.str (Str.ofString "__static_attributes__") 246), (.ref 57)⟩]⟩ 8), ⟨[]⟩⟩
noncomputable def o25b (P : Params) : Obj := ⟨(.type "tuple"), none, (.seq ⟨[]⟩ 0), ⟨[]⟩⟩
noncomputable def o26b (P : Params) : Obj := ⟨.none, none, (.fields ⟨[(.int (7) 0), (.int (4) 0), (.ref 34), (.int (13) 0), (.int (4) 0), (.ref 41), (.int (30) 0), (.int (4) 0), (.ref 48), (.int (41) 0), (.int (4) 0), (.ref 55)]⟩), ⟨[]⟩⟩
noncomputable def o27b (P : Params) : Obj := ⟨(.type "code"), none, (.fields ⟨[(.str (Str.ofString "Entry") 198), (.str (Str.ofString "Entry") 199), (.str (Str.ofString "/claim/cut.py") 200), (.int (5) 0), (.int (0) 0), (.int (0) 0), (.int (0) 0), (.int (0) 0), (.ref 25), (.bool false), (.int (181) 0), (.ref 26), .none, .none, .none, .none, (.int (201) 0), (.int (5) 0), (.str (Str.ofString "/claim/cut.py") 202)]⟩), ⟨[]⟩⟩
noncomputable def o28b (P : Params) : Obj := ⟨(.type "frame"), none, .plain, ⟨[(some (.ref 27)), (some (.ref 3)), (some (.ref 24)), none, (some (.str (Str.ofString "cpy313.urllib.robotparser") 194)), none, (some (.ref 0))]⟩⟩
noncomputable def o29b (P : Params) : Obj := ⟨(.type "tuple"), none, (.seq ⟨[]⟩ 0), ⟨[]⟩⟩
noncomputable def o30b (P : Params) : Obj := ⟨.none, none, (.fields ⟨[]⟩), ⟨[]⟩⟩
noncomputable def o31b (P : Params) : Obj := ⟨(.type "tuple"), none, (.seq ⟨[(.str (Str.ofString "self") 211)]⟩ 0), ⟨[]⟩⟩
noncomputable def o32b (P : Params) : Obj := ⟨(.type "tuple"), none, (.seq ⟨[]⟩ 0), ⟨[]⟩⟩
noncomputable def o33b (P : Params) : Obj := ⟨.none, none, (.func { name := (Str.ofString "__init__"), qualname := (Str.ofString "Entry.__init__"), params := fArgs (inCls (stAt 2) 0), body := .stmts (fBody (inCls (stAt 2) 0)), scope := fScope (inCls (stAt 2) 0), globals := 0, closure := [], defaults := .none, kwdefaults := .none, doc := .none, pyModule := .none, annotations := none, code := .none, closureTuple := .none, builtins := 0 }), ⟨[]⟩⟩
noncomputable def o34b (P : Params) : Obj := ⟨(.type "code"), none, (.fields ⟨[(.str (Str.ofString "__init__") 208), (.str (Str.ofString "Entry.__init__") 209), (.str (Str.ofString "/claim/cut.py") 210), (.int (7) 0), (.int (1) 0), (.int (0) 0), (.int (0) 0), (.int (3) 0), (.ref 29), (.bool true), (.int (181) 0), (.ref 30), .none, (.ref 31), (.ref 32), (.ref 33), (.int (212) 0), (.int (7) 0), (.str (Str.ofString "/claim/cut.py") 213)]⟩), ⟨[]⟩⟩
noncomputable def o35b (P : Params) : Obj := ⟨(.type "function"), none, (.func { name := (Str.ofString "__init__"), qualname := (Str.ofString "Entry.__init__"), params := fArgs (inCls (stAt 2) 0), body := .stmts (fBody (inCls (stAt 2) 0)), scope := fScope (inCls (stAt 2) 0), globals := 3, closure := [], defaults := .none, kwdefaults := .none, doc := .none, pyModule := (.str (Str.ofString "cpy313.urllib.robotparser") 194), annotations := none, code := (.ref 34), closureTuple := .none, builtins := 0 }), ⟨[]⟩⟩
noncomputable def o36b (P : Params) : Obj := ⟨(.type "tuple"), none, (.seq ⟨[]⟩ 0), ⟨[]⟩⟩
noncomputable def o37b (P : Params) : Obj := ⟨.none, none, (.fields ⟨[]⟩), ⟨[]⟩⟩
noncomputable def o38b (P : Params) : Obj := ⟨(.type "tuple"), none, (.seq ⟨[(.str (Str.ofString "self") 218), (.str (Str.ofString "ret") 219), (.str (Str.ofString "agent") 220), (.str (Str.ofString "rate") 221)]⟩ 0), ⟨[]⟩⟩
noncomputable def o39b (P : Params) : Obj := ⟨(.type "tuple"), none, (.seq ⟨[]⟩ 0), ⟨[]⟩⟩
noncomputable def o40b (P : Params) : Obj := ⟨.none, none, (.func { name := (Str.ofString "__str__"), qualname := (Str.ofString "Entry.__str__"), params := fArgs (inCls (stAt 2) 1), body := .stmts (fBody (inCls (stAt 2) 1)), scope := fScope (inCls (stAt 2) 1), globals := 0, closure := [], defaults := .none, kwdefaults := .none, doc := .none, pyModule := .none, annotations := none, code := .none, closureTuple := .none, builtins := 0 }), ⟨[]⟩⟩
noncomputable def o41b (P : Params) : Obj := ⟨(.type "code"), none, (.fields ⟨[(.str (Str.ofString "__str__") 215), (.str (Str.ofString "Entry.__str__") 216), (.str (Str.ofString "/claim/cut.py") 217), (.int (13) 0), (.int (1) 0), (.int (0) 0), (.int (0) 0), (.int (3) 0), (.ref 36), (.bool true), (.int (181) 0), (.ref 37), .none, (.ref 38), (.ref 39), (.ref 40), (.int (222) 0), (.int (13) 0), (.str (Str.ofString "/claim/cut.py") 223)]⟩), ⟨[]⟩⟩
noncomputable def o42b (P : Params) : Obj := ⟨(.type "function"), none, (.func { name := (Str.ofString "__str__"), qualname := (Str.ofString "Entry.__str__"), params := fArgs (inCls (stAt 2) 1), body := .stmts (fBody (inCls (stAt 2) 1)), scope := fScope (inCls (stAt 2) 1), globals := 3, closure := [], defaults := .none, kwdefaults := .none, doc := .none, pyModule := (.str (Str.ofString "cpy313.urllib.robotparser") 194), annotations := none, code := (.ref 41), closureTuple := .none, builtins := 0 }), ⟨[]⟩⟩
noncomputable def o43b (P : Params) : Obj := ⟨(.type "tuple"), none, (.seq ⟨[]⟩ 0), ⟨[]⟩⟩
noncomputable def o44b (P : Params) : Obj := ⟨.none, none, (.fields ⟨[]⟩), ⟨[]⟩⟩
noncomputable def o45b (P : Params) : Obj := ⟨(.type "tuple"), none, (.seq ⟨[(.str (Str.ofString "self") 228), (.str (Str.ofString "useragent") 229), (.str (Str.ofString "agent") 230)]⟩ 0), ⟨[]⟩⟩
noncomputable def o46b (P : Params) : Obj := ⟨(.type "tuple"), none, (.seq ⟨[]⟩ 0), ⟨[]⟩⟩
noncomputable def o47b (P : Params) : Obj := ⟨.none, none, (.func { name := (Str.ofString "applies_to"), qualname := (Str.ofString "Entry.applies_to"), params := fArgs (inCls (stAt 2) 2), body := .stmts (fBody (inCls (stAt 2) 2)), scope := fScope (inCls (stAt 2) 2), globals := 0, closure := [], defaults := .none, kwdefaults := .none, doc := .none, pyModule := .none, annotations := none, code := .none, closureTuple := .none, builtins := 0 }), ⟨[]⟩⟩
noncomputable def o48b (P : Params) : Obj := ⟨(.type "code"), none, (.fields ⟨[(.str (Str.ofString "applies_to") 225), (.str (Str.ofString "Entry.applies_to") 226), (.str (Str.ofString "/claim/cut.py") 227), (.int (30) 0), (.int (2) 0), (.int (0) 0), (.int (0) 0), (.int (3) 0), (.ref 43), (.bool true), (.int (181) 0), (.ref 44), .none, (.ref 45), (.ref 46), (.ref 47), (.int (231) 0), (.int (30) 0), (.str (Str.ofString "/claim/cut.py") 232)]⟩), ⟨[]⟩⟩
noncomputable def o49b (P : Params) : Obj := ⟨(.type "function"), none, (.func { name := (Str.ofString "applies_to"), qualname := (Str.ofString "Entry.applies_to"), params := fArgs (inCls (stAt 2) 2), body := .stmts (fBody (inCls (stAt 2) 2)), scope := fScope (inCls (stAt 2) 2), globals := 3, closure := [], defaults := .none, kwdefaults := .none, doc := .none, pyModule := (.str (Str.ofString "cpy313.urllib.robotparser") 194), annotations := none, code := (.ref 48), closureTuple := .none, builtins := 0 }), ⟨[]⟩⟩
noncomputable def o50b (P : Params) : Obj := ⟨(.type "tuple"), none, (.seq ⟨[]⟩ 0), ⟨[]⟩⟩
noncomputable def o51b (P : Params) : Obj := ⟨.none, none, (.fields ⟨[]⟩), ⟨[]⟩⟩
noncomputable def o52b (P : Params) : Obj := ⟨(.type "tuple"), none, (.seq ⟨[(.str (Str.ofString "self") 237), (.str (Str.ofString "filename") 238)]⟩ 0), ⟨[]⟩⟩
noncomputable def o53b (P : Params) : Obj := ⟨(.type "tuple"), none, (.seq ⟨[]⟩ 0), ⟨[]⟩⟩
noncomputable def o54b (P : Params) : Obj := ⟨.none, none, (.func { name := (Str.ofString "allowance"), qualname := (Str.ofString "Entry.allowance"), params := fArgs (inCls (stAt 2) 3), body := .stmts (fBody (inCls (stAt 2) 3)), scope := fScope (inCls (stAt 2) 3), globals := 0, closure := [], defaults := .none, kwdefaults := .none, doc := .none, pyModule := .none, annotations := none, code := .none, closureTuple := .none, builtins := 0 }), ⟨[]⟩⟩
noncomputable def o55b (P : Params) : Obj := ⟨(.type "code"), none, (.fields ⟨[(.str (Str.ofString "allowance") 234), (.str (Str.ofString "Entry.allowance") 235), (.str (Str.ofString "/claim/cut.py") 236), (.int (41) 0), (.int (2) 0), (.int (0) 0), (.int (0) 0), (.int (3) 0), (.ref 50), (.bool true), (.int (181) 0), (.ref 51), .none, (.ref 52), (.ref 53), (.ref 54), (.int (239) 0), (.int (41) 0), (.str (Str.ofString "/claim/cut.py") 240)]⟩), ⟨[]⟩⟩
noncomputable def o56b (P : Params) : Obj := ⟨(.type "function"), none, (.func { name := (Str.ofString "allowance"), qualname := (Str.ofString "Entry.allowance"), params := fArgs (inCls (stAt 2) 3), body := .stmts (fBody (inCls (stAt 2) 3)), scope := fScope (inCls (stAt 2) 3), globals := 3, closure := [], defaults := .none, kwdefaults := .none, doc := .none, pyModule := (.str (Str.ofString "cpy313.urllib.robotparser") 194), annotations := none, code := (.ref 55), closureTuple := .none, builtins := 0 }), ⟨[]⟩⟩
noncomputable def o57b (P : Params) : Obj := ⟨(.type "tuple"), none, (.seq ⟨[(.str (Str.ofString "delay") 242), (.str (Str.ofString "req_rate") 243), (.str (Str.ofString "rulelines") 244), (.str (Str.ofString "useragents") 245)]⟩ 0), ⟨[]⟩⟩
noncomputable def o58b (P : Params) : Obj := ⟨(.type "dict"), none, (.dict ⟨[⟨(PyData.keyHash P (Str.ofString "__module__")), (.str (Str.ofString "__module__") 203), (.str (Str.ofString "cpy313.urllib.robotparser") 194)⟩, ⟨(PyData.keyHash P (Str.ofString "__firstlineno__")), (.str (Str.ofString "__firstlineno__") 207), (.int (5) 206)⟩, ⟨(PyData.keyHash P (Str.ofString "__init__")), (.str (Str.ofString "__init__") 214), (.ref 35)⟩, ⟨(PyData.keyHash P (Str.ofString "__str__")), (.str (Str.ofString "__str__") 224), (.ref 42)⟩, ⟨(PyData.keyHash P (Str.ofString "applies_to")), (.str (Str.ofString "applies_to") 233), (.ref 49)⟩, ⟨(PyData.keyHash P (Str.ofString "allowance")), (.str (Str.ofString "allowance") 241), (.ref 56)⟩, ⟨(PyData.keyHash P (Str.ofString "__static_attributes__")), (.str (Str.ofString "__static_attributes__") 246), (.ref 57)⟩, ⟨(PyData.keyHash P (Str.ofString "__dict__")), (.str (Str.ofString "__dict__") 248), (.ref 60)⟩, ⟨(PyData.keyHash P (Str.ofString "__weakref__")), (.str (Str.ofString "__weakref__") 250), (.ref 61)⟩, ⟨(PyData.keyHash P (Str.ofString "__doc__")), (.str (Str.ofString "__doc__") 251), .none⟩]⟩ 4), ⟨[]⟩⟩
noncomputable def o59b (P : Params) : Obj := ⟨(.type "type"), none, (.cls { name := (Str.ofString "Entry"), bases := [(.type "object")], mro := [(.ref 59), (.type "object")], ns := 58, qualname := (Str.ofString "Entry"), hasDict := true, slotNames := [], subclasses := [], abstract := false, collection := none, hasDel := false }), ⟨[none, none, (some (.str (Str.ofString "Entry") 196)), (some (.str (Str.ofString "Entry") 204)), (some (.builtin "object.__new__")), (some (.bool true))]⟩⟩
noncomputable def o60b (P : Params) : Obj := ⟨(.type "getset_descriptor"), none, (.fields ⟨[(.str (Str.ofString "__dict__") 247), (.ref 59), (.builtin "function.__dict__"), (.builtin "function.__dict__#set")]⟩), ⟨[]⟩⟩
noncomputable def o61b (P : Params) : Obj := ⟨(.type "getset_descriptor"), none, (.fields ⟨[(.str (Str.ofString "__weakref__") 249), (.ref 59), (.builtin "ExceptionGroup.__weakref__"), .none]⟩), ⟨[]⟩⟩
noncomputable def o62b (P : Params) : Obj := ⟨(.type "super"), none, (.fields ⟨[(.ref 59), (.ref 59), (.ref 59)]⟩), ⟨[]⟩⟩
noncomputable def o63b (P : Params) : Obj := ⟨(.type "builtin_function_or_method"), none, (.fields ⟨[(.builtin "object.__init_subclass__"), (.ref 59)]⟩), ⟨[]⟩⟩
noncomputable def o64b (P : Params) : Obj := ⟨(.type "tuple"), none, (.seq ⟨[]⟩ 0), ⟨[]⟩⟩
noncomputable def o65b (P : Params) : Obj := ⟨.none, none, (.fields ⟨[]⟩), ⟨[]⟩⟩
noncomputable def o66b (P : Params) : Obj := ⟨(.type "tuple"), none, (.seq ⟨[(.str (Str.ofString "e1") 257), (.str (Str.ofString "e2") 258), (.str (Str.ofString "entry") 259)]⟩ 0), ⟨[]⟩⟩
noncomputable def o67b (P : Params) : Obj := ⟨(.type "tuple"), none, (.seq ⟨[]⟩ 0), ⟨[]⟩⟩
noncomputable def o68b (P : Params) : Obj := ⟨.none, none, (.func { name := (Str.ofString "merge_entries"), qualname := (Str.ofString "merge_entries"), params := fArgs (stAt 3), body := .stmts (fBody (stAt 3)), scope := fScope (stAt 3), globals := 0, closure := [], defaults := .none, kwdefaults := .none, doc := .none, pyModule := .none, annotations := none, code := .none, closureTuple := .none, builtins := 0 }), ⟨[]⟩⟩
noncomputable def o69b (P : Params) : Obj := ⟨(.type "code"), none, (.fields ⟨[(.str (Str.ofString "merge_entries") 254), (.str (Str.ofString "merge_entries") 255), (.str (Str.ofString "/claim/cut.py") 256), (.int (43) 0), (.int (2) 0), (.int (0) 0), (.int (0) 0), (.int (3) 0), (.ref 64), (.bool true), (.int (181) 0), (.ref 65), .none, (.ref 66), (.ref 67), (.ref 68), (.int (260) 0), (.int (43) 0), (.str (Str.ofString "/claim/cut.py") 261)]⟩), ⟨[]⟩⟩
noncomputable def o70b (P : Params) : Obj := ⟨(.type "function"), none, (.func { name := (Str.ofString "merge_entries"), qualname := (Str.ofString "merge_entries"), params := fArgs (stAt 3), body := .stmts (fBody (stAt 3)), scope := fScope (stAt 3), globals := 3, closure := [], defaults := .none, kwdefaults := .none, doc := .none, pyModule := (.str (Str.ofString "cpy313.urllib.robotparser") 194), annotations := none, code := (.ref 69), closureTuple := .none, builtins := 0 }), ⟨[]⟩⟩
noncomputable def hpB (P : Params) : Heap := ⟨⟨[boot_o_0 P, boot_o_1 P, boot_o_2 P, o3b P, boot_o_4 P, boot_o_5 P, boot_o_6 P, boot_o_7 P, boot_o_8 P, boot_o_9 P, boot_o_10 P, o11a P, o12b P, o13a P, o14a P, o15b P, o16b P, o17b P, o18b P, o19b P, o20b P, o21b P, o22b P, o23b P, o24b P, o25b P, o26b P, o27b P, o28b P, o29b P, o30b P, o31b P, o32b P, o33b P, o34b P, o35b P, o36b P, o37b P, o38b P, o39b P, o40b P, o41b P, o42b P, o43b P, o44b P, o45b P, o46b P, o47b P, o48b P, o49b P, o50b P, o51b P, o52b P, o53b P, o54b P, o55b P, o56b P, o57b P, o58b P, o59b P, o60b P, o61b P, o62b P, o63b P, o64b P, o65b P, o66b P, o67b P, o68b P, o69b P, o70b P]⟩, {}⟩
noncomputable def o3c (P : Params) : Obj := ⟨(.type "dict"), none, (.dict ⟨[⟨(PyData.keyHash P (Str.ofString "__name__")), (.str (Str.ofString "__name__") 165), (.str (Str.ofString "cpy313.stringprep") 263)⟩, ⟨(PyData.keyHash P (Str.ofString "__doc__")), (.str (Str.ofString "__doc__") 166), .none⟩, ⟨(PyData.keyHash P (Str.ofString "__package__")), (.str (Str.ofString "__package__") 167), .none⟩, ⟨(PyData.keyHash P (Str.ofString "__loader__")), (.str (Str.ofString "__loader__") 168), (.builtin "__main__.__loader__#opaque")⟩, ⟨(PyData.keyHash P (Str.ofString "__spec__")), (.str (Str.ofString "__spec__") 169), .none⟩, ⟨(PyData.keyHash P (Str.ofString "__annotations__")), (.str (Str.ofString "__annotations__") 170), (.ref 6)⟩, ⟨(PyData.keyHash P (Str.ofString "__builtins__")), (.str (Str.ofString "__builtins__") 171), (.ref 4)⟩, ⟨(PyData.keyHash P (Str.ofString "__file__")), (.str (Str.ofString "__file__") 173), (.str (Str.ofString "/claim/cut.py") 172)⟩, ⟨(PyData.keyHash P (Str.ofString "__cached__")), (.str (Str.ofString "__cached__") 174), .none⟩, ⟨(PyData.keyHash P (Str.ofString "_wall")), (.str (Str.ofString "_wall") 193), (.ref 21)⟩, ⟨(PyData.keyHash P (Str.ofString "Entry")), (.str (Str.ofString "Entry") 253), (.ref 59)⟩, ⟨(PyData.keyHash P (Str.ofString "merge_entries")), (.str (Str.ofString "merge_entries") 262), (.ref 70)⟩, ⟨(PyData.keyHash P (Str.ofString "b1_set")), (.str (Str.ofString "b1_set") 324), (.ref 78)⟩]⟩ 13), ⟨[]⟩⟩
noncomputable def o71c (P : Params) : Obj := ⟨(.type "list"), none, (.seq ⟨[(.int (173) 265), (.int (847) 266), (.int (6150) 267), (.int (6155) 268), (.int (6156) 269), (.int (6157) 270), (.int (8203) 271), (.int (8204) 272), (.int (8205) 273), (.int (8288) 274), (.int (65279) 275)]⟩ 0), ⟨[]⟩⟩
noncomputable def o72c (P : Params) : Obj := ⟨(.type "range"), none, (.fields ⟨[(.int (65024) 276), (.int (65040) 277), (.int (1) 278)]⟩), ⟨[]⟩⟩
noncomputable def o73c (P : Params) : Obj := ⟨(.type "list"), none, (.seq ⟨[(.int (65024) 281), (.int (65025) 282), (.int (65026) 283), (.int (65027) 284), (.int (65028) 285), (.int (65029) 286), (.int (65030) 287), (.int (65031) 288), (.int (65032) 289), (.int (65033) 290), (.int (65034) 291), (.int (65035) 292), (.int (65036) 293), (.int (65037) 294), (.int (65038) 295), (.int (65039) 296)]⟩ 18), ⟨[]⟩⟩
noncomputable def o74c (P : Params) : Obj := ⟨(.type "range_iterator"), none, (.fields ⟨[(.int (65040) 0), (.int (0) 0), (.int (1) 0)]⟩), ⟨[]⟩⟩
noncomputable def o75c (P : Params) : Obj := ⟨(.type "tuple"), none, (.seq ⟨[]⟩ 0), ⟨[]⟩⟩
noncomputable def o76c (P : Params) : Obj := ⟨(.type "StopIteration"), none, (.fields ⟨[(.ref 75), .none, .none, .none, (.bool false), .none]⟩), ⟨[]⟩⟩
noncomputable def o77c (P : Params) : Obj := ⟨(.type "list"), none, (.seq ⟨[(.int (173) 265), (.int (847) 266), (.int (6150) 267), (.int (6155) 268), (.int (6156) 269), (.int (6157) 270), (.int (8203) 271), (.int (8204) 272), (.int (8205) 273), (.int (8288) 274), (.int (65279) 275), (.int (65024) 281), (.int (65025) 282), (.int (65026) 283), (.int (65027) 284), (.int (65028) 285), (.int (65029) 286), (.int (65030) 287), (.int (65031) 288), (.int (65032) 289), (.int (65033) 290), (.int (65034) 291), (.int (65035) 292), (.int (65036) 293), (.int (65037) 294), (.int (65038) 295), (.int (65039) 296)]⟩ 0), ⟨[]⟩⟩
noncomputable def o78c (P : Params) : Obj := ⟨(.type "set"), none, (.set ⟨[((65024), (.int (65024) 281)), ((65025), (.int (65025) 282)), ((65026), (.int (65026) 283)), ((65027), (.int (65027) 284)), ((65028), (.int (65028) 285)), ((65029), (.int (65029) 286)), ((6150), (.int (6150) 267)), ((65030), (.int (65030) 287)), ((65031), (.int (65031) 288)), ((65032), (.int (65032) 289)), ((65033), (.int (65033) 290)), ((6155), (.int (6155) 268)), ((6156), (.int (6156) 269)), ((6157), (.int (6157) 270)), ((8203), (.int (8203) 271)), ((8204), (.int (8204) 272)), ((8205), (.int (8205) 273)), ((65034), (.int (65034) 291)), ((65035), (.int (65035) 292)), ((65036), (.int (65036) 293)), ((65037), (.int (65037) 294)), ((65038), (.int (65038) 295)), ((65039), (.int (65039) 296)), ((173), (.int (173) 265)), ((847), (.int (847) 266)), ((8288), (.int (8288) 274)), ((65279), (.int (65279) 275))]⟩ 29 { mask := 127, place := ⟨[0, 1, 2, 3, 4, 5, 6, 7, 8, 9, 10, 11, 12, 13, 14, 15, 16, 17, 18, 19, 20, 21, 22, 45, 79, 96, 127]⟩, dummies := ⟨[]⟩, finger := 0, led := (!P.followText "set-order"), moves := 2, plain := true }), ⟨[]⟩⟩
noncomputable def o79c (P : Params) : Obj := ⟨(.type "list_iterator"), none, (.fields ⟨[.none, (.int (27) 0)]⟩), ⟨[]⟩⟩
noncomputable def o80c (P : Params) : Obj := ⟨(.type "tuple"), none, (.seq ⟨[]⟩ 0), ⟨[]⟩⟩
noncomputable def o81c (P : Params) : Obj := ⟨(.type "StopIteration"), none, (.fields ⟨[(.ref 80), .none, .none, .none, (.bool false), .none]⟩), ⟨[]⟩⟩
noncomputable def hpC (P : Params) : Heap := ⟨⟨[boot_o_0 P, boot_o_1 P, boot_o_2 P, o3c P, boot_o_4 P, boot_o_5 P, boot_o_6 P, boot_o_7 P, boot_o_8 P, boot_o_9 P, boot_o_10 P, o11a P, o12b P, o13a P, o14a P, o15b P, o16b P, o17b P, o18b P, o19b P, o20b P, o21b P, o22b P, o23b P, o24b P, o25b P, o26b P, o27b P, o28b P, o29b P, o30b P, o31b P, o32b P, o33b P, o34b P, o35b P, o36b P, o37b P, o38b P, o39b P, o40b P, o41b P, o42b P, o43b P, o44b P, o45b P, o46b P, o47b P, o48b P, o49b P, o50b P, o51b P, o52b P, o53b P, o54b P, o55b P, o56b P, o57b P, o58b P, o59b P, o60b P, o61b P, o62b P, o63b P, o64b P, o65b P, o66b P, o67b P, o68b P, o69b P, o70b P, o71c P, o72c P, o73c P, o74c P, o75c P, o76c P, o77c P, o78c P, o79c P, o80c P, o81c P]⟩, {}⟩
noncomputable def o3d (P : Params) : Obj := ⟨(.type "dict"), none, (.dict ⟨[⟨(PyData.keyHash P (Str.ofString "__name__")), (.str (Str.ofString "__name__") 165), (.str (Str.ofString "cpy313.stringprep") 263)⟩, ⟨(PyData.keyHash P (Str.ofString "__doc__")), (.str (Str.ofString "__doc__") 166), .none⟩, ⟨(PyData.keyHash P (Str.ofString "__package__")), (.str (Str.ofString "__package__") 167), .none⟩, ⟨(PyData.keyHash P (Str.ofString "__loader__")), (.str (Str.ofString "__loader__") 168), (.builtin "__main__.__loader__#opaque")⟩, ⟨(PyData.keyHash P (Str.ofString "__spec__")), (.str (Str.ofString "__spec__") 169), .none⟩, ⟨(PyData.keyHash P (Str.ofString "__annotations__")), (.str (Str.ofString "__annotations__") 170), (.ref 6)⟩, ⟨(PyData.keyHash P (Str.ofString "__builtins__")), (.str (Str.ofString "__builtins__") 171), (.ref 4)⟩, ⟨(PyData.keyHash P (Str.ofString "__file__")), (.str (Str.ofString "__file__") 173), (.str (Str.ofString "/claim/cut.py") 172)⟩, ⟨(PyData.keyHash P (Str.ofString "__cached__")), (.str (Str.ofString "__cached__") 174), .none⟩, ⟨(PyData.keyHash P (Str.ofString "_wall")), (.str (Str.ofString "_wall") 193), (.ref 21)⟩, ⟨(PyData.keyHash P (Str.ofString "Entry")), (.str (Str.ofString "Entry") 253), (.ref 59)⟩, ⟨(PyData.keyHash P (Str.ofString "merge_entries")), (.str (Str.ofString "merge_entries") 262), (.ref 70)⟩, ⟨(PyData.keyHash P (Str.ofString "b1_set")), (.str (Str.ofString "b1_set") 324), (.ref 78)⟩, ⟨(PyData.keyHash P (Str.ofString "in_table_b1")), (.str (Str.ofString "in_table_b1") 331), (.ref 88)⟩]⟩ 14), ⟨[]⟩⟩
noncomputable def o12d (P : Params) : Obj := ⟨.none, none, (.fields ⟨[(.int (1) 0), (.int (0) 0), (.ref 20), (.int (5) 0), (.int (0) 0), (.ref 27), (.int (43) 0), (.int (0) 0), (.ref 69), (.int (52) 0), (.int (0) 0), (.ref 87)]⟩), ⟨[]⟩⟩
noncomputable def o82d (P : Params) : Obj := ⟨(.type "tuple"), none, (.seq ⟨[]⟩ 0), ⟨[]⟩⟩
noncomputable def o83d (P : Params) : Obj := ⟨.none, none, (.fields ⟨[]⟩), ⟨[]⟩⟩
noncomputable def o84d (P : Params) : Obj := ⟨(.type "tuple"), none, (.seq ⟨[(.str (Str.ofString "code") 328)]⟩ 0), ⟨[]⟩⟩
noncomputable def o85d (P : Params) : Obj := ⟨(.type "tuple"), none, (.seq ⟨[]⟩ 0), ⟨[]⟩⟩
noncomputable def o86d (P : Params) : Obj := ⟨.none, none, (.func { name := (Str.ofString "in_table_b1"), qualname := (Str.ofString "in_table_b1"), params := fArgs (stAt 6), body := .stmts (fBody (stAt 6)), scope := fScope (stAt 6), globals := 0, closure := [], defaults := .none, kwdefaults := .none, doc := .none, pyModule := .none, annotations := none, code := .none, closureTuple := .none, builtins := 0 }), ⟨[]⟩⟩
noncomputable def o87d (P : Params) : Obj := ⟨(.type "code"), none, (.fields ⟨[(.str (Str.ofString "in_table_b1") 325), (.str (Str.ofString "in_table_b1") 326), (.str (Str.ofString "/claim/cut.py") 327), (.int (52) 0), (.int (1) 0), (.int (0) 0), (.int (0) 0), (.int (3) 0), (.ref 82), (.bool true), (.int (181) 0), (.ref 83), .none, (.ref 84), (.ref 85), (.ref 86), (.int (329) 0), (.int (52) 0), (.str (Str.ofString "/claim/cut.py") 330)]⟩), ⟨[]⟩⟩
noncomputable def o88d (P : Params) : Obj := ⟨(.type "function"), none, (.func { name := (Str.ofString "in_table_b1"), qualname := (Str.ofString "in_table_b1"), params := fArgs (stAt 6), body := .stmts (fBody (stAt 6)), scope := fScope (stAt 6), globals := 3, closure := [], defaults := .none, kwdefaults := .none, doc := .none, pyModule := (.str (Str.ofString "cpy313.stringprep") 263), annotations := none, code := (.ref 87), closureTuple := .none, builtins := 0 }), ⟨[]⟩⟩
noncomputable def hpD (P : Params) : Heap := ⟨⟨[boot_o_0 P, boot_o_1 P, boot_o_2 P, o3d P, boot_o_4 P, boot_o_5 P, boot_o_6 P, boot_o_7 P, boot_o_8 P, boot_o_9 P, boot_o_10 P, o11a P, o12d P, o13a P, o14a P, o15b P, o16b P, o17b P, o18b P, o19b P, o20b P, o21b P, o22b P, o23b P, o24b P, o25b P, o26b P, o27b P, o28b P, o29b P, o30b P, o31b P, o32b P, o33b P, o34b P, o35b P, o36b P, o37b P, o38b P, o39b P, o40b P, o41b P, o42b P, o43b P, o44b P, o45b P, o46b P, o47b P, o48b P, o49b P, o50b P, o51b P, o52b P, o53b P, o54b P, o55b P, o56b P, o57b P, o58b P, o59b P, o60b P, o61b P, o62b P, o63b P, o64b P, o65b P, o66b P, o67b P, o68b P, o69b P, o70b P, o71c P, o72c P, o73c P, o74c P, o75c P, o76c P, o77c P, o78c P, o79c P, o80c P, o81c P, o82d P, o83d P, o84d P, o85d P, o86d P, o87d P, o88d P]⟩, {}⟩

noncomputable def dKeys : List (Option Expr) := match stAt 7 with | .Assign _ (.Dict ks _ _) _ => ks | _ => []
noncomputable def dVals : List Expr := match stAt 7 with | .Assign _ (.Dict _ vs _) _ => vs | _ => []
noncomputable def dTgt : List Expr := match stAt 7 with | .Assign ts _ _ => ts | _ => []
noncomputable def dPosD : Pos := match stAt 7 with | .Assign _ (.Dict _ _ q) _ => q | _ => default
noncomputable def dPosS : Pos := match stAt 7 with | .Assign _ _ q => q | _ => default
noncomputable def dPE : List PE := (dKeys.zip dVals).map peOf
noncomputable def mdict : Obj := dObj (ents 3 332 (dPE.take 17 ++ (chop 37 (dPE.drop 17)).flatten) ++ ents 2 (332 + 3 * 646) (dPE.drop 646)) 650
noncomputable def sdicts : List Obj := subsOf (332 + 51) (chop 37 (dPE.drop 17)) ++ [dObj (ents 2 (332 + 3 * 646) (dPE.drop 646)) 4]
noncomputable def sdict (i : Nat) : Obj := sdicts.getD i default
noncomputable def hpD2 (P : Params) : Heap := ⟨⟨[boot_o_0 P, boot_o_1 P, boot_o_2 P, o3d P, boot_o_4 P, boot_o_5 P, boot_o_6 P, boot_o_7 P, boot_o_8 P, boot_o_9 P, boot_o_10 P, o11a P, o12d P, o13a P, o14a P, o15b P, o16b P, o17b P, o18b P, o19b P, o20b P, o21b P, o22b P, o23b P, o24b P, o25b P, o26b P, o27b P, o28b P, o29b P, o30b P, o31b P, o32b P, o33b P, o34b P, o35b P, o36b P, o37b P, o38b P, o39b P, o40b P, o41b P, o42b P, o43b P, o44b P, o45b P, o46b P, o47b P, o48b P, o49b P, o50b P, o51b P, o52b P, o53b P, o54b P, o55b P, o56b P, o57b P, o58b P, o59b P, o60b P, o61b P, o62b P, o63b P, o64b P, o65b P, o66b P, o67b P, o68b P, o69b P, o70b P, o71c P, o72c P, o73c P, o74c P, o75c P, o76c P, o77c P, o78c P, o79c P, o80c P, o81c P, o82d P, o83d P, o84d P, o85d P, o86d P, o87d P, o88d P, mdict, sdict 0, sdict 1, sdict 2, sdict 3, sdict 4, sdict 5, sdict 6, sdict 7, sdict 8, sdict 9, sdict 10, sdict 11, sdict 12, sdict 13, sdict 14, sdict 15, sdict 16, sdict 17, sdict 18, sdict 19, sdict 20, sdict 21, sdict 22, sdict 23, sdict 24, sdict 25, sdict 26, sdict 27, sdict 28, sdict 29, sdict 30, sdict 31, sdict 32, sdict 33, sdict 34, sdict 35, sdict 36, sdict 37]⟩, {}⟩
noncomputable def o3e (P : Params) : Obj := ⟨(.type "dict"), none, (.dict ⟨[⟨(PyData.keyHash P (Str.ofString "__name__")), (.str (Str.ofString "__name__") 165), (.str (Str.ofString "cpy313.stringprep") 263)⟩, ⟨(PyData.keyHash P (Str.ofString "__doc__")), (.str (Str.ofString "__doc__") 166), .none⟩, ⟨(PyData.keyHash P (Str.ofString "__package__")), (.str (Str.ofString "__package__") 167), .none⟩, ⟨(PyData.keyHash P (Str.ofString "__loader__")), (.str (Str.ofString "__loader__") 168), (.builtin "__main__.__loader__#opaque")⟩, ⟨(PyData.keyHash P (Str.ofString "__spec__")), (.str (Str.ofString "__spec__") 169), .none⟩, ⟨(PyData.keyHash P (Str.ofString "__annotations__")), (.str (Str.ofString "__annotations__") 170), (.ref 6)⟩, ⟨(PyData.keyHash P (Str.ofString "__builtins__")), (.str (Str.ofString "__builtins__") 171), (.ref 4)⟩, ⟨(PyData.keyHash P (Str.ofString "__file__")), (.str (Str.ofString "__file__") 173), (.str (Str.ofString "/claim/cut.py") 172)⟩, ⟨(PyData.keyHash P (Str.ofString "__cached__")), (.str (Str.ofString "__cached__") 174), .none⟩, ⟨(PyData.keyHash P (Str.ofString "_wall")), (.str (Str.ofString "_wall") 193), (.ref 21)⟩, ⟨(PyData.keyHash P (Str.ofString "Entry")), (.str (Str.ofString "Entry") 253), (.ref 59)⟩, ⟨(PyData.keyHash P (Str.ofString "merge_entries")), (.str (Str.ofString "merge_entries") 262), (.ref 70)⟩, ⟨(PyData.keyHash P (Str.ofString "b1_set")), (.str (Str.ofString "b1_set") 324), (.ref 78)⟩, ⟨(PyData.keyHash P (Str.ofString "in_table_b1")), (.str (Str.ofString "in_table_b1") 331), (.ref 88)⟩, ⟨(PyData.keyHash P (Str.ofString "b3_exceptions")), (.str (Str.ofString "b3_exceptions") 2282), (.ref 89)⟩]⟩ 15), ⟨[]⟩⟩
noncomputable def hpE (P : Params) : Heap := ⟨⟨[boot_o_0 P, boot_o_1 P, boot_o_2 P, o3e P, boot_o_4 P, boot_o_5 P, boot_o_6 P, boot_o_7 P, boot_o_8 P, boot_o_9 P, boot_o_10 P, o11a P, o12d P, o13a P, o14a P, o15b P, o16b P, o17b P, o18b P, o19b P, o20b P, o21b P, o22b P, o23b P, o24b P, o25b P, o26b P, o27b P, o28b P, o29b P, o30b P, o31b P, o32b P, o33b P, o34b P, o35b P, o36b P, o37b P, o38b P, o39b P, o40b P, o41b P, o42b P, o43b P, o44b P, o45b P, o46b P, o47b P, o48b P, o49b P, o50b P, o51b P, o52b P, o53b P, o54b P, o55b P, o56b P, o57b P, o58b P, o59b P, o60b P, o61b P, o62b P, o63b P, o64b P, o65b P, o66b P, o67b P, o68b P, o69b P, o70b P, o71c P, o72c P, o73c P, o74c P, o75c P, o76c P, o77c P, o78c P, o79c P, o80c P, o81c P, o82d P, o83d P, o84d P, o85d P, o86d P, o87d P, o88d P, mdict, (sdict 0), (sdict 1), (sdict 2), (sdict 3), (sdict 4), (sdict 5), (sdict 6), (sdict 7), (sdict 8), (sdict 9), (sdict 10), (sdict 11), (sdict 12), (sdict 13), (sdict 14), (sdict 15), (sdict 16), (sdict 17), (sdict 18), (sdict 19), (sdict 20), (sdict 21), (sdict 22), (sdict 23), (sdict 24), (sdict 25), (sdict 26), (sdict 27), (sdict 28), (sdict 29), (sdict 30), (sdict 31), (sdict 32), (sdict 33), (sdict 34), (sdict 35), (sdict 36), (sdict 37)]⟩, {}⟩
noncomputable def o3f (P : Params) : Obj := ⟨(.type "dict"), none, (.dict ⟨[⟨(PyData.keyHash P (Str.ofString "__name__")), (.str (Str.ofString "__name__") 165), (.str (Str.ofString "law_rs0172_03") 2291)⟩, ⟨(PyData.keyHash P (Str.ofString "__doc__")), (.str (Str.ofString "__doc__") 166), .none⟩, ⟨(PyData.keyHash P (Str.ofString "__package__")), (.str (Str.ofString "__package__") 167), .none⟩, ⟨(PyData.keyHash P (Str.ofString "__loader__")), (.str (Str.ofString "__loader__") 168), (.builtin "__main__.__loader__#opaque")⟩, ⟨(PyData.keyHash P (Str.ofString "__spec__")), (.str (Str.ofString "__spec__") 169), .none⟩, ⟨(PyData.keyHash P (Str.ofString "__annotations__")), (.str (Str.ofString "__annotations__") 170), (.ref 6)⟩, ⟨(PyData.keyHash P (Str.ofString "__builtins__")), (.str (Str.ofString "__builtins__") 171), (.ref 4)⟩, ⟨(PyData.keyHash P (Str.ofString "__file__")), (.str (Str.ofString "__file__") 173), (.str (Str.ofString "/claim/cut.py") 172)⟩, ⟨(PyData.keyHash P (Str.ofString "__cached__")), (.str (Str.ofString "__cached__") 174), .none⟩, ⟨(PyData.keyHash P (Str.ofString "_wall")), (.str (Str.ofString "_wall") 193), (.ref 21)⟩, ⟨(PyData.keyHash P (Str.ofString "Entry")), (.str (Str.ofString "Entry") 253), (.ref 59)⟩, ⟨(PyData.keyHash P (Str.ofString "merge_entries")), (.str (Str.ofString "merge_entries") 262), (.ref 70)⟩, ⟨(PyData.keyHash P (Str.ofString "b1_set")), (.str (Str.ofString "b1_set") 324), (.ref 78)⟩, ⟨(PyData.keyHash P (Str.ofString "in_table_b1")), (.str (Str.ofString "in_table_b1") 331), (.ref 88)⟩, ⟨(PyData.keyHash P (Str.ofString "b3_exceptions")), (.str (Str.ofString "b3_exceptions") 2282), (.ref 89)⟩, ⟨(PyData.keyHash P (Str.ofString "map_table_b3")), (.str (Str.ofString "map_table_b3") 2290), (.ref 134)⟩, ⟨(PyData.keyHash P (Str.ofString "_law_cells")), (.str (Str.ofString "_law_cells") 2301), (.ref 141)⟩, ⟨(PyData.keyHash P (Str.ofString "_law_sign")), (.str (Str.ofString "_law_sign") 2314), (.ref 148)⟩, ⟨(PyData.keyHash P (Str.ofString "_law_laid")), (.str (Str.ofString "_law_laid") 2320), (.ref 153)⟩, ⟨(PyData.keyHash P (Str.ofString "_law_borders")), (.str (Str.ofString "_law_borders") 2326), (.ref 158)⟩, ⟨(PyData.keyHash P (Str.ofString "_law_two")), (.str (Str.ofString "_law_two") 2332), (.ref 163)⟩, ⟨(PyData.keyHash P (Str.ofString "law")), (.str (Str.ofString "law") 2338), (.ref 168)⟩]⟩ 22), ⟨[]⟩⟩
noncomputable def o12f (P : Params) : Obj := ⟨.none, none, (.fields ⟨[(.int (1) 0), (.int (0) 0), (.ref 20), (.int (5) 0), (.int (0) 0), (.ref 27), (.int (43) 0), (.int (0) 0), (.ref 69), (.int (52) 0), (.int (0) 0), (.ref 87), (.int (55) 0), (.int (0) 0), (.ref 133), (.int (61) 0), (.int (0) 0), (.ref 140), (.int (66) 0), (.int (0) 0), (.ref 147), (.int (79) 0), (.int (0) 0), (.ref 152), (.int (85) 0), (.int (0) 0), (.ref 157), (.int (102) 0), (.int (0) 0), (.ref 162), (.int (122) 0), (.int (0) 0), (.ref 167)]⟩), ⟨[]⟩⟩
noncomputable def o128f (P : Params) : Obj := ⟨(.type "tuple"), none, (.seq ⟨[]⟩ 0), ⟨[]⟩⟩
noncomputable def o129f (P : Params) : Obj := ⟨.none, none, (.fields ⟨[]⟩), ⟨[]⟩⟩
noncomputable def o130f (P : Params) : Obj := ⟨(.type "tuple"), none, (.seq ⟨[(.str (Str.ofString "code") 2286), (.str (Str.ofString "r") 2287)]⟩ 0), ⟨[]⟩⟩
noncomputable def o131f (P : Params) : Obj := ⟨(.type "tuple"), none, (.seq ⟨[]⟩ 0), ⟨[]⟩⟩
noncomputable def o132f (P : Params) : Obj := ⟨.none, none, (.func { name := (Str.ofString "map_table_b3"), qualname := (Str.ofString "map_table_b3"), params := fArgs (stAt 8), body := .stmts (fBody (stAt 8)), scope := fScope (stAt 8), globals := 0, closure := [], defaults := .none, kwdefaults := .none, doc := .none, pyModule := .none, annotations := none, code := .none, closureTuple := .none, builtins := 0 }), ⟨[]⟩⟩
noncomputable def o133f (P : Params) : Obj := ⟨(.type "code"), none, (.fields ⟨[(.str (Str.ofString "map_table_b3") 2283), (.str (Str.ofString "map_table_b3") 2284), (.str (Str.ofString "/claim/cut.py") 2285), (.int (55) 0), (.int (1) 0), (.int (0) 0), (.int (0) 0), (.int (3) 0), (.ref 128), (.bool true), (.int (181) 0), (.ref 129), .none, (.ref 130), (.ref 131), (.ref 132), (.int (2288) 0), (.int (55) 0), (.str (Str.ofString "/claim/cut.py") 2289)]⟩), ⟨[]⟩⟩
noncomputable def o134f (P : Params) : Obj := ⟨(.type "function"), none, (.func { name := (Str.ofString "map_table_b3"), qualname := (Str.ofString "map_table_b3"), params := fArgs (stAt 8), body := .stmts (fBody (stAt 8)), scope := fScope (stAt 8), globals := 3, closure := [], defaults := .none, kwdefaults := .none, doc := .none, pyModule := (.str (Str.ofString "cpy313.stringprep") 263), annotations := none, code := (.ref 133), closureTuple := .none, builtins := 0 }), ⟨[]⟩⟩
noncomputable def o135f (P : Params) : Obj := ⟨(.type "tuple"), none, (.seq ⟨[]⟩ 0), ⟨[]⟩⟩
noncomputable def o136f (P : Params) : Obj := ⟨.none, none, (.fields ⟨[]⟩), ⟨[]⟩⟩
noncomputable def o137f (P : Params) : Obj := ⟨(.type "tuple"), none, (.seq ⟨[(.str (Str.ofString "script") 2296), (.str (Str.ofString "cells") 2297), (.str (Str.ofString "place") 2298)]⟩ 0), ⟨[]⟩⟩
noncomputable def o138f (P : Params) : Obj := ⟨(.type "tuple"), none, (.seq ⟨[]⟩ 0), ⟨[]⟩⟩
noncomputable def o139f (P : Params) : Obj := ⟨.none, none, (.func { name := (Str.ofString "_law_cells"), qualname := (Str.ofString "_law_cells"), params := fArgs (stAt 10), body := .stmts (fBody (stAt 10)), scope := fScope (stAt 10), globals := 0, closure := [], defaults := .none, kwdefaults := .none, doc := .none, pyModule := .none, annotations := none, code := .none, closureTuple := .none, builtins := 0 }), ⟨[]⟩⟩
noncomputable def o140f (P : Params) : Obj := ⟨(.type "code"), none, (.fields ⟨[(.str (Str.ofString "_law_cells") 2293), (.str (Str.ofString "_law_cells") 2294), (.str (Str.ofString "/claim/cut.py") 2295), (.int (61) 0), (.int (1) 0), (.int (0) 0), (.int (0) 0), (.int (3) 0), (.ref 135), (.bool true), (.int (181) 0), (.ref 136), .none, (.ref 137), (.ref 138), (.ref 139), (.int (2299) 0), (.int (61) 0), (.str (Str.ofString "/claim/cut.py") 2300)]⟩), ⟨[]⟩⟩
noncomputable def o141f (P : Params) : Obj := ⟨(.type "function"), none, (.func { name := (Str.ofString "_law_cells"), qualname := (Str.ofString "_law_cells"), params := fArgs (stAt 10), body := .stmts (fBody (stAt 10)), scope := fScope (stAt 10), globals := 3, closure := [], defaults := .none, kwdefaults := .none, doc := .none, pyModule := (.str (Str.ofString "law_rs0172_03") 2291), annotations := none, code := (.ref 140), closureTuple := .none, builtins := 0 }), ⟨[]⟩⟩
noncomputable def o142f (P : Params) : Obj := ⟨(.type "tuple"), none, (.seq ⟨[]⟩ 0), ⟨[]⟩⟩
noncomputable def o143f (P : Params) : Obj := ⟨.none, none, (.fields ⟨[]⟩), ⟨[]⟩⟩
noncomputable def o144f (P : Params) : Obj := ⟨(.type "tuple"), none, (.seq ⟨[(.str (Str.ofString "cell") 2305), (.str (Str.ofString "kind") 2306), (.str (Str.ofString "pick") 2307), (.str (Str.ofString "fonts") 2308), (.str (Str.ofString "codes") 2309), (.str (Str.ofString "texts") 2310), (.str (Str.ofString "lone") 2311)]⟩ 0), ⟨[]⟩⟩
noncomputable def o145f (P : Params) : Obj := ⟨(.type "tuple"), none, (.seq ⟨[]⟩ 0), ⟨[]⟩⟩
noncomputable def o146f (P : Params) : Obj := ⟨.none, none, (.func { name := (Str.ofString "_law_sign"), qualname := (Str.ofString "_law_sign"), params := fArgs (stAt 11), body := .stmts (fBody (stAt 11)), scope := fScope (stAt 11), globals := 0, closure := [], defaults := .none, kwdefaults := .none, doc := .none, pyModule := .none, annotations := none, code := .none, closureTuple := .none, builtins := 0 }), ⟨[]⟩⟩
noncomputable def o147f (P : Params) : Obj := ⟨(.type "code"), none, (.fields ⟨[(.str (Str.ofString "_law_sign") 2302), (.str (Str.ofString "_law_sign") 2303), (.str (Str.ofString "/claim/cut.py") 2304), (.int (66) 0), (.int (1) 0), (.int (0) 0), (.int (0) 0), (.int (3) 0), (.ref 142), (.bool true), (.int (181) 0), (.ref 143), .none, (.ref 144), (.ref 145), (.ref 146), (.int (2312) 0), (.int (66) 0), (.str (Str.ofString "/claim/cut.py") 2313)]⟩), ⟨[]⟩⟩
noncomputable def o148f (P : Params) : Obj := ⟨(.type "function"), none, (.func { name := (Str.ofString "_law_sign"), qualname := (Str.ofString "_law_sign"), params := fArgs (stAt 11), body := .stmts (fBody (stAt 11)), scope := fScope (stAt 11), globals := 3, closure := [], defaults := .none, kwdefaults := .none, doc := .none, pyModule := (.str (Str.ofString "law_rs0172_03") 2291), annotations := none, code := (.ref 147), closureTuple := .none, builtins := 0 }), ⟨[]⟩⟩
noncomputable def o149f (P : Params) : Obj := ⟨(.type "tuple"), none, (.seq ⟨[]⟩ 0), ⟨[]⟩⟩
noncomputable def o150f (P : Params) : Obj := ⟨.none, none, (.fields ⟨[]⟩), ⟨[]⟩⟩
noncomputable def o151f (P : Params) : Obj := ⟨.none, none, (.func { name := (Str.ofString "_law_laid"), qualname := (Str.ofString "_law_laid"), params := fArgs (stAt 12), body := .stmts (fBody (stAt 12)), scope := fScope (stAt 12), globals := 0, closure := [], defaults := .none, kwdefaults := .none, doc := .none, pyModule := .none, annotations := none, code := .none, closureTuple := .none, builtins := 0 }), ⟨[]⟩⟩
noncomputable def o152f (P : Params) : Obj := ⟨(.type "code"), none, (.fields ⟨[(.str (Str.ofString "_law_laid") 2315), (.str (Str.ofString "_law_laid") 2316), (.str (Str.ofString "/claim/cut.py") 2317), (.int (79) 0), (.int (1) 0), (.int (0) 0), (.int (0) 0), (.int (3) 0), (.ref 149), (.bool true), (.int (181) 0), (.ref 150), .none, .none, .none, (.ref 151), (.int (2318) 0), (.int (79) 0), (.str (Str.ofString "/claim/cut.py") 2319)]⟩), ⟨[]⟩⟩
noncomputable def o153f (P : Params) : Obj := ⟨(.type "function"), none, (.func { name := (Str.ofString "_law_laid"), qualname := (Str.ofString "_law_laid"), params := fArgs (stAt 12), body := .stmts (fBody (stAt 12)), scope := fScope (stAt 12), globals := 3, closure := [], defaults := .none, kwdefaults := .none, doc := .none, pyModule := (.str (Str.ofString "law_rs0172_03") 2291), annotations := none, code := (.ref 152), closureTuple := .none, builtins := 0 }), ⟨[]⟩⟩
noncomputable def o154f (P : Params) : Obj := ⟨(.type "tuple"), none, (.seq ⟨[]⟩ 0), ⟨[]⟩⟩
noncomputable def o155f (P : Params) : Obj := ⟨.none, none, (.fields ⟨[]⟩), ⟨[]⟩⟩
noncomputable def o156f (P : Params) : Obj := ⟨.none, none, (.func { name := (Str.ofString "_law_borders"), qualname := (Str.ofString "_law_borders"), params := fArgs (stAt 13), body := .stmts (fBody (stAt 13)), scope := fScope (stAt 13), globals := 0, closure := [], defaults := .none, kwdefaults := .none, doc := .none, pyModule := .none, annotations := none, code := .none, closureTuple := .none, builtins := 0 }), ⟨[]⟩⟩
noncomputable def o157f (P : Params) : Obj := ⟨(.type "code"), none, (.fields ⟨[(.str (Str.ofString "_law_borders") 2321), (.str (Str.ofString "_law_borders") 2322), (.str (Str.ofString "/claim/cut.py") 2323), (.int (85) 0), (.int (2) 0), (.int (0) 0), (.int (0) 0), (.int (3) 0), (.ref 154), (.bool true), (.int (181) 0), (.ref 155), .none, .none, .none, (.ref 156), (.int (2324) 0), (.int (85) 0), (.str (Str.ofString "/claim/cut.py") 2325)]⟩), ⟨[]⟩⟩
noncomputable def o158f (P : Params) : Obj := ⟨(.type "function"), none, (.func { name := (Str.ofString "_law_borders"), qualname := (Str.ofString "_law_borders"), params := fArgs (stAt 13), body := .stmts (fBody (stAt 13)), scope := fScope (stAt 13), globals := 3, closure := [], defaults := .none, kwdefaults := .none, doc := .none, pyModule := (.str (Str.ofString "law_rs0172_03") 2291), annotations := none, code := (.ref 157), closureTuple := .none, builtins := 0 }), ⟨[]⟩⟩
noncomputable def o159f (P : Params) : Obj := ⟨(.type "tuple"), none, (.seq ⟨[]⟩ 0), ⟨[]⟩⟩
noncomputable def o160f (P : Params) : Obj := ⟨.none, none, (.fields ⟨[]⟩), ⟨[]⟩⟩
noncomputable def o161f (P : Params) : Obj := ⟨.none, none, (.func { name := (Str.ofString "_law_two"), qualname := (Str.ofString "_law_two"), params := fArgs (stAt 14), body := .stmts (fBody (stAt 14)), scope := fScope (stAt 14), globals := 0, closure := [], defaults := .none, kwdefaults := .none, doc := .none, pyModule := .none, annotations := none, code := .none, closureTuple := .none, builtins := 0 }), ⟨[]⟩⟩
noncomputable def o162f (P : Params) : Obj := ⟨(.type "code"), none, (.fields ⟨[(.str (Str.ofString "_law_two") 2327), (.str (Str.ofString "_law_two") 2328), (.str (Str.ofString "/claim/cut.py") 2329), (.int (102) 0), (.int (2) 0), (.int (0) 0), (.int (0) 0), (.int (3) 0), (.ref 159), (.bool true), (.int (181) 0), (.ref 160), .none, .none, .none, (.ref 161), (.int (2330) 0), (.int (102) 0), (.str (Str.ofString "/claim/cut.py") 2331)]⟩), ⟨[]⟩⟩
noncomputable def o163f (P : Params) : Obj := ⟨(.type "function"), none, (.func { name := (Str.ofString "_law_two"), qualname := (Str.ofString "_law_two"), params := fArgs (stAt 14), body := .stmts (fBody (stAt 14)), scope := fScope (stAt 14), globals := 3, closure := [], defaults := .none, kwdefaults := .none, doc := .none, pyModule := (.str (Str.ofString "law_rs0172_03") 2291), annotations := none, code := (.ref 162), closureTuple := .none, builtins := 0 }), ⟨[]⟩⟩
noncomputable def o164f (P : Params) : Obj := ⟨(.type "tuple"), none, (.seq ⟨[]⟩ 0), ⟨[]⟩⟩
noncomputable def o165f (P : Params) : Obj := ⟨.none, none, (.fields ⟨[]⟩), ⟨[]⟩⟩
noncomputable def o166f (P : Params) : Obj := ⟨.none, none, (.func { name := (Str.ofString "law"), qualname := (Str.ofString "law"), params := fArgs (stAt 15), body := .stmts (fBody (stAt 15)), scope := fScope (stAt 15), globals := 0, closure := [], defaults := .none, kwdefaults := .none, doc := .none, pyModule := .none, annotations := none, code := .none, closureTuple := .none, builtins := 0 }), ⟨[]⟩⟩
noncomputable def o167f (P : Params) : Obj := ⟨(.type "code"), none, (.fields ⟨[(.str (Str.ofString "law") 2333), (.str (Str.ofString "law") 2334), (.str (Str.ofString "/claim/cut.py") 2335), (.int (122) 0), (.int (1) 0), (.int (0) 0), (.int (0) 0), (.int (3) 0), (.ref 164), (.bool true), (.int (181) 0), (.ref 165), .none, .none, .none, (.ref 166), (.int (2336) 0), (.int (122) 0), (.str (Str.ofString "/claim/cut.py") 2337)]⟩), ⟨[]⟩⟩
noncomputable def o168f (P : Params) : Obj := ⟨(.type "function"), none, (.func { name := (Str.ofString "law"), qualname := (Str.ofString "law"), params := fArgs (stAt 15), body := .stmts (fBody (stAt 15)), scope := fScope (stAt 15), globals := 3, closure := [], defaults := .none, kwdefaults := .none, doc := .none, pyModule := (.str (Str.ofString "law_rs0172_03") 2291), annotations := none, code := (.ref 167), closureTuple := .none, builtins := 0 }), ⟨[]⟩⟩
noncomputable def hpF (P : Params) : Heap := ⟨⟨[boot_o_0 P, boot_o_1 P, boot_o_2 P, o3f P, boot_o_4 P, boot_o_5 P, boot_o_6 P, boot_o_7 P, boot_o_8 P, boot_o_9 P, boot_o_10 P, o11a P, o12f P, o13a P, o14a P, o15b P, o16b P, o17b P, o18b P, o19b P, o20b P, o21b P, o22b P, o23b P, o24b P, o25b P, o26b P, o27b P, o28b P, o29b P, o30b P, o31b P, o32b P, o33b P, o34b P, o35b P, o36b P, o37b P, o38b P, o39b P, o40b P, o41b P, o42b P, o43b P, o44b P, o45b P, o46b P, o47b P, o48b P, o49b P, o50b P, o51b P, o52b P, o53b P, o54b P, o55b P, o56b P, o57b P, o58b P, o59b P, o60b P, o61b P, o62b P, o63b P, o64b P, o65b P, o66b P, o67b P, o68b P, o69b P, o70b P, o71c P, o72c P, o73c P, o74c P, o75c P, o76c P, o77c P, o78c P, o79c P, o80c P, o81c P, o82d P, o83d P, o84d P, o85d P, o86d P, o87d P, o88d P, mdict, (sdict 0), (sdict 1), (sdict 2), (sdict 3), (sdict 4), (sdict 5), (sdict 6), (sdict 7), (sdict 8), (sdict 9), (sdict 10), (sdict 11), (sdict 12), (sdict 13), (sdict 14), (sdict 15), (sdict 16), (sdict 17), (sdict 18), (sdict 19), (sdict 20), (sdict 21), (sdict 22), (sdict 23), (sdict 24), (sdict 25), (sdict 26), (sdict 27), (sdict 28), (sdict 29), (sdict 30), (sdict 31), (sdict 32), (sdict 33), (sdict 34), (sdict 35), (sdict 36), (sdict 37), o128f P, o129f P, o130f P, o131f P, o132f P, o133f P, o134f P, o135f P, o136f P, o137f P, o138f P, o139f P, o140f P, o141f P, o142f P, o143f P, o144f P, o145f P, o146f P, o147f P, o148f P, o149f P, o150f P, o151f P, o152f P, o153f P, o154f P, o155f P, o156f P, o157f P, o158f P, o159f P, o160f P, o161f P, o162f P, o163f P, o164f P, o165f P, o166f P, o167f P, o168f P]⟩, {}⟩

noncomputable def tenv : Env := { scope := PR.main.scope, locals := mainNs, globals := mainNs, cells := [], code := .ref 13, frame := some 14 }
noncomputable def tcode : Code := .body (behindTheImports PR) tenv
noncomputable abbrev tB : List Frame := [topFrame ⟨0, 0, 0, 0⟩]
noncomputable abbrev tann : Option Value := some (.ref 6)
noncomputable def gA : List Stmt := PR.main.body.take 5
noncomputable def gB : List Stmt := [stAt 5]
noncomputable def gC : List Stmt := (PR.main.body.drop 6).take 1
noncomputable def gD : List Stmt := [stAt 7]
noncomputable def gE : List Stmt := PR.main.body.drop 8
theorem body_is : behindTheImports PR = gA ++ (gB ++ (gC ++ (gD ++ (gE ++ [])))) := by kernel_rfl
theorem pc_pre (w : World) (os : OsState) : topGo treeTable PR w 11 tann 12 ⟨boot_heap w.params, Array.mk [], boot_drawn, boot_toks, os⟩ (topStub PR) = some (⟨hpPre w.params, Array.mk [], boot_drawn, 187, os⟩, ⟨denote treeTable tcode, tcode, ⟨0, 0, 0, 0⟩, tB⟩) := by kernel_rfl
theorem pc_blk (w : World) (os : OsState) : segRun treeTable PR w 11 tann 1 1 ⟨hpPre w.params, Array.mk [], boot_drawn, 187, os⟩ (blockOf (behindTheImports PR) tenv tcode ⟨0, 0, 0, 0⟩ tB) = some (.next, ⟨hpPre w.params, Array.mk [], boot_drawn, 187, os⟩, tcode, ⟨0, 0, 0, 0⟩) := by kernel_rfl
theorem pc_A (w : World) (os : OsState) : segRun treeTable PR w 11 tann 1 402 ⟨hpPre w.params, Array.mk [], boot_drawn, 187, os⟩ (piecesOf gA tenv tcode ⟨0, 0, 0, 0⟩ tB) = some (.next, ⟨hpB w.params, Array.mk [], boot_drawn, 265, os⟩, tcode, ⟨50, 0, 50, 8⟩) := by
  rw [PySem.W.Fast.te14374325043358763698, PySem.W.Fast.te14364793385576792824]
  kernel_rfl
noncomputable def okB (w : World) : Prop := ∀ os : OsState, segRun treeTable PR w 11 tann 1 999 ⟨hpB w.params, Array.mk [], boot_drawn, 265, os⟩ (piecesOf gB tenv tcode ⟨50, 0, 50, 8⟩ tB) = some (.next, ⟨hpC w.params, Array.mk [], boot_drawn, 325, os⟩, tcode, ⟨51, 0, 51, 6⟩)
theorem pc_B_false_false (w : World) : okB ((w.withFollow "set-order" false).withFollow "special-get-raises" false) := by
  intro os
  rw [PySem.W.Fast.te14374325043358763698, PySem.W.Fast.te14364793385576792824]
  kernel_rfl
theorem pc_B_false_true (w : World) : okB ((w.withFollow "set-order" false).withFollow "special-get-raises" true) := by
  intro os
  rw [PySem.W.Fast.te14374325043358763698, PySem.W.Fast.te14364793385576792824]
  kernel_rfl
theorem pc_B_true_false (w : World) : okB ((w.withFollow "set-order" true).withFollow "special-get-raises" false) := by
  intro os
  rw [PySem.W.Fast.te14374325043358763698, PySem.W.Fast.te14364793385576792824]
  kernel_rfl
theorem pc_B_true_true (w : World) : okB ((w.withFollow "set-order" true).withFollow "special-get-raises" true) := by
  intro os
  rw [PySem.W.Fast.te14374325043358763698, PySem.W.Fast.te14364793385576792824]
  kernel_rfl
theorem pc_B : ∀ w : World, okB w := by
  intro w
  refine byRow2 "set-order" (fun w => ?_) (fun w => ?_) w
  · have : ∀ v : World, okB ((w.withFollow "set-order" false).withFollow "special-get-raises" (v.params.followText "special-get-raises")) := fun v => by
      cases v.params.followText "special-get-raises"
      · exact pc_B_false_false w
      · exact pc_B_false_true w
    have h := this (w.withFollow "set-order" false)
    rwa [World.withFollow_self] at h
  · have : ∀ v : World, okB ((w.withFollow "set-order" true).withFollow "special-get-raises" (v.params.followText "special-get-raises")) := fun v => by
      cases v.params.followText "special-get-raises"
      · exact pc_B_true_false w
      · exact pc_B_true_true w
    have h := this (w.withFollow "set-order" true)
    rwa [World.withFollow_self] at h
theorem pc_C (w : World) (os : OsState) : segRun treeTable PR w 11 tann 1 30 ⟨hpC w.params, Array.mk [], boot_drawn, 325, os⟩ (piecesOf gC tenv tcode ⟨51, 0, 51, 6⟩ tB) = some (.next, ⟨hpD w.params, Array.mk [], boot_drawn, 332, os⟩, tcode, ⟨52, 0, 53, 30⟩) := by
  rw [PySem.W.Fast.te14374325043358763698, PySem.W.Fast.te14364793385576792824]
  kernel_rfl
theorem d_stmt : stAt 7 = .Assign dTgt (.Dict (dPE.map fun a => some a.key) (dPE.map PE.val) dPosD) dPosS := by kernel_rfl
theorem d_len : dPE.length = 650 := by kernel_rfl
theorem d_incr : incrB 0 dPE = true := by kernel_rfl
theorem d_swaps (a : List (Option Expr)) (b : List Expr) (c : Pos) (l : Nat) : swapsWithSole dTgt (.Dict a b c) l tenv = pure false := by kernel_rfl
theorem d_swapped (a : List (Option Expr)) (b : List Expr) (c : Pos) : swappedStores dTgt (.Dict a b c) tenv = pure none := by kernel_rfl
theorem pc_tail (w : World) (os : OsState) (K : Flow → Sem PySem.Fin) (H : Value → Sem PySem.Fin) (gd : Bool → Bool) (lv : List Value → List Value) (code : Code) (f : Frame) (rest : List Frame) (pos : Pos) :
    topGo treeTable PR w 11 tann 7 ⟨hpD2 w.params, Array.mk [], boot_drawn, 2282, os⟩ ⟨(assignStores tenv (.ref 89) none ((assignEach dTgt tenv).map (·.2))).wrap K H gd lv, code, pos, f :: rest⟩ =
      some (⟨hpE w.params, Array.mk [], boot_drawn, 2283, os⟩, ⟨K .next, code, ⟨54, 0, 54, 13⟩, f :: rest⟩) := by
  rw [PySem.W.Fast.te15667345088766844465, PySem.W.Fast.te14364793385576792824]
  kernel_rfl
theorem sdicts_is : sdicts = [sdict 0, sdict 1, sdict 2, sdict 3, sdict 4, sdict 5, sdict 6, sdict 7, sdict 8, sdict 9, sdict 10, sdict 11, sdict 12, sdict 13, sdict 14, sdict 15, sdict 16, sdict 17, sdict 18, sdict 19, sdict 20, sdict 21, sdict 22, sdict 23, sdict 24, sdict 25, sdict 26, sdict 27, sdict 28, sdict 29, sdict 30, sdict 31, sdict 32, sdict 33, sdict 34, sdict 35, sdict 36, sdict 37] := by
  have h : sdicts.length = 38 := by
    show (subsOf (332 + 51) (chop 37 (dPE.drop 17)) ++ [_]).length = 38
    rw [List.length_append, subsOf_length, chop_length]; rfl
  exact list38 default sdicts h
theorem hN_list (xs l : List Obj) (life : Life) : hN ⟨⟨xs⟩, life⟩ l = ⟨⟨xs ++ l⟩, life⟩ := by simp [hN]
theorem hpD_size (P : Params) : (hpD P).objs.size = 89 := rfl
theorem d_heap (P : Params) : hN (hpD P) (mdict :: sdicts) = hpD2 P := by
  rw [sdicts_is]
  exact hN_list _ _ _
theorem d_heap0 (P : Params) : hN (hpD P) [] = hpD P := hN_list _ _ _
theorem tgx_D (w : World) (os : OsState) (pos : Pos) : TGx PR w 11 tann 40010 (exec (stAt 7) tenv) pos ⟨hpD w.params, Array.mk [], boot_drawn, 332, os⟩ .next ⟨54, 0, 54, 13⟩ ⟨hpE w.params, Array.mk [], boot_drawn, 2283, os⟩ := by
  rw [d_stmt, arm_exec_Assign]
  refine TGx.at (n := 40009) (k := fun u => (Sem.pure u).bind fun _ => _) ?_
  refine TGx.bind' (n := 0) (m := 40009) TGx.pure ?_
  rw [d_swaps]
  refine TGx.bindE (n := 0) (m := 40009) TGx.pure ?_ (by omega)
  rw [if_neg Bool.false_ne_true]
  obtain ⟨pos', k⟩ := tgx_650 (p := PR) (w := w) (ann := tann) (env := tenv) (q := dPosD) (pos := dPosD) (h := hpD w.params) (gens := Array.mk []) (drawn := boot_drawn) (toks := 332) (os := os) (L := dPE) d_len d_incr (by rw [hpD_size]; omega)
  rw [d_heap0, hpD_size] at k
  have k2 : hN (hpD w.params) (dObj (ents 3 332 (dPE.take 17 ++ (chop 37 (dPE.drop 17)).flatten) ++ ents 2 (332 + 3 * 646) (dPE.drop 646)) 650 :: (subsOf (332 + 51) (chop 37 (dPE.drop 17)) ++ [dObj (ents 2 (332 + 3 * 646) (dPE.drop 646)) 4])) = hpD2 w.params := d_heap w.params
  rw [k2] at k
  refine TGx.bindE (n := 40001) (m := 7) (a := .ref 89) (pos₁ := pos') (s₁ := ⟨hpD2 w.params, Array.mk [], boot_drawn, 2282, os⟩) ?_ ?_ (by omega)
  · rw [arm_eval_Dict]
    refine TGx.at (n := 40000) (k := fun u => (Sem.pure u).bind fun _ => _) ?_
    refine TGx.bind' (n := 0) (m := 40000) TGx.pure ?_
    have z := items_zip tenv dPosD dPE

    rw [z]
    exact k
  · rw [d_swapped]
    refine TGx.bindE (n := 0) (m := 7) TGx.pure ?_ (by omega)
    intro K H gd lv code f rest
    exact TG.ofGo (pc_tail w os K H gd lv code f rest pos')
theorem rest_D (w : World) (os : OsState) (pos : Pos) (rest : List Stmt) : TG PR w 11 tann 40010 ⟨hpD w.params, Array.mk [], boot_drawn, 332, os⟩ (restOf (gD ++ rest) tenv tcode pos tB) ⟨hpE w.params, Array.mk [], boot_drawn, 2283, os⟩ (restOf rest tenv tcode ⟨54, 0, 54, 13⟩ tB) := by
  have h := tgx_D w os pos (fun f => match f with | .next => (execs rest tenv).wrap doneF (leaveH tenv) id id | f => doneF f) (leaveH tenv) id id tcode (topFrame ⟨0, 0, 0, 0⟩) []
  unfold restOf
  show TG PR w 11 tann _ _ ⟨(execs (stAt 7 :: rest) tenv).wrap doneF (leaveH tenv) id id, _, _, _⟩ _ _
  rw [execs_cons_wrap]
  exact h
theorem pc_E (w : World) (os : OsState) : segRun treeTable PR w 11 tann 1 210 ⟨hpE w.params, Array.mk [], boot_drawn, 2283, os⟩ (piecesOf gE tenv tcode ⟨54, 0, 54, 13⟩ tB) = some (.next, ⟨hpF w.params, Array.mk [], boot_drawn, 2339, os⟩, tcode, ⟨122, 0, 137, 98⟩) := by
  rw [PySem.W.Fast.te14374325043358763698, PySem.W.Fast.te14364793385576792824]
  kernel_rfl
theorem pc_fin (w : World) (os : OsState) : topRun treeTable PR w 11 tann 2 ⟨hpF w.params, Array.mk [], boot_drawn, 2339, os⟩ ⟨doneF .next, tcode, ⟨122, 0, 137, 98⟩, tB⟩ = some ⟨hpF w.params, Array.mk [], boot_drawn, 2339, os⟩ := by kernel_rfl
theorem run_all (w : World) (os : OsState) : topRun treeTable PR w 11 tann (12 + (1 + (402 + (999 + (30 + (40010 + (210 + 2))))))) ⟨boot_heap w.params, Array.mk [], boot_drawn, boot_toks, os⟩ (topStub PR) = some ⟨hpF w.params, Array.mk [], boot_drawn, 2339, os⟩ := by
  refine go_top (pc_pre w os) ?_
  refine piece_block (pc_blk w os) ?_
  rw [body_is]
  refine piece_app (pc_A w os) (piece_app (pc_B w os) (piece_app (pc_C w os) ?_))
  refine rest_D w os _ _ _ _ ?_
  exact piece_app (pc_E w os) (piece_nil (pc_fin w os))

noncomputable def kAs : List Addr := [0, 1, 2, 3, 4, 5, 6, 7, 8, 9, 10, 11, 12, 13, 14, 15, 16, 17, 18, 19, 20, 21, 22, 23, 24, 25, 26, 27, 28, 29, 30, 31, 32, 33, 34, 35, 36, 37, 38, 39, 40, 41, 42, 43, 44, 45, 46, 47, 48, 49, 50, 51, 52, 53, 54, 55, 56, 57, 58, 59, 60, 61, 62, 63, 64, 65, 66, 67, 68, 69, 70, 71, 72, 73, 74, 75, 76, 77, 78, 79, 80, 81, 82, 83, 84, 85, 86, 87, 88, 89, 128, 129, 130, 131, 132, 133, 134, 135, 136, 137, 138, 139, 140, 141, 142, 143, 144, 145, 146, 147, 148, 149, 150, 151, 152, 153, 154, 155, 156, 157, 158, 159, 160, 161, 162, 163, 164, 165, 166, 167, 168]
noncomputable def KF (P : Params) : Frag := [(0, boot_o_0 P), (1, boot_o_1 P), (2, boot_o_2 P), (3, o3f P), (4, boot_o_4 P), (5, boot_o_5 P), (6, boot_o_6 P), (7, boot_o_7 P), (8, boot_o_8 P), (9, boot_o_9 P), (10, boot_o_10 P), (11, o11a P), (12, o12f P), (13, o13a P), (14, o14a P), (15, o15b P), (16, o16b P), (17, o17b P), (18, o18b P), (19, o19b P), (20, o20b P), (21, o21b P), (22, o22b P), (23, o23b P), (24, o24b P), (25, o25b P), (26, o26b P), (27, o27b P), (28, o28b P), (29, o29b P), (30, o30b P), (31, o31b P), (32, o32b P), (33, o33b P), (34, o34b P), (35, o35b P), (36, o36b P), (37, o37b P), (38, o38b P), (39, o39b P), (40, o40b P), (41, o41b P), (42, o42b P), (43, o43b P), (44, o44b P), (45, o45b P), (46, o46b P), (47, o47b P), (48, o48b P), (49, o49b P), (50, o50b P), (51, o51b P), (52, o52b P), (53, o53b P), (54, o54b P), (55, o55b P), (56, o56b P), (57, o57b P), (58, o58b P), (59, o59b P), (60, o60b P), (61, o61b P), (62, o62b P), (63, o63b P), (64, o64b P), (65, o65b P), (66, o66b P), (67, o67b P), (68, o68b P), (69, o69b P), (70, o70b P), (71, o71c P), (72, o72c P), (73, o73c P), (74, o74c P), (75, o75c P), (76, o76c P), (77, o77c P), (78, o78c P), (79, o79c P), (80, o80c P), (81, o81c P), (82, o82d P), (83, o83d P), (84, o84d P), (85, o85d P), (86, o86d P), (87, o87d P), (88, o88d P), (89, mdict), (128, o128f P), (129, o129f P), (130, o130f P), (131, o131f P), (132, o132f P), (133, o133f P), (134, o134f P), (135, o135f P), (136, o136f P), (137, o137f P), (138, o138f P), (139, o139f P), (140, o140f P), (141, o141f P), (142, o142f P), (143, o143f P), (144, o144f P), (145, o145f P), (146, o146f P), (147, o147f P), (148, o148f P), (149, o149f P), (150, o150f P), (151, o151f P), (152, o152f P), (153, o153f P), (154, o154f P), (155, o155f P), (156, o156f P), (157, o157f P), (158, o158f P), (159, o159f P), (160, o160f P), (161, o161f P), (162, o162f P), (163, o163f P), (164, o164f P), (165, o165f P), (166, o166f P), (167, o167f P), (168, o168f P)]
theorem kf_addrs (P : Params) : kAs = (KF P).map (·.1) := by kernel_rfl
noncomputable def qV : Program := { PR with main := { PR.main with body := [stAt 15] } }
noncomputable def looseV : List Str := [Str.ofString "_wall", Str.ofString "Entry", Str.ofString "merge_entries", Str.ofString "b1_set", Str.ofString "in_table_b1", Str.ofString "b3_exceptions", Str.ofString "map_table_b3", Str.ofString "_law_cells", Str.ofString "_law_sign", Str.ofString "_law_laid", Str.ofString "_law_borders", Str.ofString "_law_two"]
noncomputable abbrev kYf : Shared → List (Option Obj) := fun s => kAs.map s.heap.get?
noncomputable abbrev kYa : World → List (Option Obj) := fun w => (KF w.params).map fun p => some p.2
theorem size_ok (w : World) : ((boot_heap w.params).isNs mainGlobals && (Array.mk [] : Array GenState).size == 0, (boot_heap w.params).objs.size, (boot_heap w.params).nsMap mainGlobals "__annotations__") = (true, 11, tann) := by kernel_rfl
theorem open_ok : ∀ w : World, (fencedOpening treeTable PR w 100000).map (fun s => (s.heap, s.gens, s.drawn, s.toks)) = some (boot_heap w.params, Array.mk [], boot_drawn, boot_toks) :=
  boot_open (by kernel_rfl) (by kernel_rfl) fun s => (by kernel_rfl)
theorem looks_ok (w : World) : (fun os : OsState => ((staticsOk (importedModules PR.main.body) (boot_heap w.params) (hpF w.params) && namesBound PR (hpF w.params) && gensDone ⟨hpF w.params, Array.mk [], boot_drawn, 2339, os⟩ && laidKept (boot_heap w.params) (hpF w.params)),
        openSeen qV looseV (importedModules PR.main.body) (fun _ => true) true ⟨hpF w.params, Array.mk [], boot_drawn, 2339, os⟩, kYf ⟨hpF w.params, Array.mk [], boot_drawn, 2339, os⟩)) = fun _ => (true, openGood qV looseV, kYa w) := by
  kernel_rfl
theorem left_ok : LeftO PR qV looseV (fun _ => true) kYf kYa 100000 :=
  LeftO.of_pieces (H₀ := boot_heap) (H₁ := hpF) (k₁ := 2339) (m₀ := 11) (ann := tann) open_ok size_ok run_all (by kernel_rfl) looks_ok
end
end Mine
end H3

section C35
open PySem PySem.W PyProof.Rows
set_option Elab.async false
set_option linter.unusedVariables false
set_option maxRecDepth 100000
namespace Mine
theorem strL_cps (x : List Nat) : (strL x).cps.toList = x := by simp [strL]
theorem lower_ok {x : List Nat} (h : ∀ c ∈ x, c < 128) : lowerL x = x.map lo1 := by
  unfold lowerL
  rw [lower_ascii (by rw [strL_cps]; exact h)]
  simp [strL]
theorem upper_ok {x : List Nat} (h : ∀ c ∈ x, c < 128) : upperL x = x.map up1 := by
  unfold upperL
  rw [upper_ascii (by rw [strL_cps]; exact h)]
  simp [strL]
/-- y stands in x -/
noncomputable def inS (x y : List Nat) : Prop := ∃ i, i + y.length ≤ x.length ∧ (x.drop i).take y.length = y
theorem contains_ok (x y : List Nat) : Txt.contains (strL x) (strL y) = true ↔ inS x y := by
  show (!(Builtin.Str.occurrences (strL x) (strL y) 0 (strL x).length 1).isEmpty) = true ↔ _
  rw [StrLaws.found_iff]
  unfold inS
  simp only [StrLaws.subAt_eq, str_len, strL_cps, beq_iff_eq]
/-- x.split(c), c one sign -/
noncomputable def splitL (x : List Nat) (c : Nat) : List (List Nat) := (Txt.split (strL x) ⟨#[c]⟩).map fun y => y.cps.toList
theorem join_head (y : Str) : ∀ (l : List Str), l ≠ [] → ∃ r, (Str.join y l).cps.toList = (l.headD Str.empty).cps.toList ++ r ∧ (l.length = 1 → r = []) ∧ (2 ≤ l.length → ∃ r', r = y.cps.toList ++ r')
  | [], h => absurd rfl h
  | [a], _ => ⟨[], by rw [Str.join]; simp, fun _ => rfl, fun h => by simp at h⟩
  | a :: b :: r, _ => ⟨y.cps.toList ++ (Str.join y (b :: r)).cps.toList, by
      rw [Str.join, str_toList, str_toList, List.append_assoc]; rfl; simp, fun h => by simp at h, fun _ => ⟨_, rfl⟩⟩
theorem split_head {x : List Nat} {c : Nat} {p q : List Nat} (hx : x = p ++ c :: q) (hp : c ∉ p) : ∃ r, splitL x c = p :: r := by
  have h1 := StrLaws.join_split (strL x) ⟨#[c]⟩
  have h2 := StrLaws.split_free (strL x) c
  unfold splitL
  generalize Txt.split (strL x) ⟨#[c]⟩ = l at h1 h2
  have hne : l ≠ [] := fun e => by
    subst e
    have := congrArg (fun s : Str => s.cps.toList) h1
    rw [Str.join, strL_cps] at this
    rw [hx] at this
    simp [Str.empty] at this
  obtain ⟨r, e, e1, e2⟩ := join_head ⟨#[c]⟩ l hne
  rw [h1, strL_cps] at e
  cases l with
  | nil => exact absurd rfl hne
  | cons a l =>
    refine ⟨l.map fun y => y.cps.toList, ?_⟩
    rw [List.map_cons]
    congr 1
    simp only [List.headD_cons] at e
    have ha : c ∉ a.cps.toList := h2 a List.mem_cons_self
    cases l with
    | nil =>
      have : r = [] := e1 rfl
      rw [this, List.append_nil] at e
      exact absurd (by rw [← e, hx]; simp) ha
    | cons b l =>
      obtain ⟨r', rfl⟩ := e2 (by simp)
      rw [hx] at e
      have e' : p ++ c :: q = a.cps.toList ++ c :: r' := by simpa using e
      clear e e1 e2 h1 h2 hx
      generalize a.cps.toList = u at e' ha
      induction u generalizing p with
      | nil => cases p with
        | nil => rfl
        | cons z p => simp at e'; exact absurd (by rw [e'.1]; exact List.mem_cons_self) hp
      | cons z u ih => cases p with
        | nil => simp at e'; exact absurd (by rw [e'.1]; exact List.mem_cons_self) ha
        | cons z' p =>
          simp only [List.cons_append, List.cons.injEq] at e'
          rw [e'.1, ih (fun q => hp (List.mem_cons_of_mem _ q)) e'.2 fun q => ha (List.mem_cons_of_mem _ q)]
section
variable {C : Cx} {k : Nat} {σ : Sto} {K : PV → Sto → Prop}
theorem strs_rd {X : Ext} {P h} : ∀ {l : List (Str × Tok)}, RdL X P h (strValues l) (((l.map (·.1)).map fun y => y.cps.toList).map .str)
  | [] => .nil
  | p :: l => .cons (.str _ _) strs_rd
theorem OpL.split {x : List Nat} {c : Nat} (hsz : x.length ≤ 100000) (h : K (.list ((splitL x c).map .str)) σ) : OpL C k σ [.str x, .str [c]] (fun vs => PySem.call (.builtin "str.split") vs) K := fun A P s vs hr H r => by
  obtain ⟨v, w, rfl, r₁, r₂⟩ := r.two
  obtain ⟨y, t, rfl, hy⟩ := r₁.str_inv
  obtain ⟨z, u, rfl, hz⟩ := r₂.str_inv
  have e := strL_eq hy
  subst e
  have hzz : z = ⟨#[c]⟩ := by rw [strL_eq hz]; rfl
  subst hzz
  have hl : (strL x).length = x.length := by rw [str_len, strL_cps]
  have hn : (Builtin.Str.partsBetween (strL x) (Builtin.Str.occurrences (strL x) ⟨#[c]⟩ 0 (strL x).length ((strL x).length + 1)) (⟨#[c]⟩ : Str).length).length ≤ sizeLine := by
    have e1 := StrLaws.occ_length_le (strL x) ⟨#[c]⟩ 0 (strL x).length ((strL x).length + 1)
    rw [length_partsBetween]; simp [sizeLine]; omega
  unfold splitL at h
  have self : (decide ((strL x).length < (⟨#[c]⟩ : Str).length) || decide (Builtin.Str.strKind (strL x) < Builtin.Str.strKind ⟨#[c]⟩)) = true ∨ (Builtin.Str.occurrences (strL x) ⟨#[c]⟩ 0 (strL x).length ((strL x).length + 1)).isEmpty = true → Txt.split (strL x) ⟨#[c]⟩ = [strL x] := fun q => by
    unfold Txt.split
    rcases q with q | q
    · rw [if_pos q]
    · rw [q]; split <;> rfl
  have one : Txt.split (strL x) ⟨#[c]⟩ = [strL x] → wants (fun v s' => Out C P σ s K v s') NoE (.ok (.ret (.ref s.heap.objs.size))) { s with heap := s.heap.push { cls := .type "list", data := .seq #[.str (strL x) t] } } := fun q => by
    rw [q] at h
    exact Out.newList (tk := s.toks) (vs := [.str (strL x) t]) H (.cons (.str _ _) .nil) h
  cases h1 : (decide ((strL x).length < (⟨#[c]⟩ : Str).length) || decide (Builtin.Str.strKind (strL x) < Builtin.Str.strKind ⟨#[c]⟩))
  · cases hf : (Builtin.Str.occurrences (strL x) ⟨#[c]⟩ 0 (strL x).length ((strL x).length + 1)).isEmpty
    · refine call_meets F.slot_str_split (typeIs_str _ _ _) F.entry_str_split (F.args_str_split_2 _ _) (meets_str_split_sep (strL x) ⟨#[c]⟩ t u h1 rfl hf (by rw [hl]; simp [sizeLine]; omega) hn) ?_
      have q : Txt.split (strL x) ⟨#[c]⟩ = Builtin.Str.partsBetween (strL x) (Builtin.Str.occurrences (strL x) ⟨#[c]⟩ 0 (strL x).length ((strL x).length + 1)) (⟨#[c]⟩ : Str).length := by
        unfold Txt.split
        rw [if_neg (ne_true_of_eq_false h1), if_neg (ne_true_of_eq_false hf)]
      rw [q] at h
      refine Out.newList (vs := strsFrom s.toks _) H ?_ h
      rw [strsFrom_eq]
      have e2 := numbered_texts s.toks (Builtin.Str.partsBetween (strL x) (Builtin.Str.occurrences (strL x) ⟨#[c]⟩ 0 (strL x).length ((strL x).length + 1)) (⟨#[c]⟩ : Str).length)
      have e3 := strs_rd (X := C.X) (P := P) (h := s.heap) (l := numbered s.toks (Builtin.Str.partsBetween (strL x) (Builtin.Str.occurrences (strL x) ⟨#[c]⟩ 0 (strL x).length ((strL x).length + 1)) (⟨#[c]⟩ : Str).length))
      rw [e2] at e3
      exact e3
    · exact call_meets F.slot_str_split (typeIs_str _ _ _) F.entry_str_split (F.args_str_split_2 _ _) (meets_str_split_not_found (strL x) ⟨#[c]⟩ t u h1 rfl hf) (one (self (.inr hf)))
  · exact call_meets F.slot_str_split (typeIs_str _ _ _) F.entry_str_split (F.args_str_split_2 _ _) (meets_str_split_cannot_occur (strL x) ⟨#[c]⟩ t u h1) (one (self (.inl h1)))
end
end Mine
end C35

section C36
open PySem PySem.W PyProof.Rows
set_option Elab.async false
set_option linter.unusedVariables false
set_option maxRecDepth 100000
namespace Mine
theorem slcL_bounds {α : Type} (xs : List α) (lo hi : Option Int) (a n : Nat) (h1 : (sliceBounds lo hi none xs.length).1 = (a : Int)) (h2 : (sliceBounds lo hi none xs.length).2.1 = ((a + n : Nat) : Int)) (hn : a + n ≤ xs.length) : slcL xs lo hi none = (xs.drop a).take n := by
  unfold slcL
  rw [h1, h2]
  show List.filterMap _ (sliceRange (a : Int) ((a + n : Nat) : Int) 1) = _
  rw [sr_up, pick_range xs _ _ hn]
/-- xs[1:-1] -/
theorem slcL_inner {α : Type} (xs : List α) (h : 2 ≤ xs.length) : slcL xs (some 1) (some (-1)) none = (xs.drop 1).take (xs.length - 2) := by
  refine slcL_bounds xs _ _ 1 (xs.length - 2) ?_ ?_ (by lia)
  · simp [sliceBounds]; lia
  · simp [sliceBounds]; lia
/-- xs[:-1] -/
theorem slcL_init {α : Type} (xs : List α) (h : 1 ≤ xs.length) : slcL xs none (some (-1)) none = xs.take (xs.length - 1) := by
  have := slcL_bounds xs none (some (-1)) 0 (xs.length - 1) (by simp [sliceBounds]) (by simp [sliceBounds]; lia) (by lia)
  rw [this]; rfl
/-- xs[::-1] -/
theorem slcL_rev {α : Type} (xs : List α) : slcL xs none none (some (-1)) = xs.reverse := by
  unfold slcL
  have h1 : (sliceBounds none none (some (-1)) xs.length) = ((xs.length : Int) - 1, -1, -1) := by simp [sliceBounds]
  rw [h1]
  show List.filterMap _ (sliceRange ((xs.length : Int) - 1) (-1) (-1)) = _
  have h2 : sliceRange ((xs.length : Int) - 1) (-1) (-1) = (List.range xs.length).map fun k => xs.length - 1 - k := by
    unfold sliceRange
    have e : (if ((xs.length : Int) - 1) > -1 then ((xs.length : Int) - 1 - -1 - -1 - 1) / (- -1) else 0) = (xs.length : Int) := by
      split
      · simp
      · lia
    simp only [show ¬ ((-1 : Int) > 0) by decide, if_false, e, Int.toNat_natCast]
    exact List.map_congr_left fun k _ => by lia
  rw [h2]
  have h3 : ((List.range xs.length).map fun k => xs.length - 1 - k) = (List.range xs.length).reverse := by
    apply List.ext_getElem
    · simp
    · intro i h1 h2
      simp at h1
      rw [List.getElem_reverse]
      simp
  rw [h3, List.filterMap_reverse]
  congr 1
  have := pick_range xs 0 xs.length (by lia)
  simpa using this
end Mine
end C36

section C37
open PySem PySem.W PyProof.Rows
set_option Elab.async false
set_option linter.unusedVariables false
set_option maxRecDepth 100000
namespace Mine
theorem ite_dec {p : Prop} [Decidable p] {A B : Prop} (h1 : p → A) (h2 : ¬ p → B) : if decide p = true then A else B := by
  by_cases h : p
  · rw [if_pos (decide_eq_true h)]; exact h1 h
  · rw [if_neg (by simpa using h)]; exact h2 h
theorem ite_bool {b : Bool} {A B : Prop} (h1 : b = true → A) (h2 : b = false → B) : if b = true then A else B := by
  cases b
  · exact h2 rfl
  · exact h1 rfl
section
variable {C : Cx} {k : Nat} {σ : Sto} {a b : Nat} {K : PV → Sto → Prop}
theorem Op2.modN (hb : 0 < b) (h : K (.int ((a % b : Nat) : Int)) σ) : Op2 C k σ (.int (a : Nat)) (.int (b : Nat)) (binaryOp .Mod) K :=
  Op2.mod (by lia) (by rw [Int.natCast_emod] at h; exact h)
theorem Op2.divN (hb : 0 < b) (h : K (.int ((a / b : Nat) : Int)) σ) (hs : b < 2 ^ 30 := by decide) : Op2 C k σ (.int (a : Nat)) (.int (b : Nat)) (binaryOp .FloorDiv) K :=
  Op2.div (by lia) (by rw [Int.natCast_ediv] at h; exact h) (PyProof.noPylong_small (by lia))
theorem Op2.addN (h : K (.int ((a + b : Nat) : Int)) σ) : Op2 C k σ (.int (a : Nat)) (.int (b : Nat)) (binaryOp .Add) K :=
  Op2.add (by rw [Int.natCast_add] at h; exact h)
theorem Op2.ltN (h : K (.bool (decide (a < b))) σ) : Op2 C k σ (.int (a : Nat)) (.int (b : Nat)) (compareOp .Lt) K :=
  Op2.lt (by have e : decide ((a : Int) < (b : Int)) = decide (a < b) := by simp
             rw [e]; exact h)
theorem Op2.eqN (h : K (.bool (decide (a = b))) σ) : Op2 C k σ (.int (a : Nat)) (.int (b : Nat)) (compareOp .Eq) K :=
  Op2.eqi (by have e : ((a : Int) == (b : Int)) = decide (a = b) := by
                by_cases h : a = b
                · simp [h]
                · have : (a : Int) ≠ b := by lia
                  simp [h, this]
              rw [e]; exact h)
theorem OpL.chrN (h0 : a ≤ 0x10FFFF) (h : K (.str [a]) σ) : OpL C k σ [.int (a : Nat)] (fun vs => PySem.call (.builtin "chr") vs) K :=
  OpL.chr (by lia) (by lia) (by simpa using h)
/-- an item of a list, by its place -/
theorem Op2.itemN {value slice : Expr} {d : PV} {l : PV} {xs : List PV} {i : Nat} (hl : LRead C σ l xs) (hx : xs[i]? = some d) (h : K d σ) (hs : xs.length < 2 ^ 60 := by decide) : Op2 C k σ l (.int (i : Nat)) (subscriptTail value slice) K := by
  have hi := (List.getElem?_eq_some_iff.mp hx).1
  exact Op2.item hl (by lia) (by lia) (by simpa using hx) h
noncomputable abbrev nums (l : List Nat) : List PV := (l.map fun (n : Nat) => (n : Int)).map .int
theorem nums_get {l : List Nat} {i : Nat} (hi : i < l.length) : (nums l)[i]? = some (.int ((l.getD i 0 : Nat) : Int)) := by
  simp [nums, List.getElem?_eq_getElem hi]
/-- an item of a written list of ints -/
theorem Op2.pick {value slice : Expr} {l : List Nat} {i : Nat} (hi : i < l.length) (h : K (.int ((l.getD i 0 : Nat) : Int)) σ) (hs : l.length < 2 ^ 60 := by decide) : Op2 C k σ (.list (nums l)) (.int (i : Nat)) (subscriptTail value slice) K :=
  Op2.itemN .list (nums_get hi) h (by simpa using hs)
end
/-- a written list of texts -/
noncomputable def constStrs : List Expr → Option (List (List Nat))
  | [] => some []
  | .Constant (.str x) _ _ :: r => (constStrs r).map (x.cps.toList :: ·)
  | _ => none
theorem evL_strs {C k sc ρ σ} : ∀ {es : List Expr} {ns : List (List Nat)} {K : List PV → Sto → Prop}, constStrs es = some ns → K (ns.map .str) σ → EvL C k sc ρ σ es K ∧ es.all plainE = true
  | [], ns, K, h, hK => by
    rw [constStrs] at h; cases h; exact ⟨hK, rfl⟩
  | e :: r, ns, K, h, hK => by
    unfold constStrs at h
    split at h
    · rename_i heq; cases heq
    · rename_i x a b r' heq
      cases heq
      cases hr : constStrs r with
      | none => rw [hr] at h; cases h
      | some ms =>
        rw [hr] at h; cases h
        obtain ⟨h1, h2⟩ := evL_strs (C := C) (k := k) (sc := sc) (ρ := ρ) (σ := σ) (K := fun ds σ' => K (.str x.cps.toList :: ds) σ') hr hK
        exact ⟨Ev.str rfl h1, by rw [List.all_cons, h2]; rfl⟩
    · cases h
theorem Ev.strs {C k sc ρ σ es pos K} (ns : List (List Nat)) (h : constStrs es = some ns) (hl : ns.length ≤ 1000) (hK : K (.list (ns.map .str)) σ) : Ev C k sc ρ σ (.List es pos) K :=
  let ⟨a, b⟩ := evL_strs (K := fun ds σ' => ds.length ≤ sizeLine ∧ K (.list ds) σ') h ⟨by rw [List.length_map]; simp [sizeLine]; lia, hK⟩
  Ev.list a b
theorem Ev.nats {C k sc ρ σ es pos K} (ns : List Nat) (h : constInts es = some (ns.map fun (n : Nat) => (n : Int))) (hl : ns.length ≤ 1000) (hK : K (.list (nums ns)) σ) : Ev C k sc ρ σ (.List es pos) K :=
  Ev.ints _ h (by simpa using hl) hK
theorem Ev.tuple2 {C k sc ρ σ e₁ e₂ x pos K} (h : Ev C k sc ρ σ e₁ fun a σ₁ => Ev C k sc ρ σ₁ e₂ fun b σ₂ => K (.tuple [a, b]) σ₂) (hp : [e₁, e₂].all plainE = true) : Ev C k sc ρ σ (.Tuple [e₁, e₂] x pos) K :=
  Ev.tuple (Ev.mono h fun a σ₁ q => Ev.mono q fun b σ₂ q => ⟨by simp [sizeLine], q⟩) hp
theorem Ev.list1 {C k sc ρ σ e₁ pos K} (h : Ev C k sc ρ σ e₁ fun a σ₁ => K (.list [a]) σ₁) (hp : [e₁].all plainE = true) : Ev C k sc ρ σ (.List [e₁] pos) K :=
  Ev.list (Ev.mono h fun a σ₁ q => ⟨by simp [sizeLine], q⟩) hp
theorem Ev.list2 {C k sc ρ σ e₁ e₂ pos K} (h : Ev C k sc ρ σ e₁ fun a σ₁ => Ev C k sc ρ σ₁ e₂ fun b σ₂ => K (.list [a, b]) σ₂) (hp : [e₁, e₂].all plainE = true) : Ev C k sc ρ σ (.List [e₁, e₂] pos) K :=
  Ev.list (Ev.mono h fun a σ₁ q => Ev.mono q fun b σ₂ q => ⟨by simp [sizeLine], q⟩) hp
theorem Ev.list3 {C k sc ρ σ e₁ e₂ e₃ pos K} (h : Ev C k sc ρ σ e₁ fun a σ₁ => Ev C k sc ρ σ₁ e₂ fun b σ₂ => Ev C k sc ρ σ₂ e₃ fun c σ₃ => K (.list [a, b, c]) σ₃) (hp : [e₁, e₂, e₃].all plainE = true) : Ev C k sc ρ σ (.List [e₁, e₂, e₃] pos) K :=
  Ev.list (Ev.mono h fun a σ₁ q => Ev.mono q fun b σ₂ q => Ev.mono q fun c σ₃ q => ⟨by simp [sizeLine], q⟩) hp
/-- a built-in function's call with one argument -/
theorem Ev.call1 {C k sc ρ σ x p e₁ pos id_ K} (b : C.mg x = Option.none ∧ C.mb x = some (.builtin id_)) (hk : sc.names.lookup x = some NameKind.globalImplicit) (h : Ev C k sc ρ σ e₁ fun a σ₁ => OpL C k σ₁ [a] (fun vs => PySem.call (.builtin id_) vs) K) (hp : [e₁].all plainE = true)
    (hd : (x == ("__debug__" : Str)) = false := by decide) : Ev C k sc ρ σ (.Call (.Name x p) [e₁] [] pos) K :=
  Ev.call (Ev.builtin hk b.1 b.2 ⟨_, rfl, Callable.builtin, h⟩ hd) hp fun _ => rfl
theorem Ev.call1t {C k sc ρ σ x p e₁ pos id_ K} (b : C.mg x = Option.none ∧ C.mb x = some (.type id_)) (hk : sc.names.lookup x = some NameKind.globalImplicit) (h : Ev C k sc ρ σ e₁ fun a σ₁ => OpL C k σ₁ [a] (fun vs => PySem.call (.type id_) vs) K) (hp : [e₁].all plainE = true)
    (hd : (x == ("__debug__" : Str)) = false := by decide) : Ev C k sc ρ σ (.Call (.Name x p) [e₁] [] pos) K :=
  Ev.call (Ev.builtin hk b.1 b.2 ⟨_, rfl, Callable.type, h⟩ hd) hp fun _ => rfl
theorem Ev.call2t {C k sc ρ σ x p e₁ e₂ pos id_ K} (b : C.mg x = Option.none ∧ C.mb x = some (.type id_)) (hk : sc.names.lookup x = some NameKind.globalImplicit) (h : Ev C k sc ρ σ e₁ fun a σ₁ => Ev C k sc ρ σ₁ e₂ fun c σ₂ => OpL C k σ₂ [a, c] (fun vs => PySem.call (.type id_) vs) K) (hp : [e₁, e₂].all plainE = true)
    (hd : (x == ("__debug__" : Str)) = false := by decide) : Ev C k sc ρ σ (.Call (.Name x p) [e₁, e₂] [] pos) K :=
  Ev.call (Ev.builtin hk b.1 b.2 ⟨_, rfl, Callable.type, h⟩ hd) hp fun _ => rfl
/-- two names at once -/
theorem Ex1.swap2 {C k sc ρ σ ts x1 p e₁ e₂ x2 p2 pos K} (x y : String) (h : Ev C k sc ρ σ e₁ fun a σ₁ => Ev C k sc ρ σ₁ e₂ fun b σ₂ => K .next ((x, a) :: (y, b) :: ρ) σ₂) (hp : [e₁, e₂].all plainE = true)
    (hn : ∀ n ∈ [x, y], sc.names.lookup (Str.ofString n) = some .local)
    (hw : ∀ env, env.scope = sc → swappedStores [.Tuple ts x1 p] (.Tuple [e₁, e₂] x2 p2) env = pure (some ([x, y].map Str.ofString))) (hl : [x, y].length = ts.length) : Ex1 C k sc ρ σ (.Assign [.Tuple ts x1 p] (.Tuple [e₁, e₂] x2 p2) pos) K :=
  Ex1.swap (names := [x, y]) (Ev.tuple2 (Ev.mono h fun a σ₁ q => Ev.mono q fun b σ₂ q => ⟨_, rfl, rfl, q⟩) hp) hn (fun env _ => rfl) hw hl
/-- x = a written list of ints; use it with holes alone: with an argument written out the elaborator runs the list -/
theorem Ex1.asgNats {ns : List Nat} {C k sc ρ σ x p es pos pos2 K} (hc : constInts es = some (ns.map fun (n : Nat) => (n : Int))) (hl : ns.length ≤ 1000 ∧ sc.names.lookup (Str.ofString x) = some .local) (h : K .next ((x, .list (nums ns)) :: ρ) σ) : Ex1 C k sc ρ σ (.Assign [.Name (Str.ofString x) p] (.List es pos) pos2) K :=
  Ex1.assign (Ev.nats ns hc hl.1 h) (.inl hl.2) fun _ => rfl
theorem Ex1.asgStrs {ns : List (List Nat)} {C k sc ρ σ x p es pos pos2 K} (hc : constStrs es = some ns) (hl : ns.length ≤ 1000 ∧ sc.names.lookup (Str.ofString x) = some .local) (h : K .next ((x, .list (ns.map .str)) :: ρ) σ) : Ex1 C k sc ρ σ (.Assign [.Name (Str.ofString x) p] (.List es pos) pos2) K :=
  Ex1.assign (Ev.strs ns hc hl.1 h) (.inl hl.2) fun _ => rfl
end Mine
end C37

section SB3
open PySem PySem.W PyProof.Rows
set_option Elab.async false
set_option linter.unusedVariables false
set_option maxRecDepth 100000
namespace Mine
/-- a built-in function's name, as the text sees it -/
noncomputable def Blt (C : Cx) (x : Str) (v : Value) : Prop := C.mg x = Option.none ∧ C.mb x = some v
theorem Ev.blt {C k sc ρ σ x pos v K} (b : Blt C x v) (h : K (.raw v) σ) (hk : sc.names.lookup x = some .globalImplicit) (hd : (x == ("__debug__" : Str)) = false := by decide) : Ev C k sc ρ σ (.Name x pos) K := Ev.builtin hk b.1 b.2 h hd
/-- a def of the text -/
noncomputable def Fun (C : Cx) (x : Str) (names : List String) (st : Stmt) : Prop := ∃ a, C.mg x = some (.ref a) ∧ FnAt C a names (fScope st) (fBody st)
theorem Ev.callF {C k sc ρ σ x p es pos names st K} (F : Fun C x names st) (hk : sc.names.lookup x = some .globalImplicit)
    (h : EvL C (k + 1) sc ρ σ es fun ds σ₁ => ds.length = names.length ∧ (∀ a, FnAt C a names (fScope st) (fBody st) → OpL C (k + 1) σ₁ ds (fun vs => PySem.call (.ref a) vs) K)) (hp : es.all plainE = true)
    (hd : (x == ("__debug__" : Str)) = false := by decide) : Ev C (k + 1) sc ρ σ (.Call (.Name x p) es [] pos) K := by
  obtain ⟨a, ha, hf⟩ := F
  refine Ev.call (Ev.global hk ha ⟨_, rfl, hf.callable, EvL.mono h fun ds σ₁ q => q.2 a hf⟩ hd) hp fun env => rfl

theorem PvOf.inv {e d} (p : PvOf e d) : d = .none ∨ ∃ x, d = .str x := by cases p; exact .inl rfl; exact .inr ⟨_, rfl⟩
theorem w_b1 {C k σ} {c : Nat} {K : PV → Sto → Prop} {S : Int → Bool} {n : Nat} {bA : Addr} (o : Blt C "ord" (.builtin "ord")) (hb : C.mg "b1_set" = some (.ref bA)) (T : SetAt C bA S n) (h : K (.bool (S (c : Nat))) σ) :
    Ex C k (fScope sB1) [("code", .str [c])] σ (fBody sB1) (fun g _ σ' => match g with | .ret d => K d σ' | .next => K .none σ' | _ => False) := by
  refine Ex.cons (Ex1.ret (Ev.cmp (Ev.call (Ev.blt o ⟨_, rfl, Callable.builtin, ?_⟩ rfl) rfl fun _ => rfl) rfl))
  exact Ev.name (x := "code") rfl (OpL.ord (Ev.global rfl hb (Op2.inSet T h)))
noncomputable def b3res (d : PV) (c : Nat) : PV := match d with | .none => .str (lowerL [c]) | d => d
theorem w_b3 {C k σ} {c : Nat} {K : PV → Sto → Prop} {D : List (PyData × PyData)} {bA : Addr} {d : PV} (o : Blt C "ord" (.builtin "ord")) (hb : C.mg "b3_exceptions" = some (.ref bA)) (T : DictAt C bA D) (p : PvOf ((PySem.Spec.lookup (.int (c : Nat)) D).getD .none) d)
    (hl : (lowerL [c]).length ≤ sizeLine) (h : K (b3res d c) σ) :
    Ex C k (fScope sB3) [("code", .str [c])] σ (fBody sB3) (fun g _ σ' => match g with | .ret d => K d σ' | .next => K .none σ' | _ => False) := by
  refine Ex.cons (Ex1.assign (x := "r") (Ev.method (T := "dict") (id_ := "dict.get") (Ev.global rfl hb ⟨OfType.dictAt T, ?_⟩) F.plainAttrs_dict F.slot_dict_get F.type_dict_get rfl (by decide) rfl fun _ => rfl) (.inl rfl) fun _ => rfl)
  refine Ev.call (Ev.blt o ⟨_, rfl, Callable.builtin, Ev.name (x := "code") rfl (OpL.ord ?_)⟩ rfl) rfl fun _ => rfl
  refine OpL.dget T p ?_
  rcases p.inv with rfl | ⟨x, rfl⟩
  · refine Ex.cons (Ex1.if (Tr.cmp (Ev.name (x := "r") rfl (Ev.none (Op2.isNot rfl rfl (OpB.bool ?_)))) rfl))
    show Ex C k _ _ σ [] _
    refine Ex.nil ?_
    exact Ex.cons (Ex1.ret (Ev.method (T := "str") (id_ := "str.lower") (Ev.name (x := "code") rfl ⟨OfType.str, OpL.lower hl h⟩) F.plainAttrs_str F.slot_str_lower F.type_str_lower rfl (by decide) rfl fun _ => rfl))
  · refine Ex.cons (Ex1.if (Tr.cmp (Ev.name (x := "r") rfl (Ev.none (Op2.isNot rfl rfl (OpB.bool ?_)))) rfl))
    exact Ex.cons (Ex1.ret (Ev.name (x := "r") rfl h))
/-- what the top holds, as the walks of this text want it -/
structure TopB (C : Cx) (S : Int → Bool) (D : List (PyData × PyData)) : Prop where
  ord : Blt C "ord" (.builtin "ord")
  b1s : ∃ a n, C.mg "b1_set" = some (.ref a) ∧ SetAt C a S n
  b3s : ∃ a, C.mg "b3_exceptions" = some (.ref a) ∧ DictAt C a D
  b1 : Fun C "in_table_b1" ["code"] sB1
  b3 : Fun C "map_table_b3" ["code"] sB3
/-- what map_table_b3 gives -/
noncomputable def b3of (D : List (PyData × PyData)) (c : Nat) : List Nat := match (PySem.Spec.lookup (.int (c : Nat)) D).getD .none with
  | .str x => x.cps.toList
  | _ => lowerL [c]
noncomputable def b3ok (D : List (PyData × PyData)) (c : Nat) : Bool := (match (PySem.Spec.lookup (.int (c : Nat)) D).getD .none with
  | .str _ | .none => true
  | _ => false) && decide ((lowerL [c]).length ≤ 3) && decide ((b3of D c).length ≤ 3)
section
variable {C : Cx} {S : Int → Bool} {D : List (PyData × PyData)} (T : TopB C S D)
include T
theorem op_b1 {k σ} {c : Nat} {K : PV → Sto → Prop} (h : K (.bool (S (c : Nat))) σ) : ∀ a, FnAt C a ["code"] (fScope sB1) (fBody sB1) → OpL C (k + 1) σ [.str [c]] (fun vs => PySem.call (.ref a) vs) K := fun a F => by
  obtain ⟨b, n, hb, hs⟩ := T.b1s
  exact Fn.call F (by decide +kernel) rfl (w_b1 T.ord hb hs h)
theorem op_b3 {k σ} {c : Nat} {K : PV → Sto → Prop} (ok : b3ok D c = true) (h : K (.str (b3of D c)) σ) : ∀ a, FnAt C a ["code"] (fScope sB3) (fBody sB3) → OpL C (k + 1) σ [.str [c]] (fun vs => PySem.call (.ref a) vs) K := fun a F => by
  obtain ⟨b, hb, hd⟩ := T.b3s
  unfold b3ok b3of at ok
  unfold b3of at h
  simp only [Bool.and_eq_true, decide_eq_true_eq] at ok
  have hl : (lowerL [c]).length ≤ sizeLine := by have := ok.1.2; simp [sizeLine]; omega
  have ok1 := ok.1.1
  cases hq : (PySem.Spec.lookup (.int (c : Nat)) D).getD .none with
  | none =>
    rw [hq] at h
    exact Fn.call F (by decide +kernel) rfl (w_b3 (d := .none) T.ord hb hd (by rw [hq]; exact .none) hl h)
  | str x =>
    rw [hq] at h
    exact Fn.call F (by decide +kernel) rfl (w_b3 (d := .str x.cps.toList) T.ord hb hd (by rw [hq]; exact .str x) hl h)
  | _ => rw [hq] at ok1; simp at ok1
end
end Mine
end SB3

section SE3
open PySem PySem.W PyProof.Rows
set_option Elab.async false
set_option linter.unusedVariables false
set_option maxRecDepth 100000
namespace Mine
noncomputable def IsFld (mN : Str → Option Value) (f : String) : Prop := mN (Str.ofString f) = none ∧ typeLookup (.type "object") (Str.ofString f) = pure none
/-- a method of the class -/
noncomputable def IsMeth (C : Cx) (mN : Str → Option Value) (x : String) (names : List String) (st : Stmt) : Prop :=
  ∃ f, mN (Str.ofString x) = some (.ref f) ∧ (∀ h, C.gi h → ∃ ob fd, h.get? f = some ob ∧ ob.cls = .type "function" ∧ ob.data = .func fd) ∧ FnAt C f names (fScope st) (fBody st)
/-- the class Entry, as the top left it -/
structure TopE (C : Cx) (N : Addr) (mN : Str → Option Value) : Prop where
  ok : ClsOk C N mN
  name : C.mg "Entry" = some (.ref C.cls)
  low : C.cls < C.base
  noGa : mN "__getattribute__" = none
  noGh : mN "__getattr__" = none
  noSa : mN "__setattr__" = none
  ua : IsFld mN "useragents"
  rl : IsFld mN "rulelines"
  dl : IsFld mN "delay"
  rr : IsFld mN "req_rate"
  init : ∃ f, mN "__init__" = some (.ref f) ∧ (∀ h, C.gi h → ∃ o, h.get? f = some o ∧ o.cls = .type "function") ∧ FnAt C f ["self"] (fScope sInit) (fBody sInit)
  appl : IsMeth C mN "applies_to" ["self", "useragent"] sApplies
  allow : IsMeth C mN "allowance" ["self", "filename"] sAllow
  setsX : SetsX C
  set : Blt C "set" (.type "set")
  list : Blt C "list" (.type "list")
  filter : Blt C "filter" (.type "filter")
  merge : Fun C "merge_entries" ["e1", "e2"] sMerge
theorem m3 {α : Type} {x p q r : α} {σ : List α} (h : x ∈ σ) : x ∈ p :: q :: r :: σ := List.mem_cons_of_mem _ (List.mem_cons_of_mem _ (List.mem_cons_of_mem _ h))
section
variable {C : Cx} {N : Addr} {mN : Str → Option Value} (T : TopE C N mN) {k : Nat} {sc : Scope} {ρ : Lo} {σ : Sto}
include T
theorem Ev.fld {x f : String} {p p2} {a d : Addr} {fs : List (String × PV)} {dv : PV} {K : PV → Sto → Prop} (hF : IsFld mN f) (hx : ρ.lookup x = some (.raw (.ref a))) (hm : (a, AO.inst d fs) ∈ σ) (hf : fs.lookup f = some dv) (h : K dv σ) (hh : handed dv = true := by rfl)
    (hd : (Str.ofString x == ("__debug__" : Str)) = false := by decide) (hn : (Str.ofString x == ("__classdict__" : Str)) = false := by decide) : Ev C k sc ρ σ (.Attribute (.Name (Str.ofString x) p) (Str.ofString f) p2) K :=
  Ev.attr (Ev.name hx (Op1.field T.ok hm hf hh h T.noGa hF.1 hF.2) hd hn) fun _ => rfl
theorem Ex1.setFld {x f : String} {p p2 e pos} {K : Fl → Lo → Sto → Prop} (hF : IsFld mN f) (h : Ev C k sc ρ σ e fun dv σ₁ => ∃ a d fs σ₂, ρ.lookup x = some (.raw (.ref a)) ∧ Upd σ₁ a (.inst d fs) (.inst d (setF fs f dv)) σ₂ ∧ fs.length ≤ 1000 ∧ K .next ρ σ₂)
    (hs : ∀ env, swapsWith e (some (Expr.Attribute (.Name (Str.ofString x) p) (Str.ofString f) p2)) pos.line env = pure false) (hw : ∀ env, swappedStores [Expr.Attribute (.Name (Str.ofString x) p) (Str.ofString f) p2] e env = pure none)
    (hd : (Str.ofString x == ("__debug__" : Str)) = false := by decide) (hn : (Str.ofString x == ("__classdict__" : Str)) = false := by decide) : Ex1 C k sc ρ σ (.Assign [.Attribute (.Name (Str.ofString x) p) (Str.ofString f) p2] e pos) K :=
  Ex1.setAttr T.ok (Ev.mono h fun dv σ₁ ⟨a, d, fs, σ₂, hx, u, hl, q⟩ => Ev.name hx ⟨a, d, fs, σ₂, rfl, u, by simp [sizeLine]; lia, q⟩ hd hn) T.low T.noSa hF.1 hF.2 hs hw
noncomputable abbrev fsNew (u r : Addr) : List (String × PV) := [("req_rate", .none), ("delay", .none), ("rulelines", .raw (.ref r)), ("useragents", .raw (.ref u))]
theorem w_init {a d : Addr} {K : PV → Sto → Prop} (h : ∀ u r, u ∉ dom ((a, .inst d []) :: σ) → r ∉ u :: dom ((a, .inst d []) :: σ) → K .none ((r, .mlist []) :: (u, .mlist []) :: (a, .inst d (fsNew u r)) :: σ)) :
    Ex C k (fScope sInit) [("self", .raw (.ref a))] ((a, .inst d []) :: σ) (fBody sInit) (fun g _ σ' => match g with | .ret d => K d σ' | .next => K .none σ' | _ => False) := by
  refine Ex.cons (Ex1.setFld T (x := "self") (f := "useragents") T.ua ?_ (fun _ => rfl) fun _ => rfl)
  refine Ev.mlist (es := []) ⟨by decide, fun u hu => ⟨a, d, _, _, rfl, .there .here, by decide, ?_⟩⟩ rfl
  refine Ex.cons (Ex1.setFld T (x := "self") (f := "rulelines") T.rl ?_ (fun _ => rfl) fun _ => rfl)
  refine Ev.mlist (es := []) ⟨by decide, fun r hr => ⟨a, d, _, _, rfl, .there (.there .here), by simp [setF], ?_⟩⟩ rfl
  refine Ex.cons (Ex1.setFld T (x := "self") (f := "delay") T.dl ?_ (fun _ => rfl) fun _ => rfl)
  refine Ev.none ⟨a, d, _, _, rfl, .there (.there .here), by simp [setF], ?_⟩
  refine Ex.cons (Ex1.setFld T (x := "self") (f := "req_rate") T.rr ?_ (fun _ => rfl) fun _ => rfl)
  refine Ev.none ⟨a, d, _, _, rfl, .there (.there .here), by simp [setF], ?_⟩
  exact Ex.nil (h u r hu hr)
/-- a call of a method with one argument -/
theorem Ev.meth {x m : String} {p p2 p3 names st} {a d : Addr} {fs : List (String × PV)} {e₁ : Expr} {K : PV → Sto → Prop} (M : IsMeth C mN m names st) (hB : typeLookup (.type "object") (Str.ofString m) = pure Option.none) (hx : ρ.lookup x = some (.raw (.ref a))) (hm : (a, AO.inst d fs) ∈ σ) (hf : fs.lookup m = Option.none)
    (h : Ev C k sc ρ σ e₁ fun d₁ σ₁ => ∀ f, FnAt C f names (fScope st) (fBody st) → OpL C k σ₁ [.raw (.ref a), d₁] (fun vs => PySem.call (.ref f) vs) K) (hp : [e₁].all plainE = true) (hline : (p2.endLine == p3.line) = true) (hbase : ∀ env, attributeBase (.Name (Str.ofString x) p) (Str.ofString m) env (eval (.Name (Str.ofString x) p) env) = eval (.Name (Str.ofString x) p) env)
    (hd : (Str.ofString x == ("__debug__" : Str)) = false := by decide) (hn : (Str.ofString x == ("__classdict__" : Str)) = false := by decide) : Ev C k sc ρ σ (.Call (.Attribute (.Name (Str.ofString x) p) (Str.ofString m) p2) [e₁] [] p3) K := by
  obtain ⟨f, h1, h2, h3⟩ := M
  exact Ev.methodI T.ok h2 (Ev.name hx ⟨a, d, fs, rfl, hm, hf, Ev.mono h fun d₁ σ₁ q => q f h3⟩ hd hn) h1 T.noGa T.noGh ⟨_, hB⟩ hp (by simp) hline hbase
/-- Entry() -/
theorem Ev.entry {p pos} {K : PV → Sto → Prop} (hk : sc.names.lookup (Str.ofString "Entry") = some NameKind.globalImplicit)
    (h : ∀ a d u r, a ∉ dom σ → d ∉ dom σ → u ∉ dom σ → r ∉ dom σ → [r, u, a, d].Nodup → K (.raw (.ref a)) ((r, .mlist []) :: (u, .mlist []) :: (a, .inst d (fsNew u r)) :: σ)) : Ev C (k + 2) sc ρ σ (.Call (.Name (Str.ofString "Entry") p) [] [] pos) K := by
  refine Ev.call (Ev.global hk T.name ⟨_, rfl, T.ok.callable, ?_⟩) rfl fun _ => rfl
  obtain ⟨f, h1, h2, h3⟩ := T.init
  refine OpL.make T.ok h1 h2 fun a d ha hd hne => ?_
  refine Fn.call h3 (by decide +kernel) rfl ?_
  refine w_init T fun u r hu hr => ⟨rfl, h a d u r ha hd ?_ ?_ ?_⟩
  · exact fun q => hu (List.mem_cons_of_mem _ (List.mem_append_right _ q))
  · exact fun q => hr (List.mem_cons_of_mem _ (List.mem_cons_of_mem _ (List.mem_append_right _ q)))
  · have hu1 : u ≠ a := fun q => hu (q ▸ List.mem_cons_self)
    have hu2 : u ≠ d := fun q => hu (q ▸ List.mem_cons_of_mem _ List.mem_cons_self)
    have hr0 : r ≠ u := fun q => hr (q ▸ List.mem_cons_self)
    have hr1 : r ≠ a := fun q => hr (q ▸ List.mem_cons_of_mem _ List.mem_cons_self)
    have hr2 : r ≠ d := fun q => hr (q ▸ List.mem_cons_of_mem _ (List.mem_cons_of_mem _ List.mem_cons_self))
    simp [hu1, hu2, hr0, hr1, hr2, hne]
/-- a record, as the store has it -/
noncomputable def EntAt (σ : Sto) (a : Addr) (us : List (List Nat)) (rs : List PV) (dl rr : PV) : Prop :=
  ∃ d fs, (a, AO.inst d fs) ∈ σ ∧ (∃ u, fs.lookup "useragents" = some (.raw (.ref u)) ∧ (u, AO.mlist (us.map .str)) ∈ σ) ∧ (∃ r, fs.lookup "rulelines" = some (.raw (.ref r)) ∧ (r, AO.mlist rs) ∈ σ) ∧ fs.lookup "delay" = some dl ∧ fs.lookup "req_rate" = some rr
omit T in
theorem EntAt.mono {σ σ' : Sto} {a us rs dl rr} (h : EntAt σ a us rs dl rr) (e : ∀ p ∈ σ, p ∈ σ') : EntAt σ' a us rs dl rr :=
  let ⟨d, fs, h1, ⟨u, h2, h3⟩, ⟨r, h4, h5⟩, h6, h7⟩ := h; ⟨d, fs, e _ h1, ⟨u, h2, e _ h3⟩, ⟨r, h4, e _ h5⟩, h6, h7⟩
/-- what merge_entries makes of two values: the second one, or the first one if there is none -/
noncomputable def orP (a b : PV) : PV := if pis b .none then a else b
noncomputable abbrev fsMer (us : List (List Nat)) (rs : List PV) (dl rr : PV) (tl : List (String × PV)) : List (String × PV) := ("req_rate", rr) :: ("delay", dl) :: ("rulelines", .list rs) :: ("useragents", .list (us.map .str)) :: tl
theorem ev_or {a₁ a₂ d₁ d₂ : Addr} {fs₁ fs₂ : List (String × PV)} {dl dl' : PV} {f : String} {K : PV → Sto → Prop} {p₁ p₂ p₃ p₄ p₅ p₆ p₇ p₈ p₉ pa} (hF : IsFld mN f) (h1 : ρ.lookup "e1" = some (.raw (.ref a₁))) (h2 : ρ.lookup "e2" = some (.raw (.ref a₂))) (e₁ : (a₁, AO.inst d₁ fs₁) ∈ σ) (e₂ : (a₂, AO.inst d₂ fs₂) ∈ σ)
    (f₁ : fs₁.lookup f = some dl) (f₂ : fs₂.lookup f = some dl') (n : notRaw dl' = true) (n₁ : handed dl = true) (n₂ : handed dl' = true) (hK : K (orP dl dl') σ) :
    Ev C k sc ρ σ (.IfExp (.Compare (.Attribute (.Name (Str.ofString "e2") p₁) (Str.ofString f) p₂) [.Is] [.Constant .none p₃ p₄] p₅) (.Attribute (.Name (Str.ofString "e1") p₆) (Str.ofString f) p₇) (.Attribute (.Name (Str.ofString "e2") p₈) (Str.ofString f) p₉) pa) K := by
  refine Ev.ifexp (Tr.cmp (Ev.fld T (x := "e2") hF h2 e₂ f₂ (Ev.none (Op2.is rfl n (OpB.bool ?_))) n₂) rfl)
  unfold orP at hK
  cases hp : pis dl' .none with
  | true => rw [if_pos rfl]; rw [hp, if_pos rfl] at hK; exact Ev.fld T (x := "e1") hF h1 e₁ f₁ hK n₁
  | false => rw [if_neg (by simp)]; rw [hp, if_neg (by simp)] at hK; exact Ev.fld T (x := "e2") hF h2 e₂ f₂ hK n₂
theorem w_merge {a₁ a₂ : Addr} {us₁ us₂ : List (List Nat)} {rs₁ rs₂ : List PV} {dl₁ dl₂ rr₁ rr₂ : PV} {K : PV → Sto → Prop} (h₁ : EntAt σ a₁ us₁ rs₁ dl₁ rr₁) (h₂ : EntAt σ a₂ us₂ rs₂ dl₂ rr₂)
    (l₁ : us₁.length ≤ 1000) (l₂ : us₂.length ≤ 1000) (l₃ : rs₁.length + rs₂.length ≤ 1000) (n₁ : notRaw dl₂ = true) (n₂ : notRaw rr₂ = true) (n₃ : handed dl₁ = true) (n₄ : handed rr₁ = true) (n₅ : handed dl₂ = true) (n₆ : handed rr₂ = true)
    (h : ∀ a d tl, a ∉ dom σ → d ∉ dom σ → a ≠ d → K (.raw (.ref a)) ((a, .inst d (fsMer (us₁.filter fun x => decide (x ∈ us₂)) (rs₁ ++ rs₂) (orP dl₁ dl₂) (orP rr₁ rr₂) tl)) :: σ)) :
    Ex C (k + 2) (fScope sMerge) [("e1", .raw (.ref a₁)), ("e2", .raw (.ref a₂))] σ (fBody sMerge) (fun g _ σ' => match g with | .ret d => ∃ σ'', σ''.Sublist σ' ∧ K d σ'' | _ => False) := by
  obtain ⟨d₁, fs₁, m₁, ⟨u₁, fu₁, mu₁⟩, ⟨r₁, fr₁, mr₁⟩, fd₁, fq₁⟩ := h₁
  obtain ⟨d₂, fs₂, m₂, ⟨u₂, fu₂, mu₂⟩, ⟨r₂, fr₂, mr₂⟩, fd₂, fq₂⟩ := h₂
  refine Ex.cons (Ex1.assign (x := "entry") (Ev.entry T rfl fun a d u r ha hd hu hr hn => ?_) (.inl rfl) fun _ => rfl)
  have hne : a ≠ d := by simp at hn; exact hn.2.2
  refine Ex.cons (Ex1.setFld T (x := "entry") (f := "useragents") T.ua ?_ (fun _ => rfl) fun _ => rfl)
  refine Ev.listFilter (ys := us₂) (xs := us₁) T.setsX T.list T.filter rfl rfl rfl ?_
  refine Ev.attr (Ev.call (Ev.blt T.set ⟨_, rfl, Callable.type, ?_⟩ rfl) rfl fun _ => rfl) fun _ => rfl
  refine Ev.fld T (x := "e2") (f := "useragents") T.ua rfl (m3 m₂) fu₂ ?_
  refine OpL.setNew T.setsX (LRead.mut (m3 mu₂)) (by lia) ?_
  refine Op1.contains T.setsX ⟨rfl, ?_⟩
  refine Ev.fld T (x := "e1") (f := "useragents") T.ua rfl (m3 m₁) fu₁ ?_
  refine ⟨LRead.mut (m3 mu₁), by lia, a, d, _, _, rfl, .there (.there .here), by simp, ?_⟩
  refine Ex.cons (Ex1.setFld T (x := "entry") (f := "rulelines") T.rl ?_ (fun _ => rfl) fun _ => rfl)
  refine Ev.binop (Ev.fld T (x := "e1") (f := "rulelines") T.rl rfl (m3 m₁) fr₁ (Ev.fld T (x := "e2") (f := "rulelines") T.rl rfl (m3 m₂) fr₂ ?_))
  refine Op2.addl (LRead.mut (m3 mr₁)) (LRead.mut (m3 mr₂)) (by simp [sizeLine]; lia) ?_
  refine ⟨a, d, _, _, rfl, .there (.there .here), by simp [setF], ?_⟩
  refine Ex.cons (Ex1.setFld T (x := "entry") (f := "delay") T.dl ?_ (fun _ => rfl) fun _ => rfl)
  refine ev_or T T.dl rfl rfl (m3 m₁) (m3 m₂) fd₁ fd₂ n₁ n₃ n₅ ⟨a, d, _, _, rfl, .there (.there .here), by simp [setF], ?_⟩
  refine Ex.cons (Ex1.setFld T (x := "entry") (f := "req_rate") T.rr ?_ (fun _ => rfl) fun _ => rfl)
  refine ev_or T T.rr rfl rfl (m3 m₁) (m3 m₂) fq₁ fq₂ n₂ n₄ n₆ ⟨a, d, _, _, rfl, .there (.there .here), by simp [setF], ?_⟩
  refine Ex.cons (Ex1.ret (Ev.name (x := "entry") rfl ⟨_, ?_, h a d (fsNew u r) ha hd hne⟩))
  exact .cons _ (.cons _ (.refl _))
/-- merge_entries(e1, e2) -/
theorem op_merge {a₁ a₂ : Addr} {us₁ us₂ : List (List Nat)} {rs₁ rs₂ : List PV} {dl₁ dl₂ rr₁ rr₂ : PV} {K : PV → Sto → Prop} (h₁ : EntAt σ a₁ us₁ rs₁ dl₁ rr₁) (h₂ : EntAt σ a₂ us₂ rs₂ dl₂ rr₂)
    (l₁ : us₁.length ≤ 1000) (l₂ : us₂.length ≤ 1000) (l₃ : rs₁.length + rs₂.length ≤ 1000) (n₁ : notRaw dl₂ = true) (n₂ : notRaw rr₂ = true) (n₃ : handed dl₁ = true) (n₄ : handed rr₁ = true) (n₅ : handed dl₂ = true) (n₆ : handed rr₂ = true)
    (h : ∀ a d tl, a ∉ dom σ → d ∉ dom σ → a ≠ d → K (.raw (.ref a)) ((a, .inst d (fsMer (us₁.filter fun x => decide (x ∈ us₂)) (rs₁ ++ rs₂) (orP dl₁ dl₂) (orP rr₁ rr₂) tl)) :: σ)) :
    ∀ f, FnAt C f ["e1", "e2"] (fScope sMerge) (fBody sMerge) → OpL C (k + 3) σ [.raw (.ref a₁), .raw (.ref a₂)] (fun vs => PySem.call (.ref f) vs) K := fun f F =>
  OpL.drop (Fn.call F (by decide +kernel) rfl (Ex.mono (w_merge T h₁ h₂ l₁ l₂ l₃ n₁ n₂ n₃ n₄ n₅ n₆ h) fun g ρ' σ' q => by
    cases g with
    | ret d => exact q
    | next => exact q.elim
    | brk => exact q.elim
    | cont => exact q.elim))
end
end Mine
end SE3

section SC3
open PySem PySem.W PyProof.Rows
set_option Elab.async false
set_option linter.unusedVariables false
set_option maxRecDepth 100000
namespace Mine
/-- what a def's end is when it hands back its own list -/
noncomputable def Frz (σ : Sto) (K : PV → Sto → Prop) (d : PV) (σ' : Sto) : Prop := ∃ a xs σ'', d = .raw (.ref a) ∧ (a, AO.mlist xs) ∈ σ' ∧ σ''.Sublist σ' ∧ a ∉ dom σ'' ∧ a ∉ dom σ ∧ K (.list xs) σ''
noncomputable def cellStep (m : Nat) (cs : List Int) (p : Int × Nat) : List Int := cs.set (p.2 % m) (cs.getD (p.2 % m) 0 + p.1 % 10 ^ 9)
noncomputable def cellsOf (init : List Int) (m : Nat) (s : List Int) : List Int := s.zipIdx.foldl (cellStep m) init
theorem cellsOf_snoc (init : List Int) (m : Nat) (s : List Int) (x : Int) : cellsOf init m (s ++ [x]) = cellStep m (cellsOf init m s) (x, s.length) := by
  unfold cellsOf
  rw [List.zipIdx_append, List.foldl_append]
  simp
theorem cellsOf_length (init : List Int) (m : Nat) (s : List Int) : (cellsOf init m s).length = init.length := by
  unfold cellsOf
  generalize s.zipIdx = l
  induction l generalizing init with
  | nil => rfl
  | cons p r ih => rw [List.foldl_cons, ih]; simp [cellStep]
theorem cellsOf_bound {init : List Int} {m : Nat} {s : List Int} (hi : ∀ c ∈ init, 0 ≤ c) : ∀ c ∈ cellsOf init m s, 0 ≤ c := by
  unfold cellsOf
  generalize s.zipIdx = l
  induction l generalizing init with
  | nil => exact hi
  | cons p r ih =>
    rw [List.foldl_cons]
    refine ih fun c hc => ?_
    unfold cellStep at hc
    rcases List.mem_or_eq_of_mem_set hc with h | h
    · exact hi c h
    · rw [h]
      have h1 : 0 ≤ init.getD (p.2 % m) 0 := by
        rw [List.getD_eq_getElem?_getD]
        cases hg : init[p.2 % m]? with
        | none => simp
        | some v => simpa using hi v (List.mem_of_getElem? hg)
      have h2 := Int.emod_nonneg p.1 (show (10 ^ 9 : Int) ≠ 0 by decide)
      lia
theorem range_size (n : Nat) : Builtin.Range.rangeSize 0 (n : Int) 1 = n := by
  rw [PySem.rangeSize_one]; split <;> lia
theorem rangeL_nat (n : Nat) : rangeL 0 (n : Int) 1 = (List.range n).map fun (i : Nat) => PV.int (i : Int) := by
  unfold rangeL
  rw [range_size]
  simp
theorem w_cells {C k σ} {s : List Int} {K : PV → Sto → Prop} (len : Blt C "len" (.builtin "len")) (rng : Blt C "range" (.type "range")) (hs : s.length ≤ 1000) (h : K (.list ((cellsOf [2, 7, 635, 1, 16, 58240, 5] 7 (s.take 60)).map .int)) σ) :
    Ex C k (fScope (stAt 10)) [("script", .list (s.map .int))] σ (fBody (stAt 10)) (fun g _ σ' => match g with | .ret d => Frz σ K d σ' | _ => False) := by
  refine Ex.cons (Ex1.assign (x := "cells") (Ev.mlist (es := [_, _, _, _, _, _, _]) (Ev.int (Ev.int (Ev.int (Ev.int (Ev.int (Ev.int (Ev.int (⟨by simp [sizeLine], fun a ha => ?_⟩)))))))) rfl) (.inl rfl) fun _ => rfl)
  have hslc : slcL (s.map PV.int) none (some 60) none = (s.take 60).map PV.int := by
    rw [show (some (60 : Int)) = some ((60 : Nat) : Int) from rfl, slcL_to, List.map_take]
  refine Ex.cons (Ex1.for (J := fun rest ρ σ' => ∃ i : Nat, i ≤ (s.take 60).length ∧ rest = (((List.range (s.take 60).length).drop i).map fun (j : Nat) => PV.int (j : Int)) ∧ Has ρ [("cells", .raw (.ref a)), ("script", .list (s.map .int))] ∧
    σ' = (a, .mlist ((cellsOf [2, 7, 635, 1, 16, 58240, 5] 7 (s.take i)).map .int)) :: σ) ?_ ?_ ?_ fun _ _ => rfl)
  · refine Ev.call (Ev.blt rng ⟨_, rfl, Callable.type, ?_⟩ rfl) rfl fun _ => rfl
    refine Ev.call (Ev.blt len ⟨_, rfl, Callable.builtin, ?_⟩ rfl) rfl fun _ => rfl
    refine Ev.sub (Ev.name (x := "script") rfl (Ev.slice (Ev.int ⟨_, _, _, .none, .int 60, .none, Op2.slice .list (by decide) (by simp [sizeLine]; lia) ?_⟩)))
    rw [hslc]
    refine OpL.len_l .list (by simp; lia) ?_
    rw [List.length_map]
    refine OpL.range1 ⟨_, Iterable.range ?_, 0, Nat.zero_le _, ?_, ⟨rfl, rfl, trivial⟩, ?_⟩
    · have := List.length_take_le 60 s
      exact small_up (by lia) (by lia) (by lia) (by lia)
    · rw [rangeL_nat]; rfl
    · rfl
  · rintro x r ρ' σ' ⟨i, hi, he, hh, rfl⟩
    have hlt : i < (s.take 60).length := by
      have := congrArg List.length he
      simp at this hi ⊢
      lia
    have hd : (List.range (s.take 60).length).drop i = i :: (List.range (s.take 60).length).drop (i + 1) := by
      rw [List.drop_eq_getElem_cons (by simpa using hlt)]; simp
    rw [hd, List.map_cons] at he
    obtain ⟨rfl, rfl⟩ : x = PV.int (i : Int) ∧ r = ((List.range (s.take 60).length).drop (i + 1)).map fun (j : Nat) => PV.int (j : Int) := by simpa using he
    have his : i < s.length := by have := List.length_take_le' 60 s; lia
    have e7 : (i : Int) % 7 = ((i % 7 : Nat) : Int) := by lia
    have hcl : (cellsOf [2, 7, 635, 1, 16, 58240, 5] 7 (s.take i)).length = 7 := cellsOf_length _ _ _
    have hci : i % 7 < (cellsOf [2, 7, 635, 1, 16, 58240, 5] 7 (s.take i)).length := by rw [hcl]; lia
    have htk : s.take (i + 1) = s.take i ++ [s[i]] := by rw [List.take_add_one, List.getElem?_eq_getElem his]; rfl
    refine Bind.name (x := "place") (.inl rfl) ?_
    refine Ex.has (ρ' := [("place", .int (i : Int)), ("cells", .raw (.ref a)), ("script", .list (s.map .int))]) ⟨rfl, hh.1, hh.2.1, trivial⟩ ?_
    refine Ex.cons (Ex1.setSub ?_ fun _ => rfl)
    refine Ev.binop (Ev.sub (Ev.name (x := "cells") rfl (Ev.binop (Ev.name (x := "place") rfl (Ev.int (Op2.mod (by decide) ?_))))))
    rw [e7]
    refine Op2.item (d := .int ((cellsOf [2, 7, 635, 1, 16, 58240, 5] 7 (s.take i)).getD (i % 7) 0)) (LRead.mut List.mem_cons_self) (by lia) (by lia) (by rw [Int.toNat_natCast, List.getElem?_map, List.getElem?_eq_getElem hci, List.getD_eq_getElem?_getD, List.getElem?_eq_getElem hci]; rfl) ?_
    refine Ev.binop (Ev.sub (Ev.name (x := "script") rfl (Ev.name (x := "place") rfl (Op2.item (d := .int s[i]) .list (by lia) (by lia) (by rw [Int.toNat_natCast, List.getElem?_map, List.getElem?_eq_getElem his]; rfl) ?_))))
    refine Ev.binop (Ev.int (Ev.int (Op2.pow (by decide) (by decide) (Op2.mod (by decide) (Op2.add ?_)))))
    refine Ev.name (x := "cells") rfl (Ev.binop (Ev.name (x := "place") rfl (Ev.int (Op2.mod (by decide) ?_))))
    rw [e7]
    refine Op3u.setList .here (by rw [List.length_map]; exact hci) (by rw [List.length_map, hcl]; decide) ?_
    refine Ex.nil ⟨i + 1, hlt, rfl, ⟨rfl, rfl, trivial⟩, ?_⟩
    rw [htk, cellsOf_snoc, List.length_take, Nat.min_eq_left (Nat.le_of_lt his)]
    unfold cellStep
    rw [List.map_set]
    rfl
  · rintro ρ' σ' ⟨i, hi, he, hh, rfl⟩
    have : i = (s.take 60).length := by
      have := congrArg List.length he
      simp at this hi ⊢
      lia
    subst this
    refine Ex.has hh (Ex.cons (Ex1.ret (Ev.name (x := "cells") rfl ?_)))
    refine ⟨a, _, σ, rfl, List.mem_cons_self, List.sublist_cons_self _ _, ha, ha, ?_⟩
    have e : s.take (s.take 60).length = s.take 60 := by
      rw [List.length_take]
      by_cases h60 : 60 ≤ s.length
      · rw [Nat.min_eq_left h60]
      · rw [Nat.min_eq_right (by lia), List.take_of_length_le (Nat.le_refl _), List.take_of_length_le (by lia)]
    rw [e]; exact h
end Mine
end SC3

section W31
open PySem PySem.W PyProof.Rows
set_option Elab.async false
set_option linter.unusedVariables false
set_option maxRecDepth 100000
namespace Mine
noncomputable def fonts : List Nat := [119808, 119860, 119912, 120016, 120172, 120224, 120276, 120328, 120380, 120432]
noncomputable def lone : List Nat := [173, 847, 6150, 6155, 6156, 6157, 8203, 8204, 8205, 8288, 65279]
noncomputable def codes3 : List Nat := [223, 8360, 8470, 8480, 8481, 8482, 13169, 13255, 13273, 64256, 64260, 64262]
noncomputable def texts3 : List (List Nat) := [[115, 115], [114, 115], [110, 111], [115, 109], [116, 101, 108], [116, 109], [104, 112, 97], [99, 111, 46], [112, 112, 109], [102, 102], [102, 102, 108], [115, 116]]
/-- the code of a cell's sign -/
noncomputable def signC (c : Nat) : Nat :=
  if c % 8 < 3 then (if c % 8 = 2 then 65 else 97) + c / 8 % 26
  else if c % 8 < 5 then fonts.getD (c / 8 / 26 % 10) 0 + c / 8 % 26
  else if c % 8 < 7 then codes3.getD (c / 8 % 12) 0
  else if c / 8 % 27 < 11 then lone.getD (c / 8 % 27) 0 else 65013 + c / 8 % 27
/-- the letters that are meant -/
noncomputable def signT (c : Nat) : List Nat :=
  if c % 8 < 5 then [97 + c / 8 % 26] else if c % 8 < 7 then texts3.getD (c / 8 % 12) [] else []
theorem getD_lt {l : List Nat} {i m : Nat} (h : l.all (· ≤ m) = true) : l.getD i 0 ≤ m := by
  rw [List.getD_eq_getElem?_getD]
  cases e : l[i]? with
  | none => simp
  | some v => simpa using List.all_eq_true.mp h v (List.mem_of_getElem? e)
theorem ev_low {C k σ sc} {ρ : Lo} {q : Nat} {K : PV → Sto → Prop} {p1 p2 p3 p4 p5 p6 p7 k1 k2} (chr : Blt C "chr" (.builtin "chr")) (hk : sc.names.lookup (Str.ofString "chr") = some NameKind.globalImplicit) (hp : ρ.lookup "pick" = some (.int q)) (h : K (.str [97 + q % 26]) σ) :
    Ev C k sc ρ σ (.Call (.Name (Str.ofString "chr") p1) [.BinOp (.Constant (.int 97) k1 p2) .Add (.BinOp (.Name (Str.ofString "pick") p3) .Mod (.Constant (.int 26) k2 p4) p5) p6] [] p7) K :=
  Ev.call1 chr hk (Ev.binop (Ev.int (Ev.binop (Ev.name (x := "pick") hp (Ev.int (Op2.modN (b := 26) (by decide) (Op2.addN (a := 97) (OpL.chrN (by have := Nat.mod_lt q (show 26 > 0 by decide); lia) h)))))))) rfl
theorem w_sign {C k σ} {c : Nat} {K : PV → Sto → Prop} (chr : Blt C "chr" (.builtin "chr")) (h : K (.tuple [.str [signC c], .str (signT c)]) σ) :
    Ex C k (fScope (stAt 11)) [("cell", .int c)] σ (fBody (stAt 11)) (fun g _ σ' => match g with | .ret d => K d σ' | .next => K .none σ' | _ => False) := by
  refine Ex.cons (Ex1.swap2 "kind" "pick" ?_ rfl (by decide +kernel) (fun env he => by cases env; dsimp only at he; subst he; rfl) rfl)
  refine Ev.binop (Ev.name (x := "cell") rfl (Ev.int (Op2.modN (b := 8) (by decide) ?_)))
  refine Ev.binop (Ev.name (x := "cell") rfl (Ev.int (Op2.divN (b := 8) (by decide) ?_)))
  have p26 : c / 8 % 26 < 26 := Nat.mod_lt _ (by decide)
  unfold signC signT at h
  refine Ex.cons (Ex1.if (Tr.cmp (Ev.name (x := "kind") rfl (Ev.int (Op2.ltN (b := 3) (OpB.bool ?_)))) rfl))
  refine ite_dec (fun h3 => ?_) fun h3 => ?_
  · rw [if_pos h3, if_pos (by lia : c % 8 < 5)] at h
    refine Ex.cons (Ex1.ret (Ev.tuple2 (Ev.call1 chr rfl (Ev.binop (Ev.ifexp (Tr.cmp (Ev.name (x := "kind") rfl (Ev.int (Op2.eqN (b := 2) (OpB.bool ?_)))) rfl))) rfl) rfl))
    refine ite_dec (fun h2 => ?_) fun h2 => ?_
    · rw [if_pos h2] at h
      exact Ev.int (Ev.binop (Ev.name (x := "pick") rfl (Ev.int (Op2.modN (b := 26) (by decide) (Op2.addN (a := 65) (OpL.chrN (by lia) (ev_low chr rfl rfl h)))))))
    · rw [if_neg h2] at h
      exact Ev.int (Ev.binop (Ev.name (x := "pick") rfl (Ev.int (Op2.modN (b := 26) (by decide) (Op2.addN (a := 97) (OpL.chrN (by lia) (ev_low chr rfl rfl h)))))))
  rw [if_neg h3] at h
  refine Ex.nil ?_
  refine Ex.cons (Ex1.if (Tr.cmp (Ev.name (x := "kind") rfl (Ev.int (Op2.ltN (b := 5) (OpB.bool ?_)))) rfl))
  refine ite_dec (fun h5 => ?_) fun h5 => ?_
  · rw [if_pos h5, if_pos h5] at h
    refine Ex.cons ?_
    refine Ex1.asgNats (x := "fonts") (ns := fonts) ?_ ?_ ?_
    · kernel_rfl
    · decide +kernel
    refine Ex.cons (Ex1.ret (Ev.tuple2 (Ev.call1 chr rfl (Ev.binop (Ev.sub (Ev.name (x := "fonts") rfl ?_))) rfl) rfl))
    refine Ev.binop (Ev.binop (Ev.name (x := "pick") rfl (Ev.int (Op2.divN (b := 26) (by decide) (Ev.int (Op2.modN (b := 10) (by decide) ?_))))))
    refine Op2.pick (show _ < 10 from Nat.mod_lt _ (by decide)) ?_
    have := getD_lt (l := fonts) (i := c / 8 / 26 % 10) (m := 120432) (by decide)
    exact Ev.binop (Ev.name (x := "pick") rfl (Ev.int (Op2.modN (b := 26) (by decide) (Op2.addN (OpL.chrN (by lia) (ev_low chr rfl rfl h))))))
  rw [if_neg h5, if_neg h5] at h
  refine Ex.nil ?_
  refine Ex.cons (Ex1.if (Tr.cmp (Ev.name (x := "kind") rfl (Ev.int (Op2.ltN (b := 7) (OpB.bool ?_)))) rfl))
  refine ite_dec (fun h7 => ?_) fun h7 => ?_
  · rw [if_pos h7, if_pos h7] at h
    refine Ex.cons ?_
    refine Ex1.asgNats (x := "codes") (ns := codes3) ?_ ?_ ?_
    · kernel_rfl
    · decide +kernel
    refine Ex.cons ?_
    refine Ex1.asgStrs (x := "texts") (ns := texts3) ?_ ?_ ?_
    · kernel_rfl
    · decide +kernel
    refine Ex.cons (Ex1.ret (Ev.tuple2 (Ev.call1 chr rfl (Ev.sub (Ev.name (x := "codes") rfl (Ev.binop (Ev.name (x := "pick") rfl (Ev.int (Op2.modN (b := 12) (by decide) ?_)))))) rfl) rfl))
    have p12 : c / 8 % 12 < 12 := Nat.mod_lt _ (by decide)
    refine Op2.pick p12 ?_
    have := getD_lt (l := codes3) (i := c / 8 % 12) (m := 64262) (by decide)
    refine OpL.chrN (by lia) ?_
    refine Ev.sub (Ev.name (x := "texts") rfl (Ev.binop (Ev.name (x := "pick") rfl (Ev.int (Op2.modN (b := 12) (by decide) ?_)))))
    exact Op2.itemN .list (d := .str (texts3.getD (c / 8 % 12) [])) (by rw [List.getElem?_map, List.getD_eq_getElem?_getD, List.getElem?_eq_getElem (show c / 8 % 12 < texts3.length from p12)]; rfl) h
  rw [if_neg h7, if_neg h7] at h
  refine Ex.nil ?_
  refine Ex.cons ?_
  refine Ex1.asgNats (x := "lone") (ns := lone) ?_ ?_ ?_
  · kernel_rfl
  · decide +kernel
  have p27 : c / 8 % 27 < 27 := Nat.mod_lt _ (by decide)
  refine Ex.cons (Ex1.ret (Ev.tuple2 (Ev.call1 chr rfl (Ev.ifexp (Tr.cmp (Ev.binop (Ev.name (x := "pick") rfl (Ev.int (Op2.modN (b := 27) (by decide) (Ev.int (Op2.ltN (b := 11) (OpB.bool ?_))))))) rfl)) rfl) rfl))
  refine ite_dec (fun h11 => ?_) fun h11 => ?_
  · rw [if_pos h11] at h
    refine Ev.sub (Ev.name (x := "lone") rfl (Ev.binop (Ev.name (x := "pick") rfl (Ev.int (Op2.modN (b := 27) (by decide) (Op2.pick h11 ?_))))))
    have := getD_lt (l := lone) (i := c / 8 % 27) (m := 65279) (by decide)
    exact OpL.chrN (by lia) (Ev.str (l := []) rfl h)
  · rw [if_neg h11] at h
    exact Ev.binop (Ev.int (Ev.binop (Ev.name (x := "pick") rfl (Ev.int (Op2.modN (b := 27) (by decide) (Op2.addN (a := 65013) (OpL.chrN (by lia) (Ev.str (l := []) rfl h))))))))
end Mine
end W31

section C38
open PySem PySem.W PyProof.Rows
set_option Elab.async false
set_option linter.unusedVariables false
set_option maxRecDepth 100000
namespace Mine
/-- two clauses, two names, nothing stored, no tests -/
theorem Comp.pure2 {C k sc ρc elt t₁ t₂ p₁ p₂ iter₁ iter₂ scope xs σ} {K : List PV → Sto → Prop} (ys : PV → List PV) (f : PV → PV → PV)
    (h₁ : (rel scope sc).names.lookup (Str.ofString t₁) = some .local) (h₂ : (rel scope sc).names.lookup (Str.ofString t₂) = some .local) (n₁ : ρc.lookup t₁ = none) (n₂ : ρc.lookup t₂ = none) (hne : t₂ ≠ t₁)
    (hi : ∀ x ∈ xs, ∀ K' : PV → Sto → Prop, (∀ a, Iterable C k σ a (ys x) → K' a σ) → Ev C k (rel scope sc) ((t₁, x) :: ρc) σ iter₂ K')
    (he : ∀ x ∈ xs, ∀ y ∈ ys x, ∀ K' : PV → Sto → Prop, K' (f x y) σ → Ev C k (rel scope sc) ((t₂, y) :: (t₁, x) :: ρc) σ elt K')
    (hl : (xs.flatMap fun x => (ys x).map (f x)).length ≤ sizeLine) (h : K (xs.flatMap fun x => (ys x).map (f x)) σ) : Comp C k sc ρc elt ⟨.Name (Str.ofString t₁) p₁, iter₁, [], 0⟩ [⟨.Name (Str.ofString t₂) p₂, iter₂, [], 0⟩] scope xs σ K := by
  refine ⟨fun rest acc ρ σ' => σ' = σ ∧ LSub ρ ρc ∧ ∃ done, done ++ rest = xs ∧ acc = done.flatMap fun x => (ys x).map (f x), ⟨rfl, fun _ _ h => h, [], rfl, rfl⟩, ?_, ?_⟩
  · rintro x r acc ρ σ' ⟨rfl, hs, done, hd, rfl⟩
    have hm : x ∈ xs := hd ▸ List.mem_append_right _ List.mem_cons_self
    refine Bind.nameL h₁ ?_
    show CompOk C k _ elt _ _ _ _ _
    refine Ev.lsub (hs.cons n₁) (hi x hm _ fun a ha => ⟨_, ha, fun rest acc ρ σ' => σ' = _ ∧ LSub ρ ((t₁, x) :: ρc) ∧ ∃ d, d ++ rest = ys x ∧ acc = (done.flatMap fun x => (ys x).map (f x)) ++ d.map (f x), ⟨rfl, hs.cons n₁, [], rfl, by simp⟩, ?_, ?_⟩)
    · rintro y r₂ acc ρ σ' ⟨rfl, hs₂, d, hd₂, rfl⟩
      have hy : y ∈ ys x := hd₂ ▸ List.mem_append_right _ List.mem_cons_self
      have n₂' : ((t₁, x) :: ρc).lookup t₂ = none := by rw [List.lookup_cons, beq_false_of_ne hne]; exact n₂
      refine Bind.nameL h₂ ?_
      show Ev C k _ _ _ elt _
      refine Ev.lsub (hs₂.cons n₂') (he x hm y hy _ ⟨?_, rfl, hs₂.skip n₂', d ++ [y], by simpa using hd₂, by simp⟩)
      refine Nat.le_trans ?_ hl
      rw [← hd, List.flatMap_append, List.flatMap_cons, ← hd₂]
      simp only [List.length_append, List.length_map, List.length_cons]
      lia
    · rintro acc ρ σ' ⟨rfl, hs₂, d, hd₂, rfl⟩
      rw [List.append_nil] at hd₂
      subst hd₂
      refine ⟨rfl, fun z dz hz => hs₂ z dz ?_, done ++ [x], by simpa using hd, by simp⟩
      by_cases e : z = t₁
      · subst e; rw [n₁] at hz; cases hz
      · rw [List.lookup_cons, beq_false_of_ne e]; exact hz
  · rintro acc ρ σ' ⟨rfl, hs, done, hd, rfl⟩
    rw [List.append_nil] at hd
    rw [hd]; exact h

/-! ## lists that change, read where they stand in others -/
mutual
inductive Res (σ : Sto) : PV → PV → Prop
  | refl (d) : Res σ d d
  | mut {a xs ys} : (a, AO.mlist xs) ∈ σ → ResL σ xs ys → Res σ (.raw (.ref a)) (.list ys)
  | list {xs ys} : ResL σ xs ys → Res σ (.list xs) (.list ys)
inductive ResL (σ : Sto) : List PV → List PV → Prop
  | nil : ResL σ [] []
  | cons {x y xs ys} : Res σ x y → ResL σ xs ys → ResL σ (x :: xs) (y :: ys)
end
theorem ResL.refl {σ} : ∀ xs, ResL σ xs xs
  | [] => .nil
  | x :: r => .cons (.refl x) (ResL.refl r)
mutual
theorem res_reads {C : Cx} {P : Addr → Prop} {h : Heap} {σ : Sto} (st : StRel C P h σ) : ∀ {n : Nat} {v : Value} {d e : PV}, Res σ d e → Rd C.X P h v d → pl n e = true → ∃ as, Reads h v (toP e) as
  | _, _, _, _, .refl d, r, hp => rd_reads r hp
  | 0, _, _, _, .mut hm q, r, hp => by simp [pl] at hp
  | 0, _, _, _, .list q, r, hp => by simp [pl] at hp
  | n + 1, _, _, _, .mut (a := a) (xs := xs) hm q, r, hp => by
    cases r with | raw =>
    obtain ⟨vs, m, e, rl⟩ := st a (.mlist xs) hm
    rw [pl] at hp
    obtain ⟨as, z⟩ := resL_reads st q rl hp
    rw [toP]; exact ⟨_, .list e rfl rfl z⟩
  | n + 1, _, _, _, .list q, r, hp => by
    cases r with | list na e rl =>
    rw [pl] at hp
    obtain ⟨as, z⟩ := resL_reads st q rl hp
    rw [toP]; exact ⟨_, .list e rfl rfl z⟩
theorem resL_reads {C : Cx} {P : Addr → Prop} {h : Heap} {σ : Sto} (st : StRel C P h σ) : ∀ {n : Nat} {vs : List Value} {ds es : List PV}, ResL σ ds es → RdL C.X P h vs ds → plL n es = true → ∃ as, ReadsAll h vs (toPL es) as
  | _, _, _, _, .nil, r, hp => by cases r; rw [toPL]; exact ⟨_, .nil⟩
  | n, _, _, _, .cons q qs, r, hp => by
    cases r with | cons r rs =>
    rw [plL, Bool.and_eq_true] at hp
    obtain ⟨as, z⟩ := res_reads st q r hp.1
    obtain ⟨bs, z'⟩ := resL_reads st qs rs hp.2
    rw [toPL]; exact ⟨_, .cons z z'⟩
end
section
variable {C : Cx} {k : Nat} {σ : Sto} {a b a' b' : PV} {K : PV → Sto → Prop}
theorem Op2.eq_r (ra : Res σ a a') (rb : Res σ b b') (ha : pl 60 a' = true) (hb : pl 60 b' = true) (h : K (.bool (peq a' b')) σ) : Op2 C k σ a b (compareOp .Eq) K := fun A P s v w hr H r₁ r₂ => by
  obtain ⟨_, q₁⟩ := res_reads H.st ra r₁ ha
  obtain ⟨_, q₂⟩ := res_reads H.st rb r₂ hb
  have c₁ := pl_can ha; have c₂ := pl_can hb
  exact SeqAt.compareEq_shaped q₁ q₂ (by unfold SeqAt.shaped; rw [c₁.1]; simp; lia) (by unfold SeqAt.shaped; rw [c₂.1]; simp; lia) (by have := hr.units; show A.units + 64 < 9900; lia) (Out.here' H (.bool _) h)
theorem Op2.ne_r (ra : Res σ a a') (rb : Res σ b b') (ha : pl 60 a' = true) (hb : pl 60 b' = true) (h : K (.bool (!peq a' b')) σ) : Op2 C k σ a b (compareOp .NotEq) K := fun A P s v w hr H r₁ r₂ => by
  obtain ⟨_, q₁⟩ := res_reads H.st ra r₁ ha
  obtain ⟨_, q₂⟩ := res_reads H.st rb r₂ hb
  have c₁ := pl_can ha; have c₂ := pl_can hb
  exact SeqAt.compareNe_shaped q₁ q₂ (by unfold SeqAt.shaped; rw [c₁.1]; simp; lia) (by unfold SeqAt.shaped; rw [c₂.1]; simp; lia) (by have := hr.units; show A.units + 64 < 9900; lia) (Out.here' H (.bool _) h)
end
mutual
theorem peq_refl : ∀ {n : Nat} {d : PV}, pl n d = true → peq d d = true
  | _, .none, _ => by simp [peq, toP, PyData.eqv]
  | _, .bool _, _ => by simp [peq, toP, PyData.eqv]
  | _, .int _, _ => by simp [peq, toP, PyData.eqv]
  | _, .str x, h => by simp [peq, toP, PyData.eqv]
  | n + 1, .list xs, h => by rw [pl] at h; rw [peq, toP, PyData.eqv]; exact peqL_refl h
  | n + 1, .tuple xs, h => by rw [pl] at h; rw [peq, toP, PyData.eqv]; exact peqL_refl h
  | 0, .list xs, h => by simp [pl] at h
  | 0, .tuple xs, h => by simp [pl] at h
  | _, .raw _, h => by simp [pl] at h
  | _, .ext _ _, h => by simp [pl] at h
  | _, .slice _ _ _, h => by simp [pl] at h
  | _, .range _ _ _, h => by simp [pl] at h
theorem peqL_refl : ∀ {n : Nat} {ds : List PV}, plL n ds = true → PyData.eqvAll (toPL ds) (toPL ds) = true
  | _, [], _ => by rw [toPL, PyData.eqvAll]
  | n, d :: r, h => by
    rw [plL, Bool.and_eq_true] at h
    rw [toPL, PyData.eqvAll, Bool.and_eq_true]
    exact ⟨peq_refl h.1, peqL_refl h.2⟩
end
theorem peq_str' (x y : List Nat) : peq (.str x) (.str y) = decide (x = y) := by
  unfold peq
  rw [toP, toP]
  show (strL x == strL y) = _
  by_cases h : x = y
  · subst h; simp
  · have : strL x ≠ strL y := fun q => h (by have := congrArg (fun s : Str => s.cps.toList) q; simpa [strL] using this)
    rw [beq_false_of_ne this]; simp [h]
theorem pl_str' {n : Nat} {x : List Nat} (h : ∀ c ∈ x, c < 0x110000) : pl n (.str x) = true := by rw [pl]; simpa using h
theorem peq_int (a b : Int) : peq (.int a) (.int b) = decide (a = b) := by
  unfold peq; rw [toP, toP, PyData.eqv]
  by_cases h : a = b <;> simp [h]
theorem peq_list (xs ys : List PV) : peq (.list xs) (.list ys) = PyData.eqvAll (toPL xs) (toPL ys) := by rw [peq, toP, toP, PyData.eqv]
theorem peq_cons (x y : PV) (xs ys : List PV) : peq (.list (x :: xs)) (.list (y :: ys)) = (peq x y && peq (.list xs) (.list ys)) := by
  rw [peq_list, peq_list, toPL, toPL, PyData.eqvAll]; rfl
theorem peq_nil : peq (.list []) (.list []) = true := by rw [peq_list]; rfl
theorem peq_nil_cons (y : PV) (ys : List PV) : peq (.list []) (.list (y :: ys)) = false := by rw [peq_list]; rfl
theorem peq_cons_nil (y : PV) (ys : List PV) : peq (.list (y :: ys)) (.list []) = false := by rw [peq_list]; rfl
theorem peq_map {α : Type} [DecidableEq α] {f : α → PV} (hf : ∀ a b, peq (f a) (f b) = decide (a = b)) : ∀ xs ys : List α, peq (.list (xs.map f)) (.list (ys.map f)) = decide (xs = ys)
  | [], [] => by rw [List.map_nil, peq_nil]; rfl
  | [], y :: ys => by rw [List.map_cons, List.map_nil, peq_nil_cons]; simp
  | x :: xs, [] => by rw [List.map_cons, List.map_nil, peq_cons_nil]; simp
  | x :: xs, y :: ys => by
    rw [List.map_cons, List.map_cons, peq_cons, hf, peq_map hf xs ys]
    by_cases h1 : x = y <;> by_cases h2 : xs = ys <;> simp [h1, h2]
theorem peq_strs (xs ys : List (List Nat)) : peq (.list (xs.map .str)) (.list (ys.map .str)) = decide (xs = ys) := peq_map peq_str' xs ys
theorem peq_nums (xs ys : List Nat) : peq (.list (nums xs)) (.list (nums ys)) = decide (xs = ys) := by
  unfold nums
  rw [List.map_map, List.map_map]
  refine peq_map (f := PV.int ∘ fun (n : Nat) => (n : Int)) (fun a b => ?_) xs ys
  show peq (.int a) (.int b) = _
  rw [peq_int]
  by_cases h : a = b
  · simp [h]
  · have : (a : Int) ≠ b := by lia
    simp [h, this]
theorem plL_map {α : Type} {f : α → PV} {n : Nat} : ∀ {xs : List α}, (∀ x ∈ xs, pl n (f x) = true) → plL n (xs.map f) = true
  | [], _ => by rw [List.map_nil, plL]
  | x :: r, h => by rw [List.map_cons, plL, Bool.and_eq_true]; exact ⟨h x List.mem_cons_self, plL_map fun y hy => h y (List.mem_cons_of_mem _ hy)⟩
theorem plL_strs {n : Nat} {xs : List (List Nat)} (h : ∀ x ∈ xs, ∀ c ∈ x, c < 0x110000) : plL n (xs.map .str) = true := plL_map fun x hx => pl_str' (h x hx)
theorem plL_nums {n : Nat} {xs : List Nat} : plL n (nums xs) = true := by
  unfold nums
  rw [List.map_map]
  exact plL_map fun x _ => by rw [Function.comp, pl]
/-! ## methods, ranges, in short -/
section
variable {C : Cx} {k : Nat} {sc : Scope} {ρ : Lo} {σ : Sto} {K : PV → Sto → Prop} {o : Expr} {e₁ : Expr} {apos pos : Pos}
theorem Ev.upper (h : Ev C k sc ρ σ o fun d σ₁ => ∃ x, d = .str x ∧ (upperL x).length ≤ sizeLine ∧ K (.str (upperL x)) σ₁) (hline : (apos.endLine == pos.line) = true) (hbase : ∀ env, attributeBase o (Str.ofString "upper") env (eval o env) = eval o env) :
    Ev C k sc ρ σ (.Call (.Attribute o (Str.ofString "upper") apos) [] [] pos) K :=
  Ev.method (T := "str") (id_ := "str.upper") (Ev.mono h fun d σ₁ ⟨x, e, hs, q⟩ => by subst e; exact ⟨OfType.str, OpL.upper hs q⟩) F.plainAttrs_str F.slot_str_upper F.type_str_upper rfl (by decide) hline hbase
theorem Ev.lower (h : Ev C k sc ρ σ o fun d σ₁ => ∃ x, d = .str x ∧ (lowerL x).length ≤ sizeLine ∧ K (.str (lowerL x)) σ₁) (hline : (apos.endLine == pos.line) = true) (hbase : ∀ env, attributeBase o (Str.ofString "lower") env (eval o env) = eval o env) :
    Ev C k sc ρ σ (.Call (.Attribute o (Str.ofString "lower") apos) [] [] pos) K :=
  Ev.method (T := "str") (id_ := "str.lower") (Ev.mono h fun d σ₁ ⟨x, e, hs, q⟩ => by subst e; exact ⟨OfType.str, OpL.lower hs q⟩) F.plainAttrs_str F.slot_str_lower F.type_str_lower rfl (by decide) hline hbase
theorem Ev.split (h : Ev C k sc ρ σ o fun d σ₁ => ∃ x, d = .str x ∧ x.length ≤ 100000 ∧ Ev C k sc ρ σ₁ e₁ fun d₂ σ₂ => ∃ c, d₂ = .str [c] ∧ K (.list ((splitL x c).map .str)) σ₂) (hp : [e₁].all plainE = true) (hline : (apos.endLine == pos.line) = true) (hbase : ∀ env, attributeBase o (Str.ofString "split") env (eval o env) = eval o env) :
    Ev C k sc ρ σ (.Call (.Attribute o (Str.ofString "split") apos) [e₁] [] pos) K :=
  Ev.method (T := "str") (id_ := "str.split") (Ev.mono h fun d σ₁ ⟨x, e, hs, q⟩ => by subst e; exact ⟨OfType.str, Ev.mono q fun d₂ σ₂ ⟨c, e, q⟩ => by subst e; exact OpL.split hs q⟩) F.plainAttrs_str F.slot_str_split F.type_str_split hp (by simp) hline hbase
theorem Ev.join (h : Ev C k sc ρ σ e₁ fun d σ₁ => ∃ xs : List (List Nat), LRead C σ₁ d (xs.map .str) ∧ (xs.map List.length).sum ≤ 16777216 ∧ K (.str xs.flatten) σ₁) (hp : [e₁].all plainE = true) {kk p2} (hline : (apos.endLine == pos.line) = true) (hbase : ∀ env, attributeBase (.Constant (.str (Str.ofString "")) kk p2) (Str.ofString "join") env (eval (.Constant (.str (Str.ofString "")) kk p2) env) = eval (.Constant (.str (Str.ofString "")) kk p2) env) :
    Ev C k sc ρ σ (.Call (.Attribute (.Constant (.str (Str.ofString "")) kk p2) (Str.ofString "join") apos) [e₁] [] pos) K :=
  Ev.method (T := "str") (id_ := "str.join") (Ev.str (l := []) rfl ⟨OfType.str, Ev.mono h fun d σ₁ ⟨xs, hl, hs, q⟩ => OpL.join0 hl hs q⟩) F.plainAttrs_str F.slot_str_join F.type_str_join hp (by simp) hline hbase
theorem Ev.append (h : Ev C k sc ρ σ o fun d σ₁ => ∃ a, d = .raw (.ref a) ∧ (∃ ys, (a, AO.mlist ys) ∈ σ₁) ∧ Ev C k sc ρ σ₁ e₁ fun d₂ σ₂ => ∃ xs σ₃, Upd σ₂ a (.mlist xs) (.mlist (xs ++ [d₂])) σ₃ ∧ xs.length ≤ 100000 ∧ K .none σ₃) (hp : [e₁].all plainE = true) (hline : (apos.endLine == pos.line) = true) (hbase : ∀ env, attributeBase o (Str.ofString "append") env (eval o env) = eval o env) :
    Ev C k sc ρ σ (.Call (.Attribute o (Str.ofString "append") apos) [e₁] [] pos) K :=
  Ev.method (T := "list") (id_ := "list.append") (Ev.mono h fun d σ₁ ⟨a, e, ⟨ys, hm⟩, q⟩ => by subst e; exact ⟨OfType.list (LRead.mut hm), Ev.mono q fun d₂ σ₂ ⟨xs, σ₃, u, hs, q⟩ => OpL.append u (by simp [sizeLine]; lia) q⟩) F.plainAttrs_list F.slot_list_append F.type_list_append hp (by simp) hline hbase
theorem Ev.extend (h : Ev C k sc ρ σ o fun d σ₁ => ∃ a, d = .raw (.ref a) ∧ (∃ ys, (a, AO.mlist ys) ∈ σ₁) ∧ Ev C k sc ρ σ₁ e₁ fun d₂ σ₂ => ∃ xs zs σ₃, LRead C σ₂ d₂ zs ∧ Upd σ₂ a (.mlist xs) (.mlist (xs ++ zs)) σ₃ ∧ xs.length + zs.length ≤ 100000 ∧ K .none σ₃) (hp : [e₁].all plainE = true) (hline : (apos.endLine == pos.line) = true) (hbase : ∀ env, attributeBase o (Str.ofString "extend") env (eval o env) = eval o env) :
    Ev C k sc ρ σ (.Call (.Attribute o (Str.ofString "extend") apos) [e₁] [] pos) K :=
  Ev.method (T := "list") (id_ := "list.extend") (Ev.mono h fun d σ₁ ⟨a, e, ⟨ys, hm⟩, q⟩ => by subst e; exact ⟨OfType.list (LRead.mut hm), Ev.mono q fun d₂ σ₂ ⟨xs, zs, σ₃, hl, u, hs, q⟩ => OpL.extend hl u (by lia) q⟩) F.plainAttrs_list F.slot_list_extend F.type_list_extend hp (by simp) hline hbase
theorem Iterable.rangeN {a n : Nat} (h1 : a ≤ 1000000) (h2 : n ≤ 1000000) : Iterable C k σ (.range (a : Nat) ((a + n : Nat) : Int) 1) ((List.range n).map fun i => PV.int ((a + i : Nat) : Int)) := by
  have h := Iterable.range (C := C) (k := k) (σ := σ) (small_up (a := (a : Int)) (b := ((a + n : Nat) : Int)) (by lia) (by lia) (by lia) (by lia))
  have e : rangeL (a : Int) ((a + n : Nat) : Int) 1 = (List.range n).map fun i => PV.int ((a + i : Nat) : Int) := by
    unfold rangeL
    have z : Builtin.Range.rangeSize (a : Int) ((a + n : Nat) : Int) 1 = (n : Int) := by rw [PySem.rangeSize_one]; split <;> lia
    rw [z, Int.toNat_natCast]
    exact List.map_congr_left fun i _ => by simp
  rwa [e] at h
theorem Iterable.range0 {n : Nat} (h2 : n ≤ 1000000) : Iterable C k σ (.range 0 (n : Int) 1) ((List.range n).map fun (i : Nat) => PV.int (i : Int)) := by
  have h := Iterable.rangeN (C := C) (k := k) (σ := σ) (a := 0) (n := n) (by lia) h2
  simpa using h
end
section
variable {α : Type} {p₀ p₁ p₂ p₃ p₄ p₅ p₆ : α} {r : List α}
theorem at0 : p₀ ∈ p₀ :: r := List.mem_cons_self
theorem at1 : p₁ ∈ p₀ :: p₁ :: r := List.mem_cons_of_mem _ at0
theorem at2 : p₂ ∈ p₀ :: p₁ :: p₂ :: r := List.mem_cons_of_mem _ at1
theorem at3 : p₃ ∈ p₀ :: p₁ :: p₂ :: p₃ :: r := List.mem_cons_of_mem _ at2
theorem at4 : p₄ ∈ p₀ :: p₁ :: p₂ :: p₃ :: p₄ :: r := List.mem_cons_of_mem _ at3
theorem at5 : p₅ ∈ p₀ :: p₁ :: p₂ :: p₃ :: p₄ :: p₅ :: r := List.mem_cons_of_mem _ at4
end
theorem Tr.and2 {C k sc ρ σ e₁ e₂ pos K} (h : Tr C k sc ρ σ e₁ fun b σ₁ => if b = true then Tr C k sc ρ σ₁ e₂ K else K false σ₁) : Tr C k sc ρ σ (.BoolOp .And [e₁, e₂] pos) K :=
  Tr.boolop (Tr.mono h fun b σ₁ q => by
    cases b with
    | true => exact Tr.mono q fun b σ₂ q => by cases b <;> exact q
    | false => exact q)
theorem Tr.or2 {C k sc ρ σ e₁ e₂ pos K} (h : Tr C k sc ρ σ e₁ fun b σ₁ => if b = true then K true σ₁ else Tr C k sc ρ σ₁ e₂ K) : Tr C k sc ρ σ (.BoolOp .Or [e₁, e₂] pos) K :=
  Tr.boolop (Tr.mono h fun b σ₁ q => by
    cases b with
    | true => exact q
    | false => exact Tr.mono q fun b σ₂ q => by cases b <;> exact q)
end Mine
end C38

section W30
open PySem PySem.W PyProof.Rows
set_option Elab.async false
set_option linter.unusedVariables false
set_option maxRecDepth 100000
namespace Mine
/-- what the top of 03 holds -/
structure Top3 (C : Cx) (N : Addr) (mN : Str → Option Value) (S : Int → Bool) (D : List (PyData × PyData)) : Prop where
  B : TopB C S D
  E : TopE C N mN
  chr : Blt C "chr" (.builtin "chr")
  len : Blt C "len" (.builtin "len")
  range : Blt C "range" (.type "range")
  sign : Fun C "_law_sign" ["cell"] (stAt 11)
  cells : Fun C "_law_cells" ["script"] (stAt 10)
  laid : Fun C "_law_laid" ["cells"] (stAt 12)
  borders : Fun C "_law_borders" ["word", "turned"] (stAt 13)
  two : Fun C "_law_two" ["sizes", "faults"] (stAt 14)
/-- a sign with its letters, by its cell -/
noncomputable def sgn (c : Nat) : PV := .tuple [.str [signC c], .str (signT c)]
noncomputable def laidStep (cs : List Nat) (c : Nat) : List Nat := cs ++ (if c / 2080 % 3 = 0 then c :: cs else if c / 2080 % 3 = 1 then cs.take (c / 6240 % (cs.length + 1)) else [c])
noncomputable def laidOf (cells : List Nat) : List Nat := (cells.drop 4).foldl laidStep (cells.take 4)
theorem laidStep_len (cs : List Nat) (c : Nat) : (laidStep cs c).length + 1 ≤ 2 * (cs.length + 1) := by
  unfold laidStep
  rw [List.length_append]
  split
  · simp; omega
  · split
    · have := List.length_take_le (c / 6240 % (cs.length + 1)) cs
      have := List.length_take_le' (c / 6240 % (cs.length + 1)) cs
      omega
    · simp; omega
section
variable {C : Cx} {N : Addr} {mN : Str → Option Value} {S : Int → Bool} {D : List (PyData × PyData)} (T : Top3 C N mN S D) {k : Nat} {σ : Sto}
include T
theorem op_sign {c : Nat} {K : PV → Sto → Prop} (h : K (sgn c) σ) : ∀ f, FnAt C f ["cell"] (fScope (stAt 11)) (fBody (stAt 11)) → OpL C (k + 1) σ [.int c] (fun vs => PySem.call (.ref f) vs) K := fun f F =>
  Fn.call F (by decide +kernel) rfl (w_sign T.chr h)
theorem ev_sign {sc} {ρ : Lo} {c : Nat} {K : PV → Sto → Prop} {p1 p2 p3} (hk : sc.names.lookup (Str.ofString "_law_sign") = some NameKind.globalImplicit) (hx : ρ.lookup "cell" = some (.int c)) (h : K (sgn c) σ) :
    Ev C (k + 1) sc ρ σ (.Call (.Name (Str.ofString "_law_sign") p1) [.Name (Str.ofString "cell") p2] [] p3) K :=
  Ev.callF T.sign hk (Ev.name (x := "cell") hx ⟨rfl, op_sign T h⟩) rfl
end
end Mine
end W30

section W32
open PySem PySem.W PyProof.Rows
set_option Elab.async false
set_option linter.unusedVariables false
set_option maxRecDepth 100000
namespace Mine
section
variable {C : Cx} {N : Addr} {mN : Str → Option Value} {S : Int → Bool} {D : List (PyData × PyData)} (T : Top3 C N mN S D) {k : Nat} {σ : Sto}
include T
theorem w_laid {cells : List Nat} {K : PV → Sto → Prop} (h7 : cells.length = 7) (h : K (.list ((laidOf cells).map sgn)) σ) :
    Ex C (k + 1) (fScope (stAt 12)) [("cells", .list (nums cells))] σ (fBody (stAt 12)) (fun g _ σ' => match g with | .ret d => K d σ' | .next => K .none σ' | _ => False) := by
  have s1 : slcL (nums cells) none (some (4 : Int)) none = nums (cells.take 4) := by
    rw [show (some (4 : Int)) = some ((4 : Nat) : Int) from rfl, slcL_to, nums, nums, List.map_take, List.map_take]
  have s2 : slcL (nums cells) (some (4 : Int)) none none = nums (cells.drop 4) := by
    rw [show (some (4 : Int)) = some ((4 : Nat) : Int) from rfl, slcL_from, nums, nums, List.map_drop, List.map_drop]
  refine Ex.cons (Ex1.assignComp (x := "signs") [] trivial (by decide +kernel) rfl (fun g hg => by cases List.mem_singleton.mp hg; exact ⟨rfl, fun _ _ => rfl⟩) ?_ rfl (fun env he => by cases env; dsimp only at he; subst he; rfl))
  refine Ev.sub (Ev.name (x := "cells") rfl (Ev.slice (Ev.int ⟨_, _, _, .none, .int 4, .none, Op2.slice .list (by decide) (by simp [sizeLine, h7]) ?_⟩)))
  rw [s1]
  refine ⟨_, Iterable.list, ?_⟩
  refine Comp.pure1 (t := "cell") (fun _ => true) (fun v => match v with | .int c => sgn c.toNat | _ => .none) rfl rfl ?_ ?_ (by simp [sizeLine, h7]) ?_
  · intro v hv K' hK'
    exact hK'
  · intro v hv _ K' hK'
    obtain ⟨i, hi, rfl⟩ := List.mem_map.mp hv
    obtain ⟨c, hc, rfl⟩ := List.mem_map.mp hi
    exact ev_sign T rfl rfl (by simpa using hK')
  have e1 : (((nums (cells.take 4)).filter fun _ => true).map fun v => match v with | .int c => sgn c.toNat | _ => .none) = (cells.take 4).map sgn := by
    rw [List.filter_eq_self.mpr (fun _ _ => rfl), nums, List.map_map, List.map_map]
    exact List.map_congr_left fun c _ => by simp
  rw [e1]
  refine Ex.cons (Ex1.for (J := fun rest ρ σ' => ∃ (todo : List Nat) (cs : List Nat), rest = nums todo ∧ todo.length ≤ 3 ∧ (cs.length + 1) * 2 ^ todo.length ≤ 40 ∧ todo.foldl laidStep cs = laidOf cells ∧ Has ρ [("signs", .list (cs.map sgn)), ("cells", .list (nums cells))] ∧ σ' = σ) ?_ ?_ ?_ fun _ _ => rfl)
  · refine Ev.sub (Ev.name (x := "cells") rfl (Ev.slice (Ev.int ⟨_, _, _, .int 4, .none, .none, Op2.slice .list (by decide) (by simp [sizeLine, h7]) ?_⟩)))
    rw [s2]
    exact ⟨_, Iterable.list, cells.drop 4, cells.take 4, rfl, by rw [List.length_drop]; lia, by rw [List.length_drop, List.length_take, h7]; decide, rfl, ⟨rfl, rfl, trivial⟩, rfl⟩
  · rintro x r ρ' σ' ⟨todo, cs, he, h3, hb, hf, hh, rfl⟩
    cases todo with
    | nil => cases he
    | cons c todo =>
    obtain ⟨rfl, rfl⟩ : x = .int (c : Nat) ∧ r = nums todo := by simpa [nums] using he
    have hcs : cs.length + 1 ≤ 20 := by
      have : 2 ≤ 2 ^ (c :: todo).length := by rw [List.length_cons, Nat.pow_succ]; have := Nat.one_le_two_pow (n := todo.length); lia
      have := Nat.mul_le_mul_left (cs.length + 1) this
      lia
    have hlt : c / 6240 % (cs.length + 1) < cs.length + 1 := Nat.mod_lt _ (Nat.succ_pos _)
    refine Bind.name (x := "cell") (.inl rfl) ?_
    refine Ex.has (ρ' := [("cell", .int (c : Nat)), ("signs", .list (cs.map sgn)), ("cells", .list (nums cells))]) ⟨rfl, hh.1, hh.2.1, trivial⟩ ?_
    refine Ex.cons (Ex1.assign (x := "front") (Ev.sub (Ev.name (x := "signs") rfl (Ev.slice (Ev.binop (Ev.binop (Ev.name (x := "cell") rfl (Ev.int (Op2.divN (b := 6240) (by decide) ?_)))))))) (.inl rfl) fun _ => rfl)
    refine Ev.binop (Ev.call1 T.len rfl (Ev.name (x := "signs") rfl (OpL.len_l .list (by simp; lia) ?_)) rfl)
    rw [List.length_map]
    refine Ev.int (Op2.addN (b := 1) (Op2.modN (Nat.succ_pos _) ?_))
    refine ⟨_, _, _, .none, .int _, .none, Op2.slice .list (by decide) (by simp [sizeLine]; lia) ?_⟩
    rw [slcL_to, ← List.map_take]
    refine Ex.cons (Ex1.assign (x := "signs") (Ev.binop (Ev.name (x := "signs") rfl (Ev.sub ?_))) (.inl rfl) fun _ => rfl)
    refine Ev.list3 (Ev.binop (Ev.list1 (ev_sign T rfl rfl (Ev.name (x := "signs") rfl (Op2.addl .list .list (by simp [sizeLine]; lia) ?_))) rfl)) rfl
    refine Ev.name (x := "front") rfl (Ev.list1 (ev_sign T rfl rfl ?_) rfl)
    refine Ev.binop (Ev.binop (Ev.name (x := "cell") rfl (Ev.int (Op2.divN (b := 2080) (by decide) (Ev.int (Op2.modN (b := 3) (by decide) ?_))))))
    have l3 : c / 2080 % 3 < 3 := Nat.mod_lt _ (by decide)
    refine Op2.itemN (d := .list ((if c / 2080 % 3 = 0 then c :: cs else if c / 2080 % 3 = 1 then cs.take (c / 6240 % (cs.length + 1)) else [c]).map sgn)) .list ?_ ?_ (by simp)
    · have : c / 2080 % 3 = 0 ∨ c / 2080 % 3 = 1 ∨ c / 2080 % 3 = 2 := by lia
      rcases this with e | e | e <;> rw [e] <;> rfl
    have hstep := laidStep_len cs c
    refine Op2.addl .list .list ?_ ?_
    · unfold laidStep at hstep
      rw [List.length_append] at hstep
      simp only [List.length_map, sizeLine]
      lia
    rw [← List.map_append]
    refine Ex.nil ⟨todo, laidStep cs c, rfl, by simp at h3; lia, ?_, hf, ⟨rfl, rfl, trivial⟩, rfl⟩
    refine Nat.le_trans (Nat.mul_le_mul_right _ hstep) ?_
    rw [List.length_cons, Nat.pow_succ] at hb
    have : 2 * (cs.length + 1) * 2 ^ todo.length = (cs.length + 1) * (2 ^ todo.length * 2) := by rw [Nat.mul_comm 2, Nat.mul_assoc, Nat.mul_comm 2]
    lia
  · rintro ρ' σ' ⟨todo, cs, he, h3, hb, hf, hh, rfl⟩
    have : todo = [] := by cases todo with | nil => rfl | cons c r => cases he
    subst this
    refine Ex.has hh (Ex.cons (Ex1.ret (Ev.name (x := "signs") rfl ?_)))
    rw [← hf] at h
    exact h
end
end Mine
end W32

section W33
open PySem PySem.W PyProof.Rows
set_option Elab.async false
set_option linter.unusedVariables false
set_option maxRecDepth 100000
namespace Mine
noncomputable def startsOf (w : List Nat) : List (List Nat) := upperL w :: (List.range w.length).map fun i => w.take (i + 1)
noncomputable def tailsOf (w : List Nat) : List (List Nat) := (List.range w.length).flatMap fun i => [w.drop i, w.drop i]
noncomputable def bordOf (w : List Nat) (turned : Bool) : List (List Nat) := if turned then (tailsOf w).filter (fun x => decide (x ∈ startsOf w)) else (startsOf w).filter fun x => decide (x ∈ tailsOf w)
theorem startsOf_len (w : List Nat) : (startsOf w).length = w.length + 1 := by simp [startsOf]
theorem tailsOf_len (w : List Nat) : (tailsOf w).length = 2 * w.length := by
  unfold tailsOf
  generalize w.length = n
  induction n with
  | zero => rfl
  | succ n ih => rw [List.range_succ, List.flatMap_append, List.length_append, ih]; simp; lia
section
variable {C : Cx} {N : Addr} {mN : Str → Option Value} {S : Int → Bool} {D : List (PyData × PyData)} (T : Top3 C N mN S D) {k : Nat} {σ : Sto}
include T
theorem w_borders {w : List Nat} {b : Bool} {K : PV → Sto → Prop} (hw : w.length ≤ 200) (hc : ∀ c ∈ w, c < 128) (h : K (.list ((bordOf w b).map .str)) σ) :
    Ex C (k + 3) (fScope (stAt 13)) [("word", .str w), ("turned", .bool b)] σ (fBody (stAt 13)) (fun g _ σ' => match g with | .ret d => ∃ σ'', σ''.Sublist σ' ∧ K d σ'' | _ => False) := by
  have hu : (upperL w).length = w.length := by rw [upper_ok hc, List.length_map]
  refine Ex.cons (Ex1.swap2 "fronts" "ends" (Ev.entry T.E rfl fun a₁ d₁ u₁ r₁ ha₁ hd₁ hu₁ hr₁ hn₁ => Ev.entry T.E rfl fun a₂ d₂ u₂ r₂ ha₂ hd₂ hu₂ hr₂ hn₂ => ?_) rfl (by decide +kernel) (fun env he => by cases env; dsimp only at he; subst he; rfl) rfl)
  refine Ex.cons (Ex1.assign (x := "starts") (Ev.binop (Ev.list1 (Ev.upper (Ev.name (x := "word") rfl ⟨w, rfl, by rw [hu]; simp [sizeLine]; lia, ?_⟩) rfl fun _ => rfl) rfl)) (.inl rfl) fun _ => rfl)
  refine Ev.listComp [("word", .str w)] ⟨⟨rfl, rfl⟩, trivial⟩ (by decide +kernel) rfl (fun g hg => by cases List.mem_singleton.mp hg; exact ⟨rfl, fun _ _ => rfl⟩) ?_
  refine Ev.call2t T.range rfl (Ev.int (Ev.binop (Ev.call1 T.len rfl (Ev.name (x := "word") rfl (OpL.len_s (by lia) (Ev.int (Op2.addN (b := 1) (OpL.range2 ⟨(List.range w.length).map fun i => PV.int ((1 + i : Nat) : Int), ?it, ?_⟩))))) rfl))) rfl
  case it => rw [Nat.add_comm w.length 1]; exact Iterable.rangeN (a := 1) (n := w.length) (by lia) (by lia)
  refine Comp.pure1 (t := "size") (fun _ => true) (fun v => match v with | .int i => .str (w.take i.toNat) | _ => .none) rfl rfl (fun v hv K' hK' => hK') ?_ (by simp [sizeLine]; lia) ?_
  · intro v hv _ K' hK'
    obtain ⟨i, hi, rfl⟩ := List.mem_map.mp hv
    refine Ev.sub (Ev.name (x := "word") rfl (Ev.slice (Ev.name (x := "size") rfl ⟨_, _, _, .none, .int _, .none, Op2.slice_s (by decide) ?_ ?_⟩)))
    · rw [slcS_eq, slcL_to]; simp [sizeLine]; lia
    · rw [slcS_eq, slcL_to]; exact hK'
  have e1 : (((List.range w.length).map fun i => PV.int ((1 + i : Nat) : Int)).filter fun _ => true).map (fun v => match v with | .int i => .str (w.take i.toNat) | _ => .none) = ((List.range w.length).map fun i => w.take (i + 1)).map PV.str := by
    rw [List.filter_eq_self.mpr (fun _ _ => rfl), List.map_map, List.map_map]
    exact List.map_congr_left fun i _ => by
      show PV.str (w.take ((1 + i : Nat) : Int).toNat) = PV.str (w.take (i + 1))
      rw [Int.toNat_natCast, Nat.add_comm]
  rw [e1]
  refine Op2.addl (xs := [PV.str (upperL w)]) .list .list (by simp [sizeLine]; lia) ?_
  have e2 : [PV.str (upperL w)] ++ ((List.range w.length).map fun i => w.take (i + 1)).map PV.str = (startsOf w).map .str := rfl
  rw [e2]
  refine Ex.cons (Ex1.assignComp (x := "tails") [("word", .str w)] ⟨⟨rfl, rfl⟩, trivial⟩ (by decide +kernel) rfl (fun g hg => by
    rcases List.mem_cons.mp hg with rfl | hg
    · exact ⟨rfl, fun _ _ => rfl⟩
    · cases List.mem_singleton.mp hg; exact ⟨rfl, fun _ _ => rfl⟩) ?_ rfl (fun env he => by cases env; dsimp only at he; subst he; rfl))
  refine Ev.call1t T.range rfl (Ev.call1 T.len rfl (Ev.name (x := "word") rfl (OpL.len_s (by lia) (OpL.range1 ⟨_, Iterable.range0 (n := w.length) (by lia), ?_⟩))) rfl) rfl
  refine Comp.pure2 (t₁ := "size") (t₂ := "again") (fun _ => [.int 0, .int 1]) (fun v _ => match v with | .int i => .str (w.drop i.toNat) | _ => .none) rfl rfl rfl rfl (by decide) ?_ ?_ ?_ ?_
  · intro v hv K' hK'
    exact Ev.tuple2 (Ev.int (Ev.int (hK' _ Iterable.tuple))) rfl
  · intro v hv y hy K' hK'
    obtain ⟨i, hi, rfl⟩ := List.mem_map.mp hv
    refine Ev.sub (Ev.name (x := "word") rfl (Ev.slice (Ev.name (x := "size") rfl ⟨_, _, _, .int _, .none, .none, Op2.slice_s (by decide) ?_ ?_⟩)))
    · rw [slcS_eq, slcL_from]; simp [sizeLine]; lia
    · rw [slcS_eq, slcL_from]; exact hK'
  all_goals
    have e3 : (((List.range w.length).map fun (i : Nat) => PV.int (i : Int)).flatMap fun v => [PV.int 0, PV.int 1].map ((fun v _ => match v with | .int i => .str (w.drop i.toNat) | _ => .none) v)) = (tailsOf w).map PV.str := by
      unfold tailsOf
      rw [List.map_flatMap, List.flatMap_map]
      congr 1
    rw [e3]
  · rw [List.length_map, tailsOf_len]; simp [sizeLine]; lia
  have lt := tailsOf_len w
  have ls := startsOf_len w
  have hcs : ∀ x ∈ startsOf w, ∀ c ∈ x, c < 0x110000 := fun x hx c hxc => by
    unfold startsOf at hx
    rcases List.mem_cons.mp hx with rfl | hx
    · rw [upper_ok hc] at hxc
      obtain ⟨e, he, rfl⟩ := List.mem_map.mp hxc
      have := hc e he
      unfold up1; split <;> lia
    · obtain ⟨i, _, rfl⟩ := List.mem_map.mp hx
      have := hc c (List.mem_of_mem_take hxc)
      lia
  have hct : ∀ x ∈ tailsOf w, ∀ c ∈ x, c < 0x110000 := fun x hx c hxc => by
    unfold tailsOf at hx
    obtain ⟨i, _, hx⟩ := List.mem_flatMap.mp hx
    have : x = w.drop i := by simpa using hx
    subst this
    have := hc c (List.mem_of_mem_drop hxc)
    lia
  refine Ex.cons (Ex1.expr (Ev.extend (Ev.fld T.E (x := "fronts") (f := "useragents") T.E.ua rfl at5 rfl ⟨u₁, rfl, ⟨_, at4⟩, Ev.name (x := "starts") rfl ⟨[], _, _, .list, .there (.there (.there (.there .here))), by simp; lia, ?_⟩⟩) rfl rfl fun _ => rfl) fun _ => rfl)
  refine Ex.cons (Ex1.expr (Ev.extend (Ev.fld T.E (x := "ends") (f := "useragents") T.E.ua rfl at2 rfl ⟨u₂, rfl, ⟨_, at1⟩, Ev.name (x := "tails") rfl ⟨[], _, _, .list, .there .here, by simp; lia, ?_⟩⟩) rfl rfl fun _ => rfl) fun _ => rfl)
  refine Ex.cons (Ex1.expr (Ev.append (Ev.fld T.E (x := "fronts") (f := "rulelines") T.E.rl rfl at5 rfl ⟨r₁, rfl, ⟨_, at3⟩, Ev.str (l := [102, 114, 111, 110, 116]) rfl ⟨[], _, .there (.there (.there .here)), by simp, ?_⟩⟩) rfl rfl fun _ => rfl) fun _ => rfl)
  refine Ex.cons (Ex1.expr (Ev.extend (Ev.fld T.E (x := "ends") (f := "rulelines") T.E.rl rfl at2 rfl ⟨r₂, rfl, ⟨_, at0⟩, Ev.list2 (Ev.str (l := [101, 110, 100]) rfl (Ev.str (l := [101, 110, 100]) rfl ⟨[], _, _, .list, .here, by simp, ?_⟩)) rfl⟩) rfl rfl fun _ => rfl) fun _ => rfl)
  simp only [List.nil_append]
  refine Ex.cons (Ex1.setFld T.E (x := "fronts") (f := "delay") T.E.dl (Ev.int ⟨a₁, d₁, _, _, rfl, .there (.there (.there (.there (.there .here)))), by simp, ?_⟩) (fun _ => rfl) fun _ => rfl)
  refine Ex.cons (Ex1.setFld T.E (x := "ends") (f := "delay") T.E.dl (Ev.int ⟨a₂, d₂, _, _, rfl, .there (.there .here), by simp, ?_⟩) (fun _ => rfl) fun _ => rfl)
  refine Ex.cons (Ex1.setFld T.E (x := "ends") (f := "req_rate") T.E.rr (Ev.call1 T.len rfl (Ev.name (x := "word") rfl (OpL.len_s (by lia) ⟨a₂, d₂, _, _, rfl, .there (.there .here), by simp [setF], ?_⟩)) rfl) (fun _ => rfl) fun _ => rfl)
  generalize hσ : ((r₂, AO.mlist [PV.str [101, 110, 100], PV.str [101, 110, 100]]) :: (u₂, AO.mlist ((tailsOf w).map PV.str)) :: (a₂, AO.inst d₂ (setF (setF (fsNew u₂ r₂) "delay" (.int 5)) "req_rate" (.int w.length))) ::
    (r₁, AO.mlist [PV.str [102, 114, 111, 110, 116]]) :: (u₁, AO.mlist ((startsOf w).map PV.str)) :: (a₁, AO.inst d₁ (setF (fsNew u₁ r₁) "delay" (.int 0))) :: σ) = σ₁
  have E₁ : EntAt σ₁ a₁ (startsOf w) [PV.str [102, 114, 111, 110, 116]] (.int 0) .none := by subst hσ; exact ⟨d₁, _, at5, ⟨u₁, rfl, at4⟩, ⟨r₁, rfl, at3⟩, rfl, rfl⟩
  have E₂ : EntAt σ₁ a₂ (tailsOf w) [PV.str [101, 110, 100], PV.str [101, 110, 100]] (.int 5) (.int w.length) := by subst hσ; exact ⟨d₂, _, at2, ⟨u₂, rfl, at1⟩, ⟨r₂, rfl, at0⟩, rfl, rfl⟩
  have sub : σ.Sublist σ₁ := by subst hσ; exact .cons _ (.cons _ (.cons _ (.cons _ (.cons _ (.cons _ (.refl _))))))
  have M₁ : (a₁, AO.inst d₁ (setF (fsNew u₁ r₁) "delay" (.int 0))) ∈ σ₁ := by subst hσ; exact at5
  have M₂ : (a₂, AO.inst d₂ (setF (setF (fsNew u₂ r₂) "delay" (.int 5)) "req_rate" (.int w.length))) ∈ σ₁ := by subst hσ; exact at2
  have U₁ : (u₁, AO.mlist ((startsOf w).map PV.str)) ∈ σ₁ := by subst hσ; exact at4
  have U₂ : (u₂, AO.mlist ((tailsOf w).map PV.str)) ∈ σ₁ := by subst hσ; exact at1
  have R₁ : (r₁, AO.mlist [PV.str [102, 114, 111, 110, 116]]) ∈ σ₁ := by subst hσ; exact at3
  have R₂ : (r₂, AO.mlist [PV.str [101, 110, 100], PV.str [101, 110, 100]]) ∈ σ₁ := by subst hσ; exact at0
  clear hσ
  have pls : pl 60 (.list ((startsOf w).map .str)) = true := by rw [pl]; exact plL_strs hcs
  have plt : pl 60 (.list ((tailsOf w).map .str)) = true := by rw [pl]; exact plL_strs hct
  have stood : pl 60 (.list [.list ((startsOf w).map .str), .list [PV.str [102, 114, 111, 110, 116]], .int 0, .none, .list ((tailsOf w).map .str), .list [PV.str [101, 110, 100], PV.str [101, 110, 100]], .int 5, .int w.length]) = true := by
    have h1 : plL 58 ((startsOf w).map PV.str) = true := plL_strs hcs
    have h2 : plL 58 ((tailsOf w).map PV.str) = true := plL_strs hct
    simp [pl, plL, h1, h2]
  cases b
  all_goals refine Ex.cons (Ex1.assign (x := "both") (Ev.ifexp (Tr.value (Ev.name (x := "turned") rfl (OpB.bool ?_)) fun _ _ => rfl)) (.inl rfl) fun _ => rfl)
  all_goals refine ite_bool (fun hb => ?_) fun hb => ?_
  all_goals first | (cases hb; done) | skip
  case false.refine_2 =>
    refine Ev.callF T.E.merge rfl (Ev.name (x := "fronts") rfl (Ev.name (x := "ends") rfl ⟨rfl, op_merge T.E E₁ E₂ (by lia) (by lia) (by simp) rfl rfl rfl rfl rfl rfl fun a d tl ha hd hne => ?_⟩)) rfl
    refine Ex.cons (Ex1.assign (x := "rest") (Ev.list3 (Ev.fld T.E (x := "both") (f := "rulelines") T.E.rl rfl at0 rfl (Ev.fld T.E (x := "both") (f := "delay") T.E.dl rfl at0 rfl (Ev.fld T.E (x := "both") (f := "req_rate") T.E.rr rfl at0 rfl ?_))) rfl) (.inl rfl) fun _ => rfl)
    refine Ex.cons (Ex1.assign (x := "due") (Ev.ifexp (Tr.value (Ev.name (x := "turned") rfl (OpB.bool ?_)) fun _ _ => rfl)) (.inl rfl) fun _ => rfl)
    refine ite_bool (fun hb => ?_) fun hb => ?_
    all_goals first | (cases hb; done) | skip
    refine Ev.list3 (Ev.list3 (Ev.str (l := [102, 114, 111, 110, 116]) rfl (Ev.str (l := [101, 110, 100]) rfl (Ev.str (l := [101, 110, 100]) rfl (Ev.int ?_)))) rfl) rfl
    refine Ev.call1 T.len rfl (Ev.name (x := "word") rfl (OpL.len_s (by lia) ?_)) rfl
    refine Ex.cons (Ex1.assign (x := "kept") (Ev.list (es := [_, _, _, _, _, _, _, _]) (Ev.fld T.E (x := "fronts") (f := "useragents") T.E.ua rfl (.tail _ M₁) rfl (Ev.fld T.E (x := "fronts") (f := "rulelines") T.E.rl rfl (.tail _ M₁) rfl (Ev.fld T.E (x := "fronts") (f := "delay") T.E.dl rfl (.tail _ M₁) rfl (Ev.fld T.E (x := "fronts") (f := "req_rate") T.E.rr rfl (.tail _ M₁) rfl
      (Ev.fld T.E (x := "ends") (f := "useragents") T.E.ua rfl (.tail _ M₂) rfl (Ev.fld T.E (x := "ends") (f := "rulelines") T.E.rl rfl (.tail _ M₂) rfl (Ev.fld T.E (x := "ends") (f := "delay") T.E.dl rfl (.tail _ M₂) rfl (Ev.fld T.E (x := "ends") (f := "req_rate") T.E.rr rfl (.tail _ M₂) rfl ⟨by simp [sizeLine], ?_⟩)))))))) rfl) (.inl rfl) fun _ => rfl)
    refine Ex.cons (Ex1.assign (x := "stood") (Ev.list (es := [_, _, _, _, _, _, _, _]) (Ev.name (x := "starts") rfl (Ev.list1 (Ev.str (l := [102, 114, 111, 110, 116]) rfl (Ev.int (Ev.none (Ev.name (x := "tails") rfl (Ev.list2 (Ev.str (l := [101, 110, 100]) rfl (Ev.str (l := [101, 110, 100]) rfl (Ev.int (Ev.call1 T.len rfl (Ev.name (x := "word") rfl (OpL.len_s (by lia) ⟨by simp [sizeLine], ?_⟩)) rfl)))) rfl))))) rfl)) rfl) (.inl rfl) fun _ => rfl)
    have e1 : peq (.list [.list [PV.str [102, 114, 111, 110, 116], PV.str [101, 110, 100], PV.str [101, 110, 100]], .int 5, .int w.length]) (.list [.list [PV.str [102, 114, 111, 110, 116], PV.str [101, 110, 100], PV.str [101, 110, 100]], .int 5, .int w.length]) = true := peq_refl (n := 60) (by simp [pl, plL])
    have p1 : pl 60 (.list [.list [PV.str [102, 114, 111, 110, 116], PV.str [101, 110, 100], PV.str [101, 110, 100]], .int 5, .int w.length]) = true := by simp [pl, plL]
    refine Ex.cons (Ex1.ret (Ev.ifexp (Tr.and2 (Tr.cmp (Ev.name (x := "rest") rfl (Ev.name (x := "due") rfl (Op2.eq p1 p1 (OpB.bool ?_)))) rfl))))
    show if peq (.list [.list [PV.str [102, 114, 111, 110, 116], PV.str [101, 110, 100], PV.str [101, 110, 100]], .int 5, .int w.length]) (.list [.list [PV.str [102, 114, 111, 110, 116], PV.str [101, 110, 100], PV.str [101, 110, 100]], .int 5, .int w.length]) = true then _ else _
    rw [if_pos e1]
    refine Tr.cmp (Ev.name (x := "kept") rfl (Ev.name (x := "stood") rfl (Op2.eq_r (.list (.cons (.mut (.tail _ U₁) (ResL.refl _)) (.cons (.mut (.tail _ R₁) (ResL.refl _)) (.cons (.refl _) (.cons (.refl _) (.cons (.mut (.tail _ U₂) (ResL.refl _)) (.cons (.mut (.tail _ R₂) (ResL.refl _)) (.cons (.refl _) (.cons (.refl _) .nil))))))))) (.refl _) stood stood (OpB.bool ?_)))) rfl
    rw [if_pos (peq_refl stood)]
    exact Ev.fld T.E (x := "both") (f := "useragents") T.E.ua rfl at0 rfl ⟨σ, .cons _ sub, h⟩
  case true.refine_1 =>
    refine Ev.callF T.E.merge rfl (Ev.name (x := "ends") rfl (Ev.name (x := "fronts") rfl ⟨rfl, op_merge T.E E₂ E₁ (by lia) (by lia) (by simp) rfl rfl rfl rfl rfl rfl fun a d tl ha hd hne => ?_⟩)) rfl
    refine Ex.cons (Ex1.assign (x := "rest") (Ev.list3 (Ev.fld T.E (x := "both") (f := "rulelines") T.E.rl rfl at0 rfl (Ev.fld T.E (x := "both") (f := "delay") T.E.dl rfl at0 rfl (Ev.fld T.E (x := "both") (f := "req_rate") T.E.rr rfl at0 rfl ?_))) rfl) (.inl rfl) fun _ => rfl)
    refine Ex.cons (Ex1.assign (x := "due") (Ev.ifexp (Tr.value (Ev.name (x := "turned") rfl (OpB.bool ?_)) fun _ _ => rfl)) (.inl rfl) fun _ => rfl)
    refine ite_bool (fun hb => ?_) fun hb => ?_
    all_goals first | (cases hb; done) | skip
    refine Ev.list3 (Ev.list3 (Ev.str (l := [101, 110, 100]) rfl (Ev.str (l := [101, 110, 100]) rfl (Ev.str (l := [102, 114, 111, 110, 116]) rfl (Ev.int ?_)))) rfl) rfl
    refine Ev.call1 T.len rfl (Ev.name (x := "word") rfl (OpL.len_s (by lia) ?_)) rfl
    refine Ex.cons (Ex1.assign (x := "kept") (Ev.list (es := [_, _, _, _, _, _, _, _]) (Ev.fld T.E (x := "fronts") (f := "useragents") T.E.ua rfl (.tail _ M₁) rfl (Ev.fld T.E (x := "fronts") (f := "rulelines") T.E.rl rfl (.tail _ M₁) rfl (Ev.fld T.E (x := "fronts") (f := "delay") T.E.dl rfl (.tail _ M₁) rfl (Ev.fld T.E (x := "fronts") (f := "req_rate") T.E.rr rfl (.tail _ M₁) rfl
      (Ev.fld T.E (x := "ends") (f := "useragents") T.E.ua rfl (.tail _ M₂) rfl (Ev.fld T.E (x := "ends") (f := "rulelines") T.E.rl rfl (.tail _ M₂) rfl (Ev.fld T.E (x := "ends") (f := "delay") T.E.dl rfl (.tail _ M₂) rfl (Ev.fld T.E (x := "ends") (f := "req_rate") T.E.rr rfl (.tail _ M₂) rfl ⟨by simp [sizeLine], ?_⟩)))))))) rfl) (.inl rfl) fun _ => rfl)
    refine Ex.cons (Ex1.assign (x := "stood") (Ev.list (es := [_, _, _, _, _, _, _, _]) (Ev.name (x := "starts") rfl (Ev.list1 (Ev.str (l := [102, 114, 111, 110, 116]) rfl (Ev.int (Ev.none (Ev.name (x := "tails") rfl (Ev.list2 (Ev.str (l := [101, 110, 100]) rfl (Ev.str (l := [101, 110, 100]) rfl (Ev.int (Ev.call1 T.len rfl (Ev.name (x := "word") rfl (OpL.len_s (by lia) ⟨by simp [sizeLine], ?_⟩)) rfl)))) rfl))))) rfl)) rfl) (.inl rfl) fun _ => rfl)
    have e1 : peq (.list [.list [PV.str [101, 110, 100], PV.str [101, 110, 100], PV.str [102, 114, 111, 110, 116]], .int 0, .int w.length]) (.list [.list [PV.str [101, 110, 100], PV.str [101, 110, 100], PV.str [102, 114, 111, 110, 116]], .int 0, .int w.length]) = true := peq_refl (n := 60) (by simp [pl, plL])
    have p1 : pl 60 (.list [.list [PV.str [101, 110, 100], PV.str [101, 110, 100], PV.str [102, 114, 111, 110, 116]], .int 0, .int w.length]) = true := by simp [pl, plL]
    refine Ex.cons (Ex1.ret (Ev.ifexp (Tr.and2 (Tr.cmp (Ev.name (x := "rest") rfl (Ev.name (x := "due") rfl (Op2.eq p1 p1 (OpB.bool ?_)))) rfl))))
    show if peq (.list [.list [PV.str [101, 110, 100], PV.str [101, 110, 100], PV.str [102, 114, 111, 110, 116]], .int 0, .int w.length]) (.list [.list [PV.str [101, 110, 100], PV.str [101, 110, 100], PV.str [102, 114, 111, 110, 116]], .int 0, .int w.length]) = true then _ else _
    rw [if_pos e1]
    refine Tr.cmp (Ev.name (x := "kept") rfl (Ev.name (x := "stood") rfl (Op2.eq_r (.list (.cons (.mut (.tail _ U₁) (ResL.refl _)) (.cons (.mut (.tail _ R₁) (ResL.refl _)) (.cons (.refl _) (.cons (.refl _) (.cons (.mut (.tail _ U₂) (ResL.refl _)) (.cons (.mut (.tail _ R₂) (ResL.refl _)) (.cons (.refl _) (.cons (.refl _) .nil))))))))) (.refl _) stood stood (OpB.bool ?_)))) rfl
    rw [if_pos (peq_refl stood)]
    exact Ev.fld T.E (x := "both") (f := "useragents") T.E.ua rfl at0 rfl ⟨σ, .cons _ sub, h⟩
end
end Mine
end W33

section C39
open PySem PySem.W PyProof.Rows
set_option Elab.async false
set_option linter.unusedVariables false
set_option maxRecDepth 100000
namespace Mine
/-- a loop over a list of the store that the turns leave as it is -/
theorem Ex1.forM {C k sc ρ σ target iter body pos K} {a : Addr} {xs : List PV} (J : List PV → Lo → Sto → Prop)
    (h : Ev C k sc ρ σ iter fun d σ₁ => d = .raw (.ref a) ∧ J xs ρ σ₁)
    (hm : ∀ rest ρ' σ', J rest ρ' σ' → (a, AO.mlist xs) ∈ σ')
    (turn : ∀ x r ρ' σ', J (x :: r) ρ' σ' → Bind C k sc ρ' σ' target x own fun ρ₁ σ₂ => Ex C k sc ρ₁ σ₂ body fun g ρ₂ σ₃ => match g with | .next | .cont => J r ρ₂ σ₃ | .brk => K .next ρ₂ σ₃ | .ret d => K (.ret d) ρ₂ σ₃)
    (fin : ∀ ρ' σ', J [] ρ' σ' → K .next ρ' σ') (hs : ∀ env x, foldedSetIterable iter env x = pure x) : Ex1 C k sc ρ σ (.For target iter body [] pos) K := fun A P env s he hr I => by
  refine wpAny_For (ev_one h he hr I fun v d σ₁ s₁ hK hA r => ?_) (hs env)
  obtain ⟨rfl, hJ⟩ := hK
  cases r with | raw =>
  have I₁ := I.after hA
  obtain ⟨vs₀, n₀, e₀, r₀⟩ := I₁.hp.st _ _ (hm _ _ _ hJ)
  refine wpAny_pyIter_list (isList_of e₀) ?_
  have S₁ : Step C σ σ₁ (own env) s s₁ := hA.step.weak fun _ q => q.elim
  refine for_go (fun n s' => ∃ rest ρ' σ' i, n = rest.length ∧ J rest ρ' σ' ∧ rest = xs.drop i ∧ Step C σ₁ σ' (own env) s₁ s' ∧ Inv C (PP (fun b => PP P σ₁ b ∨ b = hsz s₁) σ') env ρ' σ' s'.heap ∧ s'.heap.IsListIter (hsz s₁) a i ∧ hsz s₁ ∉ dom σ') ?_ xs.length ?_
  · rintro n s' ⟨rest, ρ', σ', i, rfl, hJ', hrest, hS', I', hit, hd⟩
    have hown : ¬ own env (hsz s₁) := fun q => Nat.lt_irrefl _ (I₁.envOk.lt _ q)
    have hbase : C.base ≤ hsz s₁ := C.low I₁.hp.gi
    have hnew : ∀ {h' : Heap} {tk'}, hsz s' ≤ h'.objs.size → (∀ b o, b ≠ hsz s₁ → s'.heap.get? b = some o → h'.get? b = some o) → Step C σ₁ σ' (own env) s₁ { s' with heap := h', toks := tk' } := fun {h'} {tk'} hz k =>
      ⟨fun b o h1 h2 h3 e => k b o (fun q => by subst q; exact Nat.lt_irrefl _ (Heap.lt_size e)) (hS'.kept b o h1 h2 h3 e), Nat.le_trans hS'.size hz, hS'.new, hS'.gens, hS'.os⟩
    have hlast : ∀ {s''} {ρ'' σ''}, Step C σ₁ σ'' (own env) s₁ s'' → Inv C (PP (fun b => PP P σ₁ b ∨ b = hsz s₁) σ'') env ρ'' σ'' s''.heap → AfterF C P env σ s ρ'' σ'' s'' := fun {s''} {ρ'' σ''} hS I'' =>
      ⟨S₁.trans hS, I''.less (fun a q => q.elim (fun q => .inl (.inl (.inl q))) .inr) (fun a ha => .inl (I.hp.ptb a ha)) (fun a ha => .inr ha) (fun a ha => .inl (I.pown a ha).1)⟩
    have rdless : ∀ {h' σ'' v d}, Rd C.X (PP (fun b => PP P σ₁ b ∨ b = hsz s₁) σ'') h' v d → Rd C.X (PP P σ'') h' v d := fun q => q.pass' (Pass.less fun a q => q.elim (fun q => .inl (.inl (.inl q))) .inr)
    obtain ⟨vs, m, e, rl⟩ := I'.hp.st _ _ (hm _ _ _ hJ')
    have hz : vs.size = xs.length := by rw [← rl.length, Array.length_toList]
    have hne : a ≠ hsz s₁ := fun q => hd (q ▸ mem_dom (hm _ _ _ hJ') a (.inl rfl))
    have hIlt : hsz s₁ < hsz s' := by obtain ⟨o, ho, _⟩ := hit; exact Heap.lt_size ho
    cases rest with
    | nil =>
      have hx : vs[i]? = none := by
        have := congrArg List.length hrest
        simp at this
        rw [Array.getElem?_eq_none_iff]; omega
      refine with_size (wpAny_pyNext_list_end hr.handled hit (isList_of e) hx fun h' k hz' => ?_)
      exact wpAny_execs_nil ⟨.next, ρ', σ', fin _ _ hJ', hlast (hnew (tk' := s'.toks) hz' k) (I'.moved k hz' ⟨.inl (.inr rfl), hbase, hd, hown⟩), .next⟩
    | cons x rest =>
      have hi : xs[i]? = some x := by rw [← List.head?_drop, ← hrest]; rfl
      have hrest' : rest = xs.drop (i + 1) := by rw [← List.tail_drop, ← hrest]; rfl
      obtain ⟨v, hv, rv⟩ := rl.get' hi
      have hx : vs[i]? = some v := by simpa using hv
      refine with_size (wpAny_pyNext_list_item hit (isList_of e) hx fun h' hit' sb hz' => ?_)
      have k : ∀ b o, b ≠ hsz s₁ → s'.heap.get? b = some o → h'.get? b = some o := fun b o hb eb => sb.extBut b o hb eb
      have goI : ∃ o, h'.get? (hsz s₁) = some o ∧ o.cls = .type "list_iterator" := let ⟨o, ho, hc, _⟩ := hit'; ⟨o, ho, hc⟩
      obtain ⟨oI, hoI, hcI⟩ := goI
      refine goes (s := { s' with heap := h' }) hoI hcI (by decide) ?_
      have I₂ := I'.moved k hz' ⟨.inl (.inr rfl), hbase, hd, hown⟩
      have S₂ := hnew (tk' := s'.toks) hz' k
      have rv' : Rd C.X (PP (fun b => PP P σ₁ b ∨ b = hsz s₁) σ') h' v x := rv.pass' fun b o na eb => ⟨k b o (fun q => na (q ▸ .inl (.inr rfl))) eb, na⟩
      refine wpAny_mono (turn _ _ _ _ hJ' A _ env { s' with heap := h' } v he hr I₂ rv') (fun _ s₃ o => ?_) fun _ _ x => x
      obtain ⟨ρ₁, σ₂, hB, hS₃, I₃⟩ := o
      have pt : ∀ a ∈ C.tb, (fun b => PP P σ₁ b ∨ b = hsz s₁) a := fun a ha => Or.inl (Or.inl (I.hp.ptb a ha))
      have po : ∀ a, own env a → (fun b => PP P σ₁ b ∨ b = hsz s₁) a := fun a ha => Or.inl (Or.inl (I.pown a ha).1)
      have I₃' := I₃.down pt po
      refine wpAny_mono (hB A _ env s₃ he hr I₃') (fun f s₄ o => ?_) fun _ _ x => x
      obtain ⟨g, ρ₂, σ₃, hK, hA₄, fl⟩ := o
      have S₄ := S₂.trans (hS₃.trans hA₄.step)
      have I₄ := hA₄.inv.down pt po
      have hd₄ : hsz s₁ ∉ dom σ₃ := fun ha => by
        rcases (hS₃.trans hA₄.step).new _ ha with z | z
        · exact hd z
        · exact absurd (Nat.lt_of_lt_of_le hIlt hz') (Nat.not_lt.mpr z)
      have back : J rest ρ₂ σ₃ → ∃ m, m < (x :: rest).length ∧ ∃ rest' ρ'' σ'' i, m = rest'.length ∧ J rest' ρ'' σ'' ∧ rest' = xs.drop i ∧ Step C σ₁ σ'' (own env) s₁ s₄ ∧ Inv C (PP (fun b => PP P σ₁ b ∨ b = hsz s₁) σ'') env ρ'' σ'' s₄.heap ∧ s₄.heap.IsListIter (hsz s₁) a i ∧ hsz s₁ ∉ dom σ'' := fun j => by
        refine ⟨rest.length, by simp, rest, ρ₂, σ₃, i + 1, rfl, j, hrest', S₄, I₄, ?_, hd₄⟩
        exact hit'.at fun o e => (hS₃.trans hA₄.step).kept _ o hd (fun q => absurd (C.tbLow _ q) (Nat.not_lt.mpr hbase)) hown e
      cases fl with
      | next => exact back hK
      | cont => exact back hK
      | brk => exact ⟨.next, _, _, hK, hlast S₄ I₄, .next⟩
      | ret rv' => exact ⟨.ret _, _, _, hK, hlast S₄ I₄, .ret (rdless (rv'.down C.extOk))⟩
  · refine ⟨xs, ρ, σ₁, 0, rfl, hJ, rfl, ⟨fun b o _ _ _ e => Heap.get?_push_of_some _ e, by show s₁.heap.objs.size ≤ (s₁.heap.push _).objs.size; rw [Heap.size_push]; exact Nat.le_succ _, fun _ q => .inl q, rfl, rfl⟩, I₁.more.pp, ⟨_, Heap.get?_push_size _ rfl, rfl, rfl⟩, fun q => Nat.lt_irrefl _ (I₁.hp.lt _ q)⟩
theorem TrAll.one {C k sc ρ σ e} {K : Bool → Sto → Prop} (h : Tr C k sc ρ σ e K) : TrAll C k sc ρ .And σ [e] K :=
  Tr.mono h fun b σ₁ q => by
    cases b with
    | true => exact q
    | false => exact q
theorem Tr.or3 {C k sc ρ σ e₁ e₂ e₃ pos K} (h : Tr C k sc ρ σ e₁ fun b σ₁ => if b = true then K true σ₁ else Tr C k sc ρ σ₁ e₂ fun b σ₂ => if b = true then K true σ₂ else Tr C k sc ρ σ₂ e₃ K) : Tr C k sc ρ σ (.BoolOp .Or [e₁, e₂, e₃] pos) K :=
  Tr.boolop (Tr.mono h fun b σ₁ q => by
    cases b
    · refine Tr.mono q fun b σ₂ q => ?_
      cases b
      · exact Tr.mono q fun b σ₂ q => by cases b <;> exact q
      · exact q
    · exact q)
theorem Op2.mulsN {C k σ} {K : PV → Sto → Prop} {a : List Nat} {i : Nat} (h1 : i ≤ 4096) (hx : a.length ≤ 4096) (h : K (.str (List.replicate i a).flatten) σ) : Op2 C k σ (.str a) (.int (i : Nat)) (binaryOp .Mult) K :=
  Op2.muls (by omega) (by omega) hx (by simpa using h)
theorem rep_one (n c : Nat) : (List.replicate n [c]).flatten = List.replicate n c := by
  induction n with
  | zero => rfl
  | succ n ih => rw [List.replicate_succ, List.flatten_cons, ih]; rfl
end Mine
end C39

section W34
open PySem PySem.W PyProof.Rows
set_option Elab.async false
set_option linter.unusedVariables false
set_option maxRecDepth 100000
namespace Mine
theorem no_appl : typeLookup (.type "object") (Str.ofString "applies_to") = pure none := by rw [typeLookup_type, builtinLookup_eq_fast]; kernel_rfl
/-- does an agent of us meet x -/
noncomputable def meets (x : List Nat) (a : List Nat) : Bool := !decide (a = [42]) && Txt.contains (strL x) (strL (lowerL a))
section
variable {C : Cx} {N : Addr} {mN : Str → Option Value} (T : TopE C N mN) {k : Nat} {σ : Sto}
include T
theorem w_appl0 {a d u : Addr} {fs : List (String × PV)} {us : List (List Nat)} {K : PV → Sto → Prop} (hm : (a, AO.inst d fs) ∈ σ) (hf : fs.lookup "useragents" = some (.raw (.ref u))) (hu : (u, AO.mlist (us.map .str)) ∈ σ) (hc : ∀ x ∈ us, ∀ c ∈ x, c < 128) (h : K (.bool (decide ([42] ∈ us))) σ) :
    Ex C k (fScope sApplies) [("self", .raw (.ref a)), ("useragent", .none)] σ (fBody sApplies) (fun g _ σ' => match g with | .ret d => K d σ' | .next => K .none σ' | _ => False) := by
  refine Ex.cons (Ex1.if (Tr.cmp (Ev.name (x := "useragent") rfl (Ev.none (Op2.is rfl rfl (OpB.bool ?_)))) rfl))
  show Ex C k _ _ σ _ _
  refine Ex.cons (Ex1.ret (Ev.cmp (Ev.str (l := [42]) rfl (Ev.fld T (x := "self") (f := "useragents") T.ua rfl hm hf (Op2.in (LRead.mut hu) (plL_strs fun x hx c hc' => by have := hc x hx c hc'; lia) (pl_str' (by simp)) ?_))) rfl))
  have e : ((us.map PV.str).any fun y => peq y (.str [42])) = decide ([42] ∈ us) := by
    rw [List.any_map]
    have e2 : ((fun y => peq y (.str [42])) ∘ PV.str) = fun y => decide (y = [42]) := by funext y; exact peq_str' y [42]
    rw [e2]
    clear hu hc h
    induction us with
    | nil => simp
    | cons y r ih =>
      rw [List.any_cons, ih]
      by_cases h1 : y = [42]
      · simp [h1]
      · have h2 : ¬ [42] = y := fun q => h1 q.symm
        simp [h1, h2]
  rw [e]; exact h
theorem w_appl {a d u : Addr} {fs : List (String × PV)} {us : List (List Nat)} {x hd : List Nat} {tl : List (List Nat)} {K : PV → Sto → Prop} (hm : (a, AO.inst d fs) ∈ σ) (hf : fs.lookup "useragents" = some (.raw (.ref u))) (hu : (u, AO.mlist (us.map .str)) ∈ σ) (hc : ∀ x ∈ us, (∀ c ∈ x, c < 128) ∧ x.length ≤ 10000)
    (hx : x.length ≤ 10000) (hs : splitL x 47 = hd :: tl) (hl : (lowerL hd).length ≤ 10000) (h : K (.bool (us.any (meets (lowerL hd)))) σ) :
    Ex C k (fScope sApplies) [("self", .raw (.ref a)), ("useragent", .str x)] σ (fBody sApplies) (fun g _ σ' => match g with | .ret d => K d σ' | .next => K .none σ' | _ => False) := by
  refine Ex.cons (Ex1.if (Tr.cmp (Ev.name (x := "useragent") rfl (Ev.none (Op2.is rfl rfl (OpB.bool ?_)))) rfl))
  show Ex C k _ _ σ [] _
  refine Ex.nil ?_
  refine Ex.cons (Ex1.assign (x := "useragent") (Ev.lower (Ev.sub (Ev.split (Ev.name (x := "useragent") rfl ⟨x, rfl, by lia, Ev.str (l := [47]) rfl ⟨47, rfl, ?_⟩⟩) rfl rfl fun _ => rfl)) rfl fun _ => rfl) (.inl rfl) fun _ => rfl)
  rw [hs]
  refine Ev.int (Op2.item (d := .str hd) .list (by decide) (by decide) rfl ⟨hd, rfl, by simp [sizeLine]; lia, ?_⟩)
  refine Ex.cons (Ex1.forM (a := u) (xs := us.map .str) (J := fun rest ρ σ' => ∃ todo : List (List Nat), rest = todo.map .str ∧ (∀ x ∈ todo, x ∈ us) ∧ us.any (meets (lowerL hd)) = todo.any (meets (lowerL hd)) ∧ Has ρ [("useragent", .str (lowerL hd)), ("self", .raw (.ref a))] ∧ σ' = σ) ?_ ?_ ?_ ?_ fun _ _ => rfl)
  · exact Ev.fld T (x := "self") (f := "useragents") T.ua rfl hm hf ⟨rfl, us, rfl, fun _ h => h, rfl, ⟨rfl, rfl, trivial⟩, rfl⟩
  · rintro rest ρ' σ' ⟨todo, _, _, _, _, rfl⟩; exact hu
  · rintro y r ρ' σ' ⟨todo, he, hin, ha, hh, rfl⟩
    cases todo with
    | nil => cases he
    | cons z todo =>
    obtain ⟨rfl, rfl⟩ : y = .str z ∧ r = todo.map .str := by simpa using he
    have hz := hc z (hin z List.mem_cons_self)
    have hlz : (lowerL z).length ≤ 10000 := by rw [lower_ok hz.1, List.length_map]; exact hz.2
    refine Bind.name (x := "agent") (.inl rfl) ?_
    refine Ex.has (ρ' := [("agent", .str z), ("useragent", .str (lowerL hd)), ("self", .raw (.ref a))]) ⟨rfl, hh.1, hh.2.1, trivial⟩ ?_
    have back : meets (lowerL hd) z = false → ∀ ρ'', Has ρ'' [("useragent", .str (lowerL hd)), ("self", .raw (.ref a))] → ∃ todo' : List (List Nat), todo.map PV.str = todo'.map .str ∧ (∀ x ∈ todo', x ∈ us) ∧ us.any (meets (lowerL hd)) = todo'.any (meets (lowerL hd)) ∧ Has ρ'' [("useragent", .str (lowerL hd)), ("self", .raw (.ref a))] ∧ σ' = σ' := fun hz ρ'' hh' =>
      ⟨todo, rfl, fun x hx => hin x (List.mem_cons_of_mem _ hx), by rw [ha, List.any_cons, hz]; rfl, hh', rfl⟩
    refine Ex.cons (Ex1.if (Tr.cmp (Ev.name (x := "agent") rfl (Ev.str (l := [42]) rfl (Op2.ne (pl_str' fun c hcz => by have := hz.1 c hcz; lia) (pl_str' (by simp)) (OpB.bool ?_)))) rfl))
    rw [peq_str']
    refine ite_bool (fun h1 => ?_) fun h1 => ?_
    · refine Ex.cons (Ex1.assign (x := "agent") (Ev.lower (Ev.name (x := "agent") rfl ⟨z, rfl, by simp [sizeLine]; lia, ?_⟩) rfl fun _ => rfl) (.inl rfl) fun _ => rfl)
      refine Ex.cons (Ex1.if (Tr.cmp (Ev.name (x := "agent") rfl (Ev.name (x := "useragent") rfl (Op2.in_s (OpB.bool ?_)))) rfl))
      refine ite_bool (fun h2 => ?_) fun h2 => ?_
      · refine Ex.cons (Ex1.ret (Ev.bool ?_))
        have : us.any (meets (lowerL hd)) = true := by rw [ha, List.any_cons]; unfold meets; rw [h1, h2]; rfl
        rw [this] at h; exact h
      · exact Ex.nil (Ex.nil (Ex.nil (back (by unfold meets; rw [h1, h2]; rfl) _ ⟨rfl, rfl, trivial⟩)))
    · exact Ex.nil (Ex.nil (back (by unfold meets; rw [h1]; rfl) _ ⟨rfl, rfl, trivial⟩))
  · rintro ρ' σ' ⟨todo, he, hin, ha, hh, rfl⟩
    have : todo = [] := by cases todo with | nil => rfl | cons c r => cases he
    subst this
    refine Ex.cons (Ex1.ret (Ev.bool ?_))
    rw [ha] at h; exact h
end
end Mine
end W34

section W35
open PySem PySem.W PyProof.Rows
set_option Elab.async false
set_option linter.unusedVariables false
set_option maxRecDepth 100000
namespace Mine
/-- the sizes of which w is some word said twice or oftener -/
noncomputable def partsOf (w : List Nat) : List Nat := ((List.range (w.length - 1)).map fun i => 1 + i).filter fun p => decide (w.length % p = 0) && decide ((List.replicate (w.length / p) (w.take p)).flatten = w)
noncomputable def powOf (w : List Nat) : Bool := decide (partsOf w ≠ [])
noncomputable def innerOf (w : List Nat) : List Nat := ((w ++ w).drop 1).take ((w ++ w).length - 2)
noncomputable def wholeOf (u : List Nat) (n : Nat) : List Nat := u ++ List.replicate (n - 2 * u.length) 116
noncomputable def twoStep (u : List Nat) (n : Nat) : List Nat :=
  if u = [] then 115 :: List.replicate (n - 1) 116
  else if n ≤ 2 * u.length then u.take (n - u.length) ++ u
  else (if powOf (wholeOf u n) then (wholeOf u n).take ((wholeOf u n).length - 1) ++ [115] else wholeOf u n) ++ u
noncomputable def twoOf (sizes : List Nat) : List Nat := sizes.foldl twoStep []
/-- what the text's plain law must give the walk -/
noncomputable def ToldOk : Prop := ∀ w : List Nat, 2 ≤ w.length → (∀ c ∈ w, c = 115 ∨ c = 116) → Txt.contains (strL (innerOf w ++ [42])) (strL w) = powOf w
theorem st_low {w : List Nat} (h : ∀ c ∈ w, c = 115 ∨ c = 116) : (∀ c ∈ w, c < 128) ∧ upperL w = w.map up1 ∧ (w.map up1).map lo1 = w := by
  have h1 : ∀ c ∈ w, c < 128 := fun c hc => by rcases h c hc with rfl | rfl <;> decide
  refine ⟨h1, upper_ok h1, ?_⟩
  rw [List.map_map]
  conv => rhs; rw [← List.map_id w]
  exact List.map_congr_left fun c hc => by rcases h c hc with rfl | rfl <;> rfl
theorem whole_st {u : List Nat} {n : Nat} (h : ∀ c ∈ u, c = 115 ∨ c = 116) : ∀ c ∈ wholeOf u n, c = 115 ∨ c = 116 := fun c hc => by
  rcases List.mem_append.mp hc with q | q
  · exact h c q
  · exact .inr (List.mem_replicate.mp q).2
theorem whole_len {u : List Nat} {n : Nat} (h : 2 * u.length ≤ n) : (wholeOf u n).length = n - u.length := by unfold wholeOf; rw [List.length_append, List.length_replicate]; lia
theorem step_st {u : List Nat} {n : Nat} (h : ∀ c ∈ u, c = 115 ∨ c = 116) : ∀ c ∈ twoStep u n, c = 115 ∨ c = 116 := fun c hc => by
  unfold twoStep at hc
  split at hc
  · rcases List.mem_cons.mp hc with q | q
    · exact .inl q
    · exact .inr (List.mem_replicate.mp q).2
  · split at hc
    · rcases List.mem_append.mp hc with q | q
      · exact h c (List.mem_of_mem_take q)
      · exact h c q
    · rcases List.mem_append.mp hc with q | q
      · split at q
        · rcases List.mem_append.mp q with q | q
          · exact whole_st h c (List.mem_of_mem_take q)
          · exact .inl (List.mem_singleton.mp q)
        · exact whole_st h c q
      · exact h c q
theorem step_len {u : List Nat} {n : Nat} (h1 : 1 ≤ n) (h2 : u.length < n) : (twoStep u n).length = n := by
  unfold twoStep
  split
  · rw [List.length_cons, List.length_replicate]; lia
  · split
    · rw [List.length_append, List.length_take]; lia
    · have hw := whole_len (u := u) (n := n) (by lia)
      split
      · rw [List.length_append, List.length_append, List.length_take, hw, List.length_singleton]; lia
      · rw [List.length_append, hw]; lia
theorem one_in {x : List Nat} {c : Nat} (h : c ∉ x) : Txt.contains (strL x) (strL [c]) = false := by
  cases e : Txt.contains (strL x) (strL [c]) with
  | false => rfl
  | true =>
    obtain ⟨i, _, hi⟩ := (contains_ok x [c]).mp e
    exact absurd (List.mem_of_mem_drop (List.mem_of_mem_take (by rw [hi]; exact List.mem_singleton.mpr rfl))) h
theorem capital {w : List Nat} (hw : w ≠ []) (h : ∀ c ∈ w, c = 115 ∨ c = 116) : upperL (w.take 1) = (w.take 1).map up1 ∧ lowerL ((w.take 1).map up1 ++ w.drop 1) = w ∧ (w.take 1).map up1 ++ w.drop 1 ≠ [42] ∧ ∀ c ∈ (w.take 1).map up1 ++ w.drop 1, c < 128 := by
  cases w with
  | nil => exact absurd rfl hw
  | cons c r =>
    have hc := h c List.mem_cons_self
    have h1 : ∀ e ∈ r, e < 128 := fun e he => (st_low h).1 e (List.mem_cons_of_mem _ he)
    have h2 : up1 c < 128 := by rcases hc with rfl | rfl <;> decide
    have h3 : ∀ e ∈ up1 c :: r, e < 128 := fun e he => by
      rcases List.mem_cons.mp he with rfl | he
      · exact h2
      · exact h1 e he
    refine ⟨upper_ok fun e he => ?_, ?_, ?_, h3⟩
    · have : e = c := by simpa using he
      subst this; exact (st_low h).1 e List.mem_cons_self
    · show lowerL (up1 c :: r) = c :: r
      rw [lower_ok h3, List.map_cons]
      have e1 : lo1 (up1 c) = c := by rcases hc with rfl | rfl <;> rfl
      have e2 : r.map lo1 = r := by
        conv => rhs; rw [← List.map_id r]
        exact List.map_congr_left fun e he => by rcases h e (List.mem_cons_of_mem _ he) with rfl | rfl <;> rfl
      rw [e1, e2]
    · show up1 c :: r ≠ [42]
      intro q
      have : up1 c = 42 := by injection q
      rcases hc with rfl | rfl <;> cases this
/-- what the record tells of a word -/
theorem told_any (hT : ToldOk) {w : List Nat} (hw : 2 ≤ w.length) (h : ∀ c ∈ w, c = 115 ∨ c = 116) : ([[117], (w.take 1).map up1 ++ w.drop 1, [42], [118]].any (meets (innerOf w ++ [42]))) = powOf w := by
  have hne : w ≠ [] := fun q => by subst q; simp at hw
  obtain ⟨_, c2, c3, _⟩ := capital hne h
  have hin : ∀ c ∈ innerOf w, c = 115 ∨ c = 116 := fun c hc => by
    have := List.mem_of_mem_drop (List.mem_of_mem_take hc)
    rcases List.mem_append.mp this with q | q <;> exact h c q
  have no : ∀ c, c ≠ 115 → c ≠ 116 → c ≠ 42 → Txt.contains (strL (innerOf w ++ [42])) (strL [c]) = false := fun c h1 h2 h3 => one_in fun q => by
    rcases List.mem_append.mp q with q | q
    · rcases hin c q with q | q
      · exact h1 q
      · exact h2 q
    · exact h3 (List.mem_singleton.mp q)
  generalize (w.take 1).map up1 ++ w.drop 1 = cap at *
  simp only [List.any_cons, List.any_nil, meets, c2]
  rw [hT w hw h, lower_ok (x := [117]) (by simp), lower_ok (x := [118]) (by simp)]
  simp only [List.map_cons, List.map_nil]
  rw [show lo1 117 = 117 from rfl, show lo1 118 = 118 from rfl, no 117 (by decide) (by decide) (by decide), no 118 (by decide) (by decide) (by decide)]
  simp [c3]
section
variable {C : Cx} {N : Addr} {mN : Str → Option Value} {S : Int → Bool} {D : List (PyData × PyData)} (T : Top3 C N mN S D) {k : Nat} {σ : Sto}
include T
theorem w_two (hT : ToldOk) {fa : Addr} {sizes : List Nat} {K : PV → Sto → Prop} (hs : sizes.Pairwise (· < ·)) (hb : ∀ n ∈ sizes, 1 ≤ n ∧ n ≤ 300) (h : K (.str (twoOf sizes)) σ) :
    Ex C (k + 3) (fScope (stAt 14)) [("sizes", .list (nums sizes)), ("faults", .raw (.ref fa))] σ (fBody (stAt 14)) (fun g _ σ' => match g with | .ret d => ∃ σ'', σ''.Sublist σ' ∧ K d σ'' | _ => False) := by
  refine Ex.cons (Ex1.assign (x := "word") (Ev.str (l := []) rfl ?_) (.inl rfl) fun _ => rfl)
  refine Ex.cons (Ex1.for (J := fun rest ρ σ' => ∃ (todo : List Nat) (u : List Nat), rest = nums todo ∧ todo.Pairwise (· < ·) ∧ (∀ n ∈ todo, u.length < n ∧ n ≤ 300) ∧ (∀ c ∈ u, c = 115 ∨ c = 116) ∧ todo.foldl twoStep u = twoOf sizes ∧ Has ρ [("word", .str u), ("faults", .raw (.ref fa))] ∧ σ.Sublist σ') ?_ ?_ ?_ fun _ _ => rfl)
  · exact Ev.name (x := "sizes") rfl ⟨_, Iterable.list, sizes, [], rfl, hs, fun n hn => ⟨(hb n hn).1, (hb n hn).2⟩, fun c hc => absurd hc List.not_mem_nil, rfl, ⟨rfl, rfl, trivial⟩, List.Sublist.refl _⟩
  · rintro x r ρ' σ' ⟨todo, u, he, hp, hn, hu, hf, hh, hsub⟩
    cases todo with
    | nil => cases he
    | cons n todo =>
    obtain ⟨rfl, rfl⟩ : x = .int (n : Nat) ∧ r = nums todo := by simpa [nums] using he
    obtain ⟨hn1, hn2⟩ := hn n List.mem_cons_self
    have next : ∀ {ρ'' σ''}, Has ρ'' [("word", .str (twoStep u n)), ("faults", .raw (.ref fa))] → σ.Sublist σ'' → ∃ (todo' : List Nat) (u' : List Nat), nums todo = nums todo' ∧ todo'.Pairwise (· < ·) ∧ (∀ n ∈ todo', u'.length < n ∧ n ≤ 300) ∧ (∀ c ∈ u', c = 115 ∨ c = 116) ∧ todo'.foldl twoStep u' = twoOf sizes ∧ Has ρ'' [("word", .str u'), ("faults", .raw (.ref fa))] ∧ σ.Sublist σ'' := fun hh' hs' =>
      ⟨todo, twoStep u n, rfl, (List.pairwise_cons.mp hp).2, fun m hm => ⟨by rw [step_len (by lia) hn1]; exact (List.pairwise_cons.mp hp).1 m hm, (hn m (List.mem_cons_of_mem _ hm)).2⟩, step_st hu, hf, hh', hs'⟩
    refine Bind.name (x := "size") (.inl rfl) ?_
    refine Ex.has (ρ' := [("size", .int (n : Nat)), ("word", .str u), ("faults", .raw (.ref fa))]) ⟨rfl, hh.1, hh.2.1, trivial⟩ ?_
    refine Ex.cons (Ex1.assign (x := "gap") (Ev.binop (Ev.name (x := "size") rfl (Ev.binop (Ev.int (Ev.call1 T.len rfl (Ev.name (x := "word") rfl (OpL.len_s (by lia) (Op2.mul (Op2.sub ?_) (IntMulOk.of_left (by decide))))) rfl))))) (.inl rfl) fun _ => rfl)
    refine Ex.cons (Ex1.if (Tr.cmp (Ev.name (x := "word") rfl (Ev.str (l := []) rfl (Op2.eq (pl_str' fun c hc => by have := (st_low hu).1 c hc; lia) (pl_str' (by simp)) (OpB.bool ?_)))) rfl))
    rw [peq_str']
    refine ite_dec (fun h0 => ?_) fun h0 => ?_
    · subst h0
      refine Ex.cons (Ex1.assign (x := "word") (Ev.binop (Ev.str (l := [115]) rfl (Ev.binop (Ev.str (l := [116]) rfl (Ev.binop (Ev.name (x := "size") rfl (Ev.int (Op2.sub ?_)))))))) (.inl rfl) fun _ => rfl)
      rw [show ((n : Nat) : Int) - 1 = ((n - 1 : Nat) : Int) by simp at hn1; lia]
      refine Op2.mulsN (by lia) (by simp) ?_
      rw [rep_one]
      refine Op2.adds (by simp [sizeLine]; lia) ?_
      exact Ex.nil (Ex.nil (next ⟨rfl, rfl, trivial⟩ hsub))
    have hstep : ∀ m, twoStep u m = if m ≤ 2 * u.length then u.take (m - u.length) ++ u else (if powOf (wholeOf u m) then (wholeOf u m).take ((wholeOf u m).length - 1) ++ [115] else wholeOf u m) ++ u := fun m => by unfold twoStep; rw [if_neg h0]
    refine Ex.cons (Ex1.if (Tr.cmp (Ev.name (x := "gap") rfl (Ev.int (Op2.le (OpB.bool ?_)))) rfl))
    refine ite_dec (fun h1 => ?_) fun h1 => ?_
    · refine Ex.cons (Ex1.assign (x := "word") (Ev.binop (Ev.sub (Ev.name (x := "word") rfl (Ev.slice (Ev.binop (Ev.name (x := "size") rfl (Ev.call1 T.len rfl (Ev.name (x := "word") rfl (OpL.len_s (by lia) (Op2.sub ?_))) rfl))))))) (.inl rfl) fun _ => rfl)
      rw [show ((n : Nat) : Int) - (u.length : Nat) = ((n - u.length : Nat) : Int) by lia]
      have e := hstep n
      rw [if_pos (by lia)] at e
      refine ⟨_, _, _, .none, .int _, .none, Op2.slice_s (by decide) ?_ ?_⟩
      · rw [slcS_eq, slcL_to]; simp [sizeLine]; lia
      · rw [slcS_eq, slcL_to]
        refine Ev.name (x := "word") rfl (Op2.adds (by simp [sizeLine]; lia) ?_)
        rw [← e]
        exact Ex.nil (Ex.nil (Ex.nil (next ⟨rfl, rfl, trivial⟩ hsub)))
    have h2 : 2 * u.length < n := by lia
    have hul : 1 ≤ u.length := by
      cases u with
      | nil => exact absurd rfl h0
      | cons => simp
    have hwl := whole_len (u := u) (n := n) (by lia)
    have hws := whole_st (u := u) (n := n) hu
    have hwne : wholeOf u n ≠ [] := fun q => by rw [q] at hwl; simp at hwl; lia
    obtain ⟨w1, w2, w3⟩ := st_low hws
    refine Ex.cons (Ex1.assign (x := "whole") (Ev.binop (Ev.name (x := "word") rfl (Ev.binop (Ev.str (l := [116]) rfl (Ev.name (x := "gap") rfl (Op2.muls (by lia) (by lia) (by simp) ?_)))))) (.inr rfl) fun _ => rfl)
    rw [rep_one, show ((n : Int) - 2 * (u.length : Nat)).toNat = n - 2 * u.length by lia]
    refine Op2.adds (by simp [sizeLine]; lia) ?_
    show Ex C (k + 3) _ (("whole", .str (wholeOf u n)) :: _) σ' _ _
    generalize hw0 : wholeOf u n = w at *
    refine Ex.cons (Ex1.assign (x := "record") (Ev.entry T.E rfl fun a d uu r ha hd huu hr hnd => ?_) (.inl rfl) fun _ => rfl)
    obtain ⟨c1, c2, c3, c4⟩ := capital hwne hws
    refine Ex.cons (Ex1.expr (Ev.extend (Ev.fld T.E (x := "record") (f := "useragents") T.E.ua rfl at2 rfl ⟨uu, rfl, ⟨_, at1⟩, Ev.list2 (Ev.str (l := [117]) rfl (Ev.binop (Ev.upper (Ev.sub (Ev.name (x := "whole") rfl (Ev.slice (Ev.int ⟨_, _, _, .none, .int 1, .none, Op2.slice_s (by decide) ?z1 ?_⟩)))) rfl fun _ => rfl))) rfl⟩) rfl rfl fun _ => rfl) fun _ => rfl)
    case z1 => rw [slcS_eq, show (some (1 : Int)) = some ((1 : Nat) : Int) from rfl, slcL_to]; simp [sizeLine]; lia
    rw [slcS_eq, show (some (1 : Int)) = some ((1 : Nat) : Int) from rfl, slcL_to]
    refine ⟨w.take 1, rfl, by rw [c1]; simp [sizeLine]; lia, ?_⟩
    rw [c1]
    refine Ev.sub (Ev.name (x := "whole") rfl (Ev.slice (Ev.int ⟨_, _, _, .int 1, .none, .none, Op2.slice_s (by decide) ?z2 ?_⟩)))
    case z2 => rw [slcS_eq, show (some (1 : Int)) = some ((1 : Nat) : Int) from rfl, slcL_from]; simp [sizeLine]; lia
    rw [slcS_eq, show (some (1 : Int)) = some ((1 : Nat) : Int) from rfl, slcL_from]
    refine Op2.adds (by simp [sizeLine]; lia) ⟨[], _, _, .list, .there .here, by simp, ?_⟩
    have hcl : ((w.take 1).map up1 ++ w.drop 1).length = w.length := by rw [List.length_append, List.length_map, List.length_take, List.length_drop]; lia
    have ta := told_any hT (w := w) (by lia) hws
    generalize (w.take 1).map up1 ++ w.drop 1 = cap at *
    show Ex C (k + 3) _ _ ((r, AO.mlist []) :: (uu, AO.mlist ([[117], cap].map PV.str)) :: (a, AO.inst d (fsNew uu r)) :: σ') _ _
    refine Ex.cons (Ex1.assign (x := "lacking") (Ev.meth T.E (x := "record") (m := "applies_to") T.E.appl no_appl rfl at2 rfl (Ev.none fun f F => Fn.call F (by decide +kernel) rfl (w_appl0 T.E at2 rfl at1 ?hl0 ?_)) rfl rfl fun _ => rfl) (.inl rfl) fun _ => rfl)
    case hl0 =>
      intro x hx c hc
      rcases List.mem_cons.mp hx with rfl | hx
      · have := List.mem_singleton.mp hc; lia
      · rw [List.mem_singleton.mp hx] at hc; exact c4 c hc
    have e42 : decide ([42] ∈ [[117], cap]) = false := by
      have : ¬ [42] = cap := fun q => c3 q.symm
      simp [this]
    rw [e42]
    refine Ex.cons (Ex1.expr (Ev.extend (Ev.fld T.E (x := "record") (f := "useragents") T.E.ua rfl at2 rfl ⟨uu, rfl, ⟨_, at1⟩, Ev.list2 (Ev.str (l := [42]) rfl (Ev.str (l := [118]) rfl ⟨_, _, _, .list, .there .here, by simp, ?_⟩)) rfl⟩) rfl rfl fun _ => rfl) fun _ => rfl)
    show Ex C (k + 3) _ _ ((r, AO.mlist []) :: (uu, AO.mlist ([[117], cap, [42], [118]].map PV.str)) :: (a, AO.inst d (fsNew uu r)) :: σ') _ _
    have hus : ∀ x ∈ [[117], cap, [42], [118]], (∀ c ∈ x, c < 128) ∧ x.length ≤ 10000 := fun x hx => by
      simp only [List.mem_cons, List.not_mem_nil, or_false] at hx
      rcases hx with rfl | rfl | rfl | rfl
      · exact ⟨fun c hc => by have := List.mem_singleton.mp hc; lia, by simp⟩
      · exact ⟨c4, by lia⟩
      · exact ⟨fun c hc => by have := List.mem_singleton.mp hc; lia, by simp⟩
      · exact ⟨fun c hc => by have := List.mem_singleton.mp hc; lia, by simp⟩
    have hist : ∀ c ∈ innerOf w, c = 115 ∨ c = 116 := fun c hc => by
      have := List.mem_of_mem_drop (List.mem_of_mem_take hc)
      rcases List.mem_append.mp this with q | q <;> exact hws c q
    obtain ⟨i1, i2, i3⟩ := st_low hist
    have hil : (innerOf w).length ≤ 700 := by unfold innerOf; have := List.length_take_le ((w ++ w).length - 2) ((w ++ w).drop 1); have := List.length_take_le' ((w ++ w).length - 2) ((w ++ w).drop 1); simp at *; lia
    refine Ex.cons (Ex1.assign (x := "told") (Ev.meth T.E (x := "record") (m := "applies_to") T.E.appl no_appl rfl at2 rfl ?_ rfl rfl fun _ => rfl) (.inl rfl) fun _ => rfl)
    refine Ev.binop (Ev.binop (Ev.upper (Ev.sub (Ev.binop (Ev.name (x := "whole") rfl (Ev.name (x := "whole") rfl (Op2.adds ?z4 ?_))))) rfl fun _ => rfl))
    case z4 => simp [sizeLine]; lia
    refine Ev.slice (Ev.int (Ev.unary (Ev.int (Op1.neg ⟨_, _, _, .int 1, .int _, .none, Op2.slice_s (by decide) ?z3 ?_⟩))))
    case z3 => rw [slcS_eq, slcL_inner _ (by simp; lia)]; simp [sizeLine]; lia
    rw [slcS_eq, slcL_inner _ (by simp; lia)]
    show ∃ x, PV.str (innerOf w) = .str x ∧ _
    refine ⟨innerOf w, rfl, by rw [i2, List.length_map]; simp [sizeLine]; lia, ?_⟩
    rw [i2]
    refine Ev.str (l := [42, 47]) rfl (Op2.adds (by simp [sizeLine]; lia) (Ev.name (x := "whole") rfl (Op2.adds (by simp [sizeLine]; lia) ?_)))
    intro f F
    have hno : 47 ∉ (innerOf w).map up1 ++ [42] := fun q => by
      rcases List.mem_append.mp q with q | q
      · obtain ⟨c, hc, e⟩ := List.mem_map.mp q
        rcases hist c hc with rfl | rfl <;> cases e
      · cases List.mem_singleton.mp q
    obtain ⟨tl, htl⟩ := split_head (x := ((innerOf w).map up1 ++ [42, 47]) ++ w) (c := 47) (p := (innerOf w).map up1 ++ [42]) (q := w) (by simp) hno
    have hlow : lowerL ((innerOf w).map up1 ++ [42]) = innerOf w ++ [42] := by
      rw [lower_ok, List.map_append, i3]; rfl
      intro c hc
      rcases List.mem_append.mp hc with q | q
      · obtain ⟨e, he, rfl⟩ := List.mem_map.mp q
        rcases hist e he with rfl | rfl <;> decide
      · rw [List.mem_singleton.mp q]; decide
    refine Fn.call F (by decide +kernel) rfl (w_appl T.E at2 rfl at1 hus (by simp; lia) htl (by rw [hlow]; simp; lia) ?_)
    rw [hlow, ta]
    refine Ex.cons (Ex1.assignComp (x := "parts") [("whole", .str w)] ⟨⟨rfl, rfl⟩, trivial⟩ (by decide +kernel) rfl (fun g hg => by cases List.mem_singleton.mp hg; exact ⟨rfl, fun _ _ => rfl⟩) ?_ rfl (fun env he => by cases env; dsimp only at he; subst he; rfl))
    refine Ev.call2t T.range rfl (Ev.int (Ev.call1 T.len rfl (Ev.name (x := "whole") rfl (OpL.len_s (by lia) (OpL.range2 ⟨(List.range (w.length - 1)).map fun i => PV.int ((1 + i : Nat) : Int), ?it2, ?_⟩))) rfl)) rfl
    case it2 =>
      have := Iterable.rangeN (C := C) (k := k + 3) (σ := (r, AO.mlist []) :: (uu, AO.mlist ([[117], cap, [42], [118]].map PV.str)) :: (a, AO.inst d (fsNew uu r)) :: σ') (a := 1) (n := w.length - 1) (by lia) (by lia)
      rwa [show 1 + (w.length - 1) = w.length by lia] at this
    refine Comp.pure1 (t := "part") (fun v => match v with | .int p => decide (w.length % p.toNat = 0) && decide ((List.replicate (w.length / p.toNat) (w.take p.toNat)).flatten = w) | _ => false) id rfl rfl ?_ ?_ (by simp [sizeLine]; lia) ?_
    · intro v hv K' hK'
      obtain ⟨i, hi, rfl⟩ := List.mem_map.mp hv
      have hil := List.mem_range.mp hi
      simp only [Int.toNat_natCast] at hK'
      refine TrAll.one (Tr.and2 (Tr.cmp (Ev.binop (Ev.call1 T.len rfl (Ev.name (x := "whole") rfl (OpL.len_s (by lia) (Ev.name (x := "part") rfl (Op2.modN (by lia) (Ev.int (Op2.eqN (b := 0) (OpB.bool ?_))))))) rfl)) rfl))
      refine ite_dec (fun q1 => ?_) fun q1 => ?_
      · refine Tr.cmp (Ev.binop (Ev.sub (Ev.name (x := "whole") rfl (Ev.slice (Ev.name (x := "part") rfl ⟨_, _, _, .none, .int _, .none, Op2.slice_s (by decide) ?z5 ?_⟩))))) rfl
        case z5 => rw [slcS_eq, slcL_to]; simp [sizeLine]; lia
        rw [slcS_eq, slcL_to]
        refine Ev.binop (Ev.call1 T.len rfl (Ev.name (x := "whole") rfl (OpL.len_s (by lia) (Ev.name (x := "part") rfl (Op2.divN (by lia) ?_ (by lia))))) rfl)
        have hdl : w.length / (1 + i) ≤ w.length := Nat.div_le_self _ _
        refine Op2.mulsN (by lia) (by simp; lia) ?_
        refine Ev.name (x := "whole") rfl (Op2.eq (pl_str' fun c hc => ?_) (pl_str' fun c hc => by have := w1 c hc; lia) (OpB.bool ?_))
        · obtain ⟨l, hl, hcl'⟩ := List.mem_flatten.mp hc
          have := (List.mem_replicate.mp hl).2
          subst this
          have := w1 c (List.mem_of_mem_take hcl')
          lia
        · rw [peq_str']
          rw [decide_eq_true q1, Bool.true_and] at hK'
          exact hK'
      · rw [decide_eq_false q1, Bool.false_and] at hK'
        exact hK'
    · intro v hv _ K' hK'
      exact Ev.name (x := "part") rfl hK'
    have ep : (((List.range (w.length - 1)).map fun i => PV.int ((1 + i : Nat) : Int)).filter fun v => match v with | .int p => decide (w.length % p.toNat = 0) && decide ((List.replicate (w.length / p.toNat) (w.take p.toNat)).flatten = w) | _ => false).map id = nums (partsOf w) := by
      rw [List.map_id]
      unfold partsOf nums
      rw [List.filter_map, List.filter_map, List.map_map, List.map_map]
      congr 1
    rw [ep]
    have hpw : powOf w = decide (partsOf w ≠ []) := rfl
    refine Ex.cons (Ex1.if (Tr.or3 (Tr.cmp (Ev.name (x := "told") rfl (Ev.cmp (Ev.name (x := "parts") rfl (Ev.list (es := []) ⟨by simp [sizeLine], Op2.ne (by rw [pl]; exact plL_nums) (by simp [pl, plL]) ?_⟩ rfl)) rfl)) rfl)))
    rw [show (PV.list []) = PV.list (nums []) from rfl, peq_nums]
    refine Op2.isNot rfl rfl (OpB.bool ?_)
    have e0 : (!pis (.bool (powOf w)) (.bool (!decide (partsOf w = [])))) = false := by
      have : powOf w = !decide (partsOf w = []) := by rw [hpw]; simp
      rw [this]; simp [pis]
    rw [e0]
    show Tr C (k + 3) _ _ _ _ _
    refine Tr.cmp (Ev.name (x := "lacking") rfl (Ev.bool (Op2.isNot rfl rfl (OpB.bool ?_)))) rfl
    show Tr C (k + 3) _ _ _ _ _
    refine Tr.cmp (Ev.meth T.E (x := "record") (m := "applies_to") T.E.appl no_appl rfl at2 rfl (Ev.none fun f F => Fn.call F (by decide +kernel) rfl (w_appl0 T.E at2 rfl at1 (fun x hx => (hus x hx).1) ?_)) rfl rfl fun _ => rfl) rfl
    have e1 : decide ([42] ∈ [[117], cap, [42], [118]]) = true := by simp
    rw [e1]
    refine Ev.bool (Op2.isNot rfl rfl (OpB.bool ?_))
    show Ex C (k + 3) _ _ _ [] _
    refine Ex.nil ?_
    refine Ex.cons (Ex1.assign (x := "word") (Ev.binop (Ev.ifexp (Tr.value (Ev.name (x := "told") rfl (OpB.bool ?_)) fun _ _ => rfl))) (.inl rfl) fun _ => rfl)
    have e := hstep n
    rw [if_neg (by lia), hw0] at e
    have hsub' : σ.Sublist ((r, AO.mlist []) :: (uu, AO.mlist ([[117], cap, [42], [118]].map PV.str)) :: (a, AO.inst d (fsNew uu r)) :: σ') := .cons _ (.cons _ (.cons _ hsub))
    refine ite_bool (fun q => ?_) fun q => ?_
    · rw [if_pos q] at e
      refine Ev.binop (Ev.sub (Ev.name (x := "whole") rfl (Ev.slice (Ev.unary (Ev.int (Op1.neg ⟨_, _, _, .none, .int _, .none, Op2.slice_s (by decide) ?z6 ?_⟩))))))
      case z6 => rw [slcS_eq, slcL_init _ (by lia)]; simp [sizeLine]; lia
      rw [slcS_eq, slcL_init _ (by lia)]
      refine Ev.str (l := [115]) rfl (Op2.adds (by simp [sizeLine]; lia) (Ev.name (x := "word") rfl (Op2.adds (by simp [sizeLine]; lia) ?_)))
      rw [← e]
      exact Ex.nil (Ex.nil (Ex.nil (next ⟨rfl, rfl, trivial⟩ hsub')))
    · rw [if_neg (by simp [q])] at e
      refine Ev.name (x := "whole") rfl (Ev.name (x := "word") rfl (Op2.adds (by simp [sizeLine]; lia) ?_))
      rw [← e]
      exact Ex.nil (Ex.nil (Ex.nil (next ⟨rfl, rfl, trivial⟩ hsub')))
  · rintro ρ' σ' ⟨todo, u, he, hp, hn, hu, hf, hh, hsub⟩
    have : todo = [] := by cases todo with | nil => rfl | cons c r => cases he
    subst this
    refine Ex.has hh (Ex.cons (Ex1.ret (Ev.name (x := "word") rfl ⟨σ, hsub, ?_⟩)))
    rw [← hf] at h; exact h
end
end Mine
end W35

section W36
open PySem PySem.W PyProof.Rows
set_option Elab.async false
set_option linter.unusedVariables false
set_option maxRecDepth 100000
namespace Mine
/-- the sizes of the borders of w, w itself among them -/
noncomputable def bsizes (w : List Nat) : List Nat := ((List.range w.length).map fun i => 1 + i).filter fun s => decide (w.take s = w.drop (w.length - s))
noncomputable def dueOf (w : List Nat) : List (List Nat) := (bsizes w).map fun s => w.take s
/-- the cells as naturals -/
noncomputable def cellsN (s : List Int) : List Nat := (cellsOf [2, 7, 635, 1, 16, 58240, 5] 7 (s.take 60)).map Int.toNat
theorem cellsN_ok (s : List Int) : (cellsOf [2, 7, 635, 1, 16, 58240, 5] 7 (s.take 60)).map PV.int = nums (cellsN s) := by
  unfold nums cellsN
  rw [List.map_map, List.map_map]
  refine List.map_congr_left fun c hc => ?_
  have := cellsOf_bound (init := [2, 7, 635, 1, 16, 58240, 5]) (m := 7) (s := s.take 60) (by decide) c hc
  show PV.int c = PV.int ((c.toNat : Nat) : Int)
  rw [Int.toNat_of_nonneg this]
theorem cellsN_len (s : List Int) : (cellsN s).length = 7 := by unfold cellsN; rw [List.length_map, cellsOf_length]; rfl
/-- the word of a script -/
noncomputable def wordOf (s : List Int) : List Nat := ((laidOf (cellsN s)).map signT).flatten
theorem signT_len (c : Nat) : (signT c).length ≤ 3 := by
  unfold signT
  split
  · simp
  · split
    · have : ∀ l ∈ texts3, l.length ≤ 3 := by decide
      rw [List.getD_eq_getElem?_getD]
      cases e : texts3[c / 8 % 12]? with
      | none => simp
      | some v => simpa using this v (List.mem_of_getElem? e)
    · simp
theorem signT_low (c : Nat) : ∀ x ∈ signT c, 46 ≤ x ∧ x < 128 := by
  unfold signT
  split
  · intro x hx; have := List.mem_singleton.mp hx; have := Nat.mod_lt (c / 8) (show 26 > 0 by decide); lia
  · split
    · have : ∀ l ∈ texts3, ∀ x ∈ l, 46 ≤ x ∧ x < 128 := by decide
      rw [List.getD_eq_getElem?_getD]
      cases e : texts3[c / 8 % 12]? with
      | none => intro x hx; simp at hx
      | some v => intro x hx; exact this v (List.mem_of_getElem? e) x (by simpa using hx)
    · intro x hx; cases hx
theorem laid_len {cells : List Nat} (h : cells.length = 7) : (laidOf cells).length ≤ 39 := by
  have key : ∀ (todo cs : List Nat), (todo.foldl laidStep cs).length + 1 ≤ (cs.length + 1) * 2 ^ todo.length := by
    intro todo
    induction todo with
    | nil => intro cs; simp
    | cons c todo ih =>
      intro cs
      rw [List.foldl_cons, List.length_cons, Nat.pow_succ]
      have h1 := ih (laidStep cs c)
      have h2 := Nat.mul_le_mul_right (2 ^ todo.length) (laidStep_len cs c)
      have : 2 * (cs.length + 1) * 2 ^ todo.length = (cs.length + 1) * (2 ^ todo.length * 2) := by rw [Nat.mul_comm 2, Nat.mul_assoc, Nat.mul_comm 2]
      lia
  have := key (cells.drop 4) (cells.take 4)
  rw [List.length_drop, List.length_take, h] at this
  unfold laidOf
  have e : (min 4 7 + 1) * 2 ^ (7 - 4) = 40 := by decide
  lia
theorem flat_len : ∀ l : List Nat, ((l.map signT).flatten).length ≤ 3 * l.length
  | [] => by simp
  | c :: r => by rw [List.map_cons, List.flatten_cons, List.length_append, List.length_cons]; have := signT_len c; have := flat_len r; lia
theorem wordOf_len (s : List Int) : (wordOf s).length ≤ 117 := by
  have h1 := flat_len (laidOf (cellsN s))
  have h2 := laid_len (cellsN_len s)
  unfold wordOf; lia
theorem wordOf_low (s : List Int) : ∀ c ∈ wordOf s, c < 128 := fun c hc => by
  obtain ⟨l, hl, hcl⟩ := List.mem_flatten.mp hc
  obtain ⟨e, _, rfl⟩ := List.mem_map.mp hl
  exact (signT_low e c hcl).2
theorem bsizes_mem {w : List Nat} {s : Nat} (h : s ∈ bsizes w) : 1 ≤ s ∧ s ≤ w.length ∧ w.take s = w.drop (w.length - s) := by
  unfold bsizes at h
  obtain ⟨h1, h2⟩ := List.mem_filter.mp h
  obtain ⟨i, hi, rfl⟩ := List.mem_map.mp h1
  have := List.mem_range.mp hi
  exact ⟨by lia, by lia, of_decide_eq_true h2⟩
theorem bsizes_sorted (w : List Nat) : (bsizes w).Pairwise (· < ·) := by
  unfold bsizes
  refine List.Pairwise.filter _ ?_
  rw [List.pairwise_map]
  exact List.pairwise_lt_range.imp fun h => by lia
theorem dueOf_len (w : List Nat) : (dueOf w).map List.length = bsizes w := by
  unfold dueOf
  rw [List.map_map]
  conv => rhs; rw [← List.map_id (bsizes w)]
  refine List.map_congr_left fun s hs => ?_
  obtain ⟨_, h, _⟩ := bsizes_mem hs
  simp [h]
theorem two_fold {sizes : List Nat} : ∀ {u : List Nat}, sizes.Pairwise (· < ·) → (∀ n ∈ sizes, u.length < n) → (∀ c ∈ u, c = 115 ∨ c = 116) → (∀ c ∈ sizes.foldl twoStep u, c = 115 ∨ c = 116) ∧ (sizes.foldl twoStep u).length ≤ (sizes.getLast?.getD u.length) := by
  induction sizes with
  | nil => intro u _ _ h; exact ⟨h, by simp⟩
  | cons n r ih =>
    intro u hp hn hu
    have hl := step_len (u := u) (n := n) (by have := hn n List.mem_cons_self; lia) (hn n List.mem_cons_self)
    obtain ⟨a, b⟩ := ih (u := twoStep u n) (List.pairwise_cons.mp hp).2 (fun m hm => by rw [hl]; exact (List.pairwise_cons.mp hp).1 m hm) (step_st hu)
    refine ⟨a, ?_⟩
    rw [List.foldl_cons]
    rw [hl] at b
    cases r with
    | nil => simpa using b
    | cons m r =>
      rw [List.getLast?_cons_cons]
      cases e : (m :: r).getLast? with
      | none => simp at e
      | some x => rw [e] at b; exact b
theorem two_ok (w : List Nat) : (∀ c ∈ twoOf (bsizes w), c = 115 ∨ c = 116) ∧ (twoOf (bsizes w)).length ≤ w.length := by
  obtain ⟨a, b⟩ := two_fold (u := []) (bsizes_sorted w) (fun n hn => (bsizes_mem hn).1) (fun c hc => absurd hc List.not_mem_nil)
  refine ⟨a, Nat.le_trans b ?_⟩
  cases e : (bsizes w).getLast? with
  | none => simp
  | some m => simpa using (bsizes_mem (List.mem_of_getLast? e)).2.1
section
variable {C : Cx} {N : Addr} {mN : Str → Option Value} {S : Int → Bool} {D : List (PyData × PyData)} (T : Top3 C N mN S D) {k : Nat} {σ : Sto}
include T
theorem op_cells {s : List Int} {K : PV → Sto → Prop} (hs : s.length ≤ 1000) (h : K (.list (nums (cellsN s))) σ) : ∀ f, FnAt C f ["script"] (fScope (stAt 10)) (fBody (stAt 10)) → OpL C (k + 1) σ [.list (s.map .int)] (fun vs => PySem.call (.ref f) vs) K := fun f F =>
  OpL.freeze (Fn.call F (by decide +kernel) rfl (Ex.mono (w_cells T.len T.range hs (by rw [cellsN_ok]; exact h)) fun g ρ' σ' q => by
    cases g with
    | ret d => exact q
    | next => exact q.elim
    | brk => exact q.elim
    | cont => exact q.elim))
theorem op_laid {cells : List Nat} {K : PV → Sto → Prop} (h7 : cells.length = 7) (h : K (.list ((laidOf cells).map sgn)) σ) : ∀ f, FnAt C f ["cells"] (fScope (stAt 12)) (fBody (stAt 12)) → OpL C (k + 2) σ [.list (nums cells)] (fun vs => PySem.call (.ref f) vs) K := fun f F =>
  Fn.call F (by decide +kernel) rfl (w_laid T h7 h)
theorem op_borders {w : List Nat} {b : Bool} {K : PV → Sto → Prop} (hw : w.length ≤ 200) (hc : ∀ c ∈ w, c < 128) (h : K (.list ((bordOf w b).map .str)) σ) : ∀ f, FnAt C f ["word", "turned"] (fScope (stAt 13)) (fBody (stAt 13)) → OpL C (k + 4) σ [.str w, .bool b] (fun vs => PySem.call (.ref f) vs) K := fun f F =>
  OpL.drop (Fn.call F (by decide +kernel) rfl (Ex.mono (w_borders T hw hc h) fun g ρ' σ' q => by
    cases g with
    | ret d => exact q
    | next => exact q.elim
    | brk => exact q.elim
    | cont => exact q.elim))
theorem op_two (hT : ToldOk) {fa : Addr} {sizes : List Nat} {K : PV → Sto → Prop} (hs : sizes.Pairwise (· < ·)) (hb : ∀ n ∈ sizes, 1 ≤ n ∧ n ≤ 300) (h : K (.str (twoOf sizes)) σ) : ∀ f, FnAt C f ["sizes", "faults"] (fScope (stAt 14)) (fBody (stAt 14)) → OpL C (k + 4) σ [.list (nums sizes), .raw (.ref fa)] (fun vs => PySem.call (.ref f) vs) K := fun f F =>
  OpL.drop (Fn.call F (by decide +kernel) rfl (Ex.mono (w_two T hT hs hb h) fun g ρ' σ' q => by
    cases g with
    | ret d => exact q
    | next => exact q.elim
    | brk => exact q.elim
    | cont => exact q.elim))
end
end Mine
end W36

section W37
open PySem PySem.W PyProof.Rows
set_option Elab.async false
set_option linter.unusedVariables false
set_option maxRecDepth 100000
namespace Mine
/-- the plain law of 03 -/
structure Plain3 (S : Int → Bool) (D : List (PyData × PyData)) : Prop where
  told : ToldOk
  b1 : ∀ c, S (signC c : Nat) = decide (signT c = [])
  b3 : ∀ c, signT c ≠ [] → b3of D (signC c) = signT c
  b3k : ∀ c, signT c ≠ [] → b3ok D (signC c) = true
  front : ∀ s, bordOf (wordOf s) false = dueOf (wordOf s)
  back : ∀ s, bordOf (wordOf s) true = (dueOf (wordOf s)).reverse.flatMap fun b => [b, b]
  two : ∀ s, (bordOf (twoOf (bsizes (wordOf s))) false).map List.length = bsizes (wordOf s)
theorem bord_low {w : List Nat} (h : ∀ c ∈ w, c < 128) (b : Bool) : ∀ x ∈ bordOf w b, ∀ c ∈ x, c < 0x110000 := fun x hx c hc => by
  have h1 : x ∈ startsOf w ∨ x ∈ tailsOf w := by
    unfold bordOf at hx
    split at hx
    · exact .inr (List.mem_filter.mp hx).1
    · exact .inl (List.mem_filter.mp hx).1
  rcases h1 with h1 | h1
  · unfold startsOf at h1
    rcases List.mem_cons.mp h1 with rfl | h1
    · rw [upper_ok h] at hc
      obtain ⟨e, he, rfl⟩ := List.mem_map.mp hc
      have := h e he
      unfold up1; split <;> omega
    · obtain ⟨i, _, rfl⟩ := List.mem_map.mp h1
      have := h c (List.mem_of_mem_take hc); omega
  · unfold tailsOf at h1
    obtain ⟨i, _, h1⟩ := List.mem_flatMap.mp h1
    have : x = w.drop i := by simpa using h1
    subst this
    have := h c (List.mem_of_mem_drop hc); omega
section
variable {C : Cx} {N : Addr} {mN : Str → Option Value} {S : Int → Bool} {D : List (PyData × PyData)} (T : Top3 C N mN S D) {k : Nat} {σ : Sto}
include T
theorem w_law (L : Plain3 S D) {s : List Int} {K : PV → Sto → Prop} (hs : s.length ≤ 63) (h : ∀ σ', K (.bool true) σ') :
    Ex C (k + 5) (fScope (stAt 15)) [("script", .list (s.map .int))] σ (fBody (stAt 15)) (fun g _ σ' => match g with | .ret d => K d σ' | .next => K .none σ' | _ => False) := by
  refine Ex.cons (Ex1.assign (x := "signs") (Ev.callF T.laid rfl (Ev.callF T.cells rfl (Ev.name (x := "script") rfl ⟨rfl, op_cells T (by omega) ?_⟩) rfl) rfl) (.inl rfl) fun _ => rfl)
  refine ⟨rfl, op_laid T (cellsN_len s) ?_⟩
  have hlen := laid_len (cellsN_len s)
  have hwl := wordOf_len s
  have hwc := wordOf_low s
  have hword : ((laidOf (cellsN s)).map signT).flatten = wordOf s := rfl
  have L1 := L.front s
  have L2 := L.back s
  have L3 := L.two s
  obtain ⟨t1, t2⟩ := two_ok (wordOf s)
  generalize laidOf (cellsN s) = cs at *
  generalize wordOf s = w at *
  refine Ex.cons (Ex1.for (J := fun rest ρ σ' => ∃ todo : List Nat, rest = todo.map sgn ∧ Has ρ [("signs", .list (cs.map sgn))] ∧ σ' = σ) ?_ ?_ ?_ fun _ _ => rfl)
  · exact Ev.name (x := "signs") rfl ⟨_, Iterable.list, cs, rfl, ⟨rfl, trivial⟩, rfl⟩
  · rintro x r ρ' σ' ⟨todo, he, hh, rfl⟩
    cases todo with
    | nil => cases he
    | cons c todo =>
    obtain ⟨rfl, rfl⟩ : x = sgn c ∧ r = todo.map sgn := by simpa using he
    refine Bind.pairF (t₁ := "sign") (t₂ := "letters") (.inl rfl) (.inl rfl) ?_
    refine Ex.has (ρ' := [("letters", .str (signT c)), ("sign", .str [signC c]), ("signs", .list (cs.map sgn))]) ⟨rfl, rfl, hh.1, trivial⟩ ?_
    refine Ex.cons (Ex1.if (Tr.cmp (Ev.callF T.B.b1 rfl (Ev.name (x := "sign") rfl ⟨rfl, op_b1 T.B ?_⟩) rfl) rfl))
    refine Ev.cmp (Ev.name (x := "letters") rfl (Ev.str (l := []) rfl (Op2.eq (pl_str' fun e he => by have := (signT_low c e he).2; omega) (pl_str' (by simp)) ?_))) rfl
    rw [peq_str', L.b1 c]
    refine Op2.isNot rfl rfl (OpB.bool ?_)
    rw [show (!pis (.bool (decide (signT c = []))) (.bool (decide (signT c = [])))) = false by simp [pis]]
    show Ex C (k + 5) _ _ _ [] _
    exact Ex.nil (Ex.nil ⟨todo, rfl, ⟨rfl, trivial⟩, rfl⟩)
  rintro ρ' σ' ⟨todo, he, hh, rfl⟩
  refine Ex.has hh ?_
  have hpair : ∀ x ∈ cs.map sgn, ∃ c, x = sgn c := fun x hx => let ⟨c, _, e⟩ := List.mem_map.mp hx; ⟨c, e.symm⟩
  have hcs1 : (cs.map sgn).length ≤ sizeLine := by rw [List.length_map]; simp [sizeLine]; omega
  let bs : PV → Lo := fun v => match v with | .tuple [a, b] => [("letters", b), ("sign", a)] | _ => []
  have hbind : ∀ {sc' : Scope} {p₁ p₂ p₃ x1}, sc'.names.lookup (Str.ofString "sign") = some .local → sc'.names.lookup (Str.ofString "letters") = some .local → ∀ x ∈ cs.map sgn, ∀ ρ (K' : Lo → Sto → Prop), K' (bs x ++ ρ) σ' → Bind C (k + 5) sc' ρ σ' (.Tuple [.Name (Str.ofString "sign") p₁, .Name (Str.ofString "letters") p₂] x1 p₃) x ownL K' := fun h1 h2 x hx ρ K' hK => by
    obtain ⟨c, rfl⟩ := hpair x hx
    exact Bind.pair h1 h2 hK
  refine Ex.cons (Ex1.assign (x := "word") (Ev.join (Ev.listComp [] trivial (by decide +kernel) rfl (fun g hg => by cases List.mem_singleton.mp hg; exact ⟨rfl, fun _ _ => rfl⟩) ?_) rfl rfl fun _ => rfl) (.inr rfl) fun _ => rfl)
  refine Ev.name (x := "signs") rfl ⟨_, Iterable.list, ?_⟩
  refine Comp.pure bs (fun v => match v with | .tuple [_, .str l] => !decide (l = []) | _ => false) (fun v => match v with | .tuple [_, b] => b | _ => .none) (hbind rfl rfl) (fun x hx y d hy => by cases hy) ?_ ?_ hcs1 ?_
  · intro v hv K' hK'
    obtain ⟨c, rfl⟩ := hpair v hv
    refine TrAll.one (Tr.not (Tr.value (Ev.callF T.B.b1 rfl (Ev.name (x := "sign") rfl ⟨rfl, op_b1 T.B (OpB.bool ?_)⟩) rfl) fun _ _ => rfl))
    rw [L.b1 c]; exact hK'
  · intro v hv hk K' hK'
    obtain ⟨c, rfl⟩ := hpair v hv
    have hne : signT c ≠ [] := by simpa [sgn] using hk
    refine Ev.callF T.B.b3 rfl (Ev.name (x := "sign") rfl ⟨rfl, op_b3 T.B (L.b3k c hne) ?_⟩) rfl
    rw [L.b3 c hne]; exact hK'
  have e1 : (((cs.map sgn).filter fun v => match v with | .tuple [_, .str l] => !decide (l = []) | _ => false).map fun v => match v with | .tuple [_, b] => b | _ => .none) = ((cs.filter fun c => !decide (signT c = [])).map signT).map PV.str := by
    rw [List.filter_map, List.map_map, List.map_map]; rfl
  rw [e1]
  have hfl : ((cs.filter fun c => !decide (signT c = [])).map signT).flatten = w := by
    rw [← hword]
    clear hword e1 hbind hpair hcs1 hh he hlen
    induction cs with
    | nil => rfl
    | cons c r ih =>
      rw [List.filter_cons]
      by_cases hc : signT c = []
      · simp only [hc, decide_true, Bool.not_true, Bool.false_eq_true, if_false, List.map_cons, List.flatten_cons, List.nil_append]; exact ih
      · simp only [hc, decide_false, Bool.not_false, if_true, List.map_cons, List.flatten_cons]; rw [ih]
  refine ⟨_, .list, ?_, ?_⟩
  · rw [← List.length_flatten, hfl]; omega
  rw [hfl]
  have plw : ∀ n, pl n (.str w) = true := fun n => pl_str' fun c hc => by have := hwc c hc; omega
  refine Ex.cons (Ex1.if (Tr.cmp (Ev.name (x := "word") rfl (Ev.join (Ev.listComp [] trivial (by decide +kernel) rfl (fun g hg => by cases List.mem_singleton.mp hg; exact ⟨rfl, fun _ _ => rfl⟩) ?_) rfl rfl fun _ => rfl)) rfl))
  refine Ev.name (x := "signs") rfl ⟨_, Iterable.list, ?_⟩
  refine Comp.pure bs (fun _ => true) (fun v => match v with | .tuple [_, b] => b | _ => .none) (hbind rfl rfl) (fun x hx y d hy => by cases hy) (fun v hv K' hK' => hK') ?_ hcs1 ?_
  · intro v hv _ K' hK'
    obtain ⟨c, rfl⟩ := hpair v hv
    exact Ev.name (x := "letters") rfl hK'
  have e2 : (((cs.map sgn).filter fun _ => true).map fun v => match v with | .tuple [_, b] => b | _ => .none) = (cs.map signT).map PV.str := by
    rw [List.filter_eq_self.mpr (fun _ _ => rfl), List.map_map, List.map_map]; rfl
  rw [e2]
  refine ⟨_, .list, ?_, ?_⟩
  · rw [← List.length_flatten, hword]; omega
  rw [hword]
  refine Op2.ne (plw 60) (plw 60) (OpB.bool ?_)
  rw [peq_str']
  simp only [decide_true, Bool.not_true]
  show Ex C (k + 5) _ _ _ [] _
  refine Ex.nil ?_
  refine Ex.cons (Ex1.assignComp (x := "due") [("word", .str w)] ⟨⟨rfl, rfl⟩, trivial⟩ (by decide +kernel) rfl (fun g hg => by cases List.mem_singleton.mp hg; exact ⟨rfl, fun _ _ => rfl⟩) ?_ rfl (fun env he => by cases env; dsimp only at he; subst he; rfl))
  refine Ev.call2t T.range rfl (Ev.int (Ev.binop (Ev.call1 T.len rfl (Ev.name (x := "word") rfl (OpL.len_s (by omega) (Ev.int (Op2.addN (b := 1) (OpL.range2 ⟨(List.range w.length).map fun i => PV.int ((1 + i : Nat) : Int), ?it, ?_⟩))))) rfl))) rfl
  case it => rw [Nat.add_comm w.length 1]; exact Iterable.rangeN (a := 1) (n := w.length) (by omega) (by omega)
  refine Comp.pure1 (t := "size") (fun v => match v with | .int i => decide (w.take i.toNat = w.drop (w.length - i.toNat)) | _ => false) (fun v => match v with | .int i => .str (w.take i.toNat) | _ => .none) rfl rfl ?_ ?_ (by simp [sizeLine]; omega) ?_
  · intro v hv K' hK'
    obtain ⟨i, hi, rfl⟩ := List.mem_map.mp hv
    have hil := List.mem_range.mp hi
    simp only [Int.toNat_natCast] at hK'
    refine TrAll.one (Tr.cmp (Ev.sub (Ev.name (x := "word") rfl (Ev.slice (Ev.name (x := "size") rfl ⟨_, _, _, .none, .int _, .none, Op2.slice_s (by decide) ?z1 ?_⟩)))) rfl)
    case z1 => rw [slcS_eq, slcL_to]; simp [sizeLine]; omega
    rw [slcS_eq, slcL_to]
    refine Ev.sub (Ev.name (x := "word") rfl (Ev.slice (Ev.binop (Ev.call1 T.len rfl (Ev.name (x := "word") rfl (OpL.len_s (by omega) (Ev.name (x := "size") rfl (Op2.sub ?_)))) rfl))))
    rw [show ((w.length : Nat) : Int) - ((1 + i : Nat) : Int) = ((w.length - (1 + i) : Nat) : Int) by omega]
    refine ⟨_, _, _, .int _, .none, .none, Op2.slice_s (by decide) ?z2 ?_⟩
    case z2 => rw [slcS_eq, slcL_from]; simp [sizeLine]; omega
    rw [slcS_eq, slcL_from]
    refine Op2.eq (pl_str' fun c hc => by have := hwc c (List.mem_of_mem_take hc); omega) (pl_str' fun c hc => by have := hwc c (List.mem_of_mem_drop hc); omega) (OpB.bool ?_)
    rw [peq_str']; exact hK'
  · intro v hv _ K' hK'
    obtain ⟨i, hi, rfl⟩ := List.mem_map.mp hv
    refine Ev.sub (Ev.name (x := "word") rfl (Ev.slice (Ev.name (x := "size") rfl ⟨_, _, _, .none, .int _, .none, Op2.slice_s (by decide) ?z3 ?_⟩)))
    case z3 => rw [slcS_eq, slcL_to]; simp [sizeLine]; omega
    rw [slcS_eq, slcL_to]; exact hK'
  have e3 : ((((List.range w.length).map fun i => PV.int ((1 + i : Nat) : Int)).filter fun v => match v with | .int i => decide (w.take i.toNat = w.drop (w.length - i.toNat)) | _ => false).map fun v => match v with | .int i => PV.str (w.take i.toNat) | _ => .none) = (dueOf w).map PV.str := by
    unfold dueOf bsizes
    rw [List.filter_map, List.map_map, List.filter_map, List.map_map, List.map_map]
    rfl
  rw [e3]
  have hdl : (dueOf w).length ≤ w.length := by
    unfold dueOf bsizes
    rw [List.length_map]
    refine Nat.le_trans (List.length_filter_le _ _) (by simp)
  have plD : ∀ b, pl 60 (.list ((bordOf w b).map .str)) = true := fun b => by rw [pl]; exact plL_strs (bord_low hwc b)
  refine Ex.cons (Ex1.if (Tr.or2 (Tr.cmp (Ev.callF T.borders rfl (Ev.name (x := "word") rfl (Ev.bool ⟨rfl, op_borders T (by omega) hwc ?_⟩)) rfl) rfl)))
  refine Ev.name (x := "due") rfl (Op2.ne (plD false) (L1 ▸ plD false) (OpB.bool ?_))
  rw [L1, peq_strs]
  simp only [decide_true, Bool.not_true]
  show Tr C (k + 5) _ _ _ _ _
  refine Tr.cmp (Ev.callF T.borders rfl (Ev.name (x := "word") rfl (Ev.bool ⟨rfl, op_borders T (by omega) hwc ?_⟩)) rfl) rfl
  refine Ev.listComp [] trivial (by decide +kernel) rfl (fun g hg => by
    rcases List.mem_cons.mp hg with rfl | hg
    · exact ⟨rfl, fun _ _ => rfl⟩
    · cases List.mem_singleton.mp hg; exact ⟨rfl, fun _ _ => rfl⟩) ?_
  refine Ev.sub (Ev.name (x := "due") rfl (Ev.slice (Ev.unary (Ev.int (Op1.neg ⟨_, _, _, .none, .none, .int _, Op2.slice .list (by decide) (by simp [sizeLine]; omega) ⟨_, Iterable.list, ?_⟩⟩)))))
  rw [slcL_rev]
  have e4 : (((dueOf w).map PV.str).reverse.flatMap fun v => [PV.int 0, PV.int 1].map ((fun x _ => x) v)) = ((dueOf w).reverse.flatMap fun b => [b, b]).map PV.str := by
    rw [← List.map_reverse, List.flatMap_map, List.map_flatMap]; rfl
  have hl4 : ((dueOf w).reverse.flatMap fun b => [b, b]).length ≤ 2 * w.length := by
    rw [List.length_flatMap]
    have : ∀ l : List (List Nat), (l.map fun _ => 2).sum = 2 * l.length := fun l => by induction l with | nil => rfl | cons a r ih => rw [List.map_cons, List.sum_cons, ih, List.length_cons]; omega
    show ((dueOf w).reverse.map fun _ => 2).sum ≤ _
    rw [this, List.length_reverse]; omega
  refine Comp.pure2 (t₁ := "border") (t₂ := "again") (fun _ => [.int 0, .int 1]) (fun x _ => x) rfl rfl rfl rfl (by decide) ?_ ?_ ?_ ?_
  · intro v hv K' hK'
    exact Ev.tuple2 (Ev.int (Ev.int (hK' _ Iterable.tuple))) rfl
  · intro v hv y hy K' hK'
    exact Ev.name (x := "border") rfl hK'
  · rw [e4, List.length_map]; have : (16777216 : Nat) ≤ sizeLine := by decide
    omega
  rw [e4]
  refine Op2.ne (plD true) (L2 ▸ plD true) (OpB.bool ?_)
  rw [L2, peq_strs]
  simp only [decide_true, Bool.not_true]
  show Ex C (k + 5) _ _ _ [] _
  refine Ex.nil ?_
  refine Ex.cons (Ex1.assign (x := "faults") (Ev.mlist (es := []) ⟨by simp [sizeLine], fun fa hfa => ?_⟩ rfl) (.inl rfl) fun _ => rfl)
  have lens : ∀ {sc' : Scope} {ρ : Lo} {σ₁ : Sto} {l : List (List Nat)} {p₁ p₂ p₃ p₄ it scope} {K' : List PV → Sto → Prop}, (rel scope sc').names.lookup (Str.ofString "border") = some .local → (rel scope sc').names.lookup (Str.ofString "len") = some NameKind.globalImplicit → l.length ≤ 1000 → (∀ x ∈ l, x.length ≤ 1000) → K' (nums (l.map List.length)) σ₁ →
      Comp C (k + 5) sc' [] (.Call (.Name (Str.ofString "len") p₁) [.Name (Str.ofString "border") p₂] [] p₃) ⟨.Name (Str.ofString "border") p₄, it, [], 0⟩ [] scope (l.map .str) σ₁ K' := by
    intro sc' ρ σ₁ l p₁ p₂ p₃ p₄ it scope K' h1 h2 hl hx hK
    refine Comp.pure1 (t := "border") (fun _ => true) (fun v => match v with | .str x => .int (x.length : Nat) | _ => .none) h1 rfl (fun v hv K' hK' => hK') ?_ (by rw [List.length_map]; simp [sizeLine]; omega) ?_
    · intro v hv _ K' hK'
      obtain ⟨x, hx', rfl⟩ := List.mem_map.mp hv
      have := hx x hx'
      exact Ev.call1 T.len h2 (Ev.name (x := "border") rfl (OpL.len_s (by omega) hK')) rfl
    · rw [List.filter_eq_self.mpr (fun _ _ => rfl), List.map_map]
      unfold nums at hK
      rw [List.map_map, List.map_map] at hK
      exact hK
  have hdx : ∀ x ∈ dueOf w, x.length ≤ 1000 := fun x hx => by
    obtain ⟨s, hs', rfl⟩ := List.mem_map.mp hx
    rw [List.length_take]; omega
  refine Ex.cons (Ex1.assign (x := "two") (Ev.callF T.two rfl (Ev.listComp [] trivial (by decide +kernel) rfl (fun g hg => by cases List.mem_singleton.mp hg; exact ⟨rfl, fun _ _ => rfl⟩) ?_) rfl) (.inl rfl) fun _ => rfl)
  refine Ev.name (x := "due") rfl ⟨_, Iterable.list, lens (ρ := []) rfl rfl (by omega) hdx ?_⟩
  rw [dueOf_len]
  refine Ev.name (x := "faults") rfl ⟨rfl, op_two T L.told (bsizes_sorted w) (fun n hn => ⟨(bsizes_mem hn).1, by have := (bsizes_mem hn).2.1; omega⟩) ?_⟩
  generalize twoOf (bsizes w) = tw at *
  refine Ex.cons (Ex1.if (Tr.cmp (Ev.name (x := "faults") rfl (Ev.list (es := []) ⟨by simp [sizeLine], Op2.ne_r (.mut at0 .nil) (.refl _) (by simp [pl, plL]) (by simp [pl, plL]) (OpB.bool ?_)⟩ rfl)) rfl))
  rw [peq_nil]
  show Ex C (k + 5) _ _ _ [] _
  refine Ex.nil ?_
  have htc : ∀ c ∈ tw, c < 128 := fun c hc => by rcases t1 c hc with rfl | rfl <;> decide
  have hbl : (bordOf tw false).length ≤ 1000 := by
    have : ((bordOf tw false).map List.length).length = (bsizes w).length := by rw [L3]
    rw [List.length_map] at this
    have h2 : (dueOf w).length = (bsizes w).length := by unfold dueOf; rw [List.length_map]
    omega
  have hbx : ∀ x ∈ bordOf tw false, x.length ≤ 1000 := fun x hx => by
    have : x.length ∈ (bordOf tw false).map List.length := List.mem_map_of_mem hx
    rw [L3] at this
    have := (bsizes_mem this).2.1
    omega
  refine Ex.cons (Ex1.ret (Ev.cmp (Ev.listComp [] trivial (by decide +kernel) rfl (fun g hg => by cases List.mem_singleton.mp hg; exact ⟨rfl, fun _ _ => rfl⟩) ?_) rfl))
  refine Ev.callF T.borders rfl (Ev.name (x := "two") rfl (Ev.bool ⟨rfl, op_borders T (by omega) htc ?_⟩)) rfl
  refine ⟨_, Iterable.list, lens (ρ := []) rfl rfl hbl hbx ?_⟩
  rw [L3]
  refine Ev.listComp [] trivial (by decide +kernel) rfl (fun g hg => by cases List.mem_singleton.mp hg; exact ⟨rfl, fun _ _ => rfl⟩) ?_
  refine Ev.name (x := "due") rfl ⟨_, Iterable.list, lens (ρ := []) rfl rfl (by omega) hdx ?_⟩
  rw [dueOf_len]
  refine Op2.eq (by rw [pl]; exact plL_nums) (by rw [pl]; exact plL_nums) ?_
  rw [peq_nums, decide_eq_true rfl]
  exact h _
end
end Mine
end W37

section J30
open PySem PySem.W PyProof.Rows
set_option Elab.async false
set_option linter.unusedVariables false
set_option maxRecDepth 1000000
namespace Mine
noncomputable section
noncomputable def YP (w : World) (h : Heap) : Prop := ∀ p ∈ KF w.params, h.get? p.1 = some p.2
theorem yp_of (w : World) (s : Shared) (e : kYf s = kYa w) : YP w s.heap := by
  have e' : (KF w.params).map (fun p => s.heap.get? p.1) = (KF w.params).map fun p => some p.2 := by
    have : kYf s = (KF w.params).map (fun p => s.heap.get? p.1) := by
      show kAs.map s.heap.get? = _
      rw [kf_addrs w.params, List.map_map]; rfl
    rw [← this]; exact e
  exact fun p hp => List.map_inj_left.mp e' p hp
theorem yp_keep (w : World) (h h' : Heap) (y : YP w h) (k : ∀ b o, h.get? b = some o → h'.get? b = some o) : YP w h' := fun p hp => k _ _ (y p hp)
noncomputable def dictEs (o : Obj) : Array DictEntry := match o.data with | .dict es _ => es | _ => #[]
noncomputable def nsOf (o : Obj) : Str → Option Value := fun x => nsFind (dictEs o) x
noncomputable def isD (o : Obj) : Bool := match o.data with | .dict es _ => es.all (fun e => match e.key with | .str _ _ => true | _ => false) | _ => false
theorem ns_of {h : Heap} {a : Addr} {o : Obj} (e : h.get? a = some o) (d : isD o = true) : h.Ns a (nsOf o) := by
  have h1 : h.isNs a = true := by unfold Heap.isNs; rw [e]; exact d
  have h2 := Heap.Ns.of_isNs h1
  have h3 : h.nsMap a = nsOf o := by
    funext x
    unfold Heap.nsMap nsOf dictEs
    rw [e]
    dsimp only
    unfold isD at d
    cases hd : o.data <;> rw [hd] at d <;> simp at d ⊢
  rwa [h3] at h2
theorem at_kf {w : World} {h : Heap} (y : YP w h) (i : Nat) {a : Addr} {o : Obj} (e : (KF w.params)[i]? = some (a, o)) : h.get? a = some o := y _ (List.mem_of_getElem? e)
theorem kf_low (w : World) : ∀ p ∈ KF w.params, p.1 < 169 := fun p hp => by
  have : p.1 ∈ kAs := by rw [kf_addrs w.params]; exact List.mem_map_of_mem hp
  exact (by decide : ∀ a ∈ kAs, a < 169) _ this
noncomputable def noX : Ext := fun _ _ _ _ _ => False
theorem noX_ok : ExtOk noX := fun _ _ _ _ _ _ _ q _ => q
theorem d3 (w : World) : isD (o3f w.params) = true := by kernel_rfl
theorem d0 (w : World) : isD (boot_o_0 w.params) = true := by kernel_rfl
theorem d58 (w : World) : isD (o58b w.params) = true := by kernel_rfl
theorem d2 (w : World) : isD (boot_o_2 w.params) = true := by kernel_rfl
theorem nl (w : World) : nsOf (boot_o_2 w.params) "sys.recursionlimit" = none := by kernel_rfl
end
end Mine
end J30

section J31
open PySem PySem.W PyProof.Rows
set_option Elab.async false
set_option linter.unusedVariables false
set_option maxRecDepth 1000000
namespace Mine
noncomputable section
/-- the numbers of table B.1 -/
noncomputable def b1L : List Int := [65024, 65025, 65026, 65027, 65028, 65029, 6150, 65030, 65031, 65032, 65033, 6155, 6156, 6157, 8203, 8204, 8205, 65034, 65035, 65036, 65037, 65038, 65039, 173, 847, 8288, 65279]
noncomputable def b1S (i : Int) : Bool := decide (i ∈ b1L)
noncomputable def setEs (o : Obj) : Array (Int × Value) := match o.data with | .set es _ _ => es | _ => #[]
noncomputable def setTb (o : Obj) : Nat × SetTable := match o.data with | .set _ n t => (n, t) | _ => (0, .fresh 0 0 true)
theorem set_data (w : World) : (o78c w.params).data = .set (setEs (o78c w.params)) (setTb (o78c w.params)).1 (setTb (o78c w.params)).2 := rfl
theorem set_vals (w : World) : (setEs (o78c w.params)).toList.map (fun e => match e.2 with | .int i _ => some (e.1, i) | _ => none) = b1L.map fun i => some (hashInt i, i) := by kernel_rfl
theorem set_size (w : World) : (setEs (o78c w.params)).size = 27 := by kernel_rfl
theorem set_fits (w : World) : (setTb (o78c w.params)).2.fits 27 = true := by kernel_rfl
theorem set_at {w : World} {h : Heap} (e : h.get? 78 = some (o78c w.params)) : h.SetOf (intKind PR w) 78 b1S 27 := by
  have hv := set_vals w
  have hel : ∀ x ∈ (setEs (o78c w.params)).toList, ∃ i t, x = (hashInt i, .int i t) ∧ i ∈ b1L := fun x hx => by
    have h1 : (match x.2 with | .int i _ => some (x.1, i) | _ => none) ∈ (setEs (o78c w.params)).toList.map (fun e => match e.2 with | .int i _ => some (e.1, i) | _ => none) := List.mem_map_of_mem hx
    rw [hv] at h1
    obtain ⟨i, hi, e⟩ := List.mem_map.mp h1
    obtain ⟨x1, x2⟩ := x
    cases x2 <;> simp at e
    obtain ⟨rfl, rfl⟩ := e
    exact ⟨i, _, rfl, hi⟩
  refine ⟨_, _, _, _, e, ⟨rfl, rfl, rfl⟩, set_data w, fun x hx => ?_, fun k => ?_, by rw [set_size]; decide, by rw [set_size]; exact set_fits w, set_size w⟩
  · obtain ⟨i, t, rfl, _⟩ := hel x hx
    exact ⟨⟨i, intKind_is _ _ _ _, rfl⟩, rfl⟩
  · unfold b1S
    rw [decide_eq_true_eq]
    constructor
    · intro hk
      have h1 : some (hashInt k, k) ∈ b1L.map fun i => some (hashInt i, i) := List.mem_map_of_mem hk
      rw [← hv] at h1
      obtain ⟨x, hx, e⟩ := List.mem_map.mp h1
      obtain ⟨i, t, rfl, _⟩ := hel x hx
      simp at e
      exact ⟨_, hx, by rw [e.2]; exact intKind_is _ _ _ _⟩
    · rintro ⟨x, hx, hk⟩
      obtain ⟨i, t, rfl, hi⟩ := hel x hx
      have : k = i := by
        have h1 : (intKind PR w).is i (.int i t) = true := intKind_is _ _ _ _
        exact (intKind PR w).inj _ _ _ hk h1
      rw [this]; exact hi
noncomputable def b3D : List (PyData × PyData) := dPE.map fun a => (.int a.k, .str a.x)
theorem ents_pairs {w : World} (st : Nat) : ∀ (t : Nat) (L : List PE), ∃ kvs : List (Int × Value), Pairs (intKind PR w) (ents st t L) kvs ∧ kvs.map (·.1) = L.map PE.k ∧ PyProof.V.FlatPairs PyData.int kvs (L.map fun a => (.int a.k, .str a.x)) ∧ ∀ e ∈ ents st t L, ∃ k, (intKind PR w).is k e.key = true ∧ e.hash = (intKind PR w).hash k
  | _, [] => ⟨[], .nil, rfl, .nil, fun e he => by cases he⟩
  | t, a :: r => by
    obtain ⟨kvs, h1, h2, h3, h4⟩ := ents_pairs (w := w) st (t + st) r
    refine ⟨(a.k, .str a.x (t + 1)) :: kvs, .cons (intKind_is _ _ _ _) rfl h1, by rw [List.map_cons, List.map_cons, h2], .cons ?_ h3, fun e he => ?_⟩
    · exact PyProof.V.Flat.str _ _
    · rcases List.mem_cons.mp he with rfl | he
      · exact ⟨a.k, intKind_is _ _ _ _, rfl⟩
      · exact h4 e he
theorem pairs_app {w : World} {es es' : List DictEntry} {kvs kvs' : List (Int × Value)} (h : Pairs (intKind PR w) es kvs) (h' : Pairs (intKind PR w) es' kvs') : Pairs (intKind PR w) (es ++ es') (kvs ++ kvs') := by
  induction h with
  | nil => exact h'
  | cons a b _ ih => exact .cons a b ih
theorem flat_app {kvs kvs' : List (Int × Value)} {D D' : List (PyData × PyData)} (h : PyProof.V.FlatPairs PyData.int kvs D) (h' : PyProof.V.FlatPairs PyData.int kvs' D') : PyProof.V.FlatPairs PyData.int (kvs ++ kvs') (D ++ D') := by
  induction h with
  | nil => exact h'
  | cons a _ ih => exact .cons a ih
theorem incr_nodup : ∀ {l : List PE} {lo : Int}, incrB lo l = true → (l.map PE.k).Nodup
  | [], _, _ => List.nodup_nil
  | a :: r, lo, h => by
    simp only [incrB, Bool.and_eq_true, decide_eq_true_eq] at h
    rw [List.map_cons, List.nodup_cons]
    refine ⟨fun q => ?_, incr_nodup h.2.2⟩
    obtain ⟨b, hb, e⟩ := List.mem_map.mp q
    have := (incr_gt h.2.2 b hb).1
    lia
theorem dict_at {w : World} {h : Heap} (e : h.get? 89 = some mdict) : IntTab PR w h 89 b3D := by
  have e1 : (chop 37 (dPE.drop 17)).flatten ++ dPE.drop 646 = dPE.drop 17 := by
    have := chop_flatten 37 (dPE.drop 17)
    rwa [List.drop_drop] at this
  have e2 : (dPE.take 17 ++ (chop 37 (dPE.drop 17)).flatten) ++ dPE.drop 646 = dPE := by rw [List.append_assoc, e1, List.take_append_drop]
  obtain ⟨k₁, a1, a2, a3, a4⟩ := ents_pairs (w := w) 3 332 (dPE.take 17 ++ (chop 37 (dPE.drop 17)).flatten)
  obtain ⟨k₂, b1, b2, b3, b4⟩ := ents_pairs (w := w) 2 (332 + 3 * 646) (dPE.drop 646)
  refine ⟨by decide, k₁ ++ k₂, ⟨_, _, _, e, ⟨rfl, rfl, rfl⟩, rfl, fun x hx => ?_, ?_, ?_⟩, ?_⟩
  · have hx' := Array.mem_toList_iff.mpr hx
    rcases List.mem_append.mp hx' with q | q
    · exact a4 x q
    · exact b4 x q
  · exact pairs_app a1 b1
  · rw [List.map_append, a2, b2, ← List.map_append, e2]; exact incr_nodup d_incr
  · have := flat_app a3 b3
    rw [← List.map_append, e2] at this
    exact this
end
end Mine
end J31

section J32
open PySem PySem.W PyProof.Rows
set_option Elab.async false
set_option linter.unusedVariables false
set_option maxRecDepth 1000000
namespace Mine
noncomputable section
theorem fn_at {C : Cx} {w : World} (hC : ∀ h, C.gi h → YP w h) {a c : Addr} {i j : Nat} {names : List String} {st : Stmt} {o co : Obj} {fd : FuncData} (e : (KF w.params)[i]? = some (a, o)) (ec : (KF w.params)[j]? = some (c, co)) (hd : o.data = .func fd)
    (hcode : fd.code = .ref c) (hco : ∃ vs t, co.data = .fields vs ∧ vs[1]? = some (.str fd.qualname t)) (hb : fd.body = .stmts (fBody st) ∧ fd.scope = fScope st ∧ fd.closure = [] ∧ fd.globals = mainGlobals ∧ fd.builtins = builtinsNs)
    (hbind : ∀ vals : List Value, vals.length = names.length → bindArgs fd ⟨vals, []⟩ = pure ((names.map Str.ofString).zip vals)) : FnAt C a names (fScope st) (fBody st) := fun h g => by
  obtain ⟨vs, t, h1, h2⟩ := hco
  exact ⟨o, fd, at_kf (hC h g) i e, hd, ⟨c, co, vs, t, hcode, at_kf (hC h g) j ec, h1, h2⟩, hb.1, hb.2.1, hb.2.2.1, hb.2.2.2.1, hb.2.2.2.2, hbind⟩
theorem bind_Entry_init (w : World) {fd : FuncData} (e : (o35b w.params).data = .func fd) : ∀ vals : List Value, vals.length = (["self"] : List String).length → bindArgs fd ⟨vals, []⟩ = pure (((["self"] : List String).map Str.ofString).zip vals) := by
  obtain rfl : _ = fd := Data.func.inj e
  intro vals hv
  match vals, hv with
  | [v0], _ => kernel_rfl
theorem fn_Entry_init {C : Cx} {w : World} (hC : ∀ h, C.gi h → YP w h) : FnAt C 35 ["self"] (fScope (inCls (stAt 2) 0)) (fBody (inCls (stAt 2) 0)) :=
  fn_at hC (i := 35) (j := 34) (o := o35b w.params) (co := o34b w.params) rfl rfl rfl rfl ⟨_, _, rfl, rfl⟩ ⟨rfl, rfl, rfl, rfl, rfl⟩ (bind_Entry_init w rfl)
theorem bind_Entry_applies_to (w : World) {fd : FuncData} (e : (o49b w.params).data = .func fd) : ∀ vals : List Value, vals.length = (["self", "useragent"] : List String).length → bindArgs fd ⟨vals, []⟩ = pure (((["self", "useragent"] : List String).map Str.ofString).zip vals) := by
  obtain rfl : _ = fd := Data.func.inj e
  intro vals hv
  match vals, hv with
  | [v0, v1], _ => kernel_rfl
theorem fn_Entry_applies_to {C : Cx} {w : World} (hC : ∀ h, C.gi h → YP w h) : FnAt C 49 ["self", "useragent"] (fScope (inCls (stAt 2) 2)) (fBody (inCls (stAt 2) 2)) :=
  fn_at hC (i := 49) (j := 48) (o := o49b w.params) (co := o48b w.params) rfl rfl rfl rfl ⟨_, _, rfl, rfl⟩ ⟨rfl, rfl, rfl, rfl, rfl⟩ (bind_Entry_applies_to w rfl)
theorem bind_Entry_allowance (w : World) {fd : FuncData} (e : (o56b w.params).data = .func fd) : ∀ vals : List Value, vals.length = (["self", "filename"] : List String).length → bindArgs fd ⟨vals, []⟩ = pure (((["self", "filename"] : List String).map Str.ofString).zip vals) := by
  obtain rfl : _ = fd := Data.func.inj e
  intro vals hv
  match vals, hv with
  | [v0, v1], _ => kernel_rfl
theorem fn_Entry_allowance {C : Cx} {w : World} (hC : ∀ h, C.gi h → YP w h) : FnAt C 56 ["self", "filename"] (fScope (inCls (stAt 2) 3)) (fBody (inCls (stAt 2) 3)) :=
  fn_at hC (i := 56) (j := 55) (o := o56b w.params) (co := o55b w.params) rfl rfl rfl rfl ⟨_, _, rfl, rfl⟩ ⟨rfl, rfl, rfl, rfl, rfl⟩ (bind_Entry_allowance w rfl)
theorem bind_merge_entries (w : World) {fd : FuncData} (e : (o70b w.params).data = .func fd) : ∀ vals : List Value, vals.length = (["e1", "e2"] : List String).length → bindArgs fd ⟨vals, []⟩ = pure (((["e1", "e2"] : List String).map Str.ofString).zip vals) := by
  obtain rfl : _ = fd := Data.func.inj e
  intro vals hv
  match vals, hv with
  | [v0, v1], _ => kernel_rfl
theorem fn_merge_entries {C : Cx} {w : World} (hC : ∀ h, C.gi h → YP w h) : FnAt C 70 ["e1", "e2"] (fScope (stAt 3)) (fBody (stAt 3)) :=
  fn_at hC (i := 70) (j := 69) (o := o70b w.params) (co := o69b w.params) rfl rfl rfl rfl ⟨_, _, rfl, rfl⟩ ⟨rfl, rfl, rfl, rfl, rfl⟩ (bind_merge_entries w rfl)
theorem bind_in_table_b1 (w : World) {fd : FuncData} (e : (o88d w.params).data = .func fd) : ∀ vals : List Value, vals.length = (["code"] : List String).length → bindArgs fd ⟨vals, []⟩ = pure (((["code"] : List String).map Str.ofString).zip vals) := by
  obtain rfl : _ = fd := Data.func.inj e
  intro vals hv
  match vals, hv with
  | [v0], _ => kernel_rfl
theorem fn_in_table_b1 {C : Cx} {w : World} (hC : ∀ h, C.gi h → YP w h) : FnAt C 88 ["code"] (fScope (stAt 6)) (fBody (stAt 6)) :=
  fn_at hC (i := 88) (j := 87) (o := o88d w.params) (co := o87d w.params) rfl rfl rfl rfl ⟨_, _, rfl, rfl⟩ ⟨rfl, rfl, rfl, rfl, rfl⟩ (bind_in_table_b1 w rfl)
theorem bind_map_table_b3 (w : World) {fd : FuncData} (e : (o134f w.params).data = .func fd) : ∀ vals : List Value, vals.length = (["code"] : List String).length → bindArgs fd ⟨vals, []⟩ = pure (((["code"] : List String).map Str.ofString).zip vals) := by
  obtain rfl : _ = fd := Data.func.inj e
  intro vals hv
  match vals, hv with
  | [v0], _ => kernel_rfl
theorem fn_map_table_b3 {C : Cx} {w : World} (hC : ∀ h, C.gi h → YP w h) : FnAt C 134 ["code"] (fScope (stAt 8)) (fBody (stAt 8)) :=
  fn_at hC (i := 96) (j := 95) (o := o134f w.params) (co := o133f w.params) rfl rfl rfl rfl ⟨_, _, rfl, rfl⟩ ⟨rfl, rfl, rfl, rfl, rfl⟩ (bind_map_table_b3 w rfl)
theorem bind_law_cells (w : World) {fd : FuncData} (e : (o141f w.params).data = .func fd) : ∀ vals : List Value, vals.length = (["script"] : List String).length → bindArgs fd ⟨vals, []⟩ = pure (((["script"] : List String).map Str.ofString).zip vals) := by
  obtain rfl : _ = fd := Data.func.inj e
  intro vals hv
  match vals, hv with
  | [v0], _ => kernel_rfl
theorem fn_law_cells {C : Cx} {w : World} (hC : ∀ h, C.gi h → YP w h) : FnAt C 141 ["script"] (fScope (stAt 10)) (fBody (stAt 10)) :=
  fn_at hC (i := 103) (j := 102) (o := o141f w.params) (co := o140f w.params) rfl rfl rfl rfl ⟨_, _, rfl, rfl⟩ ⟨rfl, rfl, rfl, rfl, rfl⟩ (bind_law_cells w rfl)
theorem bind_law_sign (w : World) {fd : FuncData} (e : (o148f w.params).data = .func fd) : ∀ vals : List Value, vals.length = (["cell"] : List String).length → bindArgs fd ⟨vals, []⟩ = pure (((["cell"] : List String).map Str.ofString).zip vals) := by
  obtain rfl : _ = fd := Data.func.inj e
  intro vals hv
  match vals, hv with
  | [v0], _ => kernel_rfl
theorem fn_law_sign {C : Cx} {w : World} (hC : ∀ h, C.gi h → YP w h) : FnAt C 148 ["cell"] (fScope (stAt 11)) (fBody (stAt 11)) :=
  fn_at hC (i := 110) (j := 109) (o := o148f w.params) (co := o147f w.params) rfl rfl rfl rfl ⟨_, _, rfl, rfl⟩ ⟨rfl, rfl, rfl, rfl, rfl⟩ (bind_law_sign w rfl)
theorem bind_law_laid (w : World) {fd : FuncData} (e : (o153f w.params).data = .func fd) : ∀ vals : List Value, vals.length = (["cells"] : List String).length → bindArgs fd ⟨vals, []⟩ = pure (((["cells"] : List String).map Str.ofString).zip vals) := by
  obtain rfl : _ = fd := Data.func.inj e
  intro vals hv
  match vals, hv with
  | [v0], _ => kernel_rfl
theorem fn_law_laid {C : Cx} {w : World} (hC : ∀ h, C.gi h → YP w h) : FnAt C 153 ["cells"] (fScope (stAt 12)) (fBody (stAt 12)) :=
  fn_at hC (i := 115) (j := 114) (o := o153f w.params) (co := o152f w.params) rfl rfl rfl rfl ⟨_, _, rfl, rfl⟩ ⟨rfl, rfl, rfl, rfl, rfl⟩ (bind_law_laid w rfl)
theorem bind_law_borders (w : World) {fd : FuncData} (e : (o158f w.params).data = .func fd) : ∀ vals : List Value, vals.length = (["word", "turned"] : List String).length → bindArgs fd ⟨vals, []⟩ = pure (((["word", "turned"] : List String).map Str.ofString).zip vals) := by
  obtain rfl : _ = fd := Data.func.inj e
  intro vals hv
  match vals, hv with
  | [v0, v1], _ => kernel_rfl
theorem fn_law_borders {C : Cx} {w : World} (hC : ∀ h, C.gi h → YP w h) : FnAt C 158 ["word", "turned"] (fScope (stAt 13)) (fBody (stAt 13)) :=
  fn_at hC (i := 120) (j := 119) (o := o158f w.params) (co := o157f w.params) rfl rfl rfl rfl ⟨_, _, rfl, rfl⟩ ⟨rfl, rfl, rfl, rfl, rfl⟩ (bind_law_borders w rfl)
theorem bind_law_two (w : World) {fd : FuncData} (e : (o163f w.params).data = .func fd) : ∀ vals : List Value, vals.length = (["sizes", "faults"] : List String).length → bindArgs fd ⟨vals, []⟩ = pure (((["sizes", "faults"] : List String).map Str.ofString).zip vals) := by
  obtain rfl : _ = fd := Data.func.inj e
  intro vals hv
  match vals, hv with
  | [v0, v1], _ => kernel_rfl
theorem fn_law_two {C : Cx} {w : World} (hC : ∀ h, C.gi h → YP w h) : FnAt C 163 ["sizes", "faults"] (fScope (stAt 14)) (fBody (stAt 14)) :=
  fn_at hC (i := 125) (j := 124) (o := o163f w.params) (co := o162f w.params) rfl rfl rfl rfl ⟨_, _, rfl, rfl⟩ ⟨rfl, rfl, rfl, rfl, rfl⟩ (bind_law_two w rfl)
theorem bind_law (w : World) {fd : FuncData} (e : (o168f w.params).data = .func fd) : ∀ vals : List Value, vals.length = (["script"] : List String).length → bindArgs fd ⟨vals, []⟩ = pure (((["script"] : List String).map Str.ofString).zip vals) := by
  obtain rfl : _ = fd := Data.func.inj e
  intro vals hv
  match vals, hv with
  | [v0], _ => kernel_rfl
theorem fn_law {C : Cx} {w : World} (hC : ∀ h, C.gi h → YP w h) : FnAt C 168 ["script"] (fScope (stAt 15)) (fBody (stAt 15)) :=
  fn_at hC (i := 130) (j := 129) (o := o168f w.params) (co := o167f w.params) rfl rfl rfl rfl ⟨_, _, rfl, rfl⟩ ⟨rfl, rfl, rfl, rfl, rfl⟩ (bind_law w rfl)
end
end Mine
end J32

section J33
open PySem PySem.W PyProof.Rows
set_option Elab.async false
set_option linter.unusedVariables false
set_option maxRecDepth 1000000
namespace Mine
noncomputable section
/-- what the walk of 03 leans on, from a heap of at least `base` objects -/
noncomputable def cx3 (w : World) (base : Nat) (hb : 169 ≤ base) : Cx where
  prog := PR
  w := w
  tb := []
  base := base
  cls := 59
  X := extX PR w noX
  extOk := extX_ok noX_ok
  gi := fun h => base ≤ h.objs.size ∧ YP w h
  mg := nsOf (o3f w.params)
  mb := nsOf (boot_o_0 w.params)
  g := fun {h} g => ns_of (at_kf g.2 3 rfl) (d3 w)
  b := fun {h} g => ns_of (at_kf g.2 0 rfl) (d0 w)
  nolimit := fun {h} g => ⟨_, ns_of (at_kf g.2 2 rfl) (d2 w), nl w⟩
  low := fun {h} g => g.1
  low2 := by omega
  keep := fun {h h'} g k z => ⟨Nat.le_trans g.1 z, fun p hp => k _ _ (Nat.lt_of_lt_of_le (kf_low w p hp) hb) (g.2 p hp)⟩
  tbLow := fun a ha => by cases ha
theorem gi3 {w : World} {base : Nat} {hb : 169 ≤ base} : ∀ h, (cx3 w base hb).gi h → YP w h := fun h g => g.2
section
variable (w : World) (base : Nat) (hb : 169 ≤ base)
theorem blt3 {x : Str} {v : Value} (h1 : nsOf (o3f w.params) x = none) (h2 : nsOf (boot_o_0 w.params) x = some v) : Blt (cx3 w base hb) x v := ⟨h1, h2⟩
theorem cls3 : ClsOk (cx3 w base hb) 58 (nsOf (o58b w.params)) := fun h g => ⟨⟨_, _, _, _, _, _, _, _, _, _, _, _, at_kf g.2 59 rfl⟩, ns_of (at_kf g.2 58 rfl) (d58 w)⟩
theorem isfn {a i : Nat} {o : Obj} {fd : FuncData} (e : (KF w.params)[i]? = some (a, o)) (hc : o.cls = .type "function") (hd : o.data = .func fd) : ∀ h, (cx3 w base hb).gi h → ∃ ob fd, h.get? a = some ob ∧ ob.cls = .type "function" ∧ ob.data = .func fd := fun h g => ⟨o, fd, at_kf g.2 i e, hc, hd⟩
theorem setsX3 : SetsX (cx3 w base hb) := fun x P h v => ⟨Iff.rfl, Iff.rfl⟩
theorem no_ua : typeLookup (.type "object") (Str.ofString "useragents") = pure none := by rw [typeLookup_type, builtinLookup_eq_fast]; kernel_rfl
theorem no_rl : typeLookup (.type "object") (Str.ofString "rulelines") = pure none := by rw [typeLookup_type, builtinLookup_eq_fast]; kernel_rfl
theorem no_dl : typeLookup (.type "object") (Str.ofString "delay") = pure none := by rw [typeLookup_type, builtinLookup_eq_fast]; kernel_rfl
theorem no_rr : typeLookup (.type "object") (Str.ofString "req_rate") = pure none := by rw [typeLookup_type, builtinLookup_eq_fast]; kernel_rfl
theorem topE3 : TopE (cx3 w base hb) 58 (nsOf (o58b w.params)) where
  ok := cls3 w base hb
  name := by show nsOf (o3f w.params) "Entry" = some (.ref 59); kernel_rfl
  low := Nat.lt_of_lt_of_le (by decide : 59 < 169) hb
  noGa := by kernel_rfl
  noGh := by kernel_rfl
  noSa := by kernel_rfl
  ua := ⟨by kernel_rfl, no_ua⟩
  rl := ⟨by kernel_rfl, no_rl⟩
  dl := ⟨by kernel_rfl, no_dl⟩
  rr := ⟨by kernel_rfl, no_rr⟩
  init := ⟨35, by kernel_rfl, fun h g => ⟨_, at_kf g.2 35 rfl, rfl⟩, fn_Entry_init gi3⟩
  appl := ⟨49, by kernel_rfl, isfn w base hb (i := 49) rfl rfl rfl, fn_Entry_applies_to gi3⟩
  allow := ⟨56, by kernel_rfl, isfn w base hb (i := 56) rfl rfl rfl, fn_Entry_allowance gi3⟩
  setsX := setsX3 w base hb
  set := blt3 w base hb (by kernel_rfl) (by kernel_rfl)
  list := blt3 w base hb (by kernel_rfl) (by kernel_rfl)
  filter := blt3 w base hb (by kernel_rfl) (by kernel_rfl)
  merge := ⟨70, by show nsOf (o3f w.params) "merge_entries" = _; kernel_rfl, fn_merge_entries gi3⟩
theorem topB3 : TopB (cx3 w base hb) b1S b3D where
  ord := blt3 w base hb (by kernel_rfl) (by kernel_rfl)
  b1s := ⟨78, 27, by show nsOf (o3f w.params) "b1_set" = _; kernel_rfl, fun h g => set_at (at_kf g.2 78 rfl)⟩
  b3s := ⟨89, by show nsOf (o3f w.params) "b3_exceptions" = _; kernel_rfl, fun h g => dict_at (at_kf g.2 89 rfl)⟩
  b1 := ⟨88, by show nsOf (o3f w.params) "in_table_b1" = _; kernel_rfl, fn_in_table_b1 gi3⟩
  b3 := ⟨134, by show nsOf (o3f w.params) "map_table_b3" = _; kernel_rfl, fn_map_table_b3 gi3⟩
theorem top3 : Top3 (cx3 w base hb) 58 (nsOf (o58b w.params)) b1S b3D where
  B := topB3 w base hb
  E := topE3 w base hb
  chr := blt3 w base hb (by kernel_rfl) (by kernel_rfl)
  len := blt3 w base hb (by kernel_rfl) (by kernel_rfl)
  range := blt3 w base hb (by kernel_rfl) (by kernel_rfl)
  sign := ⟨148, by show nsOf (o3f w.params) "_law_sign" = _; kernel_rfl, fn_law_sign gi3⟩
  cells := ⟨141, by show nsOf (o3f w.params) "_law_cells" = _; kernel_rfl, fn_law_cells gi3⟩
  laid := ⟨153, by show nsOf (o3f w.params) "_law_laid" = _; kernel_rfl, fn_law_laid gi3⟩
  borders := ⟨158, by show nsOf (o3f w.params) "_law_borders" = _; kernel_rfl, fn_law_borders gi3⟩
  two := ⟨163, by show nsOf (o3f w.params) "_law_two" = _; kernel_rfl, fn_law_two gi3⟩
end
end
end Mine
end J33

section J34
open PySem PySem.W PyProof.Rows
set_option Elab.async false
set_option linter.unusedVariables false
set_option maxRecDepth 1000000
namespace Mine
noncomputable section
theorem rd_ints {X : Ext} {P : Addr → Prop} {h : Heap} {Pm : Params} : ∀ {vs : List Value} {xs : List WData}, WellAll Pm h vs xs → (∀ x ∈ xs, ∃ i, x = .int i) → ∃ ns : List Int, xs = ns.map .int ∧ RdL X P h vs (ns.map .int)
  | _, _, .nil, _ => ⟨[], rfl, .nil⟩
  | _, _, .cons a r, h => by
    obtain ⟨i, rfl⟩ := h _ List.mem_cons_self
    obtain ⟨ns, e, q⟩ := rd_ints r fun x hx => h x (List.mem_cons_of_mem _ hx)
    cases a with
    | int i t => exact ⟨i :: ns, by rw [e]; rfl, .cons (.int i t) q⟩
theorem items_int : ∀ {xs : List WData}, WShape.hasItems [] xs .int = true → ∀ x ∈ xs, ∃ i, x = .int i
  | [], _, x, hx => by cases hx
  | a :: r, h, x, hx => by
    have h' : WShape.has [] a .int = true ∧ WShape.hasItems [] r .int = true := by simpa [WShape.hasItems] using h
    rcases List.mem_cons.mp hx with rfl | hx
    · exact hasW_int h'.1
    · exact items_int h'.2 x hx
theorem pre_script {l : OpenLaw} (hb : l.bound = none) (hm : l.most = some 63) {args : List WData} (hpre : l.row.claim.pre args = true) : ∃ xs, args = [.list xs] ∧ (∀ x ∈ xs, ∃ i, x = .int i) ∧ xs.length ≤ 63 := by
  obtain ⟨h1, h2⟩ := pre_splitW (r := l.row.toRowW) hpre
  obtain ⟨d, r, rfl, hd, hr⟩ := hasAllW_cons (R := []) (e := .list .int) (es := []) h1
  obtain rfl := hasAllW_nil hr
  obtain ⟨xs, rfl, hx⟩ := hasW_list hd
  refine ⟨xs, rfl, items_int hx, ?_⟩
  have h3 : l.pre.holds [] { args := [.list xs] } = true := h2
  unfold OpenLaw.pre WTm.holds at h3
  rw [hb, hm] at h3
  simp [WTm.value] at h3
  have e : less? (WData.int 63) (WData.int ↑xs.length) = some (decide ((63 : Int) < (xs.length : Int))) := rfl
  rw [e] at h3
  by_cases q : (63 : Int) < (xs.length : Int)
  · simp [q] at h3
  · omega
theorem room3 : Room callerA 20 := ⟨by decide, by decide, rfl⟩
theorem post_ok {l : OpenLaw} {args after : List WData} : l.row.claim.post args (.bool true) after = true := by
  have h1 : WShape.has [] (WData.bool true) .bool = true := by simp [WShape.has, WShape.arms]
  have h2 : (WTm.eq .res (.lit (.bool true))).holds [] { args := args, res := some (.bool true), after := after } = true := by
    unfold WTm.holds
    simp [WTm.value]
    have e : same (WData.bool true) (WData.bool true) = true := by unfold same; rfl
    rw [e]

  show (WShape.has [] (WData.bool true) .bool && (WTm.eq .res (.lit (.bool true))).holds [] { args := args, res := some (.bool true), after := after }) = true
  rw [h1, h2]; rfl
theorem said3 : PySem.Challenge.rw_rs0172_03.wellSaid = true := by kernel_rfl
set_option maxHeartbeats 1000000 in
theorem holds3 (L : Plain3 b1S b3D) : PySem.Challenge.rw_rs0172_03.Holds := by
  refine holds_law said3 fun said => ?_
  refine PySem.W.holds_open (q := qV) (loose := looseV) (Xt := fun _ => true) (XP := fun _ _ => True) (Yf := kYf) (Ya := kYa) (YP := YP) (N := 100000) left_ok yp_of yp_keep (fun _ _ => trivial) (fun _ _ _ _ _ => trivial) (by rfl) (by rfl) (by rfl) (fun s _ => recFacts_nil rfl) (by rfl) said (by decide +kernel) ⟨rfl, rfl, rfl, rfl, rfl, by decide +kernel⟩ ?hw ?walk
  case hw => w_witness2
  case walk =>
    intro w s₀ s₁ mg mb G Y a o pm cd doc dV kV ho hd hcd hD hmg hg args vals as hpre hlay hrd hwl hlo
    obtain ⟨xs, rfl, hi, h63⟩ := pre_script (l := PySem.Challenge.rw_rs0172_03) rfl rfl hpre
    cases hwl with
    | cons hv hr =>
    cases hr
    cases hv with
    | list he hw =>
    rename_i l vs
    have hb : 169 ≤ s₁.heap.objs.size := Heap.lt_size (at_kf Y 130 (a := 168) rfl)
    have gi : (cx3 w s₁.heap.objs.size hb).gi s₁.heap := ⟨Nat.le_refl _, Y⟩
    obtain ⟨ns, rfl, rl⟩ := rd_ints (X := (cx3 w s₁.heap.objs.size hb).X) (P := fun _ => False) hw hi
    have H : Hp (cx3 w s₁.heap.objs.size hb) (fun _ => False) [] s₁.heap := ⟨gi, (fun a ao h => absurd h List.not_mem_nil), (fun a h => absurd h List.not_mem_nil), (fun a h => absurd h List.not_mem_nil), List.nodup_nil, (fun a h => h.elim)⟩
    have ha : a = 168 := by
      have e1 := Heap.Ns.agree G.T.g (ns_of (at_kf Y 3 rfl) (d3 w)) (Str.ofString "law")
      have e2 : nsOf (o3f w.params) (Str.ofString "law") = some (.ref 168) := by kernel_rfl
      have e3 := e1.trans e2
      have e4 : some (Value.ref a) = some (.ref 168) := by rw [← e3]; exact hmg.symm
      exact Value.ref.inj (Option.some.inj e4)
    subst ha
    have F := fn_law (C := cx3 w s₁.heap.objs.size hb) (w := w) gi3
    have op : OpL (cx3 w s₁.heap.objs.size hb) 20 [] [.list (ns.map .int)] (fun vs => PySem.call (.ref 168) vs) fun d _ => d = .bool true :=
      Fn.call (k := 19) F (by decide +kernel) rfl (w_law (top3 w _ hb) (k := 14) L (by simpa using h63) fun _ => rfl)
    refine wpAny_mono (op callerA (fun _ => False) s₁ [.ref l] room3 H (.cons (.list (fun q => q) he (by simpa using rl)) .nil)) (fun v s' out => ?_) fun _ _ (x : False) => x.elim
    obtain ⟨d, σ', rfl, A, r⟩ := out
    cases r
    refine GoodW.toG ⟨.inl ⟨_, .bool true, [], rfl, fun _ => rfl, .bool true, ?_, fun _ => ⟨List.nodup_nil, fun a ha => by cases ha⟩⟩, fun b o e => A.step.kept b o (by simp [dom]) (by simp [cx3]) (fun q => q) e, A.step.os, A.step.gens.trans hg⟩
    exact post_ok
end
end Mine
end J34

section T30
set_option Elab.async false
set_option linter.unusedVariables false
namespace Mine
/-- w has the period p -/
noncomputable def Per (w : List Nat) (p : Nat) : Prop := ∀ i, i + p < w.length → w[i]? = w[i + p]?
/-- the first s signs of w are its last s -/
noncomputable def Bd (w : List Nat) (s : Nat) : Prop := w.take s = w.drop (w.length - s)
theorem per_sub {w : List Nat} {p q : Nat} (h : p < q) (hl : p + q ≤ w.length) (a : Per w p) (b : Per w q) : Per w (q - p) := fun i hi => by
  by_cases c : p ≤ i
  · have h1 := a (i - p) (by lia)
    have h2 := b (i - p) (by lia)
    rw [show i - p + p = i by lia] at h1
    rw [show i - p + q = i + (q - p) by lia] at h2
    exact h1.symm.trans h2
  · have h1 := b i (by lia)
    have h2 := a (i + (q - p)) (by lia)
    rw [show i + (q - p) + p = i + q by lia] at h2
    exact h1.trans h2.symm
/-- Fine and Wilf, the weak form -/
theorem fw {w : List Nat} : ∀ (n p q : Nat), p + q ≤ n → 0 < p → 0 < q → p + q ≤ w.length → Per w p → Per w q → Per w (Nat.gcd p q) := by
  intro n
  induction n with
  | zero => intro p q h1 h2; lia
  | succ n ih =>
    intro p q h1 h2 h3 h4 a b
    rcases Nat.lt_trichotomy p q with c | c | c
    · have h5 := ih p (q - p) (by lia) h2 (by lia) (by lia) a (per_sub c h4 a b)
      have e : Nat.gcd p q = Nat.gcd p (q - p) := by
        obtain ⟨d, rfl⟩ : ∃ d, q = p + d := ⟨q - p, by lia⟩
        rw [Nat.add_sub_cancel_left, Nat.gcd_self_add_right]
      rw [e]; exact h5
    · subst c; rw [Nat.gcd_self]; exact a
    · have h5 := ih (p - q) q (by lia) (by lia) h3 (by lia) (per_sub c (by lia) b a) b
      have e : Nat.gcd p q = Nat.gcd (p - q) q := by
        obtain ⟨d, rfl⟩ : ∃ d, p = q + d := ⟨p - q, by lia⟩
        rw [Nat.add_sub_cancel_left, Nat.gcd_comm, Nat.gcd_self_add_right, Nat.gcd_comm]
      rw [e]; exact h5
theorem per_mod {w : List Nat} {g : Nat} (h : Per w g) (hg : 0 < g) : ∀ i, i < w.length → w[i]? = w[i % g]? := by
  intro i
  induction i using Nat.strongRecOn with
  | ind i ih =>
    intro hi
    by_cases c : i < g
    · rw [Nat.mod_eq_of_lt c]
    · have h1 := ih (i - g) (by lia) (by lia)
      have h2 := h (i - g) (by lia)
      rw [show i - g + g = i by lia] at h2
      rw [Nat.mod_eq_sub_mod (by lia), ← h1]; exact h2.symm
theorem per_of_mod {w : List Nat} {g : Nat} (h : ∀ i, i < w.length → w[i]? = w[i % g]?) : Per w g := fun i hi => by
  rw [h i (by lia), h (i + g) hi, Nat.add_mod_right]
theorem per_take {w : List Nat} {g : Nat} (h : Per w g) (k : Nat) : Per (w.take k) g := fun i hi => by
  rw [List.length_take] at hi
  rw [List.getElem?_take_of_lt (by lia), List.getElem?_take_of_lt (by lia)]
  exact h i (by lia)
theorem bd_per {w : List Nat} {s : Nat} (hs : s ≤ w.length) : Bd w s ↔ Per w (w.length - s) := by
  unfold Bd Per
  constructor
  · intro e i hi
    have h1 : (w.take s)[i]? = (w.drop (w.length - s))[i]? := by rw [e]
    rw [List.getElem?_take_of_lt (by lia), List.getElem?_drop] at h1
    rw [h1, Nat.add_comm]
  · intro h
    apply List.ext_getElem?
    intro i
    rw [List.getElem?_drop]
    by_cases c : i < s
    · rw [List.getElem?_take_of_lt c, h i (by lia), Nat.add_comm]
    · rw [List.getElem?_eq_none (by rw [List.length_take]; lia), List.getElem?_eq_none (by lia)]
theorem bd_take {w : List Nat} {b s : Nat} (hb : Bd w b) (h1 : b ≤ w.length) (h2 : s ≤ b) : Bd (w.take b) s ↔ Bd w s := by
  have e1 : (w.take b).take s = w.take s := by rw [List.take_take, Nat.min_eq_left h2]
  have e2 : (w.take b).drop ((w.take b).length - s) = w.drop (w.length - s) := by
    rw [List.length_take, Nat.min_eq_left h1, show w.take b = w.drop (w.length - b) from hb, List.drop_drop]
    congr 1; lia
  unfold Bd
  rw [e1, e2]
theorem bd_self (w : List Nat) : Bd w w.length := by unfold Bd; simp
theorem rep_get (y : List Nat) : ∀ k i, i < k * y.length → (List.replicate k y).flatten[i]? = y[i % y.length]? := by
  intro k
  induction k with
  | zero => intro i h; lia
  | succ k ih =>
    intro i h
    rw [List.replicate_succ, List.flatten_cons]
    by_cases c : i < y.length
    · rw [List.getElem?_append_left c, Nat.mod_eq_of_lt c]
    · rw [Nat.succ_mul] at h
      rw [List.getElem?_append_right (by lia), ih _ (by lia), show i % y.length = (i - y.length) % y.length from Nat.mod_eq_sub_mod (by lia)]
theorem rep_per {z : List Nat} {p : Nat} (hp : 0 < p) (hd : p ∣ z.length) : (List.replicate (z.length / p) (z.take p)).flatten = z ↔ Per z p := by
  by_cases h0 : z.length = 0
  · obtain rfl := List.eq_nil_of_length_eq_zero h0
    constructor
    · intro _ i hi; simp at hi
    · intro _; simp
  have hle : p ≤ z.length := Nat.le_of_dvd (by lia) hd
  have hl : (z.take p).length = p := by rw [List.length_take]; lia
  have hm : z.length / p * p = z.length := Nat.div_mul_cancel hd
  constructor
  · intro e
    refine per_of_mod fun i hi => ?_
    have h1 := rep_get (z.take p) (z.length / p) i (by rw [hl, hm]; exact hi)
    rw [e, hl] at h1
    rw [h1, List.getElem?_take_of_lt (Nat.mod_lt _ hp)]
  · intro h
    apply List.ext_getElem?
    intro i
    by_cases c : i < z.length
    · rw [rep_get _ _ _ (by rw [hl, hm]; exact c), hl, List.getElem?_take_of_lt (Nat.mod_lt _ hp)]
      exact (per_mod h hp i c).symm
    · rw [List.getElem?_eq_none (l := z) (by lia), List.getElem?_eq_none]
      rw [List.length_flatten, List.map_replicate, List.sum_replicate_nat, hl, hm]; lia
theorem pow_iff (z : List Nat) : powOf z = true ↔ ∃ p, 0 < p ∧ p < z.length ∧ p ∣ z.length ∧ Per z p := by
  have h0 : powOf z = true ↔ partsOf z ≠ [] := by unfold powOf; exact decide_eq_true_iff
  rw [h0]
  constructor
  · intro h
    obtain ⟨p, hp⟩ := List.exists_mem_of_ne_nil _ h
    unfold partsOf at hp
    obtain ⟨h1, h2⟩ := List.mem_filter.mp hp
    obtain ⟨i, hi, rfl⟩ := List.mem_map.mp h1
    have := List.mem_range.mp hi
    obtain ⟨h3, h4⟩ := (Bool.and_eq_true _ _).mp h2
    have h5 := Nat.dvd_of_mod_eq_zero (of_decide_eq_true h3)
    exact ⟨1 + i, by lia, by lia, h5, (rep_per (by lia) h5).mp (of_decide_eq_true h4)⟩
  · rintro ⟨p, h1, h2, h3, h4⟩ e
    have : p ∈ partsOf z := by
      unfold partsOf
      refine List.mem_filter.mpr ⟨List.mem_map.mpr ⟨p - 1, List.mem_range.mpr (by lia), by lia⟩, (Bool.and_eq_true _ _).mpr ⟨decide_eq_true (Nat.mod_eq_zero_of_dvd h3), decide_eq_true ((rep_per h1 h3).mpr h4)⟩⟩
    rw [e] at this; cases this
end Mine
end T30

section T31
open PySem PySem.W PyProof.Rows
set_option Elab.async false
set_option linter.unusedVariables false
namespace Mine
theorem told_ok : ToldOk := fun w h2 hc => by
  rw [Bool.eq_iff_iff, contains_ok, pow_iff]
  have hil : (innerOf w).length = 2 * w.length - 2 := by unfold innerOf; simp; lia
  have hin : ∀ j, j < 2 * w.length - 2 → (innerOf w ++ [42])[j]? = (w ++ w)[1 + j]? := fun j hj => by
    rw [List.getElem?_append_left (by lia)]
    unfold innerOf
    rw [List.getElem?_take_of_lt (by rw [List.length_append]; lia), List.getElem?_drop]
  have P1 : Per (w ++ w) w.length := fun i hi => by
    rw [List.length_append] at hi
    rw [List.getElem?_append_left (by lia), List.getElem?_append_right (by lia), Nat.add_sub_cancel]
  constructor
  · rintro ⟨i, h1, h3⟩
    have hj : ∀ j, j < w.length → w[j]? = (innerOf w ++ [42])[i + j]? := fun j hj => by
      have : (((innerOf w ++ [42]).drop i).take w.length)[j]? = w[j]? := by rw [h3]
      rw [List.getElem?_take_of_lt hj, List.getElem?_drop] at this
      exact this.symm
    rw [List.length_append, hil, List.length_singleton] at h1
    have hi : i + w.length ≤ 2 * w.length - 2 := by
      apply Classical.byContradiction
      intro q
      have h4 := hj (w.length - 1) (by lia)
      rw [List.getElem?_append_right (by lia), show i + (w.length - 1) - (innerOf w).length = 0 by lia] at h4
      have h5 := List.mem_of_getElem? h4
      rcases hc 42 h5 with h | h <;> cases h
    have P2a : ∀ j, j < w.length → (w ++ w)[j]? = (w ++ w)[j + (1 + i)]? := fun j hj' => by
      rw [List.getElem?_append_left hj', hj j hj', hin (i + j) (by lia)]
      congr 1; lia
    have P2 : Per (w ++ w) (1 + i) := fun j hj' => by
      rw [List.length_append] at hj'
      by_cases c : j < w.length
      · exact P2a j c
      · have h4 := P1 (j - w.length) (by rw [List.length_append]; lia)
        have h5 := P2a (j - w.length) (by lia)
        have h6 := P1 (j - w.length + (1 + i)) (by rw [List.length_append]; lia)
        rw [show j - w.length + w.length = j by lia] at h4
        rw [show j - w.length + (1 + i) + w.length = j + (1 + i) by lia] at h6
        exact h4.symm.trans (h5.trans h6)
    have P3 := fw _ (1 + i) w.length (Nat.le_refl _) (by lia) (by lia) (by rw [List.length_append]; lia) P2 P1
    have P4 := per_take P3 w.length
    rw [List.take_left' rfl] at P4
    have h7 : Nat.gcd (1 + i) w.length ≤ 1 + i := Nat.gcd_le_left _ (by lia)
    exact ⟨_, Nat.gcd_pos_of_pos_left _ (by lia), by lia, Nat.gcd_dvd_right _ _, P4⟩
  · rintro ⟨p, h1, h3, ⟨k, hk⟩, hp⟩
    refine ⟨p - 1, by rw [List.length_append, hil, List.length_singleton]; lia, ?_⟩
    apply List.ext_getElem?
    intro j
    by_cases c : j < w.length
    · rw [List.getElem?_take_of_lt c, List.getElem?_drop, hin _ (by lia), show 1 + (p - 1 + j) = j + p by lia]
      by_cases d : j + p < w.length
      · rw [List.getElem?_append_left d]; exact (hp j d).symm
      · rw [List.getElem?_append_right (by lia), per_mod hp h1 _ (by lia), per_mod hp h1 j c]
        have e : (j + p - w.length) % p = j % p := by
          have h4 : (j + p - w.length + p * k) % p = (j + p - w.length) % p := Nat.add_mul_mod_self_left _ _ _
          rw [← h4, ← hk, show j + p - w.length + w.length = j + p by lia, Nat.add_mod_right]
        rw [e]
    · rw [List.getElem?_eq_none (l := w) (by lia), List.getElem?_eq_none]
      rw [List.length_take]; lia
theorem mod_back {y p g : Nat} (h : g ∣ p) (hp : p ≤ y) : (y - p) % g = y % g := by
  obtain ⟨k, rfl⟩ := h
  have h4 : (y - g * k + g * k) % g = (y - g * k) % g := Nat.add_mul_mod_self_left _ _ _
  rw [← h4, show y - g * k + g * k = y by lia]
theorem half_dvd {p M : Nat} (h1 : p < M) (h : p ∣ M) : 2 * p ≤ M := by
  obtain ⟨k, rfl⟩ := h
  rcases k with _ | _ | k
  · lia
  · lia
  · rw [Nat.mul_add, Nat.mul_add, Nat.mul_one]; lia
/-- two words that part at their last sign alone are not both said oftener -/
theorem prim2 {y : List Nat} {a b : Nat} (h : a ≠ b) (h1 : powOf (y ++ [a]) = true) (h2 : powOf (y ++ [b]) = true) : False := by
  obtain ⟨p, p0, p1, p2, p3⟩ := (pow_iff _).mp h1
  obtain ⟨q, q0, q1, q2, q3⟩ := (pow_iff _).mp h2
  have key : ∀ {a p}, 0 < p → p < (y ++ [a]).length → Per (y ++ [a]) p → Per y p ∧ y[y.length - p]? = some a := fun {a p} h0 h1 h => by
    rw [List.length_append, List.length_singleton] at h1
    have e1 := per_take h y.length
    rw [List.take_left' rfl] at e1
    refine ⟨e1, ?_⟩
    have e2 := h (y.length - p) (by rw [List.length_append, List.length_singleton]; lia)
    rw [show y.length - p + p = y.length by lia, List.getElem?_append_left (by lia), List.getElem?_append_right (Nat.le_refl _), Nat.sub_self] at e2
    exact e2
  obtain ⟨a1, a2⟩ := key p0 p1 p3
  obtain ⟨b1, b2⟩ := key q0 q1 q3
  have hp := half_dvd p1 p2
  have hq := half_dvd q1 q2
  rw [List.length_append, List.length_singleton] at hp hq
  by_cases c : p = q
  · subst c
    rw [a2] at b2
    exact h (Option.some.inj b2)
  · have P := fw _ p q (Nat.le_refl _) p0 q0 (by lia) a1 b1
    have g0 : 0 < Nat.gcd p q := Nat.gcd_pos_of_pos_left _ p0
    rw [per_mod P g0 _ (by lia), mod_back (Nat.gcd_dvd_left p q) (by lia)] at a2
    rw [per_mod P g0 _ (by lia), mod_back (Nat.gcd_dvd_right p q) (by lia)] at b2
    rw [a2] at b2
    exact h (Option.some.inj b2)
end Mine
end T31

section T32
open PySem PySem.W PyProof.Rows
set_option Elab.async false
set_option linter.unusedVariables false
namespace Mine
structure Good (x V : List Nat) : Prop where
  len : x.length = V.length
  head : x[0]? = some 115
  bd : ∀ s, 1 ≤ s → s ≤ V.length → (Bd x s ↔ Bd V s)
theorem good_of {x V u : List Nat} {b : Nat} (hl : x.length = V.length) (h0 : x[0]? = some 115) (hB : Bd V b) (hbm : b < V.length) (G : Good u (V.take b)) (hx : x.take b = u) (hxB : Bd x b) (hno : ∀ c, b < c → c < V.length → ¬ Bd x c) (hn : ∀ c, b < c → c < V.length → ¬ Bd V c) : Good x V := ⟨hl, h0, fun s h1 h2 => by
  rcases Nat.lt_or_ge b s with c | c
  · rcases Nat.lt_or_ge s V.length with d | d
    · exact ⟨fun h => absurd h (hno s c d), fun h => absurd h (hn s c d)⟩
    · obtain rfl : s = V.length := by lia
      exact ⟨fun _ => bd_self V, fun _ => by rw [← hl]; exact bd_self x⟩
  · rw [← bd_take hxB (by lia) c, hx, G.bd s h1 (by rw [List.length_take]; lia), bd_take hB (by lia) c]⟩
theorem step0 {V : List Nat} (h : 1 ≤ V.length) (hn : ∀ c, 1 ≤ c → c < V.length → ¬ Bd V c) : Good (twoStep [] V.length) V := by
  have e : twoStep [] V.length = 115 :: List.replicate (V.length - 1) 116 := by unfold twoStep; rw [if_pos rfl]
  have hl : (twoStep [] V.length).length = V.length := by rw [e, List.length_cons, List.length_replicate]; lia
  refine ⟨hl, by rw [e]; rfl, fun s h1 h2 => ?_⟩
  rcases Nat.lt_or_ge s V.length with d | d
  · refine ⟨fun q => ?_, fun q => absurd q (hn s h1 d)⟩
    have P := (bd_per (by lia)).mp q 0 (by lia)
    rw [hl, e, Nat.zero_add] at P
    obtain ⟨j, hj⟩ : ∃ j, V.length - s = j + 1 := ⟨V.length - s - 1, by lia⟩
    rw [hj, List.getElem?_cons_succ, List.getElem?_replicate_of_lt (by lia)] at P
    exact absurd (Option.some.inj P) (by decide)
  · obtain rfl : s = V.length := by lia
    refine ⟨fun _ => bd_self V, fun _ => ?_⟩
    have := bd_self (twoStep [] V.length)
    rw [hl] at this; exact this
/-- the overlapping step -/
theorem step_near {V u : List Nat} {b : Nat} (hb : 1 ≤ b) (hbm : b < V.length) (hn2 : V.length ≤ 2 * b) (hB : Bd V b) (hn : ∀ c, b < c → c < V.length → ¬ Bd V c) (G : Good u (V.take b)) : Good (u.take (V.length - b) ++ u) V := by
  have hul : u.length = b := by rw [G.len, List.length_take]; lia
  have htl : (V.take b).length = b := by rw [List.length_take]; lia
  have hVp : Per V (V.length - b) := (bd_per (by lia)).mp hB
  -- u has the period p
  have hup : Per u (V.length - b) := by
    rcases Nat.lt_or_ge (V.length - b) b with c | c
    · have h1 : Bd (V.take b) (b - (V.length - b)) := by
        rw [bd_per (by lia), htl, show b - (b - (V.length - b)) = V.length - b by lia]
        exact per_take hVp b
      have h2 := (G.bd _ (by lia) (by lia)).mpr h1
      rw [bd_per (by lia), hul, show b - (b - (V.length - b)) = V.length - b by lia] at h2
      exact h2
    · intro i hi; lia
  have hpl : (u.take (V.length - b)).length = V.length - b := by rw [List.length_take]; lia
  have hxl : (u.take (V.length - b) ++ u).length = V.length := by rw [List.length_append, hpl]; lia
  have hxB : Bd (u.take (V.length - b) ++ u) b := by
    rw [bd_per (by lia), hxl]
    intro i hi
    rw [hxl] at hi
    rw [List.getElem?_append_right (l₁ := u.take (V.length - b)) (i := i + (V.length - b)) (by lia), hpl, Nat.add_sub_cancel]
    by_cases c : i < V.length - b
    · rw [List.getElem?_append_left (by lia), List.getElem?_take_of_lt c]
    · rw [List.getElem?_append_right (by lia), hpl]
      have := hup (i - (V.length - b)) (by lia)
      rw [this]; congr 1; lia
  have hx : (u.take (V.length - b) ++ u).take b = u := by
    have h1 : _ = _ := hxB
    rw [h1, hxl, List.drop_append_of_le_length (by lia), List.drop_eq_nil_of_le (by lia)]; rfl
  refine good_of hxl ?_ hB hbm G hx hxB (fun c h1 h2 q => ?_) hn
  · rw [List.getElem?_append_left (by lia), List.getElem?_take_of_lt (by lia)]; exact G.head
  · have Pp := (bd_per (by lia)).mp hxB
    have Pq := (bd_per (by lia)).mp q
    rw [hxl] at Pp Pq
    have P := fw _ _ _ (Nat.le_refl _) (by lia) (by lia) (by rw [hxl]; lia) Pp Pq
    have g0 : 0 < Nat.gcd (V.length - b) (V.length - c) := Nat.gcd_pos_of_pos_left _ (by lia)
    have g1 : Nat.gcd (V.length - b) (V.length - c) ≤ V.length - c := Nat.gcd_le_right _ (by lia)
    have g2 := Nat.gcd_dvd_left (V.length - b) (V.length - c)
    generalize Nat.gcd (V.length - b) (V.length - c) = g at *
    have hug : Per u g := by have := per_take P b; rw [hx] at this; exact this
    have h3 : Bd u (b - g) := by rw [bd_per (by lia), hul, show b - (b - g) = g by lia]; exact hug
    have h4 := (G.bd _ (by lia) (by lia)).mp h3
    rw [bd_per (by lia), htl, show b - (b - g) = g by lia] at h4
    have h5 : ∀ i, i < V.length → V[i]? = V[i % g]? := by
      intro i
      induction i using Nat.strongRecOn with
      | ind i ih =>
        intro hi
        by_cases e : i < b
        · have h6 := per_mod h4 g0 i (by lia)
          rw [List.getElem?_take_of_lt e, List.getElem?_take_of_lt (Nat.lt_of_le_of_lt (Nat.mod_le _ _) e)] at h6
          exact h6
        · have h6 := hVp (i - (V.length - b)) (by lia)
          rw [show i - (V.length - b) + (V.length - b) = i by lia] at h6
          rw [← h6, ih _ (by lia) (by lia), mod_back g2 (by lia)]
    have h6 : Bd V (V.length - g) := by rw [bd_per (by lia), show V.length - (V.length - g) = g by lia]; exact per_of_mod h5
    exact hn _ (by lia) (by lia) h6
/-- the step with a gap -/
theorem step_far {V u z : List Nat} {b : Nat} (hb : 1 ≤ b) (hbm : 2 * b < V.length) (hB : Bd V b) (hn : ∀ c, b < c → c < V.length → ¬ Bd V c) (G : Good u (V.take b)) (hzl : z.length = V.length - b) (hzu : z.take b = u) (hzt : ∀ i, b ≤ i → i + 1 < z.length → z[i]? = some 116) (hz : powOf z = false) : Good (z ++ u) V := by
  have hul : u.length = b := by rw [G.len, List.length_take]; lia
  have hxl : (z ++ u).length = V.length := by rw [List.length_append]; lia
  have hx : (z ++ u).take b = u := by rw [List.take_append_of_le_length (by lia), hzu]
  have hxB : Bd (z ++ u) b := by
    unfold Bd
    rw [hx, hxl, List.drop_left' (by lia)]
  refine good_of hxl ?_ hB (by lia) G hx hxB (fun c h1 h2 q => ?_) hn
  · have := G.head
    rw [← hzu, List.getElem?_take_of_lt (by lia)] at this
    rw [List.getElem?_append_left (by lia)]; exact this
  · have Pp := (bd_per (by lia)).mp hxB
    have Pq := (bd_per (by lia)).mp q
    rw [hxl] at Pp Pq
    have hxu : ∀ i, i < b → (z ++ u)[i]? = u[i]? := fun i hi => by rw [← List.getElem?_take_of_lt hi, hx]
    rcases Nat.lt_or_ge b (V.length - c) with d | d
    · -- the period is longer than u
      have e1 := Pq 0 (by lia)
      rw [Nat.zero_add, hxu 0 (by lia), G.head, List.getElem?_append_left (by lia)] at e1
      have e2 : V.length - c + 1 = z.length := by
        apply Classical.byContradiction
        intro w
        rw [hzt _ (by lia) (by lia)] at e1
        exact absurd (Option.some.inj e1) (by decide)
      have e3 : ∀ i, i < b → u[i]? = some 115 := by
        intro i
        induction i with
        | zero => intro _; exact G.head
        | succ i ih =>
          intro hi
          have e4 := Pq (i + 1) (by lia)
          rw [hxu _ hi, List.getElem?_append_right (by lia), show i + 1 + (V.length - c) - z.length = i by lia, ih (by lia)] at e4
          exact e4
      have e5 := Pq b (by lia)
      rw [List.getElem?_append_left (by lia), hzt b (by lia) (by lia), List.getElem?_append_right (by lia), show b + (V.length - c) - z.length = b - 1 by lia, e3 _ (by lia)] at e5
      exact absurd (Option.some.inj e5) (by decide)
    · have P := fw _ _ _ (Nat.le_refl _) (by lia) (by lia) (by rw [hxl]; lia) Pp Pq
      have g0 : 0 < Nat.gcd (V.length - b) (V.length - c) := Nat.gcd_pos_of_pos_left _ (by lia)
      have g1 : Nat.gcd (V.length - b) (V.length - c) ≤ V.length - c := Nat.gcd_le_right _ (by lia)
      have g2 := Nat.gcd_dvd_left (V.length - b) (V.length - c)
      have hzg := per_take P z.length
      rw [List.take_left' rfl] at hzg
      have : powOf z = true := (pow_iff z).mpr ⟨_, g0, by lia, by rw [hzl]; exact g2, hzg⟩
      rw [hz] at this; cases this
end Mine
end T32

section T33
open PySem PySem.W PyProof.Rows
set_option Elab.async false
set_option linter.unusedVariables false
namespace Mine
theorem step1 {V u : List Nat} {b : Nat} (hb : 1 ≤ b) (hbm : b < V.length) (hB : Bd V b) (hn : ∀ c, b < c → c < V.length → ¬ Bd V c) (G : Good u (V.take b)) : Good (twoStep u V.length) V := by
  have hul : u.length = b := by rw [G.len, List.length_take]; lia
  have hne : u ≠ [] := fun e => by rw [e] at hul; simp at hul; lia
  unfold twoStep
  rw [if_neg hne]
  by_cases c : V.length ≤ 2 * u.length
  · rw [if_pos c, hul]
    exact step_near hb hbm (by lia) hB hn G
  · rw [if_neg c]
    have hwl : (wholeOf u V.length).length = V.length - b := by rw [whole_len (by lia), hul]
    have ht : (wholeOf u V.length).take b = u := by unfold wholeOf; rw [List.take_left' hul]
    have hg : ∀ i, b ≤ i → i < V.length - b → (wholeOf u V.length)[i]? = some 116 := fun i h1 h2 => by
      unfold wholeOf
      rw [List.getElem?_append_right (by lia), List.getElem?_replicate_of_lt (by lia)]
    by_cases p : powOf (wholeOf u V.length) = true
    · rw [if_pos p]
      have e : wholeOf u V.length = (wholeOf u V.length).take ((wholeOf u V.length).length - 1) ++ [116] := by
        apply List.ext_getElem?
        intro i
        rcases Nat.lt_trichotomy i ((wholeOf u V.length).length - 1) with d | d | d
        · rw [List.getElem?_append_left (by rw [List.length_take]; lia), List.getElem?_take_of_lt d]
        · rw [List.getElem?_append_right (by rw [List.length_take]; lia), hg i (by lia) (by lia), List.length_take, show i - min ((wholeOf u V.length).length - 1) (wholeOf u V.length).length = 0 by lia]; rfl
        · rw [List.getElem?_eq_none (by lia), List.getElem?_eq_none (by rw [List.length_append, List.length_take, List.length_singleton]; lia)]
      have hy : ((wholeOf u V.length).take ((wholeOf u V.length).length - 1)).length = V.length - b - 1 := by rw [List.length_take]; lia
      refine step_far hb (by lia) hB hn G ?_ ?_ ?_ ?_
      · rw [List.length_append, hy, List.length_singleton]; lia
      · rw [List.take_append_of_le_length (by lia), List.take_take, Nat.min_eq_left (by lia), ht]
      · intro i h1 h2
        rw [List.length_append, hy, List.length_singleton] at h2
        rw [List.getElem?_append_left (by lia), List.getElem?_take_of_lt (by lia)]
        exact hg i h1 (by lia)
      · cases q : powOf ((wholeOf u V.length).take ((wholeOf u V.length).length - 1) ++ [115]) with
        | false => rfl
        | true =>
          rw [e] at p
          exact (prim2 (by decide) p q).elim
    · rw [if_neg p]
      exact step_far hb (by lia) hB hn G hwl ht (fun i h1 h2 => hg i h1 (by lia)) (by simpa using p)
/-- the sizes of W's borders up to k -/
noncomputable def bup (W : List Nat) (k : Nat) : List Nat := ((List.range k).map fun i => 1 + i).filter fun s => decide (W.take s = W.drop (W.length - s))
theorem two_main (W : List Nat) : ∀ k, k ≤ W.length → (bup W k = [] ∧ ∀ c, 1 ≤ c → c ≤ k → ¬ Bd W c) ∨ ∃ b, 1 ≤ b ∧ b ≤ k ∧ Bd W b ∧ (∀ c, b < c → c ≤ k → ¬ Bd W c) ∧ Good (twoOf (bup W k)) (W.take b) := by
  intro k
  induction k with
  | zero => intro _; exact .inl ⟨rfl, fun c h1 h2 => by lia⟩
  | succ k ih =>
    intro hk
    have hs : bup W (k + 1) = bup W k ++ (if W.take (k + 1) = W.drop (W.length - (k + 1)) then [k + 1] else []) := by
      unfold bup
      rw [List.range_succ, List.map_append, List.filter_append, List.map_singleton, Nat.add_comm 1 k]
      congr 1
      by_cases c : Bd W (k + 1)
      · have c' : W.take (k + 1) = W.drop (W.length - (k + 1)) := c
        simp [c']
      · have c' : ¬ (W.take (k + 1) = W.drop (W.length - (k + 1))) := c
        simp [c']
    have hVl : (W.take (k + 1)).length = k + 1 := by rw [List.length_take]; lia
    by_cases c : Bd W (k + 1)
    · rw [hs, if_pos (show W.take (k + 1) = W.drop (W.length - (k + 1)) from c)]
      have hto : twoOf (bup W k ++ [k + 1]) = twoStep (twoOf (bup W k)) (W.take (k + 1)).length := by
        unfold twoOf
        rw [List.foldl_append, hVl]; rfl
      have bd' : ∀ s, s ≤ k + 1 → (Bd (W.take (k + 1)) s ↔ Bd W s) := fun s h => bd_take c hk h
      refine .inr ⟨k + 1, by lia, Nat.le_refl _, c, fun c h1 h2 => by lia, ?_⟩
      rw [hto]
      rcases ih (by lia) with ⟨h1, h2⟩ | ⟨b, h1, h2, h3, h4, h5⟩
      · rw [h1]
        exact step0 (by lia) fun c q1 q2 q3 => h2 c q1 (by lia) ((bd' c (by lia)).mp q3)
      · refine step1 (b := b) h1 (by lia) ((bd' b (by lia)).mpr h3) (fun c q1 q2 q3 => h4 c q1 (by lia) ((bd' c (by lia)).mp q3)) ?_
        rw [List.take_take, Nat.min_eq_left (by lia)]; exact h5
    · rw [hs, if_neg (show ¬ (W.take (k + 1) = W.drop (W.length - (k + 1))) from c), List.append_nil]
      rcases ih (by lia) with ⟨h1, h2⟩ | ⟨b, h1, h2, h3, h4, h5⟩
      · exact .inl ⟨h1, fun d q1 q2 => by
          rcases Nat.lt_or_ge d (k + 1) with e | e
          · exact h2 d q1 (by lia)
          · obtain rfl : d = k + 1 := by lia
            exact c⟩
      · exact .inr ⟨b, h1, by lia, h3, fun d q1 q2 => by
          rcases Nat.lt_or_ge d (k + 1) with e | e
          · exact h4 d q1 (by lia)
          · obtain rfl : d = k + 1 := by lia
            exact c, h5⟩
theorem two_sizes {W : List Nat} (h : W ≠ []) : bsizes (twoOf (bsizes W)) = bsizes W ∧ (twoOf (bsizes W))[0]? = some 115 := by
  have h0 : 0 < W.length := List.length_pos_iff.mpr h
  rcases two_main W W.length (Nat.le_refl _) with ⟨_, q⟩ | ⟨b, h1, h2, h3, h4, h5⟩
  · exact absurd (bd_self W) (q _ (by lia) (Nat.le_refl _))
  · have hb : b = W.length := by
      rcases Nat.lt_or_ge b W.length with c | c
      · exact absurd (bd_self W) (h4 _ c (Nat.le_refl _))
      · lia
    subst hb
    rw [List.take_length] at h5
    have G : Good (twoOf (bsizes W)) W := h5
    refine ⟨?_, G.head⟩
    generalize twoOf (bsizes W) = x at G
    show ((List.range x.length).map fun i => 1 + i).filter _ = ((List.range W.length).map fun i => 1 + i).filter _
    rw [G.len]
    refine List.filter_congr fun s hs => ?_
    obtain ⟨i, hi, rfl⟩ := List.mem_map.mp hs
    have := List.mem_range.mp hi
    rw [← G.len]
    have e := G.bd (1 + i) (by lia) (by lia)
    unfold Bd at e
    exact decide_eq_decide.mpr (by rw [e, G.len])
theorem due_sizes (w : List Nat) : (dueOf w).map List.length = bsizes w := by
  unfold dueOf
  rw [List.map_map]
  conv => rhs; rw [← List.map_id (bsizes w)]
  refine List.map_congr_left fun s hs => ?_
  unfold bsizes at hs
  obtain ⟨h1, _⟩ := List.mem_filter.mp hs
  obtain ⟨i, hi, rfl⟩ := List.mem_map.mp h1
  have := List.mem_range.mp hi
  show (w.take (1 + i)).length = 1 + i
  rw [List.length_take]; lia
/-- what is said of the capital: with a small letter in w, w in capitals is no tail of w -/
theorem upper_tail {w : List Nat} (h : ∀ c ∈ w, c < 128) (hs : ∃ c ∈ w, up1 c ≠ c) : upperL w ∉ tailsOf w := by
  intro hm
  unfold tailsOf at hm
  obtain ⟨i, hi, hm⟩ := List.mem_flatMap.mp hm
  have e : upperL w = w.drop i := by simpa using hm
  rw [upper_ok h] at e
  have hil := List.mem_range.mp hi
  have hl := congrArg List.length e
  rw [List.length_map, List.length_drop] at hl
  obtain rfl : i = 0 := by lia
  rw [List.drop_zero] at e
  obtain ⟨c, hc, hne⟩ := hs
  obtain ⟨j, hj, rfl⟩ := List.getElem_of_mem hc
  have e1 : (w.map up1)[j]? = w[j]? := by rw [e]
  rw [List.getElem?_map, List.getElem?_eq_getElem hj] at e1
  exact hne (Option.some.inj e1)
theorem tails_mem {w x : List Nat} : x ∈ tailsOf w ↔ ∃ i, i < w.length ∧ x = w.drop i := by
  unfold tailsOf
  rw [List.mem_flatMap]
  constructor
  · rintro ⟨i, h1, h2⟩; exact ⟨i, List.mem_range.mp h1, by simpa using h2⟩
  · rintro ⟨i, h1, h2⟩; exact ⟨i, List.mem_range.mpr h1, by simp [h2]⟩
theorem front_ok {w : List Nat} (h : ∀ c ∈ w, c < 128) (hs : ∃ c ∈ w, up1 c ≠ c) : bordOf w false = dueOf w := by
  have h1 := upper_tail h hs
  unfold bordOf
  rw [if_neg (by decide)]
  unfold startsOf
  rw [List.filter_cons_of_neg (by simpa using h1)]
  unfold dueOf bsizes
  rw [List.filter_map, List.filter_map, List.map_map]
  have e : ((fun x => decide (x ∈ tailsOf w)) ∘ fun i => w.take (i + 1)) = fun i => decide (w.take (i + 1) ∈ tailsOf w) := rfl
  rw [e]
  have e2 : (List.range w.length).filter (fun i => decide (w.take (i + 1) ∈ tailsOf w)) = (List.range w.length).filter ((fun s => decide (w.take s = w.drop (w.length - s))) ∘ fun i => 1 + i) := by
    refine List.filter_congr fun i hi => ?_
    have hil := List.mem_range.mp hi
    refine decide_eq_decide.mpr ?_
    rw [tails_mem]
    constructor
    · rintro ⟨j, h2, h3⟩
      have hl := congrArg List.length h3
      rw [List.length_take, List.length_drop] at hl
      show w.take (1 + i) = w.drop (w.length - (1 + i))
      rw [Nat.add_comm 1 i, h3]; congr 1; lia
    · intro h3
      exact ⟨w.length - (1 + i), by lia, by rw [Nat.add_comm i 1]; exact h3⟩
  rw [e2]
  exact List.map_congr_left fun i _ => by show w.take (i + 1) = w.take (1 + i); rw [Nat.add_comm]
theorem back_ok {w : List Nat} (h : ∀ c ∈ w, c < 128) (hs : ∃ c ∈ w, up1 c ≠ c) : bordOf w true = (dueOf w).reverse.flatMap fun b => [b, b] := by
  have h1 := upper_tail h hs
  unfold bordOf
  rw [if_pos rfl]
  have hin : ∀ i, i < w.length → (w.drop i ∈ startsOf w ↔ w.take (w.length - i) = w.drop i) := fun i hi => by
    unfold startsOf
    rw [List.mem_cons]
    constructor
    · rintro (q | q)
      · exact absurd (q ▸ tails_mem.mpr ⟨i, hi, rfl⟩) h1
      · obtain ⟨j, hj, q⟩ := List.mem_map.mp q
        have hl := congrArg List.length q
        have := List.mem_range.mp hj
        rw [List.length_take, List.length_drop] at hl
        rw [← q]; congr 1; lia
    · intro q
      exact .inr (List.mem_map.mpr ⟨w.length - i - 1, List.mem_range.mpr (by lia), by rw [← q]; congr 1; lia⟩)
  have e1 : (tailsOf w).filter (fun x => decide (x ∈ startsOf w)) = ((List.range w.length).filter fun i => decide (w.take (w.length - i) = w.drop i)).flatMap fun i => [w.drop i, w.drop i] := by
    unfold tailsOf
    have : ∀ l : List Nat, (∀ i ∈ l, i < w.length) → (l.flatMap fun i => [w.drop i, w.drop i]).filter (fun x => decide (x ∈ startsOf w)) = (l.filter fun i => decide (w.take (w.length - i) = w.drop i)).flatMap fun i => [w.drop i, w.drop i] := by
      intro l
      induction l with
      | nil => intro _; rfl
      | cons a l ih =>
        intro hl
        have ha := hin a (hl a List.mem_cons_self)
        rw [List.flatMap_cons, List.filter_append, ih fun i hi => hl i (List.mem_cons_of_mem _ hi), List.filter_cons]
        by_cases c : w.take (w.length - a) = w.drop a
        · have := ha.mpr c
          simp [c, this]
        · have : ¬ w.drop a ∈ startsOf w := fun q => c (ha.mp q)
          simp [c, this]
    exact this _ fun i hi => List.mem_range.mp hi
  refine e1.trans ?_
  -- the tails from the longest down are the starts turned round
  have e2 : ((List.range w.length).filter fun i => decide (w.take (w.length - i) = w.drop i)).map (fun i => w.drop i) = (dueOf w).reverse := by
    unfold dueOf bsizes
    rw [← List.map_reverse, ← List.filter_reverse, ← List.map_reverse]
    have e3 : (List.range w.length).reverse.map (fun i => 1 + i) = (List.range w.length).map fun i => w.length - i := by
      apply List.ext_getElem
      · simp
      · intro i h1 h2
        simp at h1
        simp; lia
    rw [e3, List.filter_map, List.map_map]
    have e4 : (List.range w.length).filter ((fun s => decide (w.take s = w.drop (w.length - s))) ∘ fun i => w.length - i) = (List.range w.length).filter fun i => decide (w.take (w.length - i) = w.drop i) := by
      refine List.filter_congr fun i hi => ?_
      have := List.mem_range.mp hi
      show decide (w.take (w.length - i) = w.drop (w.length - (w.length - i))) = _
      rw [show w.length - (w.length - i) = i by lia]
    rw [e4]
    refine List.map_congr_left fun i hi => ?_
    exact (of_decide_eq_true (List.mem_filter.mp hi).2).symm
  rw [← e2, List.flatMap_map]
end Mine
end T33

section T34
open PySem PySem.W PyProof.Rows
set_option Elab.async false
set_option linter.unusedVariables false
set_option maxRecDepth 100000
namespace Mine
noncomputable def qb (c : Nat) : Option (List Nat) := (dPE.find? fun a => a.k == (c : Int)).map fun a => a.x.cps.toList
theorem look_find (i : Int) : ∀ L : List PE, PySem.Spec.lookup (.int i) (L.map fun a => (PyData.int a.k, PyData.str a.x)) = (L.find? fun a => a.k == i).map fun a => .str a.x
  | [] => rfl
  | a :: r => by
    have e : PySem.Spec.same (.int a.k) (.int i) = (a.k == i) := by unfold PySem.Spec.same; rfl
    rw [List.map_cons, List.find?_cons]
    unfold PySem.Spec.lookup
    rw [e]
    cases a.k == i with
    | true => rfl
    | false => exact look_find i r
theorem b3of_qb (c : Nat) : b3of b3D c = (qb c).getD (lowerL [c]) := by
  unfold b3of b3D qb
  rw [look_find]
  cases dPE.find? fun a => a.k == (c : Int) <;> rfl
theorem b3ok_qb (c : Nat) (h : (b3of b3D c).length ≤ 3) : b3ok b3D c = true := by
  have h1 : (lowerL [c]).length ≤ 3 := by
    have := len_lower (strL [c])
    simpa [lowerL, Str.length, strL] using this
  unfold b3ok
  rw [decide_eq_true h1, decide_eq_true h, Bool.and_true, Bool.and_true]
  unfold b3D
  rw [look_find]
  cases dPE.find? fun a => a.k == (c : Int) <;> rfl
theorem fin_low : ((List.range 128).all fun c => decide (qb c = none)) = true := by decide +kernel
theorem fin_font : ((List.range 260).all fun n => decide (qb (fonts.getD (n / 26) 0 + n % 26) = some [97 + n % 26])) = true := by decide +kernel
theorem fin_code : ((List.range 12).all fun n => decide (qb (codes3.getD n 0) = some (texts3.getD n []))) = true := by decide +kernel
theorem low_case (k : Nat) (hk : k < 26) : lowerL [97 + k] = [97 + k] ∧ lowerL [65 + k] = [97 + k] := by
  constructor
  · rw [lower_ok (by simp; omega)]
    simp [lo1]; omega
  · rw [lower_ok (by simp; omega)]
    show [lo1 (65 + k)] = [97 + k]
    unfold lo1; rw [if_pos (by omega)]; congr 1; omega
theorem b3_ok (c : Nat) (h : signT c ≠ []) : b3of b3D (signC c) = signT c := by
  rw [b3of_qb]
  have hk : c / 8 % 26 < 26 := Nat.mod_lt _ (by decide)
  by_cases h1 : c % 8 < 3
  · have eT : signT c = [97 + c / 8 % 26] := by unfold signT; rw [if_pos (by omega)]
    have eC : signC c = (if c % 8 = 2 then 65 else 97) + c / 8 % 26 := by unfold signC; rw [if_pos h1]
    rw [eT, eC]
    have hn : qb ((if c % 8 = 2 then 65 else 97) + c / 8 % 26) = none := by
      have := List.all_eq_true.mp fin_low ((if c % 8 = 2 then 65 else 97) + c / 8 % 26) (List.mem_range.mpr (by split <;> omega))
      exact of_decide_eq_true this
    rw [hn]
    obtain ⟨a, b⟩ := low_case _ hk
    split
    · exact b
    · exact a
  · by_cases h2 : c % 8 < 5
    · have eT : signT c = [97 + c / 8 % 26] := by unfold signT; rw [if_pos h2]
      have eC : signC c = fonts.getD (c / 8 / 26 % 10) 0 + c / 8 % 26 := by unfold signC; rw [if_neg h1, if_pos h2]
      have hj : c / 8 / 26 % 10 < 10 := Nat.mod_lt _ (by decide)
      rw [eT, eC]
      generalize c / 8 / 26 % 10 = j at *
      generalize c / 8 % 26 = k at *
      have := of_decide_eq_true (List.all_eq_true.mp fin_font (j * 26 + k) (List.mem_range.mpr (by omega)))
      rw [show (j * 26 + k) / 26 = j by omega, show (j * 26 + k) % 26 = k by omega] at this
      rw [this]; rfl
    · by_cases h3 : c % 8 < 7
      · have eT : signT c = texts3.getD (c / 8 % 12) [] := by unfold signT; rw [if_neg h2, if_pos h3]
        have eC : signC c = codes3.getD (c / 8 % 12) 0 := by unfold signC; rw [if_neg h1, if_neg h2, if_pos h3]
        rw [eT, eC]
        have := of_decide_eq_true (List.all_eq_true.mp fin_code (c / 8 % 12) (List.mem_range.mpr (Nat.mod_lt _ (by decide))))
        rw [this]; rfl
      · exact absurd (by unfold signT; rw [if_neg h2, if_neg h3]) h
theorem s_low : ((List.range 128).all fun c => !b1S c) = true := by decide +kernel
theorem s_font : ((List.range 260).all fun n => !b1S ((fonts.getD (n / 26) 0 + n % 26 : Nat) : Int)) = true := by decide +kernel
theorem s_code : ((List.range 12).all fun n => !b1S ((codes3.getD n 0 : Nat) : Int) && decide (texts3.getD n [] ≠ [])) = true := by decide +kernel
theorem s_lone : ((List.range 27).all fun n => b1S ((if n < 11 then lone.getD n 0 else 65013 + n : Nat) : Int)) = true := by decide +kernel
theorem b1_ok (c : Nat) : b1S (signC c : Nat) = decide (signT c = []) := by
  have hk : c / 8 % 26 < 26 := Nat.mod_lt _ (by decide)
  by_cases h1 : c % 8 < 3
  · have eT : signT c = [97 + c / 8 % 26] := by unfold signT; rw [if_pos (by omega)]
    have eC : signC c = (if c % 8 = 2 then 65 else 97) + c / 8 % 26 := by unfold signC; rw [if_pos h1]
    have := List.all_eq_true.mp s_low ((if c % 8 = 2 then 65 else 97) + c / 8 % 26) (List.mem_range.mpr (by split <;> omega))
    rw [eC, eT]; simpa using this
  · by_cases h2 : c % 8 < 5
    · have eT : signT c = [97 + c / 8 % 26] := by unfold signT; rw [if_pos h2]
      have eC : signC c = fonts.getD (c / 8 / 26 % 10) 0 + c / 8 % 26 := by unfold signC; rw [if_neg h1, if_pos h2]
      have hj : c / 8 / 26 % 10 < 10 := Nat.mod_lt _ (by decide)
      rw [eT, eC]
      generalize c / 8 / 26 % 10 = j at *
      generalize c / 8 % 26 = k at *
      have := List.all_eq_true.mp s_font (j * 26 + k) (List.mem_range.mpr (by omega))
      rw [show (j * 26 + k) / 26 = j by omega, show (j * 26 + k) % 26 = k by omega] at this
      simpa using this
    · by_cases h3 : c % 8 < 7
      · have eT : signT c = texts3.getD (c / 8 % 12) [] := by unfold signT; rw [if_neg h2, if_pos h3]
        have eC : signC c = codes3.getD (c / 8 % 12) 0 := by unfold signC; rw [if_neg h1, if_neg h2, if_pos h3]
        rw [eT, eC]
        obtain ⟨a, b⟩ := (Bool.and_eq_true _ _).mp (List.all_eq_true.mp s_code (c / 8 % 12) (List.mem_range.mpr (Nat.mod_lt _ (by decide))))
        rw [decide_eq_false (of_decide_eq_true b)]
        simpa using a
      · have eT : signT c = [] := by unfold signT; rw [if_neg h2, if_neg h3]
        have eC : signC c = (if c / 8 % 27 < 11 then lone.getD (c / 8 % 27) 0 else 65013 + c / 8 % 27) := by unfold signC; rw [if_neg h1, if_neg h2, if_neg h3]
        rw [eT, eC]
        have := List.all_eq_true.mp s_lone (c / 8 % 27) (List.mem_range.mpr (Nat.mod_lt _ (by decide)))
        simpa using this
theorem sign_small (c : Nat) : signT c = [] ∨ ∃ x ∈ signT c, up1 x ≠ x := by
  by_cases h2 : c % 8 < 5
  · have eT : signT c = [97 + c / 8 % 26] := by unfold signT; rw [if_pos h2]
    have hk : c / 8 % 26 < 26 := Nat.mod_lt _ (by decide)
    refine .inr ⟨97 + c / 8 % 26, by rw [eT]; exact List.mem_singleton.mpr rfl, ?_⟩
    unfold up1; rw [if_pos (by omega)]; omega
  · by_cases h3 : c % 8 < 7
    · have eT : signT c = texts3.getD (c / 8 % 12) [] := by unfold signT; rw [if_neg h2, if_pos h3]
      rw [eT]
      have h : ((List.range 12).all fun n => (texts3.getD n []).any fun x => decide (up1 x ≠ x)) = true := by decide +kernel
      obtain ⟨x, a, b⟩ := List.any_eq_true.mp (List.all_eq_true.mp h (c / 8 % 12) (List.mem_range.mpr (Nat.mod_lt _ (by decide))))
      exact .inr ⟨x, a, of_decide_eq_true b⟩
    · exact .inl (by unfold signT; rw [if_neg h2, if_neg h3])
theorem word_small (s : List Int) : wordOf s = [] ∨ ∃ x ∈ wordOf s, up1 x ≠ x := by
  unfold wordOf
  generalize laidOf (cellsN s) = cs
  induction cs with
  | nil => exact .inl rfl
  | cons c r ih =>
    rw [List.map_cons, List.flatten_cons]
    rcases sign_small c with h | ⟨x, a, b⟩
    · rw [h]; exact ih
    · exact .inr ⟨x, List.mem_append_left _ a, b⟩
theorem plain3 : Plain3 b1S b3D where
  told := told_ok
  b1 := b1_ok
  b3 := b3_ok
  b3k := fun c h => b3ok_qb _ (by rw [b3_ok c h]; exact signT_len c)
  front := fun s => by
    rcases word_small s with h | h
    · rw [h]; decide +kernel
    · exact front_ok (fun c hc => by have := wordOf_low s c hc; omega) h
  back := fun s => by
    rcases word_small s with h | h
    · rw [h]; decide +kernel
    · exact back_ok (fun c hc => by have := wordOf_low s c hc; omega) h
  two := fun s => by
    by_cases h : wordOf s = []
    · rw [h]; decide +kernel
    · obtain ⟨h1, h2⟩ := two_sizes h
      rw [front_ok (fun c hc => ?_) ⟨115, List.mem_of_getElem? h2, by decide⟩, due_sizes, h1]
      rcases (two_ok (wordOf s)).1 c hc with e | e <;> omega
end Mine
end T34


theorem PySem.Challenge.cw_rs0172_03_holds : PySem.Challenge.rw_rs0172_03.Holds := by
  exact Mine.holds3 Mine.plain3
