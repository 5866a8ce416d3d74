import PyProof.Rows.All
import Wide.All
import OpenK.AllK
import Wide.FinOn
import Lean
import PySem.Challenge.RW_rs0172_02
set_option Elab.async false
section HeadTG
open PySem PySem.W PyProof.Rows
set_option Elab.async false
namespace Mine

section
variable (p : Program) (w : World) (n₀ : Nat) (ann : Option Value)

noncomputable def TG (n : Nat) (s : Shared) (t : Thread) (s' : Shared) (t' : Thread) : Prop :=
  ∀ N r, topRun treeTable p w n₀ ann N s' t' = some r → topRun treeTable p w n₀ ann (n + N) s t = some r

variable {p w n₀ ann}
theorem TG.refl {s t} : TG p w n₀ ann 0 s t s t := fun N r h => by rw [Nat.zero_add]; exact h
theorem TG.trans {n m s t s₁ t₁ s₂ t₂} (h : TG p w n₀ ann n s t s₁ t₁) (k : TG p w n₀ ann m s₁ t₁ s₂ t₂) : TG p w n₀ ann (n + m) s t s₂ t₂ :=
  fun N r e => by rw [Nat.add_assoc]; exact h _ _ (k _ _ e)
theorem TG.mono {n m s t s₁ t₁} (h : TG p w n₀ ann n s t s₁ t₁) (e : n ≤ m) : TG p w n₀ ann m s t s₁ t₁ := fun N r q => by
  have := topRun_mono (m - n) _ _ _ _ (h N r q)
  rwa [show n + N + (m - n) = m + N by lia] at this
theorem TG.step {s t s₁ t₁} (ht : through t = false) (hk : stepOk n₀ ann t = true) (hs : PySem.step (denote treeTable) p w s t = .go s₁ t₁) : TG p w n₀ ann 1 s t s₁ t₁ := fun N r q => by
  rw [show 1 + N = N + 1 by lia]
  unfold topRun
  rw [ht, hk, hs]
  exact q
theorem TG.ofGo {n s t s' t'} (h : topGo treeTable p w n₀ ann n s t = some (s', t')) : TG p w n₀ ann n s t s' t' := fun _ _ k => go_top h k

variable (p w n₀ ann) in
noncomputable def TGx {α : Type} (n : Nat) (x : Sem α) (pos : Pos) (s : Shared) (a : α) (pos' : Pos) (s' : Shared) : Prop :=
  ∀ (K : α → Sem Fin) (H : Value → Sem Fin) (gd : Bool → Bool) (lv : List Value → List Value) (code : Code) (f : Frame) (rest : List Frame),
    TG p w n₀ ann n s ⟨x.wrap K H gd lv, code, pos, f :: rest⟩ s' ⟨K a, code, pos', f :: rest⟩

variable {α β : Type} {n m : Nat} {s s' s₁ : Shared} {pos pos' pos₁ : Pos}

theorem TGx.pure {a : α} : TGx p w n₀ ann 0 (Pure.pure a : Sem α) pos s a pos s := fun _ _ _ _ _ _ _ => .refl
theorem TGx.mono {x : Sem α} {a : α} (h : TGx p w n₀ ann n x pos s a pos' s') (e : n ≤ m) : TGx p w n₀ ann m x pos s a pos' s' := fun K H gd lv code f rest => (h K H gd lv code f rest).mono e
theorem TGx.bind {x : Sem α} {f : α → Sem β} {a : α} {b : β} (h : TGx p w n₀ ann n x pos s a pos₁ s₁) (k : TGx p w n₀ ann m (f a) pos₁ s₁ b pos' s') : TGx p w n₀ ann (n + m) (x >>= f) pos s b pos' s' := fun K H gd lv code fr rest => by
  rw [Sem.bind_eq_wrap', Sem.wrap_wrap]
  exact (h _ _ _ _ code fr rest).trans (k K H gd lv code fr rest)
theorem TGx.bind' {x : Sem α} {f : α → Sem β} {a : α} {b : β} (h : TGx p w n₀ ann n x pos s a pos₁ s₁) (k : TGx p w n₀ ann m (f a) pos₁ s₁ b pos' s') : TGx p w n₀ ann (n + m) (x.bind f) pos s b pos' s' := h.bind k
theorem TGx.load {a : Addr} {part : Option Value} {k : Obj → Sem α} {o : Obj} {r : α} (ho : s.heap.get? a = some o) (h : TGx p w n₀ ann n (k o) pos s r pos' s') : TGx p w n₀ ann (n + 1) (.load a part k) pos s r pos' s' := fun K H gd lv code f rest => by
  rw [Nat.add_comm]
  refine TG.trans (TG.step rfl rfl ?_) (h K H gd lv code f rest)
  obtain ⟨heap, gens, drawn, toks, os⟩ := s
  show PySem.step _ _ _ _ ⟨.load a part _, code, pos, f :: rest⟩ = _
  simp only [PySem.step]
  rw [ho]
theorem TGx.update {a : Addr} {part : Option Value} {g : Obj → Obj} {k : Unit → Sem α} {r : α} (ho : (s.heap.get? a).isSome = true) (ha : n₀ ≤ a) (h : TGx p w n₀ ann n (k ()) pos { s with heap := s.heap.update a g } r pos' s') : TGx p w n₀ ann (n + 1) (.update a part g k) pos s r pos' s' := fun K H gd lv code f rest => by
  rw [Nat.add_comm]
  refine TG.trans (TG.step rfl ?_ ?_) (h K H gd lv code f rest)
  · show (true && (Nat.ble n₀ a || a == mainNs || a == cStatics || ann == some (.ref a))) = true
    rw [Nat.ble_eq_true_of_le ha]; rfl
  · obtain ⟨heap, gens, drawn, toks, os⟩ := s
    show PySem.step _ _ _ _ ⟨.update a part g _, code, pos, f :: rest⟩ = _
    simp only [PySem.step]
    rw [if_pos ho]
theorem TGx.alloc {o : Obj} {k : Addr → Sem α} {r : α} (h : TGx p w n₀ ann n (k s.heap.objs.size) pos { s with heap := s.heap.push o } r pos' s') : TGx p w n₀ ann (n + 1) (.alloc o k) pos s r pos' s' := fun K H gd lv code f rest => by
  rw [Nat.add_comm]
  refine TG.trans (TG.step rfl rfl ?_) (h K H gd lv code f rest)
  obtain ⟨heap, gens, drawn, toks, os⟩ := s
  rfl
theorem TGx.fresh {k : Tok → Sem α} {r : α} (h : TGx p w n₀ ann n (k s.toks) pos { s with toks := s.toks + 1 } r pos' s') : TGx p w n₀ ann (n + 1) (.fresh k) pos s r pos' s' := fun K H gd lv code f rest => by
  rw [Nat.add_comm]
  refine TG.trans (TG.step rfl rfl ?_) (h K H gd lv code f rest)
  obtain ⟨heap, gens, drawn, toks, os⟩ := s
  rfl
theorem TGx.ask {k : Setting → Sem α} {r : α} (h : TGx p w n₀ ann n (k ⟨p, w.params⟩) pos s r pos' s') : TGx p w n₀ ann (n + 1) (.ask k) pos s r pos' s' := fun K H gd lv code f rest => by
  rw [Nat.add_comm]
  refine TG.trans (TG.step rfl rfl ?_) (h K H gd lv code f rest)
  obtain ⟨heap, gens, drawn, toks, os⟩ := s
  rfl
theorem TGx.at {q : Pos} {k : Unit → Sem α} {r : α} (h : TGx p w n₀ ann n (k ()) q s r pos' s') : TGx p w n₀ ann (n + 1) (.at q k) pos s r pos' s' := fun K H gd lv code f rest => by
  rw [Nat.add_comm]
  refine TG.trans (TG.step rfl rfl ?_) (h K H gd lv code f rest)
  obtain ⟨heap, gens, drawn, toks, os⟩ := s
  rfl
theorem TGx.rule {tag : String} {k : Unit → Sem α} {r : α} (h : TGx p w n₀ ann n (k ()) pos s r pos' s') : TGx p w n₀ ann (n + 1) (.rule tag k) pos s r pos' s' := fun K H gd lv code f rest => by
  rw [Nat.add_comm]
  refine TG.trans (TG.step rfl rfl ?_) (h K H gd lv code f rest)
  obtain ⟨heap, gens, drawn, toks, os⟩ := s
  rfl
theorem TGx.keep {vs : List Value} {x : Sem α} {r : α} (h : TGx p w n₀ ann n x pos s r pos' s') : TGx p w n₀ ann n (x.keep vs) pos s r pos' s' := fun K H gd lv code f rest => by
  rw [Sem.keep_eq_wrap, Sem.wrap_wrap]
  exact h _ _ _ _ code f rest
theorem TGx.holding {vs : List Value} {x : Sem α} {r : α} (h : TGx p w n₀ ann n x pos s r pos' s') : TGx p w n₀ ann n (holding vs x) pos s r pos' s' := by
  unfold PySem.holding
  split
  · exact h
  · exact h.keep
theorem TGx.onRaise {g : Value → Sem Unit} {x : Sem α} {r : α} (h : TGx p w n₀ ann n x pos s r pos' s') : TGx p w n₀ ann n (x.onRaise g) pos s r pos' s' := fun K H gd lv code f rest => by
  rw [Sem.onRaise_eq_wrap, Sem.wrap_wrap]
  exact h _ _ _ _ code f rest

-- a call that comes back
variable (p w n₀ ann) in
noncomputable def TGc (n : Nat) (c : Code) (s : Shared) (v : Value) (s' : Shared) : Prop :=
  ∀ (pos : Pos) (k : Result → Sem Fin) (h : Option Value) (g : Bool) (l : List Value) (cd : Code) (p₀ : Pos) (kept : List Value) (f : Frame) (rest : List Frame),
    TG p w n₀ ann n s ⟨denote treeTable c, c, pos, .ret k h g l cd p₀ kept :: f :: rest⟩ s' ⟨k (.ok (.ret v)), cd, p₀, f :: rest⟩
theorem TGx.call {c : Code} {hd : Option Value} {g : Bool} {l : List Value} {k : Result → Sem α} {v : Value} {r : α} (hc : TGc p w n₀ ann n c s v s₁) (h : TGx p w n₀ ann m (k (.ok (.ret v))) pos s₁ r pos' s') : TGx p w n₀ ann (n + m + 1) (.call c hd g l k) pos s r pos' s' := fun K H gd lv code f rest => by
  obtain ⟨heap, gens, drawn, toks, os⟩ := s
  have hs : ∃ kept, PySem.step (denote treeTable) p w ⟨heap, gens, drawn, toks, os⟩ ⟨(Sem.call c hd g l k).wrap K H gd lv, code, pos, f :: rest⟩ =
      .go ⟨heap, gens, drawn, toks, os⟩ ⟨denote treeTable c, c, pos, .ret (fun r => (k r).wrap K H gd lv) hd (gd g) (lv l) code pos kept :: f :: rest⟩ := ⟨_, rfl⟩
  obtain ⟨kept, hs⟩ := hs
  rw [Nat.add_comm]
  exact TG.trans (TG.step rfl rfl hs) ((hc pos _ _ _ _ code pos kept f rest).trans (h K H gd lv code f rest))
end

end Mine

namespace Mine
theorem tgc_int_hash {p w n₀ ann} {k : Int} {t : Tok} {s : Shared} : TGc p w n₀ ann 3 (.call (.builtin "int.__hash__") ⟨[.int k t], []⟩) s (.int (rawHash k) s.toks) { s with toks := s.toks + 1 } := by
  intro pos k' h g l cd p₀ kept f rest
  obtain ⟨heap, gens, drawn, toks, os⟩ := s
  refine TG.ofGo ?_
  show topGo treeTable p w n₀ ann 3 ⟨heap, gens, drawn, toks, os⟩ ⟨denote treeTable (.call (.builtin "int.__hash__") ⟨[.int k t], []⟩), (.call (.builtin "int.__hash__") ⟨[.int k t], []⟩), pos, .ret k' h g l cd p₀ kept :: f :: rest⟩ = some (⟨heap, gens, drawn, toks+1, os⟩, ⟨k' (.ok (.ret (.int (rawHash k) toks))), cd, p₀, f :: rest⟩)
  kernel_rfl

section
variable {p : Program} {w : World} {n₀ : Nat} {ann : Option Value} {α β : Type} {n m : Nat} {s s' s₁ : Shared} {pos pos' pos₁ : Pos}
theorem TGx.tryCatch {g : Value → Sem α} {x : Sem α} {r : α} (h : TGx p w n₀ ann n x pos s r pos' s') : TGx p w n₀ ann n (tryCatch x g) pos s r pos' s' := fun K H gd lv code f rest => by
  show TG p w n₀ ann n s ⟨(Sem.tryCatch x g).wrap K H gd lv, code, pos, f :: rest⟩ s' ⟨K r, code, pos', f :: rest⟩
  rw [Sem.tryCatch_eq_wrap, Sem.wrap_wrap]
  exact h _ _ _ _ code f rest
theorem TGx.bindE {x : Sem α} {f : α → Sem β} {a : α} {b : β} (h : TGx p w n₀ ann n x pos s a pos₁ s₁) (k : TGx p w n₀ ann m (f a) pos₁ s₁ b pos' s') {N : Nat} (e : n + m ≤ N) : TGx p w n₀ ann N (x >>= f) pos s b pos' s' := (h.bind k).mono e

theorem special_int_hash (k : Int) (t : Tok) : specialOf (.int k t) "__hash__" = pure (some (.builtin "int.__hash__")) := by kernel_rfl
theorem tgx_call {f : Value} {args : List Value} {v : Value} (h : TGc p w n₀ ann n (.call f ⟨args, []⟩) s v s') : TGx p w n₀ ann (n + 1) (call f args) pos s v pos s' := by
  refine TGx.mono (n := n + 0 + 1) ?_ (by lia)
  exact TGx.call (k := fun r => ((match r with | .ok f => Sem.pure f | .error e => Sem.raise e) : Sem Flow).bind fun fl => match fl with | .ret v => pure v | _ => unsupported "internal:call-without-return-value") h TGx.pure
theorem tgx_askIf {α : Type} {row : String} {a b : Sem α} {r : α} (ha : TGx p w n₀ ann n a pos s r pos' s') (hb : TGx p w n₀ ann n b pos s r pos' s') :
    TGx p w n₀ ann (n + 1) (ask >>= fun st => if st.params.followText row = true then a else b) pos s r pos' s' := by
  refine TGx.ask (k := fun st => (Sem.pure st).bind fun st => if st.params.followText row = true then a else b) ?_
  show TGx p w n₀ ann n (if w.params.followText row = true then a else b) pos s r pos' s'
  split
  · exact ha
  · exact hb
theorem tgx_callSpecial_int {k : Int} {t : Tok} {r : Sem Value} : TGx p w n₀ ann 5 (callSpecialIfBoundUnlessNone? (.int k t) "__hash__" r) pos s (some (.int (rawHash k) s.toks)) pos { s with toks := s.toks + 1 } := by
  simp only [callSpecialIfBoundUnlessNone?, bindSpecialIfBound?]
  refine TGx.holding ?_
  rw [special_int_hash]
  refine TGx.bindE (n := 1) (m := 4) (a := some (.builtin "int.__hash__", [.int k t])) (s₁ := s) (pos₁ := pos) ?_ ?_ (by lia)
  · refine TGx.bindE (n := 0) (m := 1) TGx.pure ?_ (by lia)
    simp only [slot_int_hash.bind]
    refine TGx.mono (n := 1) (tgx_askIf (n := 0) ?_ ?_) (by lia)
    · exact TGx.pure
    · exact TGx.tryCatch TGx.pure
  · simp only [builtin_beq_none, Bool.false_eq_true, if_false]
    exact TGx.bind (n := 4) (m := 0) (tgx_call (n := 3) tgc_int_hash) TGx.pure
theorem tgx_pyHash_int {k : Int} {t : Tok} : TGx p w n₀ ann 5 (pyHash (.int k t)) pos s (hashInt k) pos { s with toks := s.toks + 1 } := by
  have hr := rawHash_range k
  have hv : [Value.int k t].any Value.onHeap = false := rfl
  unfold pyHash pyHashByItsType
  simp only [special_int_hash]
  refine TGx.bindE (n := 0) (m := 5) (a := ()) (s₁ := s) (pos₁ := pos) ?_ ?_ (by lia)
  · rw [cRoomFor, if_neg (by rw [hv]; exact Bool.false_ne_true)]; exact TGx.pure
  · refine TGx.bindE (n := 0) (m := 5) TGx.pure ?_ (by lia)
    rw [if_neg (by rw [beq_builtin_none]; exact Bool.false_ne_true)]
    refine TGx.bindE (n := 0) (m := 5) TGx.pure ?_ (by lia)
    refine TGx.bindE (n := 5) (m := 0) tgx_callSpecial_int ?_ (by lia)
    show TGx p w n₀ ann 0 (if (decide (-(2 : Int) ^ 63 ≤ rawHash k) && decide (rawHash k < 2 ^ 63)) = true then _ else _) _ _ _ _ _
    rw [if_pos (by rw [decide_eq_true hr.1, decide_eq_true hr.2]; rfl)]
    exact TGx.pure
end
end Mine

namespace Mine

noncomputable def hN (h : Heap) (l : List Obj) : Heap := ⟨h.objs ++ l.toArray, h.life⟩
noncomputable abbrev dObj (es : List DictEntry) (n : Nat) : Obj := { cls := .type "dict", data := .dict es.toArray n }
theorem hN_push (h : Heap) (l : List Obj) (o : Obj) : (hN h l).push o = hN h (l ++ [o]) := by
  obtain ⟨objs, life⟩ := h
  simp [hN, Heap.push]
theorem hN_size (h : Heap) (l : List Obj) : (hN h l).objs.size = h.objs.size + l.length := by simp [hN]
theorem hN_get (h : Heap) {l : List Obj} {i : Nat} {c : Value} {d : Option Addr} {es : Array DictEntry} {n : Nat} {sl : Array (Option Value)} (e : l[i]? = some ⟨c, d, .dict es n, sl⟩) : (hN h l).get? (h.objs.size + i) = some ⟨c, d, .dict es n, sl⟩ := by
  have : (hN h l).objs[h.objs.size + i]? = some ⟨c, d, .dict es n, sl⟩ := by
    show (h.objs ++ l.toArray)[h.objs.size + i]? = _
    rw [Array.getElem?_append_right (by lia)]
    simpa using e
  unfold Heap.get?
  rw [this]
theorem hN_update (h : Heap) (l : List Obj) (i : Nat) (f : Obj → Obj) : (hN h l).update (h.objs.size + i) f = hN h (l.modify i f) := by
  obtain ⟨objs, life⟩ := h
  simp only [hN, Heap.update]
  congr 1
  apply Array.ext_getElem?
  intro j
  rw [Array.getElem?_modify]
  by_cases hj : j < objs.size
  · rw [Array.getElem?_append_left hj, Array.getElem?_append_left hj]
    have : objs.size + i ≠ j := by lia
    simp [this]
  · rw [Array.getElem?_append_right (by lia), Array.getElem?_append_right (by lia)]
    simp only [List.getElem?_toArray, List.getElem?_modify]
    by_cases e : objs.size + i = j
    · subst e; simp
    · have : i ≠ j - objs.size := by lia
      simp [e, this]

section
variable {p : Program} {w : World} {n₀ : Nat} {ann : Option Value} {α β : Type} {n m : Nat} {s s' s₁ : Shared} {pos pos' pos₁ : Pos}

theorem tgx_dictEntries {d : Addr} {part : Option Value} {c : Value} {dd : Option Addr} {es : Array DictEntry} {ep : Nat} {sl : Array (Option Value)} (ho : s.heap.get? d = some ⟨c, dd, .dict es ep, sl⟩) :
    TGx p w n₀ ann 1 (dictEntries d part) pos s es pos s := TGx.load (k := fun o => (Sem.pure o).bind fun o => match o.data with | .dict es _ => pure es | _ => unsupported "internal:not-a-dict") ho TGx.pure
theorem tgx_dictEpoch {d : Addr} {part : Option Value} {c : Value} {dd : Option Addr} {es : Array DictEntry} {ep : Nat} {sl : Array (Option Value)} (ho : s.heap.get? d = some ⟨c, dd, .dict es ep, sl⟩) :
    TGx p w n₀ ann 1 (dictEpoch d part) pos s ep pos s := TGx.load (k := fun o => (Sem.pure o).bind fun o => match o.data with | .dict _ n => pure n | _ => unsupported "internal:not-a-dict") ho TGx.pure

theorem places_none {es : Array DictEntry} {h : Int} (hn : ∀ e ∈ es, e.hash ≠ h) : placesWithHash es.size (fun i => es[i]?.map (·.hash)) h = [] := by
  unfold placesWithHash
  rw [List.filter_eq_nil_iff]
  intro i hi
  have hi' : i < es.size := by simpa using hi
  simp only [hi', getElem?_pos, Option.map_some, beq_iff_eq, Option.some.injEq]
  exact hn _ (Array.getElem_mem hi')

theorem tgx_dictFind_none {d : Addr} {k : Int} {t : Tok} {h : Int} {c : Value} {dd : Option Addr} {es : Array DictEntry} {ep : Nat} {sl : Array (Option Value)} (ho : s.heap.get? d = some ⟨c, dd, .dict es ep, sl⟩)
    (hn : ∀ e ∈ es, e.hash ≠ h) : TGx p w n₀ ann 1 (dictFind d (.int k t) h) pos s none pos s := by
  unfold dictFind
  refine TGx.holding (TGx.bindE (n := 1) (m := 0) (tgx_dictEntries ho) ?_ (by lia))
  dsimp only
  rw [places_none hn]
  exact TGx.pure

theorem tgx_push {d : Addr} {part : Option Value} {x : DictEntry} {c : Value} {dd : Option Addr} {es : Array DictEntry} {ep : Nat} {sl : Array (Option Value)} (ho : s.heap.get? d = some ⟨c, dd, .dict es ep, sl⟩)
    (hd : n₀ ≤ d) (hsz : es.size ≤ 1000) (hnew : (s.heap.update d (Obj.mapDictKeys (·.push x))).get? d = some ⟨c, dd, .dict (es.push x) (ep + 1), sl⟩) :
    TGx p w n₀ ann 3 (updateDictKeys d (·.push x) part) pos s () pos { s with heap := s.heap.update d (Obj.mapDictKeys (·.push x)) } := by
  unfold updateDictKeys
  refine TGx.load (n := 2) (k := fun o => (Sem.pure o).bind fun o => match o.data with | .dict _ _ => (do updatePart d part (Obj.mapDictKeys (·.push x)); lookBehind d part) | _ => unsupported "internal:write-to-non-dict") ho ?_
  show TGx p w n₀ ann 2 (do updatePart d part (Obj.mapDictKeys (·.push x)); lookBehind d part) _ _ _ _ _
  refine TGx.update (n := 1) (k := fun u => (Sem.pure u).bind fun _ => lookBehind d part) (by rw [ho]; rfl) hd ?_
  show TGx p w n₀ ann 1 (lookBehind d part) _ _ _ _ _
  refine TGx.load (n := 0) (k := fun o => (Sem.pure o).bind fun o => if let some what := o.data.pastItsLine then unsupported what else pure ()) hnew ?_
  have hsz' : (es.push x).size = es.size + 1 := Array.size_push ..
  have : (Data.dict (es.push x) (ep + 1)).pastItsLine = none := by
    unfold Data.pastItsLine
    simp only [hsz']
    rw [if_neg]
    rw [sizeLine_eq]; lia
  show TGx p w n₀ ann 0 (if let some what := (Data.dict (es.push x) (ep + 1)).pastItsLine then unsupported what else pure ()) _ _ _ _ _
  rw [this]
  exact TGx.pure

theorem tgx_dictPut {d : Addr} {k : Int} {t : Tok} {h : Int} {v : Value} {c : Value} {dd : Option Addr} {es : Array DictEntry} {ep : Nat} {sl : Array (Option Value)} (ho : s.heap.get? d = some ⟨c, dd, .dict es ep, sl⟩)
    (hn : ∀ e ∈ es, e.hash ≠ h) (hd : n₀ ≤ d) (hsz : es.size ≤ 1000) (hnew : (s.heap.update d (Obj.mapDictKeys (·.push ⟨h, .int k t, v⟩))).get? d = some ⟨c, dd, .dict (es.push ⟨h, .int k t, v⟩) (ep + 1), sl⟩) :
    TGx p w n₀ ann 4 (dictPut d h (.int k t) v) pos s () pos { s with heap := s.heap.update d (Obj.mapDictKeys (·.push ⟨h, .int k t, v⟩)) } := by
  unfold dictPut
  refine TGx.bindE (n := 1) (m := 3) (tgx_dictFind_none ho hn) ?_ (by lia)
  exact tgx_push ho hd hsz hnew

theorem tgx_dictSet {d : Addr} {k : Int} {t t' : Tok} {x : Str} {c : Value} {dd : Option Addr} {es : Array DictEntry} {ep : Nat} {sl : Array (Option Value)} (ho : s.heap.get? d = some ⟨c, dd, .dict es ep, sl⟩)
    (hn : ∀ e ∈ es, e.hash ≠ hashInt k) (hd : n₀ ≤ d) (hsz : es.size ≤ 1000)
    (hnew : (s.heap.update d (Obj.mapDictKeys (·.push ⟨hashInt k, .int k t, .str x t'⟩))).get? d = some ⟨c, dd, .dict (es.push ⟨hashInt k, .int k t, .str x t'⟩) (ep + 1), sl⟩) :
    TGx p w n₀ ann 10 (dictSet d (.int k t) (.str x t')) pos s () pos { s with heap := s.heap.update d (Obj.mapDictKeys (·.push ⟨hashInt k, .int k t, .str x t'⟩)), toks := s.toks + 1 } := by
  unfold dictSet
  refine TGx.holding (TGx.bindE (n := 5) (m := 5) tgx_pyHash_int ?_ (by lia))
  unfold dictSetHashed
  refine TGx.holding (TGx.bindE (n := 1) (m := 4) (tgx_dictFind_none (s := { s with toks := s.toks + 1 }) ho hn) ?_ (by lia))
  refine TGx.rule (n := 3) (k := fun u => (Sem.pure u).bind fun _ => updateDictKeys d (·.push ⟨hashInt k, .int k t, .str x t'⟩) (keyPart (.int k t))) ?_
  exact tgx_push (s := { s with toks := s.toks + 1 }) ho hd hsz hnew
end
end Mine

namespace Mine

theorem upd_push (h : Heap) (l : List Obj) (es : List DictEntry) (n i : Nat) (x : DictEntry) (e : l[i]? = some (dObj es n)) :
    (hN h l).update (h.objs.size + i) (Obj.mapDictKeys (·.push x)) = hN h (l.set i (dObj (es ++ [x]) (n + 1))) := by
  rw [hN_update]
  congr 1
  apply List.ext_getElem?
  intro j
  rw [List.getElem?_modify, List.getElem?_set]
  by_cases q : i = j
  · subst q
    have hl : i < l.length := (List.getElem?_eq_some_iff.mp e).1
    have e' : l[i] = dObj es n := by rw [List.getElem?_eq_getElem hl] at e; exact Option.some.inj e
    simp [e', Obj.mapDictKeys, hl]
  · simp [q]

section
variable {p : Program} {w : World} {n₀ : Nat} {ann : Option Value} {α β : Type} {n m : Nat} {s s' s₁ : Shared} {pos pos' pos₁ : Pos}
variable {h : Heap} {gens : Array GenState} {drawn : Drawn} {toks : Nat} {os : OsState}

theorem tgx_set1 {l : List Obj} {es : List DictEntry} {i ep : Nat} {k : Int} {t t' : Tok} {x : Str} (e : l[i]? = some (dObj es ep)) (hn : ∀ e ∈ es, e.hash ≠ hashInt k) (hd : n₀ ≤ h.objs.size) (hsz : es.length ≤ 1000) :
    TGx p w n₀ ann 10 (dictSet (h.objs.size + i) (.int k t) (.str x t')) pos ⟨hN h l, gens, drawn, toks, os⟩ () pos ⟨hN h (l.set i (dObj (es ++ [⟨hashInt k, .int k t, .str x t'⟩]) (ep + 1))), gens, drawn, toks + 1, os⟩ := by
  have u := upd_push h l es ep i ⟨hashInt k, .int k t, .str x t'⟩ e
  have hl : i < l.length := (List.getElem?_eq_some_iff.mp e).1
  have := tgx_dictSet (p := p) (w := w) (n₀ := n₀) (ann := ann) (pos := pos) (s := ⟨hN h l, gens, drawn, toks, os⟩) (d := h.objs.size + i) (k := k) (t := t) (t' := t') (x := x) (hN_get h e) (by simpa using hn) (by lia) (by simpa using hsz)
    (by dsimp only; rw [u]; have := hN_get h (l := l.set i (dObj (es ++ [⟨hashInt k, .int k t, .str x t'⟩]) (ep + 1))) (i := i) (by rw [List.getElem?_set_self hl]); simpa using this)
  dsimp only at this
  rw [u] at this
  exact this

theorem tgx_put1 {l : List Obj} {es : List DictEntry} {i ep : Nat} {k : Int} {t : Tok} {hh : Int} {v : Value} (e : l[i]? = some (dObj es ep)) (hn : ∀ e ∈ es, e.hash ≠ hh) (hd : n₀ ≤ h.objs.size) (hsz : es.length ≤ 1000) :
    TGx p w n₀ ann 4 (dictPut (h.objs.size + i) hh (.int k t) v) pos ⟨hN h l, gens, drawn, toks, os⟩ () pos ⟨hN h (l.set i (dObj (es ++ [⟨hh, .int k t, v⟩]) (ep + 1))), gens, drawn, toks, os⟩ := by
  have u := upd_push h l es ep i ⟨hh, .int k t, v⟩ e
  have hl : i < l.length := (List.getElem?_eq_some_iff.mp e).1
  have := tgx_dictPut (p := p) (w := w) (n₀ := n₀) (ann := ann) (pos := pos) (s := ⟨hN h l, gens, drawn, toks, os⟩) (d := h.objs.size + i) (k := k) (t := t) (v := v) (h := hh) (hN_get h e) (by simpa using hn) (by lia) (by simpa using hsz)
    (by dsimp only; rw [u]; have := hN_get h (l := l.set i (dObj (es ++ [⟨hh, .int k t, v⟩]) (ep + 1))) (i := i) (by rw [List.getElem?_set_self hl]); simpa using this)
  dsimp only at this
  rw [u] at this
  exact this

-- pairs of constants
structure PE where
  k : Int
  x : Str
  pk : Pos
  px : Pos
noncomputable def PE.key (a : PE) : Expr := .Constant (.int a.k) 0 a.pk
noncomputable def PE.val (a : PE) : Expr := .Constant (.str a.x) 0 a.px
noncomputable def PE.item (env : Env) (q : Pos) (a : PE) : Sem Value × Sem Value := (eval a.key env, eval a.val env >>= fun x => standAt q >>= fun _ => pure x)

theorem tgx_key {a : PE} {env : Env} : TGx p w n₀ ann 1 (eval a.key env) pos ⟨h, gens, drawn, toks, os⟩ (.int a.k toks) pos ⟨h, gens, drawn, toks + 1, os⟩ :=
  TGx.fresh (s := ⟨h, gens, drawn, toks, os⟩) (k := fun t => (Sem.pure t).bind fun t => (pure (Value.int a.k t) : Sem Value)) TGx.pure
theorem tgx_val {a : PE} {env : Env} {q : Pos} : TGx p w n₀ ann 2 (eval a.val env >>= fun x => standAt q >>= fun _ => pure x) pos ⟨h, gens, drawn, toks, os⟩ (.str a.x toks) q ⟨h, gens, drawn, toks + 1, os⟩ := by
  refine TGx.bindE (n := 1) (m := 1) (s₁ := ⟨h, gens, drawn, toks + 1, os⟩) (pos₁ := pos) (TGx.fresh (s := ⟨h, gens, drawn, toks, os⟩) (k := fun t => (Sem.pure t).bind fun t => (pure (Value.str a.x t) : Sem Value)) TGx.pure) ?_ (by lia)
  exact TGx.at (n := 0) (k := fun u => (Sem.pure u).bind fun _ => (pure (Value.str a.x toks) : Sem Value)) TGx.pure

noncomputable def ents (st t : Nat) : List PE → List DictEntry
  | [] => []
  | a :: r => ⟨hashInt a.k, .int a.k t, .str a.x (t + 1)⟩ :: ents st (t + st) r
theorem ents_length (st : Nat) : ∀ (t : Nat) (l : List PE), (ents st t l).length = l.length
  | _, [] => rfl
  | t, _ :: r => by simp [ents, ents_length st (t + st) r]

/-- the hashes of what is still to come are new -/
noncomputable def Ahead (es : List DictEntry) : List PE → Prop
  | [] => True
  | a :: r => (∀ e ∈ es, e.hash ≠ hashInt a.k) ∧ (∀ b ∈ r, hashInt a.k ≠ hashInt b.k) ∧ Ahead es r
theorem Ahead.snoc {es : List DictEntry} {x : DictEntry} : ∀ {r : List PE}, Ahead es r → (∀ b ∈ r, x.hash ≠ hashInt b.k) → Ahead (es ++ [x]) r
  | [], _, _ => trivial
  | a :: r, H, q => ⟨fun e he => by
      rcases List.mem_append.mp he with he | he
      · exact H.1 e he
      · rw [List.mem_singleton.mp he]; exact q a (.head _), H.2.1, H.2.2.snoc fun b hb => q b (.tail _ hb)⟩

theorem tgx_setLoop {env : Env} {q : Pos} {i : Nat} (hd : n₀ ≤ h.objs.size) : ∀ (c : List PE) (l : List Obj) (es : List DictEntry) (ep toks : Nat) (pos : Pos), l[i]? = some (dObj es ep) → Ahead es c → es.length + c.length ≤ 1000 →
    ∃ pos', TGx p w n₀ ann (16 * c.length) (forIn (c.map (PE.item env q)) PUnit.unit fun (x : Sem Value × Sem Value) (_ : PUnit) => (do
        let kv ← x.1
        let vv ← holding [kv] x.2
        holding [kv, vv] (dictSet (h.objs.size + i) kv vv)
        pure (ForInStep.yield PUnit.unit) : Sem (ForInStep PUnit))) pos ⟨hN h l, gens, drawn, toks, os⟩ PUnit.unit pos' ⟨hN h (l.set i (dObj (es ++ ents 3 toks c) (ep + c.length))), gens, drawn, toks + 3 * c.length, os⟩
  | [], l, es, ep, toks, pos, e, _, _ => ⟨pos, by
      have hl : i < l.length := (List.getElem?_eq_some_iff.mp e).1
      have : l.set i (dObj es ep) = l := by
        apply List.ext_getElem?
        intro j
        rw [List.getElem?_set]
        by_cases q : i = j
        · subst q
          have e' : l[i] = dObj es ep := by rw [List.getElem?_eq_getElem hl] at e; exact Option.some.inj e
          simp [hl, e']
        · simp [q]
      simp only [ents, List.append_nil, List.length_nil, Nat.add_zero, Nat.mul_zero, this]
      exact TGx.pure⟩
  | a :: c, l, es, ep, toks, pos, e, H, hsz => by
      have hl : i < l.length := (List.getElem?_eq_some_iff.mp e).1
      rw [List.length_cons] at hsz
      obtain ⟨pos', k⟩ := tgx_setLoop (env := env) (q := q) hd c (l.set i (dObj (es ++ [⟨hashInt a.k, .int a.k toks, .str a.x (toks + 1)⟩]) (ep + 1))) (es ++ [⟨hashInt a.k, .int a.k toks, .str a.x (toks + 1)⟩]) (ep + 1) (toks + 3) q
        (by rw [List.getElem?_set_self hl]) (H.2.2.snoc H.2.1) (by simp; lia)
      refine ⟨pos', ?_⟩
      rw [List.map_cons, List.forIn_cons]
      refine TGx.bindE (n := 14) (m := 16 * c.length) (a := ForInStep.yield PUnit.unit) (pos₁ := q) (s₁ := ⟨hN h (l.set i (dObj (es ++ [⟨hashInt a.k, .int a.k toks, .str a.x (toks + 1)⟩]) (ep + 1))), gens, drawn, toks + 3, os⟩) ?_ ?_ (by simp; lia)
      · refine TGx.bindE (n := 1) (m := 13) (tgx_key (env := env)) ?_ (by lia)
        refine TGx.bindE (n := 2) (m := 11) (TGx.holding tgx_val) ?_ (by lia)
        refine TGx.bindE (n := 10) (m := 0) (TGx.holding (tgx_set1 e H.1 hd (by lia))) ?_ (by lia)
        exact TGx.pure
      · dsimp only
        rw [List.set_set] at k
        have e1 : es ++ [⟨hashInt a.k, .int a.k toks, .str a.x (toks + 1)⟩] ++ ents 3 (toks + 3) c = es ++ ents 3 toks (a :: c) := by simp [ents]
        have e2 : ep + 1 + c.length = ep + (a :: c).length := by simp; lia
        have e3 : toks + 3 + 3 * c.length = toks + 3 * (a :: c).length := by simp; lia
        rw [e1, e2, e3] at k
        exact k
end
end Mine

namespace Mine
section
variable {p : Program} {w : World} {n₀ : Nat} {ann : Option Value} {α β : Type} {n m : Nat} {s s' s₁ : Shared} {pos pos' pos₁ : Pos}
variable {h : Heap} {gens : Array GenState} {drawn : Drawn} {toks : Nat} {os : OsState}

theorem tgx_subDict {env : Env} {q : Pos} {c : List PE} {l : List Obj} (hd : n₀ ≤ h.objs.size) (hc : 15 < c.length) (hc' : c.length ≤ 1000) (H : Ahead [] c) :
    ∃ pos', TGx p w n₀ ann (16 * c.length + 2) (subDict (c.map (PE.item env q))) pos ⟨hN h l, gens, drawn, toks, os⟩ (h.objs.size + l.length) pos'
      ⟨hN h (l ++ [dObj (ents 3 toks c) c.length]), gens, drawn, toks + 3 * c.length, os⟩ := by
  obtain ⟨pos', k⟩ := tgx_setLoop (p := p) (w := w) (n₀ := n₀) (ann := ann) (h := h) (gens := gens) (drawn := drawn) (os := os) (env := env) (q := q) (i := l.length) hd c (l ++ [dObj [] 0]) [] 0 toks pos (by simp) H (by simpa using hc')
  have e : (l ++ [dObj [] 0]).set l.length (dObj ([] ++ ents 3 toks c) (0 + c.length)) = l ++ [dObj (ents 3 toks c) c.length] := by simp
  rw [e] at k
  refine ⟨pos', ?_⟩
  unfold subDict
  refine TGx.bindE (n := 1) (m := 16 * c.length + 1) (a := h.objs.size + l.length) (pos₁ := pos) (s₁ := ⟨hN h (l ++ [dObj [] 0]), gens, drawn, toks, os⟩) ?_ ?_ (by lia)
  · have := TGx.alloc (p := p) (w := w) (n₀ := n₀) (ann := ann) (n := 0) (pos := pos) (pos' := pos) (s := ⟨hN h l, gens, drawn, toks, os⟩) (o := dObj [] 0) (k := Sem.pure) (r := h.objs.size + l.length) (s' := ⟨hN h (l ++ [dObj [] 0]), gens, drawn, toks, os⟩) (by
      dsimp only
      rw [hN_push, hN_size]
      exact TGx.pure)
    exact this
  · refine TGx.bindE (n := 16 * c.length + 1) (m := 0) (a := ()) (pos₁ := pos') (s₁ := ⟨hN h (l ++ [dObj (ents 3 toks c) c.length]), gens, drawn, toks + 3 * c.length, os⟩) (TGx.holding ?_) ?_ (by lia)
    rotate_left
    · exact TGx.pure
    rw [if_neg (by simpa using hc)]
    refine TGx.rule (n := 16 * c.length) (k := fun u => (Sem.pure u).bind fun _ => (do for (k, v) in c.map (PE.item env q) do
        let kv ← k
        let vv ← holding [kv] v
        holding [kv, vv] (dictSet (h.objs.size + l.length) kv vv) : Sem Unit)) ?_
    show TGx p w n₀ ann (16 * c.length) (forIn (c.map (PE.item env q)) PUnit.unit _ >>= fun _ => (pure () : Sem Unit)) _ _ _ _ _
    refine TGx.bindE (n := 16 * c.length) (m := 0) k ?_ (by lia)
    exact TGx.pure

noncomputable def items (env : Env) (q : Pos) (c : List PE) : List (Option (Sem Value) × Sem Value) := c.map fun a => (some (eval a.key env), eval a.val env >>= fun x => standAt q >>= fun _ => pure x)
theorem items_zip (env : Env) (q : Pos) : ∀ c : List PE, (evalEachOpt (c.map fun a => some a.key) env).zip ((evalEach (c.map PE.val) env).map fun v => do let x ← v; standAt q; pure x) = items env q c
  | [] => rfl
  | a :: c => by
    have := items_zip env q c
    simp only [List.map_cons, evalEachOpt, evalOpt, evalEach, List.zip_cons_cons, items] at this ⊢
    rw [this]

-- the merge of a made dict
theorem tgx_isDict {sub : Addr} {d : Option Addr} {es : Array DictEntry} {ep : Nat} {sl : Array (Option Value)} (ho : s.heap.get? sub = some ⟨.type "dict", d, .dict es ep, sl⟩) :
    TGx p w n₀ ann 1 (isInstance (.ref sub) (.type "dict")) pos s true pos s := by
  unfold isInstance
  refine TGx.bindE (n := 1) (m := 0) (a := .type "dict") (pos₁ := pos) (s₁ := s) (TGx.load (k := fun o => (Sem.pure o).bind fun o => (pure o.cls : Sem Value)) ho TGx.pure) ?_ (by lia)
  have : isSubtype (.type "dict") (.type "dict") = pure true := by kernel_rfl
  rw [this]
  exact TGx.pure
theorem tgx_dictIter {sub : Addr} {d : Option Addr} {es : Array DictEntry} {ep : Nat} {sl : Array (Option Value)} (ho : s.heap.get? sub = some ⟨.type "dict", d, .dict es ep, sl⟩) :
    TGx p w n₀ ann 1 (specialOf (.ref sub) "__iter__") pos s (some (.builtin "dict.__iter__")) pos s := by
  unfold specialOf
  refine TGx.bindE (n := 1) (m := 0) (a := .type "dict") (pos₁ := pos) (s₁ := s) (TGx.load (k := fun o => (Sem.pure o).bind fun o => (pure o.cls : Sem Value)) ho TGx.pure) ?_ (by lia)
  have : typeLookup (.type "dict") "__iter__" = pure (some (.builtin "dict.__iter__")) := by kernel_rfl
  rw [this]
  exact TGx.pure

end
end Mine

namespace Mine
section
variable {p : Program} {w : World} {n₀ : Nat} {ann : Option Value} {α β : Type} {n m : Nat} {s s' s₁ : Shared} {pos pos' pos₁ : Pos}
variable {h : Heap} {gens : Array GenState} {drawn : Drawn} {toks : Nat} {os : OsState}
theorem tgx_mergeLoop {st i j sep : Nat} {ses : List DictEntry} (hij : i ≠ j) (hd : n₀ ≤ h.objs.size) : ∀ (c : List PE) (pre : List DictEntry) (t : Nat) (l : List Obj) (es : List DictEntry) (ep : Nat), ses = pre ++ ents st t c → l[i]? = some (dObj es ep) → l[j]? = some (dObj ses sep) → Ahead es c → es.length + c.length ≤ 1000 →
    TGx p w n₀ ann (7 * c.length) (forIn (List.range' pre.length c.length) PUnit.unit fun (ix : Nat) (_ : PUnit) => (do
        match (← dictEntries (h.objs.size + j))[ix]? with
        | some e => do
          holding [e.key, e.val] (do
            if false = true then
              if (← dictFind (h.objs.size + i) e.key e.hash).isSome then rule "dict.merge.duplicate-key"; raiseNew (← newExc (.type "KeyError") [e.key])
            dictPut (h.objs.size + i) e.hash e.key e.val)
          if (← dictEpoch (h.objs.size + j)) != sep then unsupported "dict.changed-during-merge"
          pure (ForInStep.yield PUnit.unit)
        | _ => do
          unsupported "dict.changed-during-merge"
          pure (ForInStep.yield PUnit.unit) : Sem (ForInStep PUnit))) pos ⟨hN h l, gens, drawn, toks, os⟩ PUnit.unit pos ⟨hN h (l.set i (dObj (es ++ ents st t c) (ep + c.length))), gens, drawn, toks, os⟩
  | [], pre, t, l, es, ep, _, e, _, _, _ => by
      have hl : i < l.length := (List.getElem?_eq_some_iff.mp e).1
      have : l.set i (dObj es ep) = l := by
        apply List.ext_getElem?
        intro j
        rw [List.getElem?_set]
        by_cases q : i = j
        · subst q
          have e' : l[i] = dObj es ep := by rw [List.getElem?_eq_getElem hl] at e; exact Option.some.inj e
          simp [hl, e']
        · simp [q]
      simp only [ents, List.append_nil, List.length_nil, Nat.add_zero, Nat.mul_zero, this]
      exact TGx.pure
  | a :: c, pre, t, l, es, ep, hs, e, ej, H, hsz => by
      have hl : i < l.length := (List.getElem?_eq_some_iff.mp e).1
      rw [List.length_cons] at hsz
      have hx : ses[pre.length]? = some ⟨hashInt a.k, .int a.k t, .str a.x (t + 1)⟩ := by rw [hs]; simp [ents]
      have k := tgx_mergeLoop (st := st) (ses := ses) (sep := sep) hij hd c (pre ++ [⟨hashInt a.k, .int a.k t, .str a.x (t + 1)⟩]) (t + st) (l.set i (dObj (es ++ [⟨hashInt a.k, .int a.k t, .str a.x (t + 1)⟩]) (ep + 1))) (es ++ [⟨hashInt a.k, .int a.k t, .str a.x (t + 1)⟩]) (ep + 1)
        (by rw [hs]; simp [ents]) (by rw [List.getElem?_set_self hl]) (by rw [List.getElem?_set_ne hij]; exact ej) (H.2.2.snoc H.2.1) (by simp; lia)
      rw [List.length_cons, List.range'_succ, List.forIn_cons]
      refine TGx.bindE (n := 7) (m := 7 * c.length) (a := ForInStep.yield PUnit.unit) (pos₁ := pos) (s₁ := ⟨hN h (l.set i (dObj (es ++ [⟨hashInt a.k, .int a.k t, .str a.x (t + 1)⟩]) (ep + 1))), gens, drawn, toks, os⟩) ?_ ?_ (by lia)
      · refine TGx.bindE (n := 1) (m := 6) (tgx_dictEntries (hN_get h ej)) ?_ (by lia)
        have hx' : ses.toArray[pre.length]? = some ⟨hashInt a.k, .int a.k t, .str a.x (t + 1)⟩ := by simpa using hx
        rw [hx']
        dsimp only
        refine TGx.bindE (n := 4) (m := 1) (a := ()) (pos₁ := pos) (s₁ := ⟨hN h (l.set i (dObj (es ++ [⟨hashInt a.k, .int a.k t, .str a.x (t + 1)⟩]) (ep + 1))), gens, drawn, toks, os⟩) (TGx.holding ?_) ?_ (by lia)
        · show TGx p w n₀ ann 4 (if false = true then _ else dictPut _ _ _ _) _ _ _ _ _
          rw [if_neg Bool.false_ne_true]
          exact tgx_put1 e H.1 hd (by lia)
        · refine TGx.bindE (n := 1) (m := 0) (tgx_dictEpoch (hN_get h (by rw [List.getElem?_set_ne hij]; exact ej))) ?_ (by lia)
          rw [if_neg (by simp)]
          exact TGx.pure
      · dsimp only
        rw [List.set_set] at k
        have e1 : es ++ [⟨hashInt a.k, .int a.k t, .str a.x (t + 1)⟩] ++ ents st (t + st) c = es ++ ents st t (a :: c) := by simp [ents]
        have e2 : ep + 1 + c.length = ep + (a :: c).length := by simp; lia
        rw [e1, e2] at k
        have e3 : (pre ++ [(⟨hashInt a.k, .int a.k t, .str a.x (t + 1)⟩ : DictEntry)]).length = pre.length + 1 := by simp
        rw [e3] at k
        exact k

theorem tgx_merge {st i j : Nat} {c : List PE} {t sep : Nat} {l : List Obj} {es : List DictEntry} {ep : Nat} (hij : i ≠ j) (hd : n₀ ≤ h.objs.size) (h2 : 2 ≤ h.objs.size) (e : l[i]? = some (dObj es ep)) (ej : l[j]? = some (dObj (ents st t c) sep)) (hne : es ≠ []) (H : Ahead es c)
    (hsz : es.length + c.length ≤ 1000) :
    TGx p w n₀ ann (7 * c.length + 5) (mergeMapping (h.objs.size + i) (.ref (h.objs.size + j)) false) pos ⟨hN h l, gens, drawn, toks, os⟩ () pos ⟨hN h (l.set i (dObj (es ++ ents st t c) (ep + c.length))), gens, drawn, toks, os⟩ := by
  have k := tgx_mergeLoop (p := p) (w := w) (n₀ := n₀) (ann := ann) (h := h) (gens := gens) (drawn := drawn) (os := os) (pos := pos) (toks := toks) (sep := sep) hij hd c [] t l es ep rfl e ej H hsz
  rw [List.length_nil, ← List.range_eq_range'] at k
  unfold mergeMapping
  refine TGx.bindE (n := 1) (m := 7 * c.length + 4) (a := true) (pos₁ := pos) (s₁ := ⟨hN h l, gens, drawn, toks, os⟩) (tgx_isDict (s := ⟨hN h l, gens, drawn, toks, os⟩) (hN_get h ej)) ?_ (by lia)
  rw [if_pos rfl]
  refine TGx.bindE (n := 1) (m := 7 * c.length + 3) (pos₁ := pos) (s₁ := ⟨hN h l, gens, drawn, toks, os⟩) (tgx_dictIter (s := ⟨hN h l, gens, drawn, toks, os⟩) (hN_get h ej)) ?_ (by lia)
  have hb : (some (Value.builtin "dict.__iter__") == some (Value.builtin "dict.__iter__")) = true := by decide
  rw [hb]
  refine TGx.bindE (n := 0) (m := 7 * c.length + 3) TGx.pure ?_ (by lia)
  · dsimp only
    have hs : ((h.objs.size + j) == sysModules) = false := by
      rw [beq_eq_false_iff_ne]
      show h.objs.size + j ≠ 1
      lia
    rw [hs]
    rw [if_neg Bool.false_ne_true]
    refine TGx.bindE (n := 1) (m := 7 * c.length + 2) (tgx_dictEntries (hN_get h e)) ?_ (by lia)
    rw [if_neg (by simpa using hne)]
    refine TGx.bindE (n := 1) (m := 7 * c.length + 1) (tgx_dictEntries (hN_get h ej)) ?_ (by lia)
    refine TGx.bindE (n := 1) (m := 7 * c.length) (tgx_dictEpoch (hN_get h ej)) ?_ (by lia)
    have hz : (ents st t c).toArray.size = c.length := by simp [ents_length]
    rw [hz]
    show TGx p w n₀ ann (7 * c.length) (forIn (List.range c.length) PUnit.unit _ >>= fun _ => (pure () : Sem Unit)) _ _ _ _ _
    refine TGx.bindE (n := 7 * c.length) (m := 0) k ?_ (by lia)
    exact TGx.pure
end
end Mine

namespace Mine
section
variable {p : Program} {w : World} {n₀ : Nat} {ann : Option Value} {α β : Type} {n m : Nat} {s s' s₁ : Shared} {pos pos' pos₁ : Pos}
variable {h : Heap} {gens : Array GenState} {drawn : Drawn} {toks : Nat} {os : OsState}

-- the short road
noncomputable def valsP (t : Nat) : List PE → List (Value × Value)
  | [] => []
  | a :: r => (.int a.k t, .str a.x (t + 1)) :: valsP (t + 2) r
theorem tgx_evalPairs {env : Env} {q : Pos} : ∀ (c : List PE) (toks : Nat) (pos : Pos), ∃ pos', TGx p w n₀ ann (3 * c.length) (evalPairs (c.map (PE.item env q))) pos ⟨h, gens, drawn, toks, os⟩ (valsP toks c) pos' ⟨h, gens, drawn, toks + 2 * c.length, os⟩
  | [], toks, pos => ⟨pos, TGx.pure⟩
  | a :: c, toks, pos => by
    obtain ⟨pos', k⟩ := tgx_evalPairs (env := env) (q := q) c (toks + 2) q
    refine ⟨pos', ?_⟩
    rw [List.map_cons]
    show TGx p w n₀ ann (3 * (a :: c).length) (evalPairs ((eval a.key env, (PE.item env q a).2) :: c.map (PE.item env q))) _ _ _ _ _
    rw [evalPairs]
    refine TGx.bindE (n := 1) (m := 2 + 3 * c.length) (tgx_key (env := env)) ?_ (by simp; lia)
    refine TGx.bindE (n := 2) (m := 3 * c.length) (TGx.holding tgx_val) ?_ (by lia)
    refine TGx.bindE (n := 3 * c.length) (m := 0) (TGx.holding k) ?_ (by lia)
    have e : toks + 2 + 2 * c.length = toks + 2 * (a :: c).length := by simp; lia
    rw [e]
    exact TGx.pure
theorem tgx_setLoop2 {i : Nat} (hd : n₀ ≤ h.objs.size) : ∀ (c : List PE) (t : Nat) (l : List Obj) (es : List DictEntry) (ep toks : Nat), l[i]? = some (dObj es ep) → Ahead es c → es.length + c.length ≤ 1000 →
    TGx p w n₀ ann (10 * c.length) (forIn (valsP t c) PUnit.unit fun (x : Value × Value) (_ : PUnit) => (do
        dictSet (h.objs.size + i) x.1 x.2
        pure (ForInStep.yield PUnit.unit) : Sem (ForInStep PUnit))) pos ⟨hN h l, gens, drawn, toks, os⟩ PUnit.unit pos ⟨hN h (l.set i (dObj (es ++ ents 2 t c) (ep + c.length))), gens, drawn, toks + c.length, os⟩
  | [], t, l, es, ep, toks, e, _, _ => by
      have hl : i < l.length := (List.getElem?_eq_some_iff.mp e).1
      have : l.set i (dObj es ep) = l := by
        apply List.ext_getElem?
        intro j
        rw [List.getElem?_set]
        by_cases q : i = j
        · subst q
          have e' : l[i] = dObj es ep := by rw [List.getElem?_eq_getElem hl] at e; exact Option.some.inj e
          simp [hl, e']
        · simp [q]
      simp only [ents, List.append_nil, List.length_nil, Nat.add_zero, Nat.mul_zero, this]
      exact TGx.pure
  | a :: c, t, l, es, ep, toks, e, H, hsz => by
      have hl : i < l.length := (List.getElem?_eq_some_iff.mp e).1
      rw [List.length_cons] at hsz
      have k := tgx_setLoop2 hd c (t + 2) (l.set i (dObj (es ++ [⟨hashInt a.k, .int a.k t, .str a.x (t + 1)⟩]) (ep + 1))) (es ++ [⟨hashInt a.k, .int a.k t, .str a.x (t + 1)⟩]) (ep + 1) (toks + 1)
        (by rw [List.getElem?_set_self hl]) (H.2.2.snoc H.2.1) (by simp; lia)
      rw [valsP, List.forIn_cons]
      refine TGx.bindE (n := 10) (m := 10 * c.length) (a := ForInStep.yield PUnit.unit) (pos₁ := pos) (s₁ := ⟨hN h (l.set i (dObj (es ++ [⟨hashInt a.k, .int a.k t, .str a.x (t + 1)⟩]) (ep + 1))), gens, drawn, toks + 1, os⟩) ?_ ?_ (by simp; lia)
      · refine TGx.bindE (n := 10) (m := 0) (tgx_set1 e H.1 hd (by lia)) ?_ (by lia)
        exact TGx.pure
      · dsimp only
        rw [List.set_set] at k
        have e1 : es ++ [⟨hashInt a.k, .int a.k t, .str a.x (t + 1)⟩] ++ ents 2 (t + 2) c = es ++ ents 2 t (a :: c) := by simp [ents]
        have e2 : ep + 1 + c.length = ep + (a :: c).length := by simp; lia
        have e3 : toks + 1 + c.length = toks + (a :: c).length := by simp; lia
        rw [e1, e2, e3] at k
        exact k
theorem tgx_subShort {env : Env} {q : Pos} {c : List PE} {l : List Obj} (hd : n₀ ≤ h.objs.size) (hc : c.length ≤ 15) (H : Ahead [] c) :
    ∃ pos', TGx p w n₀ ann (13 * c.length + 2) (subDict (c.map (PE.item env q))) pos ⟨hN h l, gens, drawn, toks, os⟩ (h.objs.size + l.length) pos'
      ⟨hN h (l ++ [dObj (ents 2 toks c) c.length]), gens, drawn, toks + 3 * c.length, os⟩ := by
  obtain ⟨pos', k1⟩ := tgx_evalPairs (p := p) (w := w) (n₀ := n₀) (ann := ann) (h := hN h (l ++ [dObj [] 0])) (gens := gens) (drawn := drawn) (os := os) (env := env) (q := q) c toks pos
  have k2 := tgx_setLoop2 (p := p) (w := w) (n₀ := n₀) (ann := ann) (h := h) (gens := gens) (drawn := drawn) (os := os) (pos := pos') (i := l.length) hd c toks (l ++ [dObj [] 0]) [] 0 (toks + 2 * c.length) (by simp) H (by simp; lia)
  have e : (l ++ [dObj [] 0]).set l.length (dObj ([] ++ ents 2 toks c) (0 + c.length)) = l ++ [dObj (ents 2 toks c) c.length] := by simp
  rw [e, show toks + 2 * c.length + c.length = toks + 3 * c.length by lia] at k2
  refine ⟨pos', ?_⟩
  unfold subDict
  refine TGx.bindE (n := 1) (m := 13 * c.length + 1) (a := h.objs.size + l.length) (pos₁ := pos) (s₁ := ⟨hN h (l ++ [dObj [] 0]), gens, drawn, toks, os⟩) ?_ ?_ (by lia)
  · have := TGx.alloc (p := p) (w := w) (n₀ := n₀) (ann := ann) (n := 0) (pos := pos) (pos' := pos) (s := ⟨hN h l, gens, drawn, toks, os⟩) (o := dObj [] 0) (k := Sem.pure) (r := h.objs.size + l.length) (s' := ⟨hN h (l ++ [dObj [] 0]), gens, drawn, toks, os⟩) (by
      dsimp only
      rw [hN_push, hN_size]
      exact TGx.pure)
    exact this
  · refine TGx.bindE (n := 13 * c.length + 1) (m := 0) (a := ()) (pos₁ := pos') (s₁ := ⟨hN h (l ++ [dObj (ents 2 toks c) c.length]), gens, drawn, toks + 3 * c.length, os⟩) (TGx.holding ?_) ?_ (by lia)
    rotate_left
    · exact TGx.pure
    rw [if_pos (by simpa using hc)]
    refine TGx.bindE (n := 3 * c.length) (m := 10 * c.length + 1) k1 (TGx.holding ?_) (by lia)
    show TGx p w n₀ ann (10 * c.length + 1) (forIn (valsP toks c) PUnit.unit _ >>= fun _ => (pure () : Sem Unit)) _ _ _ _ _
    refine TGx.bindE (n := 10 * c.length) (m := 1) k2 ?_ (by lia)
    exact TGx.pure.mono (by lia)

-- the display
noncomputable def flushD (run : List (Sem Value × Sem Value)) (main : Option Addr) : Sem (Option Addr) := do
    if run.isEmpty then return main
    match main with
    | none => return some (← subDict run)
    | some d =>
      let sub ← holding [.ref d] (subDict run)
      (holding [.ref d, .ref sub] (mergeMapping d (.ref sub) false)).onRaise fun x => do let _ ← holding [.ref d, x] (runValue (.builtin "proto.let_go" {}))
      return some d
noncomputable def itm (env : Env) (q : Pos) (a : PE) : Option (Sem Value) × Sem Value := (some (eval a.key env), eval a.val env >>= fun x => standAt q >>= fun _ => pure x)
noncomputable abbrev DSt := Option Addr × List (Sem Value × Sem Value)
theorem display_form : ∃ B : Option (Sem Value) × Sem Value → DSt → Sem (ForInStep DSt),
    (∀ xs, dictDisplay xs = (forIn xs ((none, []) : DSt) B >>= fun s => flushD s.2 s.1 >>= fun r => match r with | some d => pure (.ref d) | none => newDict)) ∧
    ∀ (k v : Sem Value) (main : Option Addr) (run : List (Sem Value × Sem Value)), B (some k, v) (main, run) =
      if ((run ++ [(k, v)]).length == 17) = true then (flushD (run ++ [(k, v)]) main >>= fun m => pure (ForInStep.yield (m, []))) else pure (ForInStep.yield (main, run ++ [(k, v)])) := ⟨_, fun _ => rfl, fun _ _ _ _ => rfl⟩

theorem tgx_chunk {B : Option (Sem Value) × Sem Value → DSt → Sem (ForInStep DSt)} {env : Env} {q : Pos}
    (hB : ∀ (k v : Sem Value) (main : Option Addr) (run : List (Sem Value × Sem Value)), B (some k, v) (main, run) =
      if ((run ++ [(k, v)]).length == 17) = true then (flushD (run ++ [(k, v)]) main >>= fun m => pure (ForInStep.yield (m, []))) else pure (ForInStep.yield (main, run ++ [(k, v)])))
    {main m' : Option Addr} {rest : List (Option (Sem Value) × Sem Value)} {r : DSt} {nF nR : Nat} : ∀ (c : List PE) (run : List (Sem Value × Sem Value)), c ≠ [] → run.length + c.length = 17 →
      TGx p w n₀ ann nF (flushD (run ++ c.map (PE.item env q)) main) pos s m' pos₁ s₁ → TGx p w n₀ ann nR (forIn rest ((m', []) : DSt) B) pos₁ s₁ r pos' s' →
      TGx p w n₀ ann (nF + nR) (forIn (c.map (itm env q) ++ rest) ((main, run) : DSt) B) pos s r pos' s'
  | [], _, hne, _, _, _ => absurd rfl hne
  | a :: c, run, _, hl, hF, hR => by
    rw [List.map_cons, List.cons_append, List.forIn_cons]
    have hb : B (itm env q a) (main, run) = _ := hB _ _ main run
    rw [hb]
    cases c with
    | nil =>
      have : ((run ++ [(eval a.key env, eval a.val env >>= fun x => standAt q >>= fun _ => pure x)]).length == 17) = true := by simp at hl ⊢; lia
      rw [if_pos this]
      refine TGx.bindE (n := nF) (m := nR) (a := ForInStep.yield (m', [])) (pos₁ := pos₁) (s₁ := s₁) ?_ ?_ (by lia)
      · refine TGx.bindE (n := nF) (m := 0) hF ?_ (by lia)
        exact TGx.pure
      · exact hR
    | cons b c =>
      have : ¬ ((run ++ [(eval a.key env, eval a.val env >>= fun x => standAt q >>= fun _ => pure x)]).length == 17) = true := by simp at hl ⊢; lia
      rw [if_neg this]
      refine TGx.bindE (n := 0) (m := nF + nR) TGx.pure ?_ (by lia)
      dsimp only
      refine tgx_chunk hB (b :: c) _ (by simp) (by simp at hl ⊢; lia) ?_ hR
      simpa [PE.item] using hF
theorem tgx_gather {B : Option (Sem Value) × Sem Value → DSt → Sem (ForInStep DSt)} {env : Env} {q : Pos}
    (hB : ∀ (k v : Sem Value) (main : Option Addr) (run : List (Sem Value × Sem Value)), B (some k, v) (main, run) =
      if ((run ++ [(k, v)]).length == 17) = true then (flushD (run ++ [(k, v)]) main >>= fun m => pure (ForInStep.yield (m, []))) else pure (ForInStep.yield (main, run ++ [(k, v)])))
    {main : Option Addr} : ∀ (c : List PE) (run : List (Sem Value × Sem Value)), run.length + c.length < 17 →
      TGx p w n₀ ann 0 (forIn (c.map (itm env q)) ((main, run) : DSt) B) pos s (main, run ++ c.map (PE.item env q)) pos s
  | [], run, _ => by rw [List.map_nil, List.forIn_nil, List.map_nil, List.append_nil]; exact TGx.pure
  | a :: c, run, hl => by
    rw [List.map_cons, List.forIn_cons]
    have hb : B (itm env q a) (main, run) = _ := hB _ _ main run
    rw [hb]
    have : ¬ ((run ++ [(eval a.key env, eval a.val env >>= fun x => standAt q >>= fun _ => pure x)]).length == 17) = true := by simp at hl ⊢; lia
    rw [if_neg this]
    refine TGx.bindE (n := 0) (m := 0) TGx.pure ?_ (by lia)
    dsimp only
    have := tgx_gather (main := main) (env := env) (q := q) hB c (run ++ [(eval a.key env, eval a.val env >>= fun x => standAt q >>= fun _ => pure x)]) (by simp at hl ⊢; lia)
    simpa [PE.item] using this
end
end Mine

namespace Mine
theorem Ahead.weak {es es' : List DictEntry} (h : ∀ e ∈ es', e ∈ es) : ∀ {c : List PE}, Ahead es c → Ahead es' c
  | [], _ => trivial
  | _ :: _, H => ⟨fun e he => H.1 e (h e he), H.2.1, H.2.2.weak h⟩
theorem Ahead.nil {es : List DictEntry} {c : List PE} (H : Ahead es c) : Ahead [] c := H.weak fun _ h => absurd h List.not_mem_nil
theorem Ahead.left {es : List DictEntry} {b : List PE} : ∀ {a : List PE}, Ahead es (a ++ b) → Ahead es a
  | [], _ => trivial
  | _ :: _, H => ⟨H.1, fun y hy => H.2.1 y (List.mem_append_left _ hy), H.2.2.left⟩
theorem Ahead.right {st : Nat} {b : List PE} : ∀ {a : List PE} {es : List DictEntry} (t : Nat), Ahead es (a ++ b) → Ahead (es ++ ents st t a) b
  | [], es, t, H => by simpa [ents] using H
  | x :: a, es, t, H => by
    have : Ahead (es ++ [⟨hashInt x.k, .int x.k t, .str x.x (t + 1)⟩]) (a ++ b) := Ahead.snoc H.2.2 fun y hy => H.2.1 y hy
    have := Ahead.right (st := st) (t + st) this
    simpa [ents] using this
theorem ents_append (st : Nat) : ∀ (a b : List PE) (t : Nat), ents st t (a ++ b) = ents st t a ++ ents st (t + st * a.length) b
  | [], b, t => by simp [ents]
  | x :: a, b, t => by
    simp only [List.cons_append, ents, ents_append st a b (t + st), List.length_cons]
    congr 3
    rw [Nat.mul_succ]; lia

noncomputable def subsOf (t : Nat) : List (List PE) → List Obj
  | [] => []
  | c :: cs => dObj (ents 3 t c) c.length :: subsOf (t + 3 * c.length) cs

section
variable {p : Program} {w : World} {n₀ : Nat} {ann : Option Value} {α β : Type} {n m : Nat} {s s' s₁ : Shared} {pos pos' pos₁ : Pos}
variable {h : Heap} {gens : Array GenState} {drawn : Drawn} {toks : Nat} {os : OsState}

theorem tgx_flush_more {env : Env} {q : Pos} {c : List PE} {es : List DictEntry} {subs : List Obj} {ep st nS : Nat} (hd : n₀ ≤ h.objs.size) (h2 : 2 ≤ h.objs.size) (hne : es ≠ []) (H : Ahead es c) (hc : c ≠ []) (hsz : es.length + c.length ≤ 1000)
    (hS : ∃ pos', TGx p w n₀ ann nS (subDict (c.map (PE.item env q))) pos ⟨hN h (dObj es ep :: subs), gens, drawn, toks, os⟩ (h.objs.size + (subs.length + 1)) pos'
      ⟨hN h ((dObj es ep :: subs) ++ [dObj (ents st toks c) c.length]), gens, drawn, toks + 3 * c.length, os⟩) :
    ∃ pos', TGx p w n₀ ann (nS + (7 * c.length + 5)) (flushD (c.map (PE.item env q)) (some h.objs.size)) pos ⟨hN h (dObj es ep :: subs), gens, drawn, toks, os⟩ (some h.objs.size) pos'
      ⟨hN h (dObj (es ++ ents st toks c) (ep + c.length) :: (subs ++ [dObj (ents st toks c) c.length])), gens, drawn, toks + 3 * c.length, os⟩ := by
  obtain ⟨pos', hS⟩ := hS
  refine ⟨pos', ?_⟩
  unfold flushD
  rw [if_neg (by cases c with | nil => exact absurd rfl hc | cons => simp)]
  dsimp only
  refine TGx.bindE (n := nS) (m := 7 * c.length + 5) (TGx.holding hS) ?_ (by lia)
  have k := tgx_merge (p := p) (w := w) (n₀ := n₀) (ann := ann) (h := h) (gens := gens) (drawn := drawn) (os := os) (pos := pos') (toks := toks + 3 * c.length) (st := st) (i := 0) (j := subs.length + 1) (c := c) (t := toks) (sep := c.length)
    (l := (dObj es ep :: subs) ++ [dObj (ents st toks c) c.length]) (es := es) (ep := ep) (by lia) hd h2 (by simp) (by simp) hne H hsz
  refine TGx.bindE (n := 7 * c.length + 5) (m := 0) (TGx.onRaise (TGx.holding k)) ?_ (by lia)
  exact TGx.pure
theorem tgx_flush_first {env : Env} {q : Pos} {c : List PE} (hd : n₀ ≤ h.objs.size) (H : Ahead [] c) (hc : 15 < c.length) (hc' : c.length ≤ 1000) :
    ∃ pos', TGx p w n₀ ann (16 * c.length + 2) (flushD (c.map (PE.item env q)) none) pos ⟨hN h [], gens, drawn, toks, os⟩ (some h.objs.size) pos'
      ⟨hN h [dObj (ents 3 toks c) c.length], gens, drawn, toks + 3 * c.length, os⟩ := by
  obtain ⟨pos', k⟩ := tgx_subDict (p := p) (w := w) (n₀ := n₀) (ann := ann) (h := h) (gens := gens) (drawn := drawn) (os := os) (pos := pos) (toks := toks) (env := env) (q := q) (l := []) hd hc hc' H
  refine ⟨pos', ?_⟩
  unfold flushD
  rw [if_neg (by cases c with | nil => simp at hc | cons => simp)]
  dsimp only
  refine TGx.bindE (n := 16 * c.length + 2) (m := 0) k ?_ (by lia)
  exact TGx.pure

theorem tgx_chunks {B : Option (Sem Value) × Sem Value → DSt → Sem (ForInStep DSt)} {env : Env} {q : Pos}
    (hB : ∀ (k v : Sem Value) (main : Option Addr) (run : List (Sem Value × Sem Value)), B (some k, v) (main, run) =
      if ((run ++ [(k, v)]).length == 17) = true then (flushD (run ++ [(k, v)]) main >>= fun m => pure (ForInStep.yield (m, []))) else pure (ForInStep.yield (main, run ++ [(k, v)])))
    (hd : n₀ ≤ h.objs.size) (h2 : 2 ≤ h.objs.size) {tl : List PE} (htl' : tl.length ≤ 15) : ∀ (cs : List (List PE)) (es : List DictEntry) (subs : List Obj) (ep toks : Nat) (pos : Pos), (∀ c ∈ cs, c.length = 17) → es ≠ [] → Ahead es cs.flatten → es.length + cs.flatten.length ≤ 1000 →
    ∃ pos', TGx p w n₀ ann (23 * cs.flatten.length + 7 * cs.length) (forIn (cs.flatten.map (itm env q) ++ tl.map (itm env q)) ((some h.objs.size, []) : DSt) B) pos ⟨hN h (dObj es ep :: subs), gens, drawn, toks, os⟩ (some h.objs.size, tl.map (PE.item env q)) pos'
      ⟨hN h (dObj (es ++ ents 3 toks cs.flatten) (ep + cs.flatten.length) :: (subs ++ subsOf toks cs)), gens, drawn, toks + 3 * cs.flatten.length, os⟩
  | [], es, subs, ep, toks, pos, _, hne, H, hsz => by
    have hg := tgx_gather (p := p) (w := w) (n₀ := n₀) (ann := ann) (pos := pos) (s := ⟨hN h (dObj es ep :: subs), gens, drawn, toks, os⟩) (env := env) (q := q) hB (main := some h.objs.size) tl [] (by simp; lia)
    refine ⟨pos, ?_⟩
    simpa [ents, subsOf] using hg
  | c :: cs, es, subs, ep, toks, pos, h17, hne, H, hsz => by
    have hc : c.length = 17 := h17 c (.head _)
    have hcn : c ≠ [] := by intro e; rw [e] at hc; simp at hc
    simp only [List.flatten_cons, List.length_append] at H hsz
    have hs := tgx_subDict (p := p) (w := w) (n₀ := n₀) (ann := ann) (h := h) (gens := gens) (drawn := drawn) (os := os) (pos := pos) (toks := toks) (env := env) (q := q) (c := c) (l := dObj es ep :: subs) hd (by lia) (by lia) H.left.nil
    obtain ⟨pos₁, k⟩ := tgx_flush_more (p := p) (w := w) (n₀ := n₀) (ann := ann) (h := h) (gens := gens) (drawn := drawn) (os := os) (pos := pos) (toks := toks) (env := env) (q := q) (c := c) (es := es) (subs := subs) (ep := ep) (st := 3) hd h2 hne H.left hcn (by lia) hs
    obtain ⟨pos', r⟩ := tgx_chunks hB hd h2 htl' cs (es ++ ents 3 toks c) (subs ++ [dObj (ents 3 toks c) c.length]) (ep + c.length) (toks + 3 * c.length) pos₁ (fun x hx => h17 x (.tail _ hx)) (by simp [hne]) (H.right toks) (by simp only [ents_length, List.length_append]; lia)
    refine ⟨pos', ?_⟩
    have z := tgx_chunk (p := p) (w := w) (n₀ := n₀) (ann := ann) hB c [] hcn (by simp [hc]) (by simpa using k) r
    simp only [List.flatten_cons, List.map_append, List.append_assoc, List.length_append, List.length_cons]
    have e1 : es ++ ents 3 toks c ++ ents 3 (toks + 3 * c.length) cs.flatten = es ++ ents 3 toks (c ++ cs.flatten) := by rw [ents_append]; simp
    have e2 : subs ++ [dObj (ents 3 toks c) c.length] ++ subsOf (toks + 3 * c.length) cs = subs ++ subsOf toks (c :: cs) := by simp [subsOf]
    have e3 : ep + c.length + cs.flatten.length = ep + (c.length + cs.flatten.length) := by lia
    have e4 : toks + 3 * c.length + 3 * cs.flatten.length = toks + 3 * (c.length + cs.flatten.length) := by lia
    rw [e1, e2, e3, e4] at z
    exact z.mono (by lia)

/-- the dict display of constants, whole -/
theorem tgx_display {env : Env} {q : Pos} (hd : n₀ ≤ h.objs.size) (h2 : 2 ≤ h.objs.size) {c tl : List PE} {cs : List (List PE)} (hc : c.length = 17) (hcs : ∀ x ∈ cs, x.length = 17) (htl : tl ≠ []) (htl' : tl.length ≤ 15)
    (H : Ahead [] (c ++ (cs.flatten ++ tl))) (hsz : 17 + cs.flatten.length + tl.length ≤ 1000) :
    ∃ pos', TGx p w n₀ ann (40000) (dictDisplay ((c ++ (cs.flatten ++ tl)).map (itm env q))) pos ⟨hN h [], gens, drawn, toks, os⟩ (.ref h.objs.size) pos'
      ⟨hN h (dObj (ents 3 toks (c ++ cs.flatten) ++ ents 2 (toks + 3 * (17 + cs.flatten.length)) tl) (17 + cs.flatten.length + tl.length) :: (subsOf (toks + 51) cs ++ [dObj (ents 2 (toks + 3 * (17 + cs.flatten.length)) tl) tl.length])),
        gens, drawn, toks + 3 * (17 + cs.flatten.length + tl.length), os⟩ := by
  obtain ⟨B, hB0, hB⟩ := display_form
  have hcn : c ≠ [] := by intro e; rw [e] at hc; simp at hc
  have H1 := H.right (st := 3) toks
  have H2 := H1.right (st := 3) (toks + 51)
  obtain ⟨pos₁, k1⟩ := tgx_flush_first (p := p) (w := w) (n₀ := n₀) (ann := ann) (h := h) (gens := gens) (drawn := drawn) (os := os) (pos := pos) (toks := toks) (env := env) (q := q) (c := c) hd H.left (by lia) (by lia)
  obtain ⟨pos₂, k2⟩ := tgx_chunks (p := p) (w := w) (n₀ := n₀) (ann := ann) (h := h) (gens := gens) (drawn := drawn) (os := os) (env := env) (q := q) hB hd h2 htl' cs (ents 3 toks c) [] c.length (toks + 3 * c.length) pos₁ hcs (by cases c with | nil => exact absurd rfl hcn | cons => simp [ents]) (by simpa using H1.left) (by simp only [ents_length, List.length_append]; lia)
  have z := tgx_chunk (p := p) (w := w) (n₀ := n₀) (ann := ann) hB c [] hcn (by simp [hc]) (by simpa using k1) k2
  have hs := tgx_subShort (p := p) (w := w) (n₀ := n₀) (ann := ann) (h := h) (gens := gens) (drawn := drawn) (os := os) (pos := pos₂) (toks := toks + 3 * c.length + 3 * cs.flatten.length) (env := env) (q := q) (c := tl) (l := dObj (ents 3 toks c ++ ents 3 (toks + 3 * c.length) cs.flatten) (c.length + cs.flatten.length) :: ([] ++ subsOf (toks + 3 * c.length) cs)) hd htl' (H2.nil)
  obtain ⟨pos', k3⟩ := tgx_flush_more (p := p) (w := w) (n₀ := n₀) (ann := ann) (h := h) (gens := gens) (drawn := drawn) (os := os) (pos := pos₂) (toks := toks + 3 * c.length + 3 * cs.flatten.length) (env := env) (q := q) (c := tl) (es := ents 3 toks c ++ ents 3 (toks + 3 * c.length) cs.flatten) (subs := [] ++ subsOf (toks + 3 * c.length) cs) (ep := c.length + cs.flatten.length) (st := 2) hd h2
    (by cases c with | nil => exact absurd rfl hcn | cons => simp [ents]) (by rw [hc]; simpa using H2) htl (by simp only [ents_length, List.length_append]; lia) hs
  refine ⟨pos', ?_⟩
  rw [hB0]
  simp only [List.map_append]
  have hb : 16 * c.length + 2 + (23 * cs.flatten.length + 7 * cs.length) + (13 * tl.length + 2 + (7 * tl.length + 5)) ≤ 40000 := by
    have : cs.length ≤ cs.flatten.length := by
      clear k1 k2 z hs k3 hB hB0 H H1 H2 hsz
      induction cs with
      | nil => simp
      | cons x cs ih =>
        have := hcs x (.head _)
        have := ih fun y hy => hcs y (.tail _ hy)
        simp only [List.length_cons, List.flatten_cons, List.length_append]; lia
    lia
  refine TGx.bindE (n := 16 * c.length + 2 + (23 * cs.flatten.length + 7 * cs.length)) (m := 13 * tl.length + 2 + (7 * tl.length + 5)) z ?_ hb
  refine TGx.bindE (n := 13 * tl.length + 2 + (7 * tl.length + 5)) (m := 0) k3 ?_ (by lia)
  have e1 : ents 3 toks c ++ ents 3 (toks + 3 * c.length) cs.flatten = ents 3 toks (c ++ cs.flatten) := by rw [ents_append]
  rw [e1]
  simp only [hc, List.nil_append]
  have e2 : toks + 3 * 17 + 3 * cs.flatten.length = toks + 3 * (17 + cs.flatten.length) := by lia
  have e3 : toks + 3 * (17 + cs.flatten.length) + 3 * tl.length = toks + 3 * (17 + cs.flatten.length + tl.length) := by lia
  rw [e2, e3]
  exact TGx.pure
end
end Mine
end HeadTG

section HeadD
open PySem PySem.W PyProof.Rows
set_option Elab.async false
namespace Mine
/-! the dict's statement, from the text's own terms -/
noncomputable def peOf : Option Expr × Expr → PE
  | (some (.Constant (.int k) _ pk), .Constant (.str x) _ px) => ⟨k, x, pk, px⟩
  | _ => ⟨0, ⟨#[]⟩, default, default⟩
noncomputable def chop : Nat → List PE → List (List PE)
  | 0, _ => []
  | n + 1, l => l.take 17 :: chop n (l.drop 17)
noncomputable def incrB : Int → List PE → Bool
  | _, [] => true
  | lo, a :: r => decide (lo < a.k) && (decide (a.k < 1000000) && incrB a.k r)
theorem hashInt_small {k : Int} (h0 : 0 ≤ k) (h1 : k < 1000000) : hashInt k = k := by
  have e : rawHash k = k := by
    simp only [rawHash]
    have h2 : (k.natAbs : Int) % ((2 ^ 61 - 1 : Nat) : Int) = k := by lia
    rw [h2, if_neg (show ¬ k < 0 by lia), if_neg (by simp; lia)]
  unfold hashInt
  rw [e, if_neg (by simp; lia)]
theorem incr_gt : ∀ {l : List PE} {lo : Int}, incrB lo l = true → ∀ b ∈ l, lo < b.k ∧ b.k < 1000000
  | a :: r, lo, h, b, hb => by
    simp only [incrB, Bool.and_eq_true, decide_eq_true_eq] at h
    rcases List.mem_cons.mp hb with rfl | hb
    · exact ⟨h.1, h.2.1⟩
    · have := incr_gt h.2.2 b hb
      exact ⟨by lia, this.2⟩
theorem ahead_of_incr {es : List DictEntry} : ∀ {l : List PE} {lo : Int}, 0 ≤ lo → incrB lo l = true → (∀ e ∈ es, e.hash ≤ lo) → Ahead es l
  | [], _, _, _, _ => trivial
  | a :: r, lo, h0, h, he => by
    have g := incr_gt h
    simp only [incrB, Bool.and_eq_true, decide_eq_true_eq] at h
    have ga := g a (.head _)
    have ha := hashInt_small (k := a.k) (by lia) ga.2
    refine ⟨fun e hm => ?_, fun b hb => ?_, ahead_of_incr (lo := a.k) (by lia) h.2.2 fun e hm => ?_⟩
    · have := he e hm; lia
    · have gb := incr_gt h.2.2 b hb
      rw [ha, hashInt_small (by lia) gb.2]; lia
    · have := he e hm; lia
theorem list38 {α : Type} (d : α) (l : List α) (h : l.length = 38) : l = (List.range 38).map fun i => l.getD i d := by
  apply List.ext_getElem?
  intro i
  by_cases hi : i < 38
  · simp [List.getElem?_range, hi, h]
  · rw [List.getElem?_eq_none (by lia), List.getElem?_eq_none (by simp; lia)]
theorem subsOf_length : ∀ (cs : List (List PE)) (t : Nat), (subsOf t cs).length = cs.length
  | [], _ => rfl
  | _ :: cs, t => by simp [subsOf, subsOf_length cs]
theorem chop_length : ∀ (n : Nat) (l : List PE), (chop n l).length = n
  | 0, _ => rfl
  | n + 1, l => by simp [chop, chop_length n]
theorem chop_flatten : ∀ (n : Nat) (l : List PE), (chop n l).flatten ++ l.drop (17 * n) = l
  | 0, l => by simp [chop]
  | n + 1, l => by
    have := chop_flatten n (l.drop 17)
    simp only [chop, List.flatten_cons, List.append_assoc]
    rw [List.drop_drop] at this
    rw [show 17 * (n + 1) = 17 + 17 * n by lia, this, List.take_append_drop]
theorem chop_17 : ∀ (n : Nat) (l : List PE), 17 * n ≤ l.length → ∀ c ∈ chop n l, c.length = 17
  | 0, _, _, c, hc => by simp [chop] at hc
  | n + 1, l, h, c, hc => by
    rcases List.mem_cons.mp hc with rfl | hc
    · simp; lia
    · exact chop_17 n (l.drop 17) (by simp; lia) c hc

section
variable {p : Program} {w : World} {ann : Option Value}
/-- the whole display of 650 constants -/
theorem tgx_650 {env : Env} {q pos : Pos} {h : Heap} {gens : Array GenState} {drawn : Drawn} {toks : Nat} {os : OsState} {L : List PE} (hL : L.length = 650) (hinc : incrB 0 L = true) (hd : 11 ≤ h.objs.size) :
    ∃ pos', TGx p w 11 ann 40000 (dictDisplay (L.map (itm env q))) pos ⟨hN h [], gens, drawn, toks, os⟩ (.ref h.objs.size) pos'
      ⟨hN h (dObj (ents 3 toks (L.take 17 ++ (chop 37 (L.drop 17)).flatten) ++ ents 2 (toks + 3 * 646) (L.drop 646)) 650 :: (subsOf (toks + 51) (chop 37 (L.drop 17)) ++ [dObj (ents 2 (toks + 3 * 646) (L.drop 646)) 4])),
        gens, drawn, toks + 1950, os⟩ := by
  have e1 : (chop 37 (L.drop 17)).flatten ++ L.drop 646 = L.drop 17 := by
    have := chop_flatten 37 (L.drop 17)
    rwa [List.drop_drop] at this
  have e2 : L.take 17 ++ ((chop 37 (L.drop 17)).flatten ++ L.drop 646) = L := by rw [e1, List.take_append_drop]
  have l1 : (chop 37 (L.drop 17)).flatten.length = 629 := by
    have := congrArg List.length e1
    simp only [List.length_append, List.length_drop, hL] at this
    lia
  have l2 : (L.drop 646).length = 4 := by simp [hL]
  have H : Ahead [] (L.take 17 ++ ((chop 37 (L.drop 17)).flatten ++ L.drop 646)) := by rw [e2]; exact ahead_of_incr (lo := 0) (by lia) hinc (fun e he => absurd he List.not_mem_nil)
  obtain ⟨pos', k⟩ := tgx_display (p := p) (w := w) (n₀ := 11) (ann := ann) (h := h) (gens := gens) (drawn := drawn) (os := os) (pos := pos) (toks := toks) (env := env) (q := q) hd (by lia) (c := L.take 17) (tl := L.drop 646) (cs := chop 37 (L.drop 17))
    (by simp [hL]) (chop_17 37 _ (by simp [hL])) (by intro e; rw [e] at l2; simp at l2) (by lia) H (by lia)
  refine ⟨pos', ?_⟩
  rw [e2] at k
  simp only [l1, l2] at k
  exact k
end
end Mine
end HeadD

section C0
open PySem PySem.W PyProof.Rows
set_option Elab.async false
set_option linter.unusedVariables false
namespace Mine
/-! ## the heap never shrinks -/
noncomputable abbrev hsz (s : Shared) : Nat := s.heap.objs.size
theorem hsz_push {s : Shared} {o : Obj} : (s.heap.push o).objs.size = hsz s + 1 := Heap.size_push _ _
theorem hsz_update {s : Shared} {a : Addr} {f : Obj → Obj} : (s.heap.update a f).objs.size = hsz s := by
  show (Heap.update s.heap a f).objs.size = _
  show _ = s.heap.objs.size
  generalize s.heap = h
  cases h
  exact Array.size_modify
theorem runs_size {M : Model} {Γ : Ctx} {p : Pos} {t : Sem Fin} {fs : List Frame} {s s' : Shared} {e : End} (h : Runs M Γ p t fs s e s') : hsz s ≤ hsz s' := by
  induction h <;> (try simp only [Shared.setGen, hsz, hsz_push, hsz_update] at *) <;> lia
theorem wakes_size {M : Model} {Γ : Ctx} {p : Pos} {g : Nat} {r : Resume} {s s' : Shared} {res : GenResult} (h : Wakes M Γ p g r s res s') : hsz s ≤ hsz s' := by
  unfold Wakes at h
  split at h
  · exact h.elim
  · split at h
    · obtain ⟨_, s₁, hr, _, _, rfl⟩ := h; exact (runs_size hr : hsz (s.setGen g .running) ≤ hsz s₁)
    · rw [h.2]; exact Nat.le_refl _
    · rw [h.2]; exact Nat.le_refl _
  · obtain ⟨_, s₁, hr, _, _, rfl⟩ := h; exact (runs_size hr : hsz (s.setGen g .running) ≤ hsz s₁)
  · rw [h.2]; exact Nat.le_refl _
  · rw [h.2]; exact Nat.le_refl _
theorem wp_size {α : Type} (M : Model) (Γ : Ctx) (n : Nat) (t : Sem α) : ∀ (Q : α → Pos → Shared → Prop) (E : Value → Pos → Shared → Prop) (p : Pos) (s : Shared), n ≤ hsz s → Sem.wp M Γ t Q E p s →
    Sem.wp M Γ t (fun a p' s' => n ≤ hsz s' ∧ Q a p' s') (fun e p' s' => n ≤ hsz s' ∧ E e p' s') p s := by
  induction t with
  | pure _ | raise _ => intro Q E p s g h; exact ⟨g, h⟩
  | unsupported _ | finish _ | register _ _ | yield _ _ _ _ | fork _ _ | await _ _ _ _ _ => intro Q E p s _ h; exact h
  | rule _ k ih | point _ k ih => intro Q E p s g h; exact ih () Q E p s g h
  | «at» p' k ih => intro Q E p s g h; exact ih () Q E p' s g h
  | load a _ k ih => intro Q E p s g h; obtain ⟨o, ho, h⟩ := h; exact ⟨o, ho, ih o Q E p s g h⟩
  | update a _ f k ih => intro Q E p s g h; exact ⟨h.1, ih () Q E p _ (by show n ≤ (s.heap.update a f).objs.size; rw [hsz_update]; exact g) h.2⟩
  | loadIfAlive _ k ih | handled _ k ih | stack k ih | thread k ih | ask k ih => intro Q E p s g h; exact ih _ Q E p s g h
  | alloc o k ih => intro Q E p s g h; exact ih _ Q E p _ (by show n ≤ (s.heap.push o).objs.size; rw [hsz_push]; exact Nat.le_succ_of_le g) h
  | fresh k ih | newGen _ k ih | os _ _ k ih => intro Q E p s g h; exact ih _ Q E p _ g h
  | choose _ _ k ih => intro Q E p s g h; exact ⟨h.1, ih _ Q E p _ g h.2⟩
  | call c hd _ _ k ih => intro Q E p s g h; obtain ⟨r, s', hr, h⟩ := h; exact ⟨r, s', hr, ih r Q E p s' (Nat.le_trans g (runs_size hr)) h⟩
  | genState _ k ih => intro Q E p s g h; obtain ⟨st, hs, h⟩ := h; exact ⟨st, hs, ih _ Q E p s g h⟩
  | resume _ r _ k ih => intro Q E p s g h; obtain ⟨res, s', hw, h⟩ := h; exact ⟨res, s', hw, ih res Q E p s' (Nat.le_trans g (wakes_size hw)) h⟩
theorem with_size {α : Type} {M : Model} {A : Around} {s : Shared} {t : Sem α} {Q : α → Shared → Prop} {E : Value → Shared → Prop}
    (h : wpAny M A t (fun a s' => hsz s ≤ hsz s' → Q a s') (fun e s' => hsz s ≤ hsz s' → E e s') s) : wpAny M A t Q E s :=
  wpAny_mono (Q := fun a s' => hsz s ≤ hsz s' ∧ (hsz s ≤ hsz s' → Q a s')) (E := fun e s' => hsz s ≤ hsz s' ∧ (hsz s ≤ hsz s' → E e s'))
    (fun Γ p hΓ => wp_size M Γ (hsz s) t (fun a _ s' => hsz s ≤ hsz s' → Q a s') (fun e _ s' => hsz s ≤ hsz s' → E e s') p s (Nat.le_refl _) (h Γ p hΓ)) (fun _ _ x => x.2 x.1) (fun _ _ x => x.2 x.1)
end Mine
end C0

section C1
open PySem PySem.W PyProof.Rows
set_option Elab.async false
set_option linter.unusedVariables false
namespace Mine

/-- data, as the walk sees it; a str is the list of its code points -/
inductive PV where
  | none
  | bool (b : Bool)
  | int (i : Int)
  | str (x : List Nat)
  | list (xs : List PV)
  | tuple (xs : List PV)
  | raw (v : Value)
  | ext (t : Nat) (x : List (List Nat))
  | slice (l u st : Option Int)
  | range (a b c : Int)

noncomputable abbrev Ext := Nat → List (List Nat) → (Addr → Prop) → Heap → Value → Prop

mutual
/-- the value v reads as d in the heap h; what it is made of lies outside P -/
inductive Rd (X : Ext) (P : Addr → Prop) (h : Heap) : Value → PV → Prop
  | none : Rd X P h .none .none
  | bool (b) : Rd X P h (.bool b) (.bool b)
  | int (i t) : Rd X P h (.int i t) (.int i)
  | str (x : Str) (t) : Rd X P h (.str x t) (.str x.cps.toList)
  | list {a vs n ds} : ¬ P a → h.get? a = some { cls := .type "list", data := .seq vs n } → RdL X P h vs.toList ds → Rd X P h (.ref a) (.list ds)
  | tuple {a vs n ds} : ¬ P a → h.get? a = some { cls := .type "tuple", data := .seq vs n } → RdL X P h vs.toList ds → Rd X P h (.ref a) (.tuple ds)
  | raw (v) : Rd X P h v (.raw v)
  | ext {t x v} : X t x P h v → Rd X P h v (.ext t x)
  | slice {a vl vu vs l u st} : ¬ P a → h.get? a = some { cls := .type "slice", data := .fields #[vl, vu, vs] } → IsPart vl l → IsPart vu u → IsPart vs st → Rd X P h (.ref a) (.slice l u st)
  | range {r a b c t u v} : ¬ P r → IsRange h r a b c t u v → Rd X P h (.ref r) (.range a b c)
inductive RdL (X : Ext) (P : Addr → Prop) (h : Heap) : List Value → List PV → Prop
  | nil : RdL X P h [] []
  | cons {v vs d ds} : Rd X P h v d → RdL X P h vs ds → RdL X P h (v :: vs) (d :: ds)
end

/-- from (P, h) to (P', h') everything outside P stands, and stays outside P' -/
noncomputable def Pass (P : Addr → Prop) (h : Heap) (P' : Addr → Prop) (h' : Heap) : Prop := ∀ a o, ¬ P a → h.get? a = some o → h'.get? a = some o ∧ ¬ P' a
noncomputable def ExtOk (X : Ext) : Prop := ∀ t x P h P' h' v, X t x P h v → Pass P h P' h' → X t x P' h' v

mutual
theorem Rd.pass {X : Ext} (hX : ExtOk X) {P P' : Addr → Prop} {h h' : Heap} (g : Pass P h P' h') : ∀ {v : Value} {d : PV}, Rd X P h v d → Rd X P' h' v d
  | _, _, .none => .none
  | _, _, .bool b => .bool b
  | _, _, .int i t => .int i t
  | _, _, .str x t => .str x t
  | _, _, .list a e r => .list (g _ _ a e).2 (g _ _ a e).1 (RdL.pass hX g r)
  | _, _, .tuple a e r => .tuple (g _ _ a e).2 (g _ _ a e).1 (RdL.pass hX g r)
  | _, _, .raw v => .raw v
  | _, _, .ext x => .ext (hX _ _ _ _ _ _ _ x g)
  | _, _, .slice a e p q r => .slice (g _ _ a e).2 (g _ _ a e).1 p q r
  | _, _, .range a e => .range (g _ _ a e).2 (g _ _ a e).1
theorem RdL.pass {X : Ext} (hX : ExtOk X) {P P' : Addr → Prop} {h h' : Heap} (g : Pass P h P' h') : ∀ {vs : List Value} {ds : List PV}, RdL X P h vs ds → RdL X P' h' vs ds
  | _, _, .nil => .nil
  | _, _, .cons a r => .cons (Rd.pass hX g a) (RdL.pass hX g r)
end

theorem Rd.intE {X : Ext} {P : Addr → Prop} {h : Heap} {v : Value} {i : Int} (r : Rd X P h v (.int i)) : ∃ t, v = .int i t := by cases r; exact ⟨_, rfl⟩
theorem Rd.rawE {X : Ext} {P : Addr → Prop} {h : Heap} {v w : Value} (r : Rd X P h v (.raw w)) : v = w := by cases r; rfl
theorem Rd.extE {X : Ext} {P : Addr → Prop} {h : Heap} {v : Value} {t : Nat} {x : List (List Nat)} (r : Rd X P h v (.ext t x)) : X t x P h v := by cases r; assumption
theorem RdL.length {X P h} : ∀ {vs ds}, RdL X P h vs ds → vs.length = ds.length
  | _, _, .nil => rfl
  | _, _, .cons _ r => by simp [r.length]
theorem RdL.get {X P h} : ∀ {vs ds} {i : Nat} {v : Value}, RdL X P h vs ds → vs[i]? = some v → ∃ d, ds[i]? = some d ∧ Rd X P h v d
  | _, _, i, v, .nil, e => by simp at e
  | _, _, 0, v, .cons a r, e => by simp at e; subst e; exact ⟨_, rfl, a⟩
  | _, _, i + 1, v, .cons a r, e => by simp at e; obtain ⟨d, h1, h2⟩ := r.get e; exact ⟨d, by simpa using h1, h2⟩
theorem RdL.get' {X P h} : ∀ {vs ds} {i : Nat} {d : PV}, RdL X P h vs ds → ds[i]? = some d → ∃ v, vs[i]? = some v ∧ Rd X P h v d
  | _, _, i, v, .nil, e => by simp at e
  | _, _, 0, v, .cons a r, e => by simp at e; subst e; exact ⟨_, rfl, a⟩
  | _, _, i + 1, v, .cons a r, e => by simp at e; obtain ⟨d, h1, h2⟩ := r.get' e; exact ⟨d, by simpa using h1, h2⟩
theorem RdL.append {X P h} : ∀ {vs ds vs' ds'}, RdL X P h vs ds → RdL X P h vs' ds' → RdL X P h (vs ++ vs') (ds ++ ds')
  | _, _, _, _, .nil, r => r
  | _, _, _, _, .cons a r, r' => .cons a (r.append r')

/-- what may change: lists, and instances of the text's one class -/
inductive AO where
  | mlist (xs : List PV)
  | inst (d : Addr) (fs : List (String × PV))
  | tab
noncomputable abbrev Sto := List (Addr × AO)
noncomputable def AO.more : AO → List Addr
  | .mlist _ => []
  | .inst d _ => [d]
  | .tab => []
noncomputable def dom : Sto → List Addr
  | [] => []
  | p :: r => p.1 :: (p.2.more ++ dom r)

/-- what the top left, and what the walk may lean on -/
structure Cx where
  prog : Program
  w : World
  tb : List Addr
  base : Nat
  cls : Addr
  X : Ext
  extOk : ExtOk X
  gi : Heap → Prop
  mg : Str → Option Value
  mb : Str → Option Value
  g : ∀ {h}, gi h → h.Ns mainGlobals mg
  b : ∀ {h}, gi h → h.Ns builtinsNs mb
  nolimit : ∀ {h}, gi h → h.NoLimit
  low : ∀ {h}, gi h → base ≤ h.objs.size
  low2 : 8 ≤ base
  tab : Addr → Prop
  T : (Addr → Prop) → Heap → Addr → Prop
  tOk : ∀ P h P' h' a, T P h a → Pass P h P' h' → (∀ o, h.get? a = some o → h'.get? a = some o) → T P' h' a
  tLt : ∀ P h a, T P h a → a < h.objs.size
  keep : ∀ {h h'}, gi h → (∀ b o, b < base ∧ ¬ tab b → h.get? b = some o → h'.get? b = some o) → h.objs.size ≤ h'.objs.size → gi h'
  tbLow : ∀ a ∈ tb, a < base

/-- what an instance's dict holds -/
noncomputable def FieldsAre (X : Ext) (P : Addr → Prop) (h : Heap) (mA : Str → Option Value) (fs : List (String × PV)) : Prop :=
  (∀ x d, fs.lookup x = some d → ∃ v, mA (Str.ofString x) = some v ∧ Rd X P h v d) ∧ ∀ y v, mA y = some v → ∃ x d, y = Str.ofString x ∧ fs.lookup x = some d
/-- an instance of the text's class -/
noncomputable def InstOf (C : Cx) (h : Heap) (a d : Addr) : Prop := ∃ o, h.get? a = some o ∧ o.cls = .ref C.cls ∧ o.dict = some d ∧ ∀ c, o.data ≠ .cls c
noncomputable def AoIs (C : Cx) (P : Addr → Prop) (h : Heap) (a : Addr) : AO → Prop
  | .mlist xs => ∃ vs n, h.get? a = some { cls := .type "list", data := .seq vs n } ∧ RdL C.X P h vs.toList xs
  | .inst d fs => InstOf C h a d ∧ d ≠ a ∧ ∃ mA, h.Ns1 d mA ∧ FieldsAre C.X P h mA fs
  | .tab => C.T P h a
noncomputable def StRel (C : Cx) (P : Addr → Prop) (h : Heap) (σ : Sto) : Prop := ∀ a ao, (a, ao) ∈ σ → AoIs C P h a ao

theorem FieldsAre.pass {X : Ext} (hX : ExtOk X) {P P' : Addr → Prop} {h h' : Heap} (g : Pass P h P' h') {mA fs} (r : FieldsAre X P h mA fs) : FieldsAre X P' h' mA fs :=
  ⟨fun x d hx => let ⟨v, a, b⟩ := r.1 x d hx; ⟨v, a, b.pass hX g⟩, r.2⟩
theorem AoIs.pass {C : Cx} {P P' : Addr → Prop} {h h' : Heap} (g : Pass P h P' h') {a : Addr} {ao : AO} (k : ∀ b, b = a ∨ b ∈ ao.more → ∀ o, h.get? b = some o → h'.get? b = some o) (r : AoIs C P h a ao) : AoIs C P' h' a ao := by
  cases ao with
  | mlist xs => obtain ⟨vs, n, e, r⟩ := r; exact ⟨vs, n, k a (.inl rfl) _ e, r.pass C.extOk g⟩
  | inst d fs => obtain ⟨⟨o, e, q⟩, hd, mA, n, r⟩ := r; exact ⟨⟨o, k a (.inl rfl) _ e, q⟩, hd, mA, n.at (k d (.inr (List.mem_singleton.mpr rfl))), r.pass C.extOk g⟩
  | tab => exact C.tOk P h P' h' a r g (k a (.inl rfl))
theorem mem_dom {σ : Sto} {a : Addr} {ao : AO} (h : (a, ao) ∈ σ) : ∀ b, b = a ∨ b ∈ ao.more → b ∈ dom σ := by
  induction σ with
  | nil => exact absurd h List.not_mem_nil
  | cons p r ih =>
    intro b hb
    rcases List.mem_cons.mp h with rfl | h
    · rcases hb with rfl | hb
      · exact .head _
      · exact .tail _ (List.mem_append_left _ hb)
    · exact .tail _ (List.mem_append_right _ (ih h b hb))
theorem StRel.pass {C : Cx} {P P' : Addr → Prop} {h h' : Heap} {σ : Sto} (g : Pass P h P' h') (k : ∀ b ∈ dom σ, ∀ o, h.get? b = some o → h'.get? b = some o) (r : StRel C P h σ) : StRel C P' h' σ :=
  fun a ao hm => (r a ao hm).pass g fun b hb o e => k b (mem_dom hm b hb) o e

/-- room on the stack -/
structure Room (A : Around) (k : Nat) : Prop where
  depth : A.depth + k ≤ 900
  units : A.units + 100 * k ≤ 9000
  handled : A.handled = none
theorem Room.mono {A : Around} {k k' : Nat} (h : Room A k) (e : k' ≤ k) : Room A k' := ⟨by have := h.depth; lia, by have := h.units; lia, h.handled⟩
theorem Room.deeper {A : Around} {k : Nat} (h : Room A (k + 1)) (env : Env) : Room (A.deeper env) k := ⟨by have := h.depth; show A.depth + 1 + k ≤ 900; lia, by have := h.units; show A.units + 3 + 100 * k ≤ 9000; lia, h.handled⟩
theorem Room.limit {A : Around} {k : Nat} (h : Room A k) : A.depth < recursionLimit := by have := h.depth; show A.depth < 1000; lia

noncomputable def PP (P : Addr → Prop) (σ : Sto) : Addr → Prop := fun a => P a ∨ a ∈ dom σ

/-- what holds of the heap, no frame in sight -/
structure Hp (C : Cx) (P : Addr → Prop) (σ : Sto) (h : Heap) : Prop where
  gi : C.gi h
  st : StRel C P h σ
  ptb : ∀ a ∈ C.tb, P a
  pdom : ∀ a ∈ dom σ, P a ∧ (C.base ≤ a ∨ C.tab a)
  nodup : (dom σ).Nodup
  plt : ∀ a, P a → a < h.objs.size
theorem AoIs.lt {C : Cx} {P : Addr → Prop} {h : Heap} {a : Addr} {ao : AO} (r : AoIs C P h a ao) : ∀ b, b = a ∨ b ∈ ao.more → b < h.objs.size := by
  intro b hb
  cases ao with
  | mlist xs =>
    obtain ⟨vs, n, e, r⟩ := r
    rcases hb with rfl | hb
    · exact Heap.lt_size e
    · exact absurd hb List.not_mem_nil
  | inst d fs =>
    obtain ⟨⟨o, e, q⟩, hd, mA, n, r⟩ := r
    rcases hb with rfl | hb
    · exact Heap.lt_size e
    · rw [List.mem_singleton.mp hb]; exact n.lt
  | tab =>
    rcases hb with rfl | hb
    · exact C.tLt P h _ r
    · exact absurd hb List.not_mem_nil
theorem dom_of_mem : ∀ {σ : Sto} {b : Addr}, b ∈ dom σ → ∃ a ao, (a, ao) ∈ σ ∧ (b = a ∨ b ∈ ao.more)
  | p :: r, b, hb => by
    rcases List.mem_cons.mp hb with rfl | hb
    · exact ⟨p.1, p.2, .head _, .inl rfl⟩
    · rcases List.mem_append.mp hb with hb | hb
      · exact ⟨p.1, p.2, .head _, .inr hb⟩
      · obtain ⟨a, ao, h1, h2⟩ := dom_of_mem hb
        exact ⟨a, ao, .tail _ h1, h2⟩
theorem Hp.lt {C P σ h} (H : Hp C P σ h) : ∀ b ∈ dom σ, b < h.objs.size := fun b hb => by
  obtain ⟨a, ao, h1, h2⟩ := dom_of_mem hb
  exact (H.st a ao h1).lt b h2

/-- a step of the run: what it lets stand -/
structure Step (C : Cx) (σ σ' : Sto) (own : Addr → Prop) (s s' : Shared) : Prop where
  kept : ∀ b o, b ∉ dom σ → b ∉ C.tb → ¬ own b → s.heap.get? b = some o → s'.heap.get? b = some o
  size : s.heap.objs.size ≤ s'.heap.objs.size
  new : ∀ a ∈ dom σ', a ∈ dom σ ∨ s.heap.objs.size ≤ a
  gens : s'.gens = s.gens
  os : s'.os = s.os
noncomputable abbrev noOwn : Addr → Prop := fun _ => False
theorem Step.refl {C σ own} (s : Shared) : Step C σ σ own s s := ⟨fun _ _ _ _ _ e => e, Nat.le_refl _, fun _ h => .inl h, rfl, rfl⟩
theorem Step.trans {C σ σ₁ σ₂ own} {s s₁ s₂ : Shared} (h : Step C σ σ₁ own s s₁) (k : Step C σ₁ σ₂ own s₁ s₂) : Step C σ σ₂ own s s₂ :=
  ⟨fun b o h1 h2 h3 e => k.kept b o (fun hb => by
      rcases h.new b hb with q | q
      · exact h1 q
      · exact absurd (Heap.lt_size e) (Nat.not_lt.mpr q)) h2 h3 (h.kept b o h1 h2 h3 e),
   Nat.le_trans h.size k.size, fun a ha => by
     rcases k.new a ha with q | q
     · exact h.new a q
     · exact .inr (Nat.le_trans h.size q), k.gens.trans h.gens, k.os.trans h.os⟩
theorem Step.weak {C σ σ' own} {own' : Addr → Prop} {s s' : Shared} (h : Step C σ σ' own s s') (e : ∀ a, own a → own' a) : Step C σ σ' own' s s' :=
  ⟨fun b o h1 h2 h3 g => h.kept b o h1 h2 (fun q => h3 (e b q)) g, h.size, h.new, h.gens, h.os⟩

structure After (C : Cx) (P : Addr → Prop) (σ : Sto) (s : Shared) (σ' : Sto) (s' : Shared) : Prop where
  step : Step C σ σ' noOwn s s'
  hp : Hp C (PP P σ') σ' s'.heap
/-- what a value-level action ends in -/
noncomputable def Out (C : Cx) (P : Addr → Prop) (σ : Sto) (s : Shared) (K : PV → Sto → Prop) (v : Value) (s' : Shared) : Prop :=
  ∃ d σ', K d σ' ∧ After C P σ s σ' s' ∧ Rd C.X (PP P σ') s'.heap v d
noncomputable def OutL (C : Cx) (P : Addr → Prop) (σ : Sto) (s : Shared) (K : List PV → Sto → Prop) (vs : List Value) (s' : Shared) : Prop :=
  ∃ ds σ', K ds σ' ∧ After C P σ s σ' s' ∧ RdL C.X (PP P σ') s'.heap vs ds
noncomputable abbrev NoE : Value → Shared → Prop := fun _ _ => False

theorem pass_step {C : Cx} {P : Addr → Prop} {σ σ' : Sto} {own : Addr → Prop} {s s' : Shared} (hS : Step C σ σ' own s s') (hown : ∀ a, own a → P a) (hp : Hp C P σ s.heap) : Pass P s.heap (PP P σ') s'.heap := fun a o ha e =>
  ⟨hS.kept a o (fun q => ha (hp.pdom a q).1) (fun q => ha (hp.ptb a q)) (fun q => ha (hown a q)) e, fun q => q.elim ha fun q => by
    rcases hS.new a q with z | z
    · exact ha (hp.pdom a z).1
    · exact absurd (Heap.lt_size e) (Nat.not_lt.mpr z)⟩

theorem RdL.pass' {C : Cx} {P P' h h'} (g : Pass P h P' h') {vs ds} (r : RdL C.X P h vs ds) : RdL C.X P' h' vs ds := r.pass C.extOk g
theorem Rd.pass' {C : Cx} {P P' h h'} (g : Pass P h P' h') {v d} (r : Rd C.X P h v d) : Rd C.X P' h' v d := r.pass C.extOk g


/-- a variable of the frame -/
inductive Var (env : Env) (h : Heap) (x : Str) (v : Value) : Prop
  | loc {m} : env.kindOf x = some .local → h.Ns env.locals m → m x = some v → Var env h x v
  | cell {c} : (env.kindOf x = some .cell ∨ env.kindOf x = some .free) → env.cells.lookup x = some c → h.IsCell c (some v) → Var env h x v
noncomputable def own (env : Env) : Addr → Prop := fun a => a = env.locals ∨ ∃ x, env.cells.lookup x = some a
structure EnvOk (env : Env) (h : Heap) : Prop where
  kind : env.scope.kind = .function
  glob : env.globals = mainGlobals
  blt : env.builtins = builtinsNs
  ns : ∃ m, h.Ns env.locals m
  cells : ∀ x c, env.cells.lookup x = some c → c ≠ env.locals ∧ ∃ v, h.IsCell c v
  inj : ∀ x y c, env.cells.lookup x = some c → env.cells.lookup y = some c → x = y
  has : ∀ x, env.kindOf x = some .cell ∨ env.kindOf x = some .free → ∃ c, env.cells.lookup x = some c
noncomputable abbrev Lo := List (String × PV)
structure Inv (C : Cx) (P : Addr → Prop) (env : Env) (ρ : Lo) (σ : Sto) (h : Heap) : Prop where
  hp : Hp C P σ h
  envOk : EnvOk env h
  vars : ∀ x d, ρ.lookup x = some d → ∃ v, Var env h (Str.ofString x) v ∧ Rd C.X P h v d
  pown : ∀ a, own env a → P a ∧ C.base ≤ a ∧ a ∉ dom σ
theorem Var.keep {env : Env} {h h' : Heap} {x v} (k : ∀ b o, own env b → h.get? b = some o → h'.get? b = some o) : Var env h x v → Var env h' x v
  | .loc a n e => .loc a (let ⟨o, es, ep, ho, r⟩ := n; ⟨o, es, ep, k _ _ (.inl rfl) ho, r⟩) e
  | .cell a l c => .cell a l (let ⟨o, ho, hd⟩ := c; ⟨o, k _ _ (.inr ⟨_, l⟩) ho, hd⟩)
theorem EnvOk.keep {env : Env} {h h' : Heap} (H : EnvOk env h) (k : ∀ b o, own env b → h.get? b = some o → h'.get? b = some o) : EnvOk env h' :=
  ⟨H.kind, H.glob, H.blt, let ⟨m, o, es, ep, ho, r⟩ := H.ns; ⟨m, o, es, ep, k _ _ (.inl rfl) ho, r⟩,
   fun x c hx => let ⟨a, v, o, ho, hd⟩ := H.cells x c hx; ⟨a, v, o, k _ _ (.inr ⟨_, hx⟩) ho, hd⟩, H.inj, H.has⟩
theorem EnvOk.lt {env : Env} {h : Heap} (H : EnvOk env h) : ∀ a, own env a → a < h.objs.size := by
  rintro a (rfl | ⟨x, hx⟩)
  · obtain ⟨m, hm⟩ := H.ns; exact hm.lt
  · obtain ⟨_, v, hv⟩ := H.cells x a hx; exact hv.lt
/-- a step that stores nothing in the frame -/
theorem Inv.after {C P env ρ σ σ'} {s s' : Shared} (I : Inv C P env ρ σ s.heap) (hA : After C P σ s σ' s') : Inv C (PP P σ') env ρ σ' s'.heap := by
  obtain ⟨hS, hp⟩ := hA
  have k : ∀ b o, own env b → s.heap.get? b = some o → s'.heap.get? b = some o := fun b o hb e => hS.kept b o (I.pown b hb).2.2 (fun q => absurd (C.tbLow b q) (Nat.not_lt.mpr (I.pown b hb).2.1)) (fun q => q) e
  refine ⟨hp, I.envOk.keep k, fun x d hx => ?_, fun a ha => ⟨.inl (I.pown a ha).1, (I.pown a ha).2.1, fun q => ?_⟩⟩
  · obtain ⟨v, h1, h2⟩ := I.vars x d hx
    exact ⟨v, h1.keep k, h2.pass' (pass_step hS (fun _ q => q.elim) I.hp)⟩
  · rcases hS.new a q with z | z
    · exact (I.pown a ha).2.2 z
    · exact absurd (I.envOk.lt a ha) (Nat.not_lt.mpr z)

/-- an expression in a frame of scope sc -/
noncomputable def Ev (C : Cx) (k : Nat) (sc : Scope) (ρ : Lo) (σ : Sto) (e : Expr) (K : PV → Sto → Prop) : Prop :=
  ∀ (A : Around) (P : Addr → Prop) (env : Env) (s : Shared), env.scope = sc → Room A k → Inv C P env ρ σ s.heap →
    wpAny (model C.prog C.w) A (eval e env) (Out C P σ s K) NoE s

theorem Out.mono {C P σ s K K' v s'} (h : Out C P σ s K v s') (e : ∀ d σ', K d σ' → K' d σ') : Out C P σ s K' v s' := let ⟨d, σ', a, b⟩ := h; ⟨d, σ', e _ _ a, b⟩
theorem Ev.mono {C k sc ρ σ e K K'} (h : Ev C k sc ρ σ e K) (q : ∀ d σ', K d σ' → K' d σ') : Ev C k sc ρ σ e K' := fun A P env s h1 h2 h3 => wpAny_mono (h A P env s h1 h2 h3) (fun _ _ o => o.mono q) fun _ _ x => x

end Mine
namespace Mine
theorem Pass.refl (P : Addr → Prop) (h : Heap) : Pass P h P h := fun a o n e => ⟨e, n⟩
theorem Pass.trans {P P' P'' : Addr → Prop} {h h' h'' : Heap} (g : Pass P h P' h') (k : Pass P' h' P'' h'') : Pass P h P'' h'' := fun a o n e => let ⟨e', n'⟩ := g a o n e; k a o n' e'
theorem Pass.less {P P' : Addr → Prop} {h : Heap} (e : ∀ a, P' a → P a) : Pass P h P' h := fun a o n x => ⟨x, fun q => n (e a q)⟩
theorem Pass.pp {C P σ h} (H : Hp C P σ h) : Pass P h (PP P σ) h := fun a o n e => ⟨e, fun q => q.elim n fun q => n (H.pdom a q).1⟩
theorem Hp.pplt {C P σ h} (H : Hp C P σ h) : ∀ a, PP P σ a → a < h.objs.size := fun a q => q.elim (H.plt a) (H.lt a)
theorem Hp.weak {C : Cx} {P P' : Addr → Prop} {σ : Sto} {h : Heap} (H : Hp C P σ h) (e : ∀ a, P' a → P a) (hp : ∀ a ∈ C.tb, P' a) (hd : ∀ a ∈ dom σ, P' a) : Hp C P' σ h :=
  ⟨H.gi, H.st.pass (Pass.less e) (fun _ _ _ x => x), hp, fun a ha => ⟨hd a ha, (H.pdom a ha).2⟩, H.nodup, fun a ha => H.plt a (e a ha)⟩
theorem Hp.pp {C P σ h} (H : Hp C P σ h) : Hp C (PP P σ) σ h := ⟨H.gi, H.st.pass (Pass.pp H) (fun _ _ _ e => e), fun a ha => .inl (H.ptb a ha), fun a ha => ⟨.inr ha, (H.pdom a ha).2⟩, H.nodup, H.pplt⟩
theorem PP_up {P : Addr → Prop} {σ σ' : Sto} : ∀ a, PP P σ' a → PP (PP P σ) σ' a := fun a q => q.elim (fun q => .inl (.inl q)) .inr
theorem After.refl {C P σ s} (H : Hp C P σ s.heap) : After C P σ s σ s := ⟨Step.refl s, H.pp⟩
theorem After.toks {C P σ s} {n : Tok} (H : Hp C P σ s.heap) : After C P σ s σ { s with toks := n } := ⟨⟨fun _ _ _ _ _ e => e, Nat.le_refl _, fun _ h => .inl h, rfl, rfl⟩, H.pp⟩
theorem After.pass {C P σ σ' s s'} (h : After C P σ s σ' s') (H : Hp C P σ s.heap) : Pass P s.heap (PP P σ') s'.heap := pass_step h.step (fun _ q => q.elim) H
theorem After.trans {C P σ σ₁ σ₂ s s₁ s₂} (h : After C P σ s σ₁ s₁) (H : Hp C P σ s.heap) (k : After C (PP P σ₁) σ₁ s₁ σ₂ s₂) : After C P σ s σ₂ s₂ :=
  ⟨h.step.trans k.step, k.hp.weak PP_up (fun a ha => .inl (H.ptb a ha)) (fun a ha => .inr ha)⟩
theorem Rd.down {X P σ σ' h v d} (r : Rd X (PP (PP P σ) σ') h v d) (hX : ExtOk X) : Rd X (PP P σ') h v d := r.pass hX (Pass.less PP_up)
theorem RdL.down {X P σ σ' h v d} (r : RdL X (PP (PP P σ) σ') h v d) (hX : ExtOk X) : RdL X (PP P σ') h v d := r.pass hX (Pass.less PP_up)
theorem Out.seq {C P σ σ₁ s s₁ K v s₂} (hA : After C P σ s σ₁ s₁) (H : Hp C P σ s.heap) (o : Out C (PP P σ₁) σ₁ s₁ K v s₂) : Out C P σ s K v s₂ :=
  let ⟨d, σ', hK, k, r⟩ := o; ⟨d, σ', hK, hA.trans H k, r.down C.extOk⟩
theorem OutL.seq {C P σ σ₁ s s₁ K v s₂} (hA : After C P σ s σ₁ s₁) (H : Hp C P σ s.heap) (o : OutL C (PP P σ₁) σ₁ s₁ K v s₂) : OutL C P σ s K v s₂ :=
  let ⟨d, σ', hK, k, r⟩ := o; ⟨d, σ', hK, hA.trans H k, r.down C.extOk⟩
theorem Out.here {C P σ s K v d tk} (H : Hp C P σ s.heap) (r : Rd C.X P s.heap v d) (hK : K d σ) : Out C P σ s K v { s with toks := tk } := ⟨d, σ, hK, After.toks H, r.pass' (Pass.pp H)⟩
theorem Out.here' {C P σ s K v d} (H : Hp C P σ s.heap) (r : Rd C.X P s.heap v d) (hK : K d σ) : Out C P σ s K v s := Out.here (tk := s.toks) H r hK

/-- a new object that is not watched -/
theorem After.push {C P σ s} {o : Obj} {n : Tok} (H : Hp C P σ s.heap) : After C P σ s σ { s with heap := s.heap.push o, toks := n } := by
  have k : ∀ b x, s.heap.get? b = some x → (s.heap.push o).get? b = some x := fun b x e => Heap.get?_push_of_some _ e
  have sz : s.heap.objs.size ≤ (s.heap.push o).objs.size := by rw [Heap.size_push]; exact Nat.le_succ _
  refine ⟨⟨fun b x _ _ _ e => k b x e, sz, fun _ h => .inl h, rfl, rfl⟩, ?_⟩
  exact ⟨C.keep H.gi (fun b x _ e => k b x e) sz, H.st.pass (fun a x na e => ⟨k a x e, fun q => q.elim na fun q => na (H.pdom a q).1⟩) (fun b _ x e => k b x e), fun a ha => .inl (H.ptb a ha), fun a ha => ⟨.inr ha, (H.pdom a ha).2⟩, H.nodup, fun a q => Nat.lt_of_lt_of_le (H.pplt a q) sz⟩
theorem Hp.fresh {C P σ h} (H : Hp C P σ h) : ¬ PP P σ h.objs.size := fun q => Nat.lt_irrefl _ (H.pplt _ q)
/-- a new list -/
theorem Out.newList {C P σ s K vs ds tk} (H : Hp C P σ s.heap) (r : RdL C.X P s.heap vs ds) (hK : K (.list ds) σ) : Out C P σ s K (.ref s.heap.objs.size) { s with heap := s.heap.push { cls := .type "list", data := .seq vs.toArray }, toks := tk } :=
  let A := After.push (o := { cls := .type "list", data := .seq vs.toArray }) (n := tk) H
  ⟨_, σ, hK, A, .list H.fresh (Heap.get?_push_size _ rfl) (by simpa using r.pass' (A.pass H))⟩
theorem Out.newTuple {C P σ s K vs ds tk} (H : Hp C P σ s.heap) (r : RdL C.X P s.heap vs ds) (hK : K (.tuple ds) σ) : Out C P σ s K (.ref s.heap.objs.size) { s with heap := s.heap.push { cls := .type "tuple", data := .seq vs.toArray }, toks := tk } :=
  let A := After.push (o := { cls := .type "tuple", data := .seq vs.toArray }) (n := tk) H
  ⟨_, σ, hK, A, .tuple H.fresh (Heap.get?_push_size _ rfl) (by simpa using r.pass' (A.pass H))⟩
/-- a new list that will change -/
theorem Out.newMList {C P σ s K vs ds tk} (H : Hp C P σ s.heap) (r : RdL C.X P s.heap vs ds) (hK : K (.raw (.ref s.heap.objs.size)) ((s.heap.objs.size, .mlist ds) :: σ)) : Out C P σ s K (.ref s.heap.objs.size) { s with heap := s.heap.push { cls := .type "list", data := .seq vs.toArray }, toks := tk } := by
  have A := After.push (o := { cls := .type "list", data := .seq vs.toArray }) (n := tk) H
  have hz : s.heap.objs.size < (s.heap.push { cls := .type "list", data := .seq vs.toArray }).objs.size := by rw [Heap.size_push]; exact Nat.lt_succ_self _
  have g : Pass (PP P σ) (s.heap.push { cls := .type "list", data := .seq vs.toArray }) (PP P ((s.heap.objs.size, AO.mlist ds) :: σ)) (s.heap.push { cls := .type "list", data := .seq vs.toArray }) → True := fun _ => trivial
  have gg : Pass P s.heap (PP P ((s.heap.objs.size, AO.mlist ds) :: σ)) (s.heap.push { cls := .type "list", data := .seq vs.toArray }) := fun a o na e =>
    ⟨Heap.get?_push_of_some _ e, fun q => q.elim na fun q => by
      rcases List.mem_cons.mp q with rfl | q
      · exact absurd (Heap.lt_size e) (Nat.lt_irrefl _)
      · exact na (H.pdom a q).1⟩
  refine ⟨_, _, hK, ⟨⟨A.step.kept, A.step.size, fun a ha => ?_, rfl, rfl⟩, ?_⟩, .raw _⟩
  · rcases List.mem_cons.mp ha with rfl | ha
    · exact .inr (Nat.le_refl _)
    · exact .inl ha
  · refine ⟨A.hp.gi, ?_, fun a ha => .inl (H.ptb a ha), fun a ha => ⟨.inr ha, ?_⟩, ?_, fun a q => ?_⟩
    · intro a ao hm
      rcases List.mem_cons.mp hm with e | hm
      · cases e; exact ⟨_, _, Heap.get?_push_size _ rfl, by simpa using r.pass' gg⟩
      · exact (H.st a ao hm).pass gg fun b _ o e => Heap.get?_push_of_some _ e
    · rcases List.mem_cons.mp ha with rfl | ha
      · exact .inl (C.low H.gi)
      · exact (H.pdom a ha).2
    · exact List.nodup_cons.mpr ⟨fun q => Nat.lt_irrefl _ (H.lt _ q), H.nodup⟩
    · rcases q with q | q
      · exact Nat.lt_trans (H.plt a q) hz
      · rcases List.mem_cons.mp q with rfl | q
        · exact hz
        · exact Nat.lt_trans (H.lt a q) hz
end Mine
end C1

section C2
open PySem PySem.W PyProof.Rows
set_option Elab.async false
set_option linter.unusedVariables false
namespace Mine

/-- actions on one, two, many values -/
noncomputable def Op1 (C : Cx) (k : Nat) (σ : Sto) (a : PV) (f : Value → Sem Value) (K : PV → Sto → Prop) : Prop :=
  ∀ (A : Around) (P : Addr → Prop) (s : Shared) (v : Value), Room A k → Hp C P σ s.heap → Rd C.X P s.heap v a → wpAny (model C.prog C.w) A (f v) (Out C P σ s K) NoE s
noncomputable def Op2 (C : Cx) (k : Nat) (σ : Sto) (a b : PV) (f : Value → Value → Sem Value) (K : PV → Sto → Prop) : Prop :=
  ∀ (A : Around) (P : Addr → Prop) (s : Shared) (v w : Value), Room A k → Hp C P σ s.heap → Rd C.X P s.heap v a → Rd C.X P s.heap w b → wpAny (model C.prog C.w) A (f v w) (Out C P σ s K) NoE s
noncomputable def OpL (C : Cx) (k : Nat) (σ : Sto) (ds : List PV) (f : List Value → Sem Value) (K : PV → Sto → Prop) : Prop :=
  ∀ (A : Around) (P : Addr → Prop) (s : Shared) (vs : List Value), Room A k → Hp C P σ s.heap → RdL C.X P s.heap vs ds → wpAny (model C.prog C.w) A (f vs) (Out C P σ s K) NoE s
/-- truth -/
noncomputable def OutB (C : Cx) (P : Addr → Prop) (σ : Sto) (s : Shared) (K : Bool → Sto → Prop) (b : Bool) (s' : Shared) : Prop := ∃ σ', K b σ' ∧ After C P σ s σ' s'
noncomputable def OpB (C : Cx) (k : Nat) (σ : Sto) (a : PV) (f : Value → Sem Bool) (K : Bool → Sto → Prop) : Prop :=
  ∀ (A : Around) (P : Addr → Prop) (s : Shared) (v : Value), Room A k → Hp C P σ s.heap → Rd C.X P s.heap v a → wpAny (model C.prog C.w) A (f v) (OutB C P σ s K) NoE s
noncomputable def Tr (C : Cx) (k : Nat) (sc : Scope) (ρ : Lo) (σ : Sto) (e : Expr) (K : Bool → Sto → Prop) : Prop :=
  ∀ (A : Around) (P : Addr → Prop) (env : Env) (s : Shared), env.scope = sc → Room A k → Inv C P env ρ σ s.heap →
    wpAny (model C.prog C.w) A (isTrue e env (eval e env)) (OutB C P σ s K) NoE s
/-- expressions one behind the other -/
noncomputable def EvL (C : Cx) (k : Nat) (sc : Scope) (ρ : Lo) : Sto → List Expr → (List PV → Sto → Prop) → Prop
  | σ, [], K => K [] σ
  | σ, e :: r, K => Ev C k sc ρ σ e fun d σ₁ => EvL C k sc ρ σ₁ r fun ds σ₂ => K (d :: ds) σ₂

theorem OutB.seq {C P σ σ₁ s s₁ K b s₂} (hA : After C P σ s σ₁ s₁) (H : Hp C P σ s.heap) (o : OutB C (PP P σ₁) σ₁ s₁ K b s₂) : OutB C P σ s K b s₂ := let ⟨σ', hK, k⟩ := o; ⟨σ', hK, hA.trans H k⟩
theorem OutB.here {C P σ s K b} (H : Hp C P σ s.heap) (hK : K b σ) : OutB C P σ s K b s := ⟨σ, hK, After.refl H⟩
theorem OutB.mono {C P σ s K K' b s'} (h : OutB C P σ s K b s') (e : ∀ b σ', K b σ' → K' b σ') : OutB C P σ s K' b s' := let ⟨σ', a, b⟩ := h; ⟨σ', e _ _ a, b⟩
theorem Tr.mono {C k sc ρ σ e K K'} (h : Tr C k sc ρ σ e K) (q : ∀ b σ', K b σ' → K' b σ') : Tr C k sc ρ σ e K' := fun A P env s h1 h2 h3 => wpAny_mono (h A P env s h1 h2 h3) (fun _ _ o => o.mono q) fun _ _ x => x
theorem Op1.mono {C k σ a f K K'} (h : Op1 C k σ a f K) (q : ∀ d σ', K d σ' → K' d σ') : Op1 C k σ a f K' := fun A P s v h1 h2 h3 => wpAny_mono (h A P s v h1 h2 h3) (fun _ _ o => o.mono q) fun _ _ x => x
theorem Op2.mono {C k σ a b f K K'} (h : Op2 C k σ a b f K) (q : ∀ d σ', K d σ' → K' d σ') : Op2 C k σ a b f K' := fun A P s v w h1 h2 h3 h4 => wpAny_mono (h A P s v w h1 h2 h3 h4) (fun _ _ o => o.mono q) fun _ _ x => x
theorem OpL.mono {C k σ a f K K'} (h : OpL C k σ a f K) (q : ∀ d σ', K d σ' → K' d σ') : OpL C k σ a f K' := fun A P s v h1 h2 h3 => wpAny_mono (h A P s v h1 h2 h3) (fun _ _ o => o.mono q) fun _ _ x => x
theorem EvL.mono {C k sc ρ} : ∀ {es σ K K'}, EvL C k sc ρ σ es K → (∀ d σ', K d σ' → K' d σ') → EvL C k sc ρ σ es K'
  | [], _, _, _, h, q => q _ _ h
  | e :: r, _, _, _, h, q => Ev.mono h fun d σ₁ h₁ => EvL.mono h₁ fun ds σ₂ h₂ => q _ _ h₂

/-! ## the frame's expressions -/
theorem Ev.name {C k sc ρ σ x pos d K} (hx : ρ.lookup x = some d) (h : K d σ) (hd : (Str.ofString x == ("__debug__" : Str)) = false := by decide) (hn : (Str.ofString x == ("__classdict__" : Str)) = false := by decide) : Ev C k sc ρ σ (.Name (Str.ofString x) pos) K := fun A P env s he hr I => by
  obtain ⟨v, hv, r⟩ := I.vars x d hx
  have o : Out C P σ s K v s := Out.here' I.hp r h
  cases hv with
  | loc a n e => exact wpAny_Name (wpAny_loadName_local I.envOk.kind a n e o) hd
  | cell a l c =>
    rcases a with a | a
    · exact wpAny_Name (wpAny_loadName_cell I.envOk.kind a l c o) hd
    · exact wpAny_Name (wpAny_loadName_free I.envOk.kind a l c o hn) hd
theorem Ev.global {C k sc ρ σ x pos v K} (hk : sc.names.lookup x = some .globalImplicit) (hg : C.mg x = some v) (h : K (.raw v) σ) (hd : (x == ("__debug__" : Str)) = false := by decide) : Ev C k sc ρ σ (.Name x pos) K := fun A P env s he hr I =>
  Calls.Name_function_global I.envOk.kind (by subst he; exact hk) (Calls.loadGlobal_global (mg := C.mg) (by rw [I.envOk.glob]; exact C.g I.hp.gi) hg (Out.here' I.hp (.raw v) h)) hd
theorem Ev.builtin {C k sc ρ σ x pos v K} (hk : sc.names.lookup x = some .globalImplicit) (hn : C.mg x = none) (hg : C.mb x = some v) (h : K (.raw v) σ) (hd : (x == ("__debug__" : Str)) = false := by decide) : Ev C k sc ρ σ (.Name x pos) K := fun A P env s he hr I =>
  Calls.Name_function_global I.envOk.kind (by subst he; exact hk) (Calls.loadGlobal_builtin (mg := C.mg) (mb := C.mb) (by rw [I.envOk.glob]; exact C.g I.hp.gi) hn (by rw [I.envOk.blt]; exact C.b I.hp.gi) hg (Out.here' I.hp (.raw v) h)) hd
theorem Ev.int {C k sc ρ σ i kk pos K} (h : K (.int i) σ) : Ev C k sc ρ σ (.Constant (.int i) kk pos) K := fun A P env s he hr I => wpAny_Constant_int (Out.here I.hp (.int i _) h)
theorem Ev.str {C k sc ρ σ kk pos K} {x : Str} {l : List Nat} (hl : x.cps.toList = l) (h : K (.str l) σ) : Ev C k sc ρ σ (.Constant (.str x) kk pos) K := fun A P env s he hr I => wpAny_Constant_str (Out.here I.hp (hl ▸ .str x _) h)
theorem Ev.none {C k sc ρ σ kk pos K} (h : K .none σ) : Ev C k sc ρ σ (.Constant .none kk pos) K := fun A P env s he hr I => wpAny_Constant_none (Out.here' I.hp .none h)
theorem Ev.bool {C k sc ρ σ b kk pos K} (h : K (.bool b) σ) : Ev C k sc ρ σ (.Constant (.bool b) kk pos) K := fun A P env s he hr I => wpAny_Constant_bool (Out.here' I.hp (.bool b) h)

/-- two expressions, one behind the other; the first one's value is kept -/
theorem ev_two {C k sc ρ σ e₁ e₂} {K : PV → PV → Sto → Prop} (h : Ev C k sc ρ σ e₁ fun a σ₁ => Ev C k sc ρ σ₁ e₂ (K a)) {A P env s} (he : env.scope = sc) (hr : Room A k) (I : Inv C P env ρ σ s.heap) {Q : Value → Value → Shared → Prop}
    (hQ : ∀ v₁ v₂ d₁ d₂ σ₂ s₂, K d₁ d₂ σ₂ → After C P σ s σ₂ s₂ → Rd C.X (PP P σ₂) s₂.heap v₁ d₁ → Rd C.X (PP P σ₂) s₂.heap v₂ d₂ → Q v₁ v₂ s₂) :
    wpAny (model C.prog C.w) A (eval e₁ env) (fun v₁ s₁ => wpAny (model C.prog C.w) A (eval e₂ env) (fun v₂ s₂ => Q v₁ v₂ s₂) NoE s₁) NoE s := by
  refine wpAny_mono (h A P env s he hr I) (fun v₁ s₁ o => ?_) fun _ _ x => x
  obtain ⟨d₁, σ₁, hK, hA, r⟩ := o
  refine wpAny_mono (hK A _ env s₁ he hr (I.after hA)) (fun v₂ s₂ o => ?_) fun _ _ x => x
  obtain ⟨d₂, σ₂, hK₂, hA₂, r₂⟩ := o
  exact hQ _ _ _ _ _ _ hK₂ (hA.trans I.hp hA₂) ((r.pass' (hA₂.pass hA.hp)).down C.extOk) (r₂.down C.extOk)
theorem ev_one {C k sc ρ σ e₁ K} (h : Ev C k sc ρ σ e₁ K) {A P env s} (he : env.scope = sc) (hr : Room A k) (I : Inv C P env ρ σ s.heap) {Q : Value → Shared → Prop}
    (hQ : ∀ v₁ d₁ σ₁ s₁, K d₁ σ₁ → After C P σ s σ₁ s₁ → Rd C.X (PP P σ₁) s₁.heap v₁ d₁ → Q v₁ s₁) :
    wpAny (model C.prog C.w) A (eval e₁ env) (fun v₁ s₁ => Q v₁ s₁) NoE s := by
  refine wpAny_mono (h A P env s he hr I) (fun v₁ s₁ o => ?_) fun _ _ x => x
  obtain ⟨d₁, σ₁, hK, hA, r⟩ := o
  exact hQ _ _ _ _ hK hA r

theorem wp_seq {C P σ σ₁ s s₁ A} {f : Sem Value} {K} (hA : After C P σ s σ₁ s₁) (H : Hp C P σ s.heap) (h : wpAny (model C.prog C.w) A f (Out C (PP P σ₁) σ₁ s₁ K) NoE s₁) : wpAny (model C.prog C.w) A f (Out C P σ s K) NoE s₁ :=
  wpAny_mono h (fun v s' o => Out.seq hA H o) fun _ _ x => x
theorem wp_seqB {C P σ σ₁ s s₁ A} {f : Sem Bool} {K} (hA : After C P σ s σ₁ s₁) (H : Hp C P σ s.heap) (h : wpAny (model C.prog C.w) A f (OutB C (PP P σ₁) σ₁ s₁ K) NoE s₁) : wpAny (model C.prog C.w) A f (OutB C P σ s K) NoE s₁ :=
  wpAny_mono h (fun v s' o => OutB.seq hA H o) fun _ _ x => x

theorem Ev.binop {C k sc ρ σ l op r pos K} (h : Ev C k sc ρ σ l fun a σ₁ => Ev C k sc ρ σ₁ r fun b σ₂ => Op2 C k σ₂ a b (binaryOp op) K) : Ev C k sc ρ σ (.BinOp l op r pos) K := fun A P env s he hr I =>
  wpAny_BinOp (ev_two h he hr I fun v₁ v₂ d₁ d₂ σ₂ s₂ hK hA r₁ r₂ => wp_seq hA I.hp (hK A _ s₂ v₁ v₂ hr hA.hp r₁ r₂))
theorem Ev.cmp {C k sc ρ σ l op r pos K} (h : Ev C k sc ρ σ l fun a σ₁ => Ev C k sc ρ σ₁ r fun b σ₂ => Op2 C k σ₂ a b (compareOp op) K) (hm : behindInMarks op r = false) : Ev C k sc ρ σ (.Compare l [op] [r] pos) K := fun A P env s he hr I =>
  wpAny_Compare1 (ev_two h he hr I fun v₁ v₂ d₁ d₂ σ₂ s₂ hK hA r₁ r₂ => wp_seq hA I.hp (hK A _ s₂ v₁ v₂ hr hA.hp r₁ r₂)) hm
theorem Ev.unary {C k sc ρ σ op x pos K} (h : Ev C k sc ρ σ x fun a σ₁ => Op1 C k σ₁ a (unaryOp op) K) : Ev C k sc ρ σ (.UnaryOp op x pos) K := fun A P env s he hr I =>
  wpAny_UnaryOp (ev_one h he hr I fun v d σ₁ s₁ hK hA r => wp_seq hA I.hp (hK A _ s₁ v hr hA.hp r))

/-! ## truth -/
theorem Tr.cmp {C k sc ρ σ l op r pos K} (h : Ev C k sc ρ σ l fun a σ₁ => Ev C k sc ρ σ₁ r fun b σ₂ => Op2 C k σ₂ a b (compareOp op) fun c σ₃ => OpB C k σ₃ c truthy K) (hm : behindInMarks op r = false) : Tr C k sc ρ σ (.Compare l [op] [r] pos) K := fun A P env s he hr I => by
  refine wpAny_isTrue_Compare1 (ev_two h he hr I fun v₁ v₂ d₁ d₂ σ₂ s₂ hK hA r₁ r₂ => ?_) hm
  refine wpAny_mono (hK A _ s₂ v₁ v₂ hr hA.hp r₁ r₂) (fun c s₃ o => ?_) fun _ _ x => x
  obtain ⟨d, σ₃, hK₃, hA₃, r₃⟩ := o
  have hA' := hA.trans I.hp hA₃
  exact wp_seqB hA' I.hp (hK₃ A _ s₃ c hr hA'.hp (r₃.down C.extOk))
theorem Tr.not {C k sc ρ σ x pos K} (h : Tr C k sc ρ σ x fun b σ₁ => K (!b) σ₁) : Tr C k sc ρ σ (.UnaryOp .Not x pos) K := fun A P env s he hr I =>
  wpAny_isTrue_Not (wpAny_mono (h A P env s he hr I) (fun _ _ o => o) fun _ _ x => x)
theorem Tr.value {C k sc ρ σ e K} (h : Ev C k sc ρ σ e fun a σ₁ => OpB C k σ₁ a truthy K) (he' : ∀ env whole, isTrue e env whole = (do let v ← whole; standAt e.pos; holding [v] (truthy v))) : Tr C k sc ρ σ e K := fun A P env s he hr I =>
  wpAny_isTrue_value (ev_one h he hr I fun v d σ₁ s₁ hK hA r => wp_seqB hA I.hp (hK A _ s₁ v hr hA.hp r)) (he' _ _)
theorem Ev.ifexp {C k sc ρ σ t a b pos K} (h : Tr C k sc ρ σ t fun c σ₁ => if c then Ev C k sc ρ σ₁ a K else Ev C k sc ρ σ₁ b K) : Ev C k sc ρ σ (.IfExp t a b pos) K := fun A P env s he hr I => by
  refine wpAny_IfExp (wpAny_mono (h A P env s he hr I) (fun c s₁ o => ?_) fun _ _ x => x)
  obtain ⟨σ₁, hK, hA⟩ := o
  cases c with
  | true => exact wp_seq hA I.hp (hK A _ env s₁ he hr (I.after hA))
  | false => exact wp_seq hA I.hp (hK A _ env s₁ he hr (I.after hA))
/-- tests in a row -/
noncomputable def TrAll (C : Cx) (k : Nat) (sc : Scope) (ρ : Lo) (op : BoolOp) : Sto → List Expr → (Bool → Sto → Prop) → Prop
  | σ, [], K => K (op == .And) σ
  | σ, e :: r, K => Tr C k sc ρ σ e fun b σ₁ => if b = (op == .And) then TrAll C k sc ρ op σ₁ r K else K b σ₁
theorem Tr.boolop {C k sc ρ σ op es pos K} (h : TrAll C k sc ρ op σ es K) : Tr C k sc ρ σ (.BoolOp op es pos) K := fun A P env s he hr I => by
  show wpAny (model C.prog C.w) A (allTrue op es env) (OutB C P σ s K) NoE s
  induction es generalizing P σ s with
  | nil => exact wpAny_pure (OutB.here I.hp h)
  | cons e r ih =>
    rw [arm_allTrue_cons]
    refine wpAny_bind (wpAny_mono (h A P env s he hr I) (fun b s₁ o => ?_) fun _ _ x => x)
    obtain ⟨σ₁, hK, hA⟩ := o
    by_cases hb : b = (op == .And)
    · rw [if_pos hb] at hK
      subst hb
      have g := wp_seqB hA I.hp (ih hK _ s₁ (I.after hA))
      cases op <;> exact g
    · rw [if_neg hb] at hK
      have g : OutB C P σ s K b s₁ := ⟨σ₁, hK, hA⟩
      cases op <;> cases b <;> first | exact absurd rfl hb | exact wpAny_pure g
end Mine
end C2

section C3
open PySem PySem.W PyProof.Rows
set_option Elab.async false
set_option linter.unusedVariables false
namespace Mine

noncomputable def plainE : Expr → Bool
  | .Starred .. => false
  | _ => true
theorem starEach_plain {e r env} (h : plainE e = true) : starEach (e :: r) env = (false, eval e env) :: starEach r env := by
  cases e <;> first | rfl | cases h
theorem backTo_cons {pos t r} : backTo pos ((false, t) :: r) = (false, t) :: backTo pos r := rfl
theorem plain_trees {pos env} : ∀ {es : List Expr}, es.all plainE = true → (backTo pos (starEach es env)).any (·.1) = false
  | [], _ => rfl
  | e :: r, h => by
    rw [List.all_cons, Bool.and_eq_true] at h
    rw [starEach_plain h.1, backTo_cons, List.any_cons, plain_trees h.2]; rfl
theorem plain_trees' {pos env} : ∀ {es : List Expr}, es.all plainE = true → (backTo pos (starEach es env)).all (fun x => !x.1) = true
  | [], _ => rfl
  | e :: r, h => by
    rw [List.all_cons, Bool.and_eq_true] at h
    rw [starEach_plain h.1, backTo_cons, List.all_cons, plain_trees' h.2]; rfl

theorem evL_spliced {C k sc ρ A env pos} (he : env.scope = sc) (hr : Room A k) : ∀ {es : List Expr} {σ P K s}, EvL C k sc ρ σ es K → es.all plainE = true → Inv C P env ρ σ s.heap →
    wpAny (model C.prog C.w) A (spliced (backTo pos (starEach es env))) (OutL C P σ s K) NoE s
  | [], σ, P, K, s, h, _, I => Calls.spliced_nil ⟨[], σ, h, After.refl I.hp, .nil⟩
  | e :: r, σ, P, K, s, h, hp, I => by
    rw [List.all_cons, Bool.and_eq_true] at hp
    rw [starEach_plain hp.1, backTo_cons]
    refine Calls.spliced_cons (ev_one h he hr I fun v d σ₁ s₁ hK hA r₁ => ?_)
    refine wpAny_mono (evL_spliced he hr hK hp.2 (I.after hA)) (fun vs s₂ o => ?_) fun _ _ x => x
    obtain ⟨ds, σ₂, hK₂, hA₂, r₂⟩ := o
    exact ⟨_, σ₂, hK₂, hA.trans I.hp hA₂, .cons ((r₁.pass' (hA₂.pass hA.hp)).down C.extOk) (r₂.down C.extOk)⟩

theorem Ev.list {C k sc ρ σ es pos K} (h : EvL C k sc ρ σ es fun ds σ₁ => ds.length ≤ sizeLine ∧ K (.list ds) σ₁) (hp : es.all plainE = true) : Ev C k sc ρ σ (.List es pos) K := fun A P env s he hr I => by
  refine wpAny_List (wpAny_mono (evL_spliced he hr h hp I) (fun vs s₁ o => ?_) fun _ _ x => x)
  obtain ⟨ds, σ₁, ⟨hl, hK⟩, hA, r⟩ := o
  exact ⟨by rw [r.length]; exact hl, Out.seq hA I.hp (Out.newList (tk := s₁.toks) hA.hp r hK)⟩
theorem Ev.tuple {C k sc ρ σ es x pos K} (h : EvL C k sc ρ σ es fun ds σ₁ => ds.length ≤ sizeLine ∧ K (.tuple ds) σ₁) (hp : es.all plainE = true) : Ev C k sc ρ σ (.Tuple es x pos) K := fun A P env s he hr I => by
  refine wpAny_Tuple (wpAny_mono (evL_spliced he hr h hp I) (fun vs s₁ o => ?_) fun _ _ x => x)
  obtain ⟨ds, σ₁, ⟨hl, hK⟩, hA, r⟩ := o
  exact ⟨by rw [r.length]; exact hl, Out.seq hA I.hp (Out.newTuple (tk := s₁.toks) hA.hp r hK)⟩
/-- a list that will change -/
theorem Ev.mlist {C k sc ρ σ es pos K} (h : EvL C k sc ρ σ es fun ds σ₁ => ds.length ≤ sizeLine ∧ ∀ a, a ∉ dom σ₁ → K (.raw (.ref a)) ((a, .mlist ds) :: σ₁)) (hp : es.all plainE = true) : Ev C k sc ρ σ (.List es pos) K := fun A P env s he hr I => by
  refine wpAny_List (wpAny_mono (evL_spliced he hr h hp I) (fun vs s₁ o => ?_) fun _ _ x => x)
  obtain ⟨ds, σ₁, ⟨hl, hK⟩, hA, r⟩ := o
  exact ⟨by rw [r.length]; exact hl, Out.seq hA I.hp (Out.newMList (tk := s₁.toks) hA.hp r (hK _ fun q => Nat.lt_irrefl _ (hA.hp.lt _ q)))⟩

/-! ## subscripts -/
theorem sub_ops (slice : Expr) (o i : Value) : ∃ ops, subscripted slice false o i = operate ops (getItem o i) := by
  cases slice with
  | Slice l u st p => cases st <;> exact ⟨_, rfl⟩
  | _ => exact ⟨_, rfl⟩
theorem Ev.sub {C k sc ρ σ value slice pos K} (h : Ev C k sc ρ σ value fun a σ₁ => Ev C k sc ρ σ₁ slice fun b σ₂ => Op2 C k σ₂ a b (subscriptTail value slice) K) : Ev C k sc ρ σ (.Subscript value slice pos) K := fun A P env s he hr I =>
  Subscript_ (ev_two h he hr I fun v₁ v₂ d₁ d₂ σ₂ s₂ hK hA r₁ r₂ => wp_seq hA I.hp (hK A _ s₂ v₁ v₂ hr hA.hp r₁ r₂))
/-- an optional part of a slice -/
noncomputable def EvO (C : Cx) (k : Nat) (sc : Scope) (ρ : Lo) (σ : Sto) : Option Expr → (PV → Sto → Prop) → Prop
  | none, K => K .none σ
  | some e, K => Ev C k sc ρ σ e K
theorem evO_one {C k sc ρ σ e₁ K} (h : EvO C k sc ρ σ e₁ K) {A P env s} (he : env.scope = sc) (hr : Room A k) (I : Inv C P env ρ σ s.heap) {Q : Value → Shared → Prop}
    (hQ : ∀ v₁ d₁ σ₁ s₁, K d₁ σ₁ → After C P σ s σ₁ s₁ → Rd C.X (PP P σ₁) s₁.heap v₁ d₁ → Q v₁ s₁) :
    wpAny (model C.prog C.w) A (evalPart e₁ env) (fun v₁ s₁ => Q v₁ s₁) NoE s := by
  cases e₁ with
  | none => exact wpAny_evalPart_none (hQ _ _ _ _ h (After.refl I.hp) .none)
  | some e => exact wpAny_evalPart_some (ev_one h he hr I hQ)
inductive PartIs : PV → Option Int → Prop
  | none : PartIs .none none
  | int (i : Int) : PartIs (.int i) (some i)
theorem PartIs.of {X P h v d p} (q : PartIs d p) (r : Rd X P h v d) : IsPart v p := by
  cases q <;> cases r <;> constructor
theorem Ev.slice {C k sc ρ σ lower upper step pos K}
    (h : EvO C k sc ρ σ lower fun l σ₁ => EvO C k sc ρ σ₁ upper fun u σ₂ => EvO C k sc ρ σ₂ step fun st σ₃ => ∃ lo hi t, PartIs l lo ∧ PartIs u hi ∧ PartIs st t ∧ K (.slice lo hi t) σ₃) : Ev C k sc ρ σ (.Slice lower upper step pos) K := fun A P env s he hr I => by
  refine wpAny_Slice (evO_one h he hr I fun v₁ d₁ σ₁ s₁ h₁ A₁ r₁ => ?_)
  refine evO_one h₁ he hr (I.after A₁) fun v₂ d₂ σ₂ s₂ h₂ A₂ r₂ => ?_
  refine evO_one h₂ he hr ((I.after A₁).after A₂) fun v₃ d₃ σ₃ s₃ h₃ A₃ r₃ => ?_
  obtain ⟨lo, hi, t, p₁, p₂, p₃, hK⟩ := h₃
  have A' := (A₁.trans I.hp A₂).trans I.hp (σ₂ := σ₃) (s₂ := s₃) ⟨A₃.step, A₃.hp.weak PP_up' (fun a ha => .inl (.inl (I.hp.ptb a ha))) (fun a ha => .inr ha)⟩
  have B := After.push (o := { cls := .type "slice", data := .fields #[v₁, v₂, v₃] }) (n := s₃.toks) A'.hp
  exact Out.seq A' I.hp ⟨_, σ₃, hK, B, .slice A'.hp.fresh (Heap.get?_push_size _ rfl) (p₁.of r₁) (p₂.of r₂) (p₃.of r₃)⟩
where PP_up' {P : Addr → Prop} {σ σ' σ'' : Sto} : ∀ a, PP (PP P σ') σ'' a → PP (PP (PP P σ) σ') σ'' a := fun a q => q.elim (fun q => .inl (q.elim (fun q => .inl (.inl q)) .inr)) .inr

/-! ## lists, tuples, as they are read -/
/-- d is a list of xs, one that may change or not -/
noncomputable def LRead (C : Cx) (σ : Sto) (d : PV) (xs : List PV) : Prop :=
  ∀ P (s : Shared) v, Hp C P σ s.heap → Rd C.X P s.heap v d → ∃ a vs n, v = .ref a ∧ s.heap.get? a = some { cls := .type "list", data := .seq vs n } ∧ RdL C.X P s.heap vs.toList xs
theorem LRead.list {C σ xs} : LRead C σ (.list xs) xs := fun P s v H r => by cases r with | list a e r => exact ⟨_, _, _, rfl, e, r⟩
theorem LRead.mut {C σ a xs} (h : (a, AO.mlist xs) ∈ σ) : LRead C σ (.raw (.ref a)) xs := fun P s v H r => by
  obtain rfl := r.rawE; obtain ⟨vs, n, e, r⟩ := H.st _ _ h; exact ⟨_, _, _, rfl, e, r⟩
theorem isList_of {h : Heap} {a vs n} (e : h.get? a = some { cls := .type "list", data := .seq vs n }) : h.IsList a vs := ⟨_, e, rfl, n, rfl⟩
theorem isTup_of {h : Heap} {a vs n} (e : h.get? a = some { cls := .type "tuple", data := .seq vs n }) : IsTup h a vs := ⟨_, e, rfl, n, rfl⟩

theorem Op2.item {C k σ value slice a xs i d K} (hl : LRead C σ a xs) (h0 : 0 ≤ i) (h1 : i < 2 ^ 63) (hx : xs[i.toNat]? = some d) (h : K d σ) : Op2 C k σ a (.int i) (subscriptTail value slice) K := fun A P s v w hr H r₁ r₂ => by
  obtain ⟨b, vs, n, rfl, e, r⟩ := hl P s v H r₁
  obtain ⟨t, rfl⟩ := r₂.intE
  obtain ⟨x, hx', rx⟩ := r.get' hx
  obtain ⟨ops, ho⟩ := sub_ops slice (.ref b) (.int i t)
  exact tail_any (isList_of e).typeIs slot_list_getitem.lookup (wpAny_getItem_list (isList_of e) h0 h1 (by simpa using hx') (Out.here' H rx h)) ho

/-! ## calls -/
noncomputable def Callable (C : Cx) (fv : Value) : Prop := ∀ h, C.gi h → ∃ k, (k = Keeper.frame ∨ k = Keeper.machine ∨ k = Keeper.boundFrame) ∧ ∀ M, Looks M h (keeperOf fv) k
theorem Callable.builtin {C id} : Callable C (.builtin id) := fun h _ => ⟨.machine, .inr (.inl rfl), fun M => Looks.now⟩
theorem Callable.type {C T} : Callable C (.type T) := fun h _ => ⟨.machine, .inr (.inl rfl), fun M => Looks.now⟩
theorem evalArgs_of {M A E s} {f : Value} {trees : List (Bool × Sem Value)} {Q : Args → Shared → Prop} (hp : trees.any (·.1) = false) (h : wpAny M A (spliced trees) (fun vs s' => Q ⟨vs, []⟩ s') E s) : wpAny M A (evalArgs f true trees []) Q E s := by
  cases trees with
  | nil =>
    unfold evalArgs
    show wpAny M A (spliced [] >>= _) Q E s
    refine wpAny_bind (wpAny_mono h (fun vs s' h' => wpAny_bind (wpAny_pure ?_)) fun _ _ x => x)
    refine wpAny_holding ?_
    exact wpAny_bind (wpAny_pure (wpAny_bind (wpAny_pure (wpAny_pure h'))))
  | cons p r =>
    obtain ⟨b, x⟩ := p
    cases b with
    | true => simp at hp
    | false => exact Calls.evalArgs_plain h
/-- a call whose callee is a value in hand, with `first` ahead of the arguments -/
theorem callWith_L {C k sc ρ σ P env s A pos fv first fs es K} (he : env.scope = sc) (hr : Room A k) (I : Inv C P env ρ σ s.heap) (hc : Callable C fv) (hf : RdL C.X P s.heap first fs)
    (h : EvL C k sc ρ σ es fun ds σ₁ => OpL C k σ₁ (fs ++ ds) (fun vs => PySem.call fv vs) K) (hp : es.all plainE = true) :
    wpAny (model C.prog C.w) A (callWith pos fv first (backTo pos (starEach es env)) []) (Out C P σ s K) NoE s := by
  refine callWith_of (P := C.gi) (by rw [plain_trees hp]; rfl) (fun h' g => let ⟨k, a, b⟩ := hc h' g; ⟨k, a, b _⟩) (evalArgs_of (plain_trees hp) ?_)
  refine wpAny_mono (evL_spliced he hr h hp I) (fun vs s₁ o => ?_) fun _ _ x => x
  obtain ⟨ds, σ₁, hK, hA, r⟩ := o
  exact ⟨hA.hp.gi, wp_seq hA I.hp (hK A _ s₁ (first ++ vs) hr hA.hp ((hf.pass' (hA.pass I.hp)).append r))⟩
theorem Ev.call {C k sc ρ σ func es pos K} (h : Ev C k sc ρ σ func fun f σ₁ => ∃ fv, f = .raw fv ∧ Callable C fv ∧ EvL C k sc ρ σ₁ es fun ds σ₂ => OpL C k σ₂ ds (fun vs => PySem.call fv vs) K) (hp : es.all plainE = true)
    (hev : ∀ env, eval (.Call func es [] pos) env = (do callWith pos (← eval func env) [] (backTo pos (starEach es env)) (backToKw pos (keywordEach [] env)))) : Ev C k sc ρ σ (.Call func es [] pos) K := fun A P env s he hr I => by
  refine Call_ (ev_one h he hr I fun v d σ₁ s₁ hK hA r => ?_) (hev env)
  obtain ⟨fv, rfl, hc, hK⟩ := hK
  obtain rfl := r.rawE
  exact wp_seq hA I.hp (callWith_L he hr (I.after hA) hc .nil hK hp)

/-- d is of the built-in type T -/
noncomputable def OfType (C : Cx) (σ : Sto) (d : PV) (T : String) : Prop := ∀ P (s : Shared) v, Hp C P σ s.heap → Rd C.X P s.heap v d → s.TypeIs v T ∧ ∀ a, v = .ref a → ∃ ob, s.heap.get? a = some ob ∧ ob.dict = none
theorem OfType.str {C σ x} : OfType C σ (.str x) "str" := fun P s v H r => by cases r; exact ⟨rfl, fun a e => by cases e⟩
theorem OfType.list {C σ d xs} (h : LRead C σ d xs) : OfType C σ d "list" := fun P s v H r => by
  obtain ⟨b, vs, n, rfl, e, r⟩ := h P s v H r
  exact ⟨(isList_of e).typeIs, fun a ha => by cases ha; exact ⟨_, e, rfl⟩⟩
theorem OfType.int {C σ i} : OfType C σ (.int i) "int" := fun P s v H r => by cases r; exact ⟨rfl, fun a e => by cases e⟩
theorem OfType.tuple {C σ xs} : OfType C σ (.tuple xs) "tuple" := fun P s v H r => by cases r with | tuple na e r => exact ⟨(isTup_of e).typeIs, fun a ha => by cases ha; exact ⟨_, e, rfl⟩⟩
theorem Ev.method {C k sc ρ σ o name apos pos es T id_ K} (h : Ev C k sc ρ σ o fun a σ₁ => OfType C σ₁ a T ∧ EvL C k sc ρ σ₁ es fun ds σ₂ => OpL C k σ₂ (a :: ds) (fun vs => PySem.call (.builtin id_) vs) K)
    (pa : PlainAttrs T) (slot : PySem.Slot T name id_) (hty : typeOf (.builtin id_) = pure (.type "method_descriptor"))
    (hp : es.all plainE = true) (hfew : es.length < 30) (hline : (apos.endLine == pos.line) = true) (hbase : ∀ env, attributeBase o name env (eval o env) = eval o env) :
    Ev C k sc ρ σ (.Call (.Attribute o name apos) es [] pos) K := fun A P env s he hr I => by
  refine wpAny_Call_method_lateS (hbase env) ?_ hline (ev_one h he hr I fun v d σ₁ s₁ hK hA r => ?_)
  · rw [plain_trees' hp]; simpa [keywordEach, backToKw] using hfew
  · obtain ⟨hT, hd⟩ := hK.1 _ s₁ v hA.hp r
    exact ⟨T, id_, pa, slot, hty, hT, hd, wp_seq hA I.hp (callWith_L he hr (I.after hA) Callable.builtin (.cons r .nil) hK.2 hp)⟩
end Mine
end C3

section C4
open PySem PySem.W PyProof.Rows
set_option Elab.async false
set_option linter.unusedVariables false
namespace Mine

theorem ofString_inj {a b : String} (h : Str.ofString a = Str.ofString b) : a = b := by
  rw [Str.ofString_eq_toList, Str.ofString_eq_toList] at h
  have h1 : a.toList.map Char.toNat = b.toList.map Char.toNat := by simpa using h
  have h2 : a.toList = b.toList := (List.map_inj_right fun x y e => Char.ext (UInt32.toNat_inj.mp e)).mp h1
  exact String.toList_inj.mp h2

/-- every name that ρ' knows ρ knows, too -/
noncomputable def Has (ρ : Lo) : Lo → Prop
  | [] => True
  | p :: r => ρ.lookup p.1 = some p.2 ∧ Has ρ r
theorem Has.get {ρ : Lo} : ∀ {ρ' : Lo} {x d}, Has ρ ρ' → ρ'.lookup x = some d → ρ.lookup x = some d
  | [], _, _, _, h => by cases h
  | (y, e) :: r, x, d, hh, h => by
    by_cases hx : x = y
    · subst hx; rw [List.lookup_cons_self] at h; cases h; exact hh.1
    · rw [List.lookup_cons, beq_false_of_ne hx] at h; exact hh.2.get h
theorem Inv.has {C P env ρ ρ' σ h} (I : Inv C P env ρ σ h) (e : Has ρ ρ') : Inv C P env ρ' σ h := ⟨I.hp, I.envOk, fun x d hx => I.vars x d (e.get hx), I.pown⟩
theorem Ev.has {C k sc ρ ρ' σ e K} (h : Has ρ ρ') (q : Ev C k sc ρ' σ e K) : Ev C k sc ρ σ e K := fun A P env s h1 h2 h3 => q A P env s h1 h2 (h3.has h)

/-! ## statements -/
inductive Fl where
  | next | brk | cont
  | ret (d : PV)
inductive FlowIs (X : Ext) (P : Addr → Prop) (h : Heap) : Flow → Fl → Prop
  | next : FlowIs X P h .next .next
  | brk : FlowIs X P h .brk .brk
  | cont : FlowIs X P h .cont .cont
  | ret {v d} : Rd X P h v d → FlowIs X P h (.ret v) (.ret d)
structure AfterF (C : Cx) (P : Addr → Prop) (env : Env) (σ : Sto) (s : Shared) (ρ' : Lo) (σ' : Sto) (s' : Shared) : Prop where
  step : Step C σ σ' (own env) s s'
  inv : Inv C (PP P σ') env ρ' σ' s'.heap
noncomputable def OutF (C : Cx) (P : Addr → Prop) (env : Env) (σ : Sto) (s : Shared) (K : Fl → Lo → Sto → Prop) (f : Flow) (s' : Shared) : Prop :=
  ∃ g ρ' σ', K g ρ' σ' ∧ AfterF C P env σ s ρ' σ' s' ∧ FlowIs C.X (PP P σ') s'.heap f g
/-- a statement; statements -/
noncomputable def Ex1 (C : Cx) (k : Nat) (sc : Scope) (ρ : Lo) (σ : Sto) (st : Stmt) (K : Fl → Lo → Sto → Prop) : Prop :=
  ∀ (A : Around) (P : Addr → Prop) (env : Env) (s : Shared), env.scope = sc → Room A k → Inv C P env ρ σ s.heap → wpAny (model C.prog C.w) A (exec st env) (OutF C P env σ s K) NoE s
noncomputable def Ex (C : Cx) (k : Nat) (sc : Scope) (ρ : Lo) (σ : Sto) (st : List Stmt) (K : Fl → Lo → Sto → Prop) : Prop :=
  ∀ (A : Around) (P : Addr → Prop) (env : Env) (s : Shared), env.scope = sc → Room A k → Inv C P env ρ σ s.heap → wpAny (model C.prog C.w) A (execs st env) (OutF C P env σ s K) NoE s
theorem OutF.mono {C P env σ s K K' f s'} (h : OutF C P env σ s K f s') (q : ∀ g ρ' σ', K g ρ' σ' → K' g ρ' σ') : OutF C P env σ s K' f s' := let ⟨g, ρ', σ', a, b⟩ := h; ⟨g, ρ', σ', q _ _ _ a, b⟩
theorem Ex.mono {C k sc ρ σ st K K'} (h : Ex C k sc ρ σ st K) (q : ∀ g ρ' σ', K g ρ' σ' → K' g ρ' σ') : Ex C k sc ρ σ st K' := fun A P env s h1 h2 h3 => wpAny_mono (h A P env s h1 h2 h3) (fun _ _ o => o.mono q) fun _ _ x => x
theorem Ex.has {C k sc ρ ρ' σ e K} (h : Has ρ ρ') (q : Ex C k sc ρ' σ e K) : Ex C k sc ρ σ e K := fun A P env s h1 h2 h3 => q A P env s h1 h2 (h3.has h)

theorem Inv.pp {C P env ρ σ h} (I : Inv C P env ρ σ h) : Inv C (PP P σ) env ρ σ h :=
  ⟨I.hp.pp, I.envOk, fun x d hx => let ⟨v, a, r⟩ := I.vars x d hx; ⟨v, a, r.pass' (Pass.pp I.hp)⟩, fun a ha => ⟨.inl (I.pown a ha).1, (I.pown a ha).2⟩⟩
theorem Inv.down {C P env ρ σ σ' h} (I : Inv C (PP (PP P σ) σ') env ρ σ' h) (hp : ∀ a ∈ C.tb, P a) (ho : ∀ a, own env a → P a) : Inv C (PP P σ') env ρ σ' h :=
  ⟨I.hp.weak PP_up (fun a ha => .inl (hp a ha)) (fun a ha => .inr ha), I.envOk, fun x d hx => let ⟨v, a, r⟩ := I.vars x d hx; ⟨v, a, r.down C.extOk⟩, fun a ha => ⟨.inl (ho a ha), (I.pown a ha).2⟩⟩
theorem FlowIs.down {C : Cx} {P σ σ' h f g} (r : FlowIs C.X (PP (PP P σ) σ') h f g) : FlowIs C.X (PP P σ') h f g := by
  cases r with
  | next => exact .next
  | brk => exact .brk
  | cont => exact .cont
  | ret r => exact .ret (r.down C.extOk)
theorem AfterF.refl {C P env ρ σ s} (I : Inv C P env ρ σ s.heap) : AfterF C P env σ s ρ σ s := ⟨Step.refl s, I.pp⟩
theorem AfterF.of {C P env ρ σ s σ' s'} (I : Inv C P env ρ σ s.heap) (hA : After C P σ s σ' s') : AfterF C P env σ s ρ σ' s' := ⟨hA.step.weak fun _ q => q.elim, I.after hA⟩
theorem AfterF.trans {C P env ρ σ s ρ₁ σ₁ s₁ ρ₂ σ₂ s₂} (h : AfterF C P env σ s ρ₁ σ₁ s₁) (I : Inv C P env ρ σ s.heap) (k : AfterF C (PP P σ₁) env σ₁ s₁ ρ₂ σ₂ s₂) : AfterF C P env σ s ρ₂ σ₂ s₂ :=
  ⟨h.step.trans k.step, k.inv.down I.hp.ptb fun a ha => (I.pown a ha).1⟩
theorem OutF.seq {C P env ρ σ s ρ₁ σ₁ s₁ K f s₂} (hA : AfterF C P env σ s ρ₁ σ₁ s₁) (I : Inv C P env ρ σ s.heap) (o : OutF C (PP P σ₁) env σ₁ s₁ K f s₂) : OutF C P env σ s K f s₂ :=
  let ⟨g, ρ', σ', hK, k, r⟩ := o; ⟨g, ρ', σ', hK, hA.trans I k, r.down⟩
theorem wp_seqF {C P env ρ σ s ρ₁ σ₁ s₁ A} {f : Sem Flow} {K} (hA : AfterF C P env σ s ρ₁ σ₁ s₁) (I : Inv C P env ρ σ s.heap) (h : wpAny (model C.prog C.w) A f (OutF C (PP P σ₁) env σ₁ s₁ K) NoE s₁) : wpAny (model C.prog C.w) A f (OutF C P env σ s K) NoE s₁ :=
  wpAny_mono h (fun v s' o => OutF.seq hA I o) fun _ _ x => x
theorem AfterF.pass {C P env ρ σ s ρ₁ σ₁ s₁} (h : AfterF C P env σ s ρ₁ σ₁ s₁) (I : Inv C P env ρ σ s.heap) : Pass P s.heap (PP P σ₁) s₁.heap := pass_step h.step (fun a q => (I.pown a q).1) I.hp

theorem Ex.nil {C k sc ρ σ K} (h : K .next ρ σ) : Ex C k sc ρ σ [] K := fun A P env s he hr I => wpAny_execs_nil ⟨.next, ρ, σ, h, .refl I, .next⟩
theorem Ex.cons {C k sc ρ σ st rest K} (h : Ex1 C k sc ρ σ st fun g ρ' σ' => match g with | .next => Ex C k sc ρ' σ' rest K | g => K g ρ' σ') : Ex C k sc ρ σ (st :: rest) K := fun A P env s he hr I => by
  refine wpAny_execs_cons (wpAny_mono (h A P env s he hr I) (fun f s₁ o => ?_) fun _ _ x => x)
  obtain ⟨g, ρ', σ', hK, hA, r⟩ := o
  cases r with
  | next => exact wp_seqF hA I (hK A _ env s₁ he hr hA.inv)
  | brk => exact ⟨_, _, _, hK, hA, .brk⟩
  | cont => exact ⟨_, _, _, hK, hA, .cont⟩
  | ret r => exact ⟨_, _, _, hK, hA, .ret r⟩
theorem Ex1.if {C k sc ρ σ t a b pos K} (h : Tr C k sc ρ σ t fun c σ₁ => if c then Ex C k sc ρ σ₁ a K else Ex C k sc ρ σ₁ b K) : Ex1 C k sc ρ σ (.If t a b pos) K := fun A P env s he hr I => by
  refine wpAny_If (wpAny_mono (h A P env s he hr I) (fun c s₁ o => ?_) fun _ _ x => x)
  obtain ⟨σ₁, hK, hA⟩ := o
  have hA' := AfterF.of I hA
  cases c with
  | true => exact wp_seqF hA' I (hK A _ env s₁ he hr hA'.inv)
  | false => exact wp_seqF hA' I (hK A _ env s₁ he hr hA'.inv)
theorem Ex1.ret {C k sc ρ σ e pos K} (h : Ev C k sc ρ σ e fun d σ₁ => K (.ret d) ρ σ₁) : Ex1 C k sc ρ σ (.Return (some e) pos) K := fun A P env s he hr I =>
  wpAny_Return_some (ev_one h he hr I fun v d σ₁ s₁ hK hA r => ⟨_, _, _, hK, .of I hA, .ret r⟩)
theorem Ex1.expr {C k sc ρ σ e pos K} (h : Ev C k sc ρ σ e fun d σ₁ => K .next ρ σ₁) (hs : ∀ env, swapsWith e none pos.line env = pure false) : Ex1 C k sc ρ σ (.Expr e pos) K := fun A P env s he hr I =>
  wpAny_Expr_any (ev_one h he hr I fun v d σ₁ s₁ hK hA r => ⟨_, _, _, hK, .of I hA, .next⟩) (by unfold interactive; rw [I.envOk.kind]; rfl) (hs env)

/-! ## names are bound -/
noncomputable def Storable (sc : Scope) (x : String) : Prop := sc.names.lookup (Str.ofString x) = some .local ∨ sc.names.lookup (Str.ofString x) = some .cell
theorem Step.store {C σ env} {s : Shared} {b : Addr} {h' : Heap} {n : Tok} (hb : own env b) (e : Heap.SameBut b s.heap h') : Step C σ σ (own env) s { s with heap := h', toks := n } :=
  ⟨fun a o _ _ ha x => (e.2 a (fun q => ha (q ▸ hb))).trans x, Nat.le_of_eq e.1.symm, fun _ h => .inl h, rfl, rfl⟩
theorem Hp.store {C P σ} {h h' : Heap} {b : Addr} (H : Hp C P σ h) (hb : P b ∧ C.base ≤ b ∧ b ∉ dom σ) (e : Heap.SameBut b h h') : Hp C P σ h' := by
  have k : ∀ a o, a ≠ b → h.get? a = some o → h'.get? a = some o := fun a o ha x => (e.2 a ha).trans x
  exact ⟨C.keep H.gi (fun a o ha x => k a o (fun q => absurd (q ▸ ha.1) (Nat.not_lt.mpr hb.2.1)) x) (Nat.le_of_eq e.1.symm), H.st.pass (fun a o na x => ⟨k a o (fun q => na (q ▸ hb.1)) x, na⟩) (fun a ha o x => k a o (fun q => hb.2.2 (q ▸ ha)) x), H.ptb, H.pdom, H.nodup, fun a ha => by rw [e.1]; exact H.plt a ha⟩
theorem inv_store {C P env ρ σ s sc x v d A} {Q : Unit → Shared → Prop} (he : env.scope = sc) (hk : Storable sc x) (I : Inv C P env ρ σ s.heap) (r : Rd C.X P s.heap v d)
    (hQ : ∀ s', Step C σ σ (own env) s s' → Inv C P env ((x, d) :: ρ) σ s'.heap → Q () s') : wpAny (model C.prog C.w) A (storeName env (Str.ofString x) v) Q NoE s := by
  subst he
  rcases hk with hk | hk
  · obtain ⟨m, hn⟩ := I.envOk.ns
    have ow : own env env.locals := .inl rfl
    refine wpAny_storeName_local hk hn (fun h' hn' hs => hQ _ (Step.store ow hs) ?_) (by rw [I.envOk.kind]; rfl)
    have g : Pass P s.heap P h' := fun a o na e => ⟨hs.extBut a o (fun q => na (q ▸ (I.pown _ ow).1)) e, na⟩
    have kc : ∀ c v, c ≠ env.locals → s.heap.IsCell c v → h'.IsCell c v := fun c v hc ⟨o, ho, hd⟩ => ⟨o, hs.extBut c o hc ho, hd⟩
    refine ⟨I.hp.store (I.pown _ ow) hs, ⟨I.envOk.kind, I.envOk.glob, I.envOk.blt, ⟨_, hn'⟩, fun y c hy => let ⟨a, w, b⟩ := I.envOk.cells y c hy; ⟨a, w, kc c w a b⟩, I.envOk.inj, I.envOk.has⟩, fun y e hy => ?_, I.pown⟩
    by_cases hyx : y = x
    · subst hyx
      rw [List.lookup_cons_self] at hy; cases hy
      exact ⟨v, .loc hk hn' (by simp), r.pass' g⟩
    · rw [List.lookup_cons, beq_false_of_ne hyx] at hy
      obtain ⟨w, hw, rw'⟩ := I.vars y e hy
      refine ⟨w, ?_, rw'.pass' g⟩
      cases hw with
      | loc a n2 e2 =>
        refine .loc a hn' ?_
        rw [if_neg fun q => hyx (ofString_inj q)]
        rw [← e2]; exact Heap.Ns.agree hn n2 _
      | cell a l c => exact .cell a l (kc _ _ (I.envOk.cells _ _ l).1 c)
  · obtain ⟨c, hc⟩ := I.envOk.has _ (.inl hk)
    obtain ⟨hcl, v₀, hv₀⟩ := I.envOk.cells _ _ hc
    have ow : own env c := .inr ⟨_, hc⟩
    refine wpAny_storeName_cell I.envOk.kind hk hc hv₀ (fun h' hv' hs => hQ _ (Step.store (n := s.toks) ow hs) ?_)
    have g : Pass P s.heap P h' := fun a o na e => ⟨hs.extBut a o (fun q => na (q ▸ (I.pown _ ow).1)) e, na⟩
    have kn : ∀ m, s.heap.Ns env.locals m → h'.Ns env.locals m := fun m hm => hm.extBut hs.extBut (Ne.symm hcl)
    refine ⟨I.hp.store (I.pown _ ow) hs, ⟨I.envOk.kind, I.envOk.glob, I.envOk.blt, let ⟨m, hm⟩ := I.envOk.ns; ⟨m, kn m hm⟩, fun y c' hy => ?_, I.envOk.inj, I.envOk.has⟩, fun y e hy => ?_, I.pown⟩
    · obtain ⟨a, w, o, ho, hd⟩ := I.envOk.cells y c' hy
      by_cases hcc : c' = c
      · subst hcc; exact ⟨a, _, hv'⟩
      · exact ⟨a, w, o, hs.extBut c' o hcc ho, hd⟩
    · by_cases hyx : y = x
      · subst hyx
        rw [List.lookup_cons_self] at hy; cases hy
        exact ⟨v, .cell (.inl hk) hc hv', r.pass' g⟩
      · rw [List.lookup_cons, beq_false_of_ne hyx] at hy
        obtain ⟨w, hw, rw'⟩ := I.vars y e hy
        refine ⟨w, ?_, rw'.pass' g⟩
        cases hw with
        | loc a n2 e2 => exact .loc a (kn _ n2) e2
        | cell a l c2 =>
          obtain ⟨o, ho, hd⟩ := c2
          refine .cell a l ⟨o, hs.extBut _ o (fun q => hyx ?_) ho, hd⟩
          exact ofString_inj (I.envOk.inj _ _ _ l (q ▸ hc))

theorem Ex1.assign {C k sc ρ σ x p e pos K} (h : Ev C k sc ρ σ e fun d σ₁ => K .next ((x, d) :: ρ) σ₁) (hk : Storable sc x) (hs : ∀ env, swapsWith e (some (.Name (Str.ofString x) p)) pos.line env = pure false) : Ex1 C k sc ρ σ (.Assign [.Name (Str.ofString x) p] e pos) K := fun A P env s he hr I =>
  wpAny_Assign_Name (ev_one h he hr I fun v d σ₁ s₁ hK hA r => by
    have hF := AfterF.of I hA
    exact inv_store he hk hF.inv r fun s' hS I' => ⟨_, _, _, hK, ⟨hF.step.trans hS, I'⟩, .next⟩) (hs env)
end Mine
end C4

section C5
open PySem PySem.W PyProof.Rows
set_option Elab.async false
set_option linter.unusedVariables false
namespace Mine

/-- an iterator at I that has xs ahead -/
noncomputable def ItAt (C : Cx) (A : Around) (P : Addr → Prop) (h : Heap) (I : Addr) (xs : List PV) : Prop :=
  ∃ (fp : List Addr) (n : Nat) (Pn : Nat → Value → Prop) (St : Nat → Heap → Prop) (i : Nat), Walks C.prog C.w A I fp [I] n Pn St ∧ i + xs.length = n ∧ St i h ∧ (∀ b ∈ fp, b ≠ I → ¬ P b ∧ ∃ o, h.get? b = some o) ∧ P I ∧
    (∀ j v d, Pn (i + j) v → xs[j]? = some d → Rd C.X P h v d) ∧
    ∀ (k : Nat) (target : Expr) (v : Value) (s : Shared) (Q : Unit → Shared → Prop) (E : Value → Shared → Prop), St k s.heap → Q () s → wpAny (model C.prog C.w) A (letOwnedTupleGo target (.ref I) v) Q E s
theorem ItAt.pass {C A P P' h h' I xs} (t : ItAt C A P h I xs) (g : Pass P h P' h') (k : ∀ o, h.get? I = some o → h'.get? I = some o) (hI : P' I) : ItAt C A P' h' I xs := by
  obtain ⟨fp, n, Pn, St, i, W, hn, st, hf, _, hr, go⟩ := t
  refine ⟨fp, n, Pn, St, i, W, hn, W.frame _ _ _ st fun b hb o e => ?_, fun b hb hne => ?_, hI, fun j v d a b => (hr j v d a b).pass' g, go⟩
  · by_cases hne : b = I
    · subst hne; exact k o e
    · exact (g b o (hf b hb hne).1 e).1
  · obtain ⟨na, o, e⟩ := hf b hb hne; exact ⟨(g b o na e).2, o, (g b o na e).1⟩
theorem ItAt.next {C A P I d xs} {s : Shared} {Q : Option Value → Shared → Prop} {E : Value → Shared → Prop} (t : ItAt C A P s.heap I (d :: xs))
    (hQ : ∀ v h' tk, hsz s ≤ h'.objs.size → (∀ b o, b ≠ I → s.heap.get? b = some o → h'.get? b = some o) → Rd C.X P h' v d → ItAt C A P h' I xs →
      (∀ (target : Expr) (s' : Shared) (Q : Unit → Shared → Prop) (E : Value → Shared → Prop), s'.heap = h' → Q () s' → wpAny (model C.prog C.w) A (letOwnedTupleGo target (.ref I) v) Q E s') → Q (some v) { s with heap := h', toks := tk }) :
    wpAny (model C.prog C.w) A (pyNext (.ref I)) Q E s := by
  obtain ⟨fp, n, Pn, St, i, W, hn, st, hf, hI, hr, go⟩ := t
  refine with_size (W.item i s _ _ (by rw [List.length_cons] at hn; lia) st fun v h' tk hv st' hk hz => ?_)
  have k : ∀ b o, b ≠ I → s.heap.get? b = some o → h'.get? b = some o := fun b o hb e => hk b o (by simpa using hb) e
  have g : Pass P s.heap P h' := fun b o na e => ⟨k b o (fun q => na (q ▸ hI)) e, na⟩
  refine hQ v h' tk hz k ((hr 0 v d (by simpa using hv) rfl).pass' g) ⟨fp, n, Pn, St, i + 1, W, by rw [List.length_cons] at hn; lia, st', fun b hb hne => ?_, hI, fun j v' d' a b => (hr (j + 1) v' d' (by rw [show i + (j + 1) = i + 1 + j by lia]; exact a) (by simpa using b)).pass' g, go⟩
    fun target s' Q E hs q => go _ _ _ _ _ _ (hs ▸ st') q
  obtain ⟨na, o, e⟩ := hf b hb hne; exact ⟨na, o, k b o hne e⟩
theorem ItAt.done {C A P I} {s : Shared} {Q : Option Value → Shared → Prop} {E : Value → Shared → Prop} (t : ItAt C A P s.heap I [])
    (hQ : ∀ h' tk, hsz s ≤ h'.objs.size → (∀ b o, b ≠ I → s.heap.get? b = some o → h'.get? b = some o) → Q none { s with heap := h', toks := tk }) : wpAny (model C.prog C.w) A (pyNext (.ref I)) Q E s := by
  obtain ⟨fp, n, Pn, St, i, W, hn, st, hf, hI, hr, go⟩ := t
  refine with_size (W.done s _ _ (by rw [show n = i by simpa using hn.symm]; exact st) fun h' tk hk hz => hQ h' tk hz fun b o hb e => hk b o (by simpa using hb) e)
theorem ItAt.self {C A P I xs} {s : Shared} {Q : Value → Shared → Prop} {E : Value → Shared → Prop} (t : ItAt C A P s.heap I xs) (hQ : Q (.ref I) s) : wpAny (model C.prog C.w) A (pyIter (.ref I)) Q E s := by
  obtain ⟨fp, n, Pn, St, i, W, hn, st, hf, hI, hr, go⟩ := t
  exact W.self i s _ _ st hQ

/-- a reads as something that is walked as xs -/
noncomputable def Iterable (C : Cx) (k : Nat) (σ : Sto) (a : PV) (xs : List PV) : Prop :=
  ∀ (A : Around) (P : Addr → Prop) (s : Shared) (v : Value) (E : Value → Shared → Prop) (Q : Value → Shared → Prop), Room A k → Hp C P σ s.heap → Rd C.X P s.heap v a →
    (∀ (o : Obj) (tk : Tok), ItAt C A (fun b => P b ∨ b = hsz s) (s.heap.push o) (hsz s) xs → Q (.ref (hsz s)) { s with heap := s.heap.push o, toks := tk }) → wpAny (model C.prog C.w) A (pyIter v) Q E s

theorem goes {M A I v} {target : Expr} {s : Shared} {o : Obj} {n : String} {Q : Unit → Shared → Prop} {E : Value → Shared → Prop} (ho : s.heap.get? I = some o) (hc : o.cls = .type n)
    (hn : ["enumerate", "zip", "dict_itemiterator", "dict_reverseitemiterator", "odict_iterator", "itertools.zip_longest", "itertools.pairwise"].contains n = false) (q : Q () s) : wpAny M A (letOwnedTupleGo target (.ref I) v) Q E s := by
  unfold letOwnedTupleGo
  split
  · split
    · rename_i r a heq
      cases heq
      refine wpAny_bind (wpAny_load ho ?_)
      rw [hc]
      cases o.data <;> first | exact wpAny_pure q | (simp only [hn, Bool.false_and, Bool.false_eq_true, if_false]; exact wpAny_pure q)
    · exact wpAny_pure q
  · split
    · rename_i r a heq
      cases heq
      refine wpAny_bind (wpAny_load ho ?_)
      rw [hc]
      cases o.data <;> first | exact wpAny_pure q | (simp only [hn, Bool.false_and, Bool.false_eq_true, if_false]; exact wpAny_pure q)
    · exact wpAny_pure q
  · exact wpAny_pure q

theorem Iterable.of_list {C k σ a xs} (hl : LRead C σ a xs) (hd : ∀ P (s : Shared) b, Hp C P σ s.heap → Rd C.X P s.heap (.ref b) a → ¬ P b) : Iterable C k σ a xs := fun A P s v E Q hr H r hQ => by
  obtain ⟨b, vs, n, rfl, e, r'⟩ := hl P s v H r
  have hb := hd P s b H r
  have hne : b ≠ hsz s := Nat.ne_of_lt (Heap.lt_size e)
  refine wpAny_pyIter_list (isList_of e) (hQ _ s.toks ?_)
  have g : Pass P s.heap (fun b => P b ∨ b = hsz s) (s.heap.push { cls := .type "list_iterator", data := .fields #[.ref b, .int 0 0] }) := fun a o na ea => ⟨Heap.get?_push_of_some _ ea, fun q => q.elim na fun q => by subst q; exact absurd (Heap.lt_size ea) (Nat.lt_irrefl _)⟩
  have hz : vs.size = xs.length := by rw [← r'.length, Array.length_toList]
  refine ⟨_, _, _, _, 0, Walks.list hr.handled (hsz s) b hne vs, by rw [hz]; lia, ⟨⟨_, Heap.get?_push_size _ rfl, rfl, rfl⟩, (isList_of e).push _⟩, fun c hc hcn => ?_, .inr rfl, fun j v d hv hx => ?_, fun k target v s' Q' E' st q => ?_⟩
  · have : c = b := by simpa [hcn] using hc
    subst this
    exact ⟨fun q => q.elim hb hne, _, Heap.get?_push_of_some _ e⟩
  · obtain ⟨w, hw, rw'⟩ := r'.get' hx
    have : w = v := by rw [Nat.zero_add] at hv; simpa using (hw.symm.trans (by simpa using hv) : some w = some v)
    exact this ▸ rw'.pass' g
  · obtain ⟨⟨o, ho, hc, _⟩, _⟩ := st
    exact goes ho hc (by decide) q
theorem Iterable.list {C k σ xs} : Iterable C k σ (.list xs) xs := Iterable.of_list .list fun P s b H r => by cases r; assumption

theorem Iterable.str {C k σ x} : Iterable C k σ (.str x) (x.map fun c => .str [c]) := fun A P s v E Q hr H r hQ => by
  cases r with | str y t =>
  refine wpAny_pyIter_strU (hQ _ s.toks ?_)
  have fin : ∀ (T : String) (W : Walks C.prog C.w A (hsz s) [hsz s] [hsz s] y.cps.size (SignAt y) (fun i h => h.IsStrIter (hsz s) T y t i)), ["enumerate", "zip", "dict_itemiterator", "dict_reverseitemiterator", "odict_iterator", "itertools.zip_longest", "itertools.pairwise"].contains T = false → strIterType y = T →
      ItAt C A (fun b => P b ∨ b = hsz s) (s.heap.push { cls := .type (strIterType y), data := .fields #[.str y t, .int 0 0] }) (hsz s) (y.cps.toList.map fun c => .str [c]) := fun T W hT hy => by
    refine ⟨_, _, _, _, 0, W, by simp, ⟨_, Heap.get?_push_size _ rfl, by rw [hy], rfl⟩, fun c hc hcn => absurd (by simpa using hc) hcn, .inr rfl, fun j v d hv hx => ?_, fun k target v s' Q' E' st q => ?_⟩
    · obtain ⟨c, u, hc, rfl⟩ := hv
      rw [List.getElem?_map] at hx
      have : y.cps.toList[j]? = some c := by simpa using hc
      rw [this] at hx; cases hx
      exact .str ⟨#[c]⟩ u
    · obtain ⟨o, ho, hc, _⟩ := st
      exact goes ho hc hT q
  cases ha : y.cps.all (· < 128)
  · exact fin "str_iterator" (Walks.strWide hr.handled _ y t) (by decide) (by unfold strIterType; rw [ha]; rfl)
  · exact fin "str_ascii_iterator" (Walks.strAscii hr.handled _ y t) (by decide) (by unfold strIterType; rw [ha]; rfl)
end Mine
end C5

section C6
open PySem PySem.W PyProof.Rows
set_option Elab.async false
set_option linter.unusedVariables false
namespace Mine

noncomputable def rangeL (a b c : Int) : List PV := (List.range (Builtin.Range.rangeSize a b c).toNat).map fun (i : Nat) => .int (a + (i : Int) * c)
theorem Iterable.range {C k σ a b c} (hs : Builtin.Range.small a b c = true) : Iterable C k σ (.range a b c) (rangeL a b c) := fun A P s v E Q hr H r hQ => by
  cases r with | range na e =>
  refine wpAny_pyIter_range e hs (hQ _ s.toks ?_)
  have h0 : 0 ≤ Builtin.Range.rangeSize a b c := by
    unfold Builtin.Range.rangeSize
    split <;> split <;> first | exact Int.le_refl _ | skip
    · have := Int.ediv_nonneg (a := b - a - 1) (b := c) (by lia) (by lia); lia
    · have := Int.ediv_nonneg (a := a - b - 1) (b := -c) (by lia) (by lia); lia
  refine ⟨_, _, _, _, 0, Walks.range hr.handled _ a c (Builtin.Range.rangeSize a b c).toNat, by simp [rangeL], ?_, fun d hd hdn => absurd (by simpa using hd) hdn, .inr rfl, fun j v d hv hx => ?_, fun k target v s' Q' E' st q => ?_⟩
  · have : ((Builtin.Range.rangeSize a b c).toNat : Int) = Builtin.Range.rangeSize a b c := Int.toNat_of_nonneg h0
    show IsRangeIter _ _ _ _ _
    rw [this]
    simpa using Heap.get?_push_size s.heap rfl
  · obtain ⟨t, rfl⟩ := hv
    unfold rangeL at hx
    rw [List.getElem?_map] at hx
    cases hj : (List.range (Builtin.Range.rangeSize a b c).toNat)[j]? with
    | none => rw [hj] at hx; cases hx
    | some m =>
      rw [hj] at hx; cases hx
      have : m = j := by
        have := List.getElem?_eq_some_iff.mp hj
        obtain ⟨h1, h2⟩ := this
        simpa using h2.symm
      subst this
      simpa using Rd.int (X := C.X) (a + (m : Int) * c) t
  · exact goes st rfl (by decide) q

theorem walks_tuple {prog : Program} {w : World} {A : Around} (hh : A.handled = none) (I ax : Addr) (hne : ax ≠ I) (items : Array Value) :
    Walks prog w A I [I, ax] [I] items.size (fun i v => items[i]? = some v) (fun i h => h.IsTupleIter I ax i ∧ h.IsTuple ax items) where
  sub := fun b hb => by simp at hb; simp [hb]
  frame := fun _ _ _ st hk => by
    obtain ⟨⟨o, ho, r⟩, ⟨o', ho', r'⟩⟩ := st
    exact ⟨⟨o, hk I (by simp) o ho, r⟩, ⟨o', hk ax (by simp) o' ho', r'⟩⟩
  item := fun i s Q E hi st hQ => by
    refine wpAny_pyNext_tuple_item st.1 st.2 (x := items[i]) (by simp [hi]) fun h' hit' hs' => ?_
    exact hQ _ h' s.toks (by simp [hi]) ⟨hit', st.2.extBut hs'.extBut hne⟩ fun b o hb e => hs'.extBut b o (fun h => hb (by simp [h])) e
  done := fun s Q E st hQ => wpAny_pyNext_tuple_end hh st.1 st.2 (by simp) fun h' he' => hQ h' s.toks fun b o hb e => he' b o (fun h => hb (by simp [h])) e
  self := fun _ _ _ _ st hQ => wpAny_pyIter_tupleiter st.1 hQ
theorem Iterable.tuple {C k σ xs} : Iterable C k σ (.tuple xs) xs := fun A P s v E Q hr H r hQ => by
  cases r with | tuple na e r' =>
  rename_i b vs n
  have hne : b ≠ hsz s := Nat.ne_of_lt (Heap.lt_size e)
  refine wpAny_pyIter_tuple ⟨_, e, rfl, n, rfl⟩ (hQ _ s.toks ?_)
  have g : Pass P s.heap (fun b => P b ∨ b = hsz s) (s.heap.push { cls := .type "tuple_iterator", data := .fields #[.ref b, .int 0 0] }) := fun a o na ea => ⟨Heap.get?_push_of_some _ ea, fun q => q.elim na fun q => by subst q; exact absurd (Heap.lt_size ea) (Nat.lt_irrefl _)⟩
  have hz : vs.size = xs.length := by rw [← r'.length, Array.length_toList]
  refine ⟨_, _, _, _, 0, walks_tuple hr.handled (hsz s) b hne vs, by rw [hz]; lia, ⟨⟨_, Heap.get?_push_size _ rfl, rfl, rfl⟩, ⟨_, Heap.get?_push_of_some _ e, rfl, n, rfl⟩⟩, fun c hc hcn => ?_, .inr rfl, fun j v d hv hx => ?_, fun k target v s' Q' E' st q => ?_⟩
  · have : c = b := by simpa [hcn] using hc
    subst this
    exact ⟨fun q => q.elim na hne, _, Heap.get?_push_of_some _ e⟩
  · obtain ⟨w, hw, rw'⟩ := r'.get' hx
    have : w = v := by rw [Nat.zero_add] at hv; simpa using (hw.symm.trans (by simpa using hv) : some w = some v)
    exact this ▸ rw'.pass' g
  · obtain ⟨⟨o, ho, hc, _⟩, _⟩ := st
    exact goes ho hc (by decide) q

/-! ## targets -/
/-- what a target stores into -/
noncomputable def Bind (C : Cx) (k : Nat) (sc : Scope) (ρ : Lo) (σ : Sto) (t : Expr) (d : PV) (ow : Env → Addr → Prop) (K : Lo → Sto → Prop) : Prop :=
  ∀ (A : Around) (P : Addr → Prop) (env : Env) (s : Shared) (v : Value), env.scope = sc → Room A k → Inv C P env ρ σ s.heap → Rd C.X P s.heap v d →
    wpAny (model C.prog C.w) A (assign t env v) (fun _ s' => ∃ ρ' σ', K ρ' σ' ∧ Step C σ σ' (ow env) s s' ∧ Inv C (PP P σ') env ρ' σ' s'.heap) NoE s
noncomputable abbrev ownL : Env → Addr → Prop := fun env a => a = env.locals
theorem inv_storeL {C P env ρ σ s sc x v d A} {Q : Unit → Shared → Prop} (he : env.scope = sc) (hk : sc.names.lookup (Str.ofString x) = some .local) (I : Inv C P env ρ σ s.heap) (r : Rd C.X P s.heap v d)
    (hQ : ∀ s', Step C σ σ (ownL env) s s' → Inv C P env ((x, d) :: ρ) σ s'.heap → Q () s') : wpAny (model C.prog C.w) A (storeName env (Str.ofString x) v) Q NoE s := by
  subst he
  obtain ⟨m, hn⟩ := I.envOk.ns
  have ow : own env env.locals := .inl rfl
  refine wpAny_storeName_local hk hn (fun h' hn' hs => hQ _ ⟨fun a o _ _ ha x => (hs.2 a (fun q => ha q)).trans x, Nat.le_of_eq hs.1.symm, fun _ h => .inl h, rfl, rfl⟩ ?_) (by rw [I.envOk.kind]; rfl)
  have g : Pass P s.heap P h' := fun a o na e => ⟨hs.extBut a o (fun q => na (q ▸ (I.pown _ ow).1)) e, na⟩
  have kc : ∀ c v, c ≠ env.locals → s.heap.IsCell c v → h'.IsCell c v := fun c v hc ⟨o, ho, hd⟩ => ⟨o, hs.extBut c o hc ho, hd⟩
  refine ⟨I.hp.store (I.pown _ ow) hs, ⟨I.envOk.kind, I.envOk.glob, I.envOk.blt, ⟨_, hn'⟩, fun y c hy => let ⟨a, w, b⟩ := I.envOk.cells y c hy; ⟨a, w, kc c w a b⟩, I.envOk.inj, I.envOk.has⟩, fun y e hy => ?_, I.pown⟩
  by_cases hyx : y = x
  · subst hyx
    rw [List.lookup_cons_self] at hy; cases hy
    exact ⟨v, .loc hk hn' (by simp), r.pass' g⟩
  · rw [List.lookup_cons, beq_false_of_ne hyx] at hy
    obtain ⟨w, hw, rw'⟩ := I.vars y e hy
    refine ⟨w, ?_, rw'.pass' g⟩
    cases hw with
    | loc a n2 e2 =>
      refine .loc a hn' ?_
      rw [if_neg fun q => hyx (ofString_inj q)]
      rw [← e2]; exact Heap.Ns.agree hn n2 _
    | cell a l c => exact .cell a l (kc _ _ (I.envOk.cells _ _ l).1 c)
theorem Bind.name {C k sc ρ σ x p d K} (hk : Storable sc x) (h : K ((x, d) :: ρ) σ) : Bind C k sc ρ σ (.Name (Str.ofString x) p) d own K := fun A P env s v he hr I r =>
  wpAny_assign_Name (inv_store he hk I r fun s' hS I' => ⟨_, _, h, hS, I'.pp⟩)
theorem Bind.nameL {C k sc ρ σ x p d K} (hk : sc.names.lookup (Str.ofString x) = some .local) (h : K ((x, d) :: ρ) σ) : Bind C k sc ρ σ (.Name (Str.ofString x) p) d ownL K := fun A P env s v he hr I r =>
  wpAny_assign_Name (inv_storeL he hk I r fun s' hS I' => ⟨_, _, h, hS, I'.pp⟩)

/-- the frame's own facts after a change elsewhere -/
theorem Inv.moved {C P env ρ σ} {h h' : Heap} {I : Addr} (V : Inv C P env ρ σ h) (k : ∀ b o, b ≠ I → h.get? b = some o → h'.get? b = some o) (hz : h.objs.size ≤ h'.objs.size) (hI : P I ∧ C.base ≤ I ∧ I ∉ dom σ ∧ ¬ own env I) : Inv C P env ρ σ h' := by
  have g : Pass P h P h' := fun a o na e => ⟨k a o (fun q => na (q ▸ hI.1)) e, na⟩
  have ko : ∀ b o, own env b → h.get? b = some o → h'.get? b = some o := fun b o hb e => k b o (fun q => hI.2.2.2 (q ▸ hb)) e
  exact ⟨⟨C.keep V.hp.gi (fun b o hb e => k b o (fun q => absurd (q ▸ hb.1) (Nat.not_lt.mpr hI.2.1)) e) hz, V.hp.st.pass g (fun b hb o e => k b o (fun q => hI.2.2.1 (q ▸ hb)) e), V.hp.ptb, V.hp.pdom, V.hp.nodup, fun a ha => Nat.lt_of_lt_of_le (V.hp.plt a ha) hz⟩,
    V.envOk.keep ko, fun x d hx => let ⟨v, a, r⟩ := V.vars x d hx; ⟨v, a.keep ko, r.pass' g⟩, V.pown⟩
theorem Inv.less {C P P' env ρ σ h} (V : Inv C P env ρ σ h) (e : ∀ a, P' a → P a) (ht : ∀ a ∈ C.tb, P' a) (hd : ∀ a ∈ dom σ, P' a) (ho : ∀ a, own env a → P' a) : Inv C P' env ρ σ h :=
  ⟨V.hp.weak e ht hd, V.envOk, fun x d hx => let ⟨v, a, r⟩ := V.vars x d hx; ⟨v, a, r.pass' (Pass.less e)⟩, fun a ha => ⟨ho a ha, (V.pown a ha).2⟩⟩
/-- one more watched address -/
theorem Inv.more {C P env ρ σ} {s : Shared} {o : Obj} (V : Inv C P env ρ σ s.heap) : Inv C (fun b => P b ∨ b = hsz s) env ρ σ (s.heap.push o) := by
  have k : ∀ b x, s.heap.get? b = some x → (s.heap.push o).get? b = some x := fun b x e => Heap.get?_push_of_some _ e
  have hz : s.heap.objs.size ≤ (s.heap.push o).objs.size := by rw [Heap.size_push]; exact Nat.le_succ _
  have g : Pass P s.heap (fun b => P b ∨ b = hsz s) (s.heap.push o) := fun a x na e => ⟨k a x e, fun q => q.elim na fun q => by subst q; exact absurd (Heap.lt_size e) (Nat.lt_irrefl _)⟩
  exact ⟨⟨C.keep V.hp.gi (fun b o _ e => k b o e) hz, V.hp.st.pass g (fun b _ o e => k b o e), fun a ha => .inl (V.hp.ptb a ha), fun a ha => ⟨.inl (V.hp.pdom a ha).1, (V.hp.pdom a ha).2⟩, V.hp.nodup, fun a ha => ha.elim (fun q => Nat.lt_of_lt_of_le (V.hp.plt a q) hz) fun q => by subst q; rw [Heap.size_push]; exact Nat.lt_succ_self _⟩,
    V.envOk.keep (fun b o _ e => k b o e), fun x d hx => let ⟨v, a, r⟩ := V.vars x d hx; ⟨v, a.keep (fun b o _ e => k b o e), r.pass' g⟩, fun a ha => ⟨.inl (V.pown a ha).1, (V.pown a ha).2⟩⟩
end Mine
end C6

section C7
open PySem PySem.W PyProof.Rows
set_option Elab.async false
set_option linter.unusedVariables false
namespace Mine

theorem Inv.grown {C P env ρ σ} {h h' : Heap} (V : Inv C P env ρ σ h) (k : ∀ b o, h.get? b = some o → h'.get? b = some o) (hz : h.objs.size ≤ h'.objs.size) : Inv C P env ρ σ h' := by
  have g : Pass P h P h' := fun a o na e => ⟨k a o e, na⟩
  exact ⟨⟨C.keep V.hp.gi (fun b o _ e => k b o e) hz, V.hp.st.pass g (fun b _ o e => k b o e), V.hp.ptb, V.hp.pdom, V.hp.nodup, fun a ha => Nat.lt_of_lt_of_le (V.hp.plt a ha) hz⟩,
    V.envOk.keep (fun b o _ e => k b o e), fun x d hx => let ⟨v, a, r⟩ := V.vars x d hx; ⟨v, a.keep (fun b o _ e => k b o e), r.pass' g⟩, V.pown⟩

/-! ## unpacking -/
theorem draw_it {C A P I E} : ∀ {xs : List PV} {s : Shared} {Q : List Value → Shared → Prop}, ItAt C A P s.heap I xs →
    (∀ vs h' tk, hsz s ≤ h'.objs.size → (∀ b o, b ≠ I → s.heap.get? b = some o → h'.get? b = some o) → RdL C.X P h' vs xs → ItAt C A P h' I [] → Q vs { s with heap := h', toks := tk }) → wpAny (model C.prog C.w) A (draw (.ref I) xs.length) Q E s
  | [], s, Q, t, hQ => wpAny_pure (hQ [] s.heap s.toks (Nat.le_refl _) (fun _ _ _ e => e) .nil t)
  | x :: xs, s, Q, t, hQ => by
    show wpAny _ _ (pyNext (.ref I) >>= _) Q E s
    refine wpAny_bind (t.next fun v h₁ tk₁ hz₁ k₁ r₁ t₁ _ => ?_)
    refine wpAny_bind (wpAny_holding (draw_it t₁ fun vs h₂ tk₂ hz₂ k₂ r₂ t₂ => wpAny_pure ?_))
    have hI : P I := by obtain ⟨_, _, _, _, _, _, _, _, _, hI, _⟩ := t; exact hI
    exact hQ _ h₂ tk₂ (Nat.le_trans hz₁ hz₂) (fun b o hb e => k₂ b o hb (k₁ b o hb e)) (.cons (r₁.pass' fun a o na e => ⟨k₂ a o (fun q => na (q ▸ hI)) e, na⟩) r₂) t₂
/-- v can be walked -/
noncomputable def Unpackable (C : Cx) (σ : Sto) (d : PV) : Prop := ∃ T id_, OfType C σ d T ∧ PySem.Slot T "__iter__" id_
theorem unpack_it {C k σ d xs A P s v} {E : Value → Shared → Prop} {Q : List Value → Shared → Prop} (hI : Iterable C k σ d xs) (hU : Unpackable C σ d) (hr : Room A k) (H : Hp C P σ s.heap) (r : Rd C.X P s.heap v d)
    (hQ : ∀ vs h' tk, hsz s ≤ h'.objs.size → (∀ b o, s.heap.get? b = some o → h'.get? b = some o) → RdL C.X P h' vs xs → Q vs { s with heap := h', toks := tk }) : wpAny (model C.prog C.w) A (unpackItems v xs.length none) Q E s := by
  obtain ⟨T, id_, hT, sl⟩ := hU
  unfold unpackItems
  refine wpAny_bind ?_
  unfold notIterableAtAll
  refine wpAny_bind (wpAny_specialOf (hT P s v H r).1 sl.lookup ?_)
  refine wpAny_pure ?_
  simp only [Bool.false_eq_true, if_false]
  refine wpAny_bind (wpAny_holding (hI A P s v E _ hr H r fun o tk t => ?_))
  refine wpAny_bind (wpAny_holding (draw_it t fun vs h₁ tk₁ hz₁ k₁ r₁ t₁ => ?_))
  rw [if_neg (by rw [r₁.length]; simp)]
  refine wpAny_bind (wpAny_holding (t₁.done fun h₂ tk₂ hz₂ k₂ => ?_))
  simp only [Option.isSome_none, Bool.false_eq_true, if_false]
  have p : s.heap.objs.size ≤ (s.heap.push o).objs.size := by rw [Heap.size_push]; exact Nat.le_succ _
  refine wpAny_pure (hQ vs h₂ tk₂ (Nat.le_trans p (Nat.le_trans hz₁ hz₂)) (fun b o' e => ?_) ?_)
  · have hb : b ≠ hsz s := Nat.ne_of_lt (Heap.lt_size e)
    exact k₂ b o' hb (k₁ b o' hb (Heap.get?_push_of_some _ e))
  · exact r₁.pass' fun a o' na e => ⟨k₂ a o' (fun q => na (.inr q)) e, fun q => na (.inl q)⟩

noncomputable def BindAll (C : Cx) (k : Nat) (sc : Scope) (ow : Env → Addr → Prop) : Lo → Sto → List Expr → List PV → (Lo → Sto → Prop) → Prop
  | ρ, σ, [], [], K => K ρ σ
  | ρ, σ, t :: ts, d :: ds, K => Bind C k sc ρ σ t d ow fun ρ' σ' => BindAll C k sc ow ρ' σ' ts ds K
  | _, _, _, _, _ => False
theorem assignEach_plain {t r env} (h : plainE t = true) : assignEach (t :: r) env = (false, assign t env) :: assignEach r env := by
  cases t <;> first | rfl | cases h
theorem assignEach_facts {env} : ∀ {ts : List Expr}, ts.all plainE = true → (assignEach ts env).length = ts.length ∧ (assignEach ts env).findIdx? (·.1) = none
  | [], _ => ⟨rfl, rfl⟩
  | t :: r, h => by
    rw [List.all_cons, Bool.and_eq_true] at h
    rw [assignEach_plain h.1]
    obtain ⟨a, b⟩ := assignEach_facts (env := env) h.2
    refine ⟨by rw [List.length_cons, List.length_cons, a], ?_⟩
    rw [List.findIdx?_cons, b]; rfl
theorem bindAll_run {C k sc ow env A} (he : env.scope = sc) (hr : Room A k) (how : ∀ a, ow env a → own env a) {ts : List Expr} : ∀ {ds : List PV} {vs : List Value} {ρ σ P s K}, BindAll C k sc ow ρ σ ts ds K → ts.all plainE = true → Inv C P env ρ σ s.heap → RdL C.X P s.heap vs ds →
    wpAny (model C.prog C.w) A (assignInOrder ((assignEach ts env).map (·.2)) vs) (fun _ s' => ∃ ρ' σ', K ρ' σ' ∧ Step C σ σ' (ow env) s s' ∧ Inv C (PP P σ') env ρ' σ' s'.heap) NoE s := by
  induction ts with
  | nil =>
    intro ds vs ρ σ P s K h _ I rs
    cases ds with
    | nil => cases rs; exact wpAny_pure ⟨ρ, σ, h, Step.refl s, I.pp⟩
    | cons => exact h.elim
  | cons t ts ih =>
    intro ds vs ρ σ P s K h hp I rs
    cases ds with
    | nil => exact h.elim
    | cons d ds =>
    cases rs with
    | cons r rs =>
    rw [List.all_cons, Bool.and_eq_true] at hp
    rw [assignEach_plain hp.1]
    refine wpAny_assignInOrder_more (wpAny_mono (h A P env s _ he hr I r) (fun _ s₁ o => ?_) fun _ _ x => x)
    obtain ⟨ρ₁, σ₁, hK, hS, I₁⟩ := o
    have g := pass_step hS (fun a q => (I.pown a (how a q)).1) I.hp
    refine wpAny_mono (ih hK hp.2 I₁ (rs.pass' g)) (fun _ s₂ o => ?_) fun _ _ x => x
    obtain ⟨ρ₂, σ₂, hK₂, hS₂, I₂⟩ := o
    exact ⟨ρ₂, σ₂, hK₂, hS.trans hS₂, I₂.down I.hp.ptb fun a ha => (I.pown a ha).1⟩
theorem Bind.tuple {C k sc ρ σ ts x1 pos d ow K} {xs : List PV} (hI : Iterable C k σ d xs) (hU : Unpackable C σ d) (h : BindAll C k sc ow ρ σ ts xs K) (hl : xs.length = ts.length) (hp : ts.all plainE = true) (how : ∀ env a, ow env a → own env a) :
    Bind C k sc ρ σ (.Tuple ts x1 pos) d ow K := fun A P env s v he hr I r => by
  rw [arm_assign_Tuple]
  refine wpAny_bind (wpAny_standAt ?_)
  unfold unpack
  obtain ⟨h1, h2⟩ := assignEach_facts (env := env) hp
  rw [h1, h2, ← hl]
  refine wpAny_bind (wpAny_holding (unpack_it hI hU hr I.hp r fun vs h' tk hz hk rl => ?_))
  refine wpAny_mono (bindAll_run (s := { s with heap := h', toks := tk }) he hr (how env) h hp (I.grown hk hz) rl) (fun _ s₂ o => ?_) fun _ _ x => x
  obtain ⟨ρ₂, σ₂, hK₂, hS₂, I₂⟩ := o
  have S0 : Step C σ σ (ow env) s { s with heap := h', toks := tk } := ⟨fun b o _ _ _ e => hk b o e, hz, fun _ q => .inl q, rfl, rfl⟩
  exact ⟨ρ₂, σ₂, hK₂, S0.trans hS₂, I₂⟩
theorem Unpackable.tuple {C σ xs} : Unpackable C σ (.tuple xs) := ⟨_, _, OfType.tuple, F.slot_tuple_iter⟩
theorem Unpackable.list {C σ xs} : Unpackable C σ (.list xs) := ⟨_, _, OfType.list .list, F.slot_list_iter⟩

/-! ## assignments by a target -/

/-! ## for -/
section
variable {prog : Program} {w : World} {A : Around} {s : Shared}
theorem for_go {R : Result → Shared → Prop} {target it body orelse env} (I : Nat → Shared → Prop)
    (turn : ∀ n s, I n s → wpAny (model prog w) A (pyNext it) (fun r s₁ => match r with
      | none => wpAny (model prog w) A (execs orelse env) (fun f s₃ => R (.ok f) s₃) NoE s₁
      | some v => wpAny (model prog w) A (letOwnedTupleGo target it v) (fun _ s₂ => wpAny (model prog w) A (assign target env v) (fun _ s₃ => wpAny (model prog w) A (execs body env) (fun f s₄ => match f with
          | .next | .cont => ∃ m, m < n ∧ I m s₄
          | .brk => R (.ok .next) s₄
          | .ret v => R (.ok (.ret v)) s₄) NoE s₃) NoE s₂) NoE s₁) NoE s) (n : Nat) (h : I n s) : codeAny (model prog w) A (.forLoop target it body orelse env) R s := by
  have no : ∀ {α : Type} {t : Sem α} {Q : α → Shared → Prop} {E : Value → Shared → Prop} {s : Shared}, wpAny (model prog w) A t Q NoE s → wpAny (model prog w) A t Q E s := fun h => wpAny_mono h (fun _ _ x => x) fun _ _ x => x.elim
  refine codeAny_loop' rfl I (fun n s hI => ?_) n h
  show wpAny _ _ ((forTurn target it body orelse env).onRaise (fun x => do noteFrame x env; theTreesLotGoes x)) _ _ s
  refine wpAny_noted ?_
  simp only [forTurn]
  refine wpAny_bind (wpAny_standAt (wpAny_bind (wpAny_onRaise (wpAny_mono (turn n s hI) (fun r s₁ h₁ => ?_) fun _ _ h' => h'.elim))))
  cases r with
  | none => exact wpAny_pure (.inr ⟨rfl, codeAny_block (no h₁)⟩)
  | some v =>
    refine wpAny_bind (wpAny_mono h₁ (fun _ s₂ h₂ => ?_) fun _ _ x => x.elim)
    refine wpAny_bind (wpAny_mono h₂ (fun _ s₃ h₃ => wpAny_bind (wpAny_mono h₃ (fun f s₄ h₄ => ?_) fun _ _ h' => h'.elim)) fun _ _ h' => h'.elim)
    cases f with
    | next => exact wpAny_pure (.inl ⟨rfl, h₄⟩)
    | cont => exact wpAny_pure (.inl ⟨rfl, h₄⟩)
    | brk => exact wpAny_pure h₄
    | ret v => exact wpAny_pure h₄
end

theorem Ex1.for {C k sc ρ σ target iter body pos K} (J : List PV → Lo → Sto → Prop)
    (h : Ev C k sc ρ σ iter fun a σ₁ => ∃ xs, Iterable C k σ₁ a xs ∧ J xs ρ σ₁)
    (turn : ∀ x r ρ' σ', J (x :: r) ρ' σ' → Bind C k sc ρ' σ' target x own fun ρ₁ σ₂ => Ex C k sc ρ₁ σ₂ body fun g ρ₂ σ₃ => match g with | .next | .cont => J r ρ₂ σ₃ | .brk => K .next ρ₂ σ₃ | .ret d => K (.ret d) ρ₂ σ₃)
    (fin : ∀ ρ' σ', J [] ρ' σ' → K .next ρ' σ') (hs : ∀ env x, foldedSetIterable iter env x = pure x) : Ex1 C k sc ρ σ (.For target iter body [] pos) K := fun A P env s he hr I => by
  refine wpAny_For (ev_one h he hr I fun v d σ₁ s₁ hK hA r => ?_) (hs env)
  obtain ⟨xs, hI, hJ⟩ := hK
  have I₁ := I.after hA
  refine hI A _ s₁ v _ _ hr I₁.hp r fun o tk t => ?_
  have S₁ : Step C σ σ₁ (own env) s s₁ := hA.step.weak fun _ q => q.elim
  refine for_go (fun n s' => ∃ rest ρ' σ', n = rest.length ∧ J rest ρ' σ' ∧ Step C σ₁ σ' (own env) s₁ s' ∧ Inv C (PP (fun b => PP P σ₁ b ∨ b = hsz s₁) σ') env ρ' σ' s'.heap ∧ ItAt C A (PP (fun b => PP P σ₁ b ∨ b = hsz s₁) σ') s'.heap (hsz s₁) rest ∧ hsz s₁ ∉ dom σ') ?_ xs.length ?_
  · rintro n s' ⟨rest, ρ', σ', rfl, hJ', hS', I', t', hd⟩
    have hown : ¬ own env (hsz s₁) := fun q => Nat.lt_irrefl _ (I₁.envOk.lt _ q)
    have hbase : C.base ≤ hsz s₁ := C.low I₁.hp.gi
    have hnew : ∀ {h' : Heap} {tk'}, hsz s' ≤ h'.objs.size → (∀ b o, b ≠ hsz s₁ → s'.heap.get? b = some o → h'.get? b = some o) → Step C σ₁ σ' (own env) s₁ { s' with heap := h', toks := tk' } := fun {h'} {tk'} hz k =>
      ⟨fun b o h1 h2 h3 e => k b o (fun q => by subst q; exact Nat.lt_irrefl _ (Heap.lt_size e)) (hS'.kept b o h1 h2 h3 e), Nat.le_trans hS'.size hz, hS'.new, hS'.gens, hS'.os⟩
    have hlast : ∀ {s''} {ρ'' σ''}, Step C σ₁ σ'' (own env) s₁ s'' → Inv C (PP (fun b => PP P σ₁ b ∨ b = hsz s₁) σ'') env ρ'' σ'' s''.heap → AfterF C P env σ s ρ'' σ'' s'' := fun {s''} {ρ'' σ''} hS I'' =>
      ⟨S₁.trans hS, I''.less (fun a q => q.elim (fun q => .inl (.inl (.inl q))) .inr) (fun a ha => .inl (I.hp.ptb a ha)) (fun a ha => .inr ha) (fun a ha => .inl (I.pown a ha).1)⟩
    have rdless : ∀ {h' σ'' v d}, Rd C.X (PP (fun b => PP P σ₁ b ∨ b = hsz s₁) σ'') h' v d → Rd C.X (PP P σ'') h' v d := fun q => q.pass' (Pass.less fun a q => q.elim (fun q => .inl (.inl (.inl q))) .inr)
    cases rest with
    | nil =>
      refine t'.done fun h' tk' hz k => ?_
      exact wpAny_execs_nil ⟨.next, ρ', σ', fin _ _ hJ', hlast (hnew hz k) (I'.moved k hz ⟨.inl (.inr rfl), hbase, hd, hown⟩), .next⟩
    | cons x rest =>
      refine t'.next fun v h' tk' hz k rv t₂ go => ?_
      refine go target _ _ _ rfl ?_
      have I₂ := I'.moved k hz ⟨.inl (.inr rfl), hbase, hd, hown⟩
      have S₂ := hnew (tk' := tk') hz k
      refine wpAny_mono (turn _ _ _ _ hJ' A _ env { s' with heap := h', toks := tk' } v he hr I₂ rv) (fun _ s₃ o => ?_) fun _ _ x => x
      obtain ⟨ρ₁, σ₂, hB, hS₃, I₃⟩ := o
      have pt : ∀ a ∈ C.tb, (fun b => PP P σ₁ b ∨ b = hsz s₁) a := fun a ha => Or.inl (Or.inl (I.hp.ptb a ha))
      have po : ∀ a, own env a → (fun b => PP P σ₁ b ∨ b = hsz s₁) a := fun a ha => Or.inl (Or.inl (I.pown a ha).1)
      have I₃' := I₃.down pt po
      refine wpAny_mono (hB A _ env s₃ he hr I₃') (fun f s₄ o => ?_) fun _ _ x => x
      obtain ⟨g, ρ₂, σ₃, hK, hA₄, fl⟩ := o
      have S₄ := S₂.trans (hS₃.trans hA₄.step)
      have I₄ := hA₄.inv.down pt po
      have d4 : ∀ σ'' {sx : Shared}, (∀ a ∈ dom σ'', a ∈ dom σ' ∨ h'.objs.size ≤ a) → hsz s₁ ∉ dom σ'' := fun σ'' _ q ha => by
        rcases q _ ha with z | z
        · exact hd z
        · have : hsz s₁ < hsz s' := by
            obtain ⟨_, _, _, _, _, _, _, st, _⟩ := t'
            exact I'.hp.plt _ (.inl (.inr rfl))
          exact absurd (Nat.lt_of_lt_of_le this hz) (Nat.not_lt.mpr z)
      have hd₄ : hsz s₁ ∉ dom σ₃ := d4 σ₃ (sx := s₄) (hS₃.trans hA₄.step).new
      have back : J rest ρ₂ σ₃ → ∃ m, m < (x :: rest).length ∧ ∃ rest' ρ'' σ'', m = rest'.length ∧ J rest' ρ'' σ'' ∧ Step C σ₁ σ'' (own env) s₁ s₄ ∧ Inv C (PP (fun b => PP P σ₁ b ∨ b = hsz s₁) σ'') env ρ'' σ'' s₄.heap ∧ ItAt C A (PP (fun b => PP P σ₁ b ∨ b = hsz s₁) σ'') s₄.heap (hsz s₁) rest' ∧ hsz s₁ ∉ dom σ'' := fun j => by
        refine ⟨rest.length, by simp, rest, ρ₂, σ₃, rfl, j, S₄, I₄, ?_, hd₄⟩
        have g := pass_step (hS₃.trans hA₄.step) (fun a q => (I₂.pown a q).1) I₂.hp
        refine t₂.pass (fun a o na e => ⟨(g a o na e).1, fun q => (g a o na e).2 (PP_up a q)⟩) (fun o e => ?_) (.inl (.inr rfl))
        exact (hS₃.trans hA₄.step).kept _ o hd (fun q => absurd (C.tbLow _ q) (Nat.not_lt.mpr hbase)) hown e
      cases fl with
      | next => exact back hK
      | cont => exact back hK
      | brk => exact ⟨.next, _, _, hK, hlast S₄ I₄, .next⟩
      | ret rv' => exact ⟨.ret _, _, _, hK, hlast S₄ I₄, .ret (rdless (rv'.down C.extOk))⟩
  · refine ⟨xs, ρ, σ₁, rfl, hJ, ⟨fun b o _ _ _ e => Heap.get?_push_of_some _ e, by show s₁.heap.objs.size ≤ (s₁.heap.push o).objs.size; rw [Heap.size_push]; exact Nat.le_succ _, fun _ q => .inl q, rfl, rfl⟩, I₁.more.pp, ?_, fun q => Nat.lt_irrefl _ (I₁.hp.lt _ q)⟩
    exact t.pass (Pass.pp I₁.more.hp) (fun _ e => e) (.inl (.inr rfl))
end Mine
end C7

section C8
open PySem PySem.W PyProof.Rows
set_option Elab.async false
set_option linter.unusedVariables false
namespace Mine

theorem tests_run {C k sc cenv A} (he : cenv.scope = sc) (hr : Room A k) {ifs : List Expr} : ∀ {ρ σ P s K}, TrAll C k sc ρ .And σ ifs K → Inv C P cenv ρ σ s.heap →
    wpAny (model C.prog C.w) A (forIn ifs true fun c r => if r = true then do let ok ← isTrue c cenv (eval c cenv); pure (ForInStep.yield ok) else pure (ForInStep.yield r)) (OutB C P σ s K) NoE s := by
  induction ifs with
  | nil => intro ρ σ P s K h I; rw [List.forIn_nil]; exact wpAny_pure (OutB.here I.hp h)
  | cons c r ih =>
    intro ρ σ P s K h I
    rw [List.forIn_cons]
    simp only [if_true]
    refine wpAny_bind (wpAny_bind (wpAny_mono (h A P cenv s he hr I) (fun b s₁ o => wpAny_pure ?_) fun _ _ x => x))
    obtain ⟨σ₁, hK, hA⟩ := o
    cases b with
    | true => exact wp_seqB hA I.hp (ih hK (I.after hA))
    | false =>
      have hK' : K false σ₁ := hK
      clear ih h hK
      dsimp only
      induction r with
      | nil => rw [List.forIn_nil]; exact wpAny_pure ⟨σ₁, hK', hA⟩
      | cons c' r' ih' =>
        rw [List.forIn_cons]
        simp only [Bool.false_eq_true, if_false]
        exact wpAny_bind (wpAny_pure ih')

/-- what the clauses still to come do -/
noncomputable def CompOk (C : Cx) (k : Nat) (sc : Scope) (elt : Expr) : List Comprehension → List PV → Lo → Sto → (List PV → Lo → Sto → Prop) → Prop
  | [], acc, ρ, σ, K => Ev C k sc ρ σ elt fun d σ' => acc.length ≤ sizeLine ∧ K (acc ++ [d]) ρ σ'
  | g :: gs, acc, ρ, σ, K => Ev C k sc ρ σ g.iter fun a σ₁ => ∃ xs, Iterable C k σ₁ a xs ∧ ∃ J : List PV → List PV → Lo → Sto → Prop, J xs acc ρ σ₁ ∧
      (∀ x r acc ρ σ, J (x :: r) acc ρ σ → Bind C k sc ρ σ g.target x ownL fun ρ' σ' => TrAll C k sc ρ' .And σ' g.ifs fun b σ₂ => if b then CompOk C k sc elt gs acc ρ' σ₂ (fun acc' ρ'' σ₃ => J r acc' ρ'' σ₃) else J r acc ρ' σ₂) ∧
      (∀ acc ρ σ, J [] acc ρ σ → K acc ρ σ)

noncomputable abbrev owD (cenv : Env) (D : Addr) : Addr → Prop := fun a => a = cenv.locals ∨ a = D
/-- the state of a comprehension under way -/
structure CSt (C : Cx) (P : Addr → Prop) (cenv : Env) (D : Addr) (ρ : Lo) (σ : Sto) (acc : List PV) (s : Shared) : Prop where
  inv : Inv C P cenv ρ σ s.heap
  list : ∃ vs, s.heap.PlainList D vs ∧ RdL C.X P s.heap vs.toList acc
  hD : P D ∧ C.base ≤ D ∧ D ∉ dom σ ∧ ¬ own cenv D
theorem CSt.down {C P σ₁ cenv D ρ σ acc s} (c : CSt C (PP (PP P σ₁) σ) cenv D ρ σ acc s) (hp : ∀ a ∈ C.tb, P a) (ho : ∀ a, own cenv a → P a) (hD : P D) : CSt C (PP P σ) cenv D ρ σ acc s :=
  ⟨c.inv.down hp ho, let ⟨vs, a, b⟩ := c.list; ⟨vs, a, b.down C.extOk⟩, .inl hD, c.hD.2⟩
theorem CSt.pp {C P cenv D ρ σ acc s} (c : CSt C P cenv D ρ σ acc s) : CSt C (PP P σ) cenv D ρ σ acc s :=
  ⟨c.inv.pp, let ⟨vs, a, b⟩ := c.list; ⟨vs, a, b.pass' (Pass.pp c.inv.hp)⟩, .inl c.hD.1, c.hD.2⟩
/-- a step that leaves the list alone -/
theorem CSt.step {C P cenv D ρ σ acc s ρ' σ' s'} (c : CSt C P cenv D ρ σ acc s) (S : Step C σ σ' (ownL cenv) s s') (I : Inv C (PP P σ') cenv ρ' σ' s'.heap) : CSt C (PP P σ') cenv D ρ' σ' acc s' := by
  have g := pass_step S (fun a q => (c.inv.pown a (.inl q)).1) c.inv.hp
  obtain ⟨vs, ⟨n, e⟩, r⟩ := c.list
  refine ⟨I, ⟨vs, ⟨n, S.kept D _ c.hD.2.2.1 (fun q => absurd (C.tbLow _ q) (Nat.not_lt.mpr c.hD.2.1)) (fun q => c.hD.2.2.2 (.inl q)) e⟩, r.pass' g⟩, .inl c.hD.1, c.hD.2.1, fun q => ?_, c.hD.2.2.2⟩
  rcases S.new _ q with z | z
  · exact c.hD.2.2.1 z
  · exact absurd (Heap.lt_size e) (Nat.not_lt.mpr z)

theorem drop_get {α : Type} {l : List α} {d : Nat} {g : α} {gs : List α} (h : l.drop d = g :: gs) : l[d]? = some g ∧ l.drop (d + 1) = gs ∧ l[d + 1]? = gs.head? := by
  have h1 : l[d]? = some g := by rw [← List.head?_drop, h]; rfl
  have h2 : l.drop (d + 1) = gs := by rw [← List.tail_drop, h]; rfl
  exact ⟨h1, h2, by rw [← List.head?_drop, h2]⟩


section
variable {prog : Program} {w : World} {A : Around} {s : Shared} {elt : Expr} {gens : List Comprehension} {scope : Scope} {pos : Pos}
theorem comp_go {R : Result → Shared → Prop} {d : Nat} {g : Comprehension} {gs : List Comprehension} {it acc : Value} {env : Env} (hg : gens.drop d = g :: gs) (ha : g.is_async = 0) (I : Nat → Shared → Prop)
    (turn : ∀ n s, I n s → wpAny (model prog w) A (pyNext it) (fun r s₁ => match r with
      | none => R (.ok .next) s₁
      | some v => wpAny (model prog w) A (letOwnedTupleGo g.target it v) (fun _ s₂ => wpAny (model prog w) A (assign g.target env v) (fun _ s₃ =>
          wpAny (model prog w) A (forIn g.ifs true fun c r => if r = true then do let ok ← isTrue c env (eval c env); pure (ForInStep.yield ok) else pure (ForInStep.yield r)) (fun ok s₄ =>
            if ok = true then (match gs with
              | [] => wpAny (model prog w) A (eval elt env) (fun x s₅ => wpAny (model prog w) A (call (.builtin "list.append") [acc, x]) (fun _ s₆ => ∃ m, m < n ∧ I m s₆) NoE s₅) NoE s₄
              | g' :: _ => wpAny (model prog w) A (eval g'.iter env) (fun x s₅ => wpAny (model prog w) A (pyIter x) (fun it' s₆ => codeAny (model prog w) A (.compStart (.ListComp elt gens scope pos) (d + 1) it' acc env) (fun r s₇ => r = .ok .next ∧ ∃ m, m < n ∧ I m s₇) s₆) NoE s₅) NoE s₄)
            else ∃ m, m < n ∧ I m s₄) NoE s₃) NoE s₂) NoE s₁) NoE s)
    (hin : ∀ g' ∈ gs.head?, g'.is_async = 0 ∧ ∀ x, foldedSetIterable g'.iter env x = pure x)
    (n : Nat) (h : I n s) : codeAny (model prog w) A (.compLoop (.ListComp elt gens scope pos) d it acc env) R s := by
  obtain ⟨h1, h2, h3⟩ := drop_get hg
  refine codeAny_loop rfl I (fun n s hI => ?_) n h
  show wpAny _ A ((compTurn (.ListComp elt gens scope pos) d it acc env).onRaise (fun x => do noteFrame x env; theTreesLotGoes x)) _ _ s
  refine wpAny_noted ?_
  unfold compTurn
  simp only [h1, ha]
  refine wpAny_bind (wpAny_standAt (wpAny_bind (wpAny_mono (turn n s hI) (fun r s₁ h₁ => ?_) fun _ _ h' => h'.elim)))
  cases r with
  | none => exact wpAny_pure h₁
  | some v =>
    refine wpAny_bind (wpAny_mono h₁ (fun _ s₂ h₂ => ?_) fun _ _ h' => h'.elim)
    refine wpAny_bind (wpAny_mono h₂ (fun _ s₃ h₃ => wpAny_bind (wpAny_mono h₃ (fun ok s₄ h₄ => ?_) fun _ _ h' => h'.elim)) fun _ _ h' => h'.elim)
    cases ok with
    | false => exact wpAny_pure ⟨rfl, h₄⟩
    | true =>
      try dsimp only at h₄ ⊢
      simp only [if_true] at h₄ ⊢
      rw [h3]
      cases gs with
      | nil => exact wpAny_bind (wpAny_bind (wpAny_mono h₄ (fun x s₄ h₄ => wpAny_bind (wpAny_mono h₄ (fun _ s₅ h₅ => wpAny_pure (wpAny_pure ⟨rfl, h₅⟩)) fun _ _ h' => h'.elim)) fun _ _ h' => h'.elim))
      | cons g' gs' =>
        obtain ⟨a', f'⟩ := hin g' rfl
        try dsimp only [List.head?_cons]
        simp only [a']
        refine wpAny_bind (wpAny_mono h₄ (fun x s₅ h₅ => wpAny_bind (wpAny_standAt (wpAny_bind (wpAny_of_eq (f' x) ?_)))) fun _ _ h' => h'.elim)
        refine wpAny_bind (wpAny_holding (wpAny_mono h₅ (fun it' s₆ h₆ => ?_) fun _ _ h' => h'.elim))
        refine wpAny_bind (wpAny_runOwn ?_)
        rw [Around.mark_none]
        refine codeAny_mono h₆ fun r s₇ h₇ => ?_
        obtain ⟨rfl, h₇⟩ := h₇
        exact wpAny_pure ⟨rfl, h₇⟩
theorem compStart_go {R : Result → Shared → Prop} {d : Nat} {g : Comprehension} {gs : List Comprehension} {it acc : Value} {env : Env} (hg : gens.drop d = g :: gs) (ha : g.is_async = 0)
    (h0 : codeAny (model prog w) A (.compLoop (.ListComp elt gens scope pos) d it acc env) R s)
    (h : ∀ Q : Value → Shared → Prop, Q it s → wpAny (model prog w) A (pyIter it) Q NoE s) :
    codeAny (model prog w) A (.compStart (.ListComp elt gens scope pos) d it acc env) R s := by
  obtain ⟨h1, h2, h3⟩ := drop_get hg
  refine codeAny_of_tree ?_
  show wpAny _ _ ((compStart (.ListComp elt gens scope pos) d it acc env).onRaise (fun x => do noteFrame x env; standAt theWindowsPlace)) _ _ s
  refine wpAny_notedAt ?_
  unfold compStart
  have hc : (clausesOf (.ListComp elt gens scope pos))[d]? = some g := h1
  simp only [hc, Option.elim, ha]
  show wpAny _ _ (ask >>= _) _ _ s
  refine wpAny_bind (wpAny_askSetting (wpAny_ite ?_))
  split
  · first
      | exact wpAny_bind (wpAny_pure (wpAny_pure (And.intro rfl h0)))
      | exact wpAny_pure (And.intro rfl h0)
  · refine wpAny_bind (wpAny_rule ?_)
    show wpAny _ _ (standAt g.iter.pos >>= _) _ _ s
    exact wpAny_bind (wpAny_standAt (wpAny_bind (wpAny_mono (h (fun v s' => v = it ∧ s' = s) ⟨rfl, rfl⟩) (fun it' s' h' => by obtain ⟨rfl, rfl⟩ := h'; exact wpAny_pure (And.intro rfl h0)) fun _ _ x => x.elim)))
end
end Mine
end C8

section C9
open PySem PySem.W PyProof.Rows
set_option Elab.async false
set_option linter.unusedVariables false
namespace Mine

/-- the clauses are plain -/
noncomputable def PlainC (gens : List Comprehension) : Prop := ∀ g ∈ gens, g.is_async = 0 ∧ ∀ env x, foldedSetIterable g.iter env x = pure x

theorem comp_loop {C k sc A cenv D elt gens scope pos} (he : cenv.scope = sc) (hr : Room A k) (hp : PlainC gens) : ∀ {gs : List Comprehension} {g : Comprehension} {d : Nat} (hg : gens.drop d = g :: gs)
    {P : Addr → Prop} {I : Addr} {xs : List PV} {acc : List PV} {ρ σ} {s₀ s : Shared} {K : List PV → Lo → Sto → Prop} {R : Result → Shared → Prop} (J : List PV → List PV → Lo → Sto → Prop)
    (hJ : J xs acc ρ σ) (turn : ∀ x r acc ρ σ, J (x :: r) acc ρ σ → Bind C k sc ρ σ g.target x ownL fun ρ' σ' => TrAll C k sc ρ' .And σ' g.ifs fun b σ₂ => if b then CompOk C k sc elt gs acc ρ' σ₂ (fun acc' ρ'' σ₃ => J r acc' ρ'' σ₃) else J r acc ρ' σ₂)
    (fin : ∀ acc ρ σ, J [] acc ρ σ → K acc ρ σ) (c : CSt C P cenv D ρ σ acc s) (t : ItAt C A P s.heap I xs) (hI : P I ∧ C.base ≤ I ∧ I ∉ dom σ ∧ ¬ own cenv I ∧ I ≠ D) (h0 : hsz s₀ ≤ I) (S₀ : Step C σ σ (owD cenv D) s₀ s)
    (hR : ∀ acc' ρ' σ' s', K acc' ρ' σ' → Step C σ σ' (owD cenv D) s₀ s' → CSt C (PP P σ') cenv D ρ' σ' acc' s' → R (.ok .next) s'),
    codeAny (model C.prog C.w) A (.compLoop (.ListComp elt gens scope pos) d (.ref I) (.ref D) cenv) R s := by
  intro gs
  induction gs with
  | nil => ?_
  | cons g' gs ih => ?_
  all_goals
    intro g d hg P I xs acc ρ σ s₀ s K R J hJ turn fin c t hI h0 S₀ hR
    have hgm : g ∈ gens := List.mem_of_mem_drop (hg ▸ List.mem_cons_self)
    refine comp_go hg (hp g hgm).1 (fun n s' => ∃ rest acc' ρ' σ', n = rest.length ∧ J rest acc' ρ' σ' ∧ Step C σ σ' (owD cenv D) s₀ s' ∧ CSt C (PP P σ') cenv D ρ' σ' acc' s' ∧ ItAt C A (PP P σ') s'.heap I rest ∧ I ∉ dom σ') ?_ ?_ xs.length
      ⟨xs, acc, ρ, σ, rfl, hJ, S₀, c.pp, t.pass (Pass.pp c.inv.hp) (fun _ e => e) (.inl hI.1), hI.2.2.1⟩
    case refine_2 =>
      first
        | (intro g' h; cases h; done)
        | (intro g'' h
           have : g'' = g' := by simpa using h.symm
           subst this
           have hm : g'' ∈ gens := List.mem_of_mem_drop (hg ▸ List.mem_cons_of_mem _ List.mem_cons_self)
           exact ⟨(hp g'' hm).1, fun x => (hp g'' hm).2 _ x⟩)
    rintro n s' ⟨rest, acc', ρ', σ', rfl, hJ', S', c', t', hd⟩
    have hk : ∀ {h' : Heap} {tk'}, hsz s' ≤ h'.objs.size → (∀ b o, b ≠ I → s'.heap.get? b = some o → h'.get? b = some o) → Step C σ σ' (owD cenv D) s₀ { s' with heap := h', toks := tk' } ∧ CSt C (PP P σ') cenv D ρ' σ' acc' { s' with heap := h', toks := tk' } := fun {h'} {tk'} hz k => by
      have hI' : PP P σ' I ∧ C.base ≤ I ∧ I ∉ dom σ' ∧ ¬ own cenv I := ⟨.inl hI.1, hI.2.1, hd, hI.2.2.2.1⟩
      refine ⟨⟨fun b o h1 h2 h3 e => k b o (fun q => by subst q; exact Nat.not_lt.mpr h0 (Heap.lt_size e)) (S'.kept b o h1 h2 h3 e), Nat.le_trans S'.size hz, S'.new, S'.gens, S'.os⟩, c'.inv.moved k hz hI', ?_, c'.hD⟩
      obtain ⟨vs, ⟨n, e⟩, r⟩ := c'.list
      exact ⟨vs, ⟨n, k D _ (Ne.symm hI.2.2.2.2) e⟩, r.pass' fun a o na e => ⟨k a o (fun q => na (q ▸ hI'.1)) e, na⟩⟩
    cases rest with
    | nil =>
      refine t'.done fun h' tk' hz k => ?_
      exact hR _ _ _ _ (fin _ _ _ hJ') (hk hz k).1 (hk hz k).2
    | cons x rest => ?_
    refine t'.next fun v h' tk' hz k rv t₂ go => ?_
    refine go g.target _ _ _ rfl ?_
    obtain ⟨S₂, c₂⟩ := hk (tk' := tk') hz k
    refine wpAny_mono (turn _ _ _ _ _ hJ' A _ cenv { s' with heap := h', toks := tk' } v he hr c₂.inv rv) (fun _ s₃ o => ?_) fun _ _ x => x
    obtain ⟨ρ₁, σ₂, hB, S₃, I₃⟩ := o
    have ptb : ∀ a ∈ C.tb, P a := c.inv.hp.ptb
    have pown : ∀ a, own cenv a → P a := fun a ha => (c.inv.pown a ha).1
    have c₃ := (c₂.step S₃ I₃).down ptb pown c.hD.1
    refine wpAny_mono (tests_run he hr hB c₃.inv) (fun b s₄ o => ?_) fun _ _ x => x
    obtain ⟨σ₃, hT, A₄⟩ := o
    have S₄ : Step C σ₂ σ₃ (ownL cenv) s₃ s₄ := A₄.step.weak fun _ q => q.elim
    have c₄ := (c₃.step S₄ (c₃.inv.after A₄)).down ptb pown c.hD.1
    have S34 := S₃.trans S₄
    -- the iterator goes on
    have keepI : ∀ {σ₄ : Sto} {s₅ : Shared}, Step C σ' σ₄ (owD cenv D) { s' with heap := h', toks := tk' } s₅ → Hp C (PP P σ₄) σ₄ s₅.heap → ItAt C A (PP P σ₄) s₅.heap I rest ∧ I ∉ dom σ₄ := fun {σ₄ s₅} S H => by
      have g := pass_step S (fun a q => q.elim (fun q => .inl (q ▸ pown _ (.inl rfl))) fun q => .inl (q ▸ c.hD.1)) c₂.inv.hp
      have hne : ¬ owD cenv D I := fun q => q.elim (fun q => hI.2.2.2.1 (.inl q)) hI.2.2.2.2
      refine ⟨t₂.pass (fun a o na e => ⟨(g a o na e).1, fun q => (g a o na e).2 (PP_up a q)⟩) (fun o e => S.kept _ o hd (fun q => absurd (C.tbLow _ q) (Nat.not_lt.mpr hI.2.1)) hne e) (.inl hI.1), fun q => ?_⟩
      rcases S.new _ q with z | z
      · exact hd z
      · exact absurd (Nat.lt_of_lt_of_le (c'.inv.hp.plt I (.inl hI.1)) hz) (Nat.not_lt.mpr z)
    cases b with
    | false =>
      obtain ⟨t₅, hd₅⟩ := keepI (S34.weak fun a q => .inl q) c₄.inv.hp
      exact ⟨rest.length, by simp, rest, acc', ρ₁, σ₃, rfl, hT, S₂.trans (S34.weak fun a q => .inl q), c₄, t₅, hd₅⟩
    | true => ?_
    simp only [if_true] at hT ⊢
  · -- the element
    refine wpAny_mono (hT A _ cenv s₄ he hr c₄.inv) (fun x₁ s₅ o => ?_) fun _ _ x => x
    obtain ⟨dx, σ₄, ⟨hlen, hK⟩, A₅, rx⟩ := o
    have S₅ : Step C σ₃ σ₄ (ownL cenv) s₄ s₅ := A₅.step.weak fun _ q => q.elim
    have c₅ := (c₄.step S₅ (c₄.inv.after A₅)).down ptb pown c.hD.1
    obtain ⟨vs, pl, rl⟩ := c₅.list
    have hz5 : vs.size = acc'.length := by rw [← rl.length, Array.length_toList]
    refine wpAny_list_append_plain pl (fun h₆ pl₆ sb₆ => ?_) (by rw [hz5]; exact hlen)
    have S₆ : Step C σ₄ σ₄ (owD cenv D) s₅ { s₅ with heap := h₆ } := ⟨fun b o _ _ hb e => sb₆.extBut b o (fun q => hb (.inr q)) e, Nat.le_of_eq sb₆.1.symm, fun _ q => .inl q, rfl, rfl⟩
    have g6 : Pass (PP P σ₄) s₅.heap (PP P σ₄) h₆ := fun a o na e => ⟨sb₆.extBut a o (fun q => na (q ▸ .inl c.hD.1)) e, na⟩
    have Sall := (S34.trans S₅).weak (own' := owD cenv D) (fun a q => .inl q) |>.trans S₆
    have c₆ : CSt C (PP P σ₄) cenv D ρ₁ σ₄ (acc' ++ [dx]) { s₅ with heap := h₆ } := ⟨c₅.inv.moved sb₆.extBut (Nat.le_of_eq sb₆.1.symm) c₅.hD, ⟨_, pl₆, by
      rw [Array.toList_push]; exact (rl.pass' g6).append (.cons ((rx.down C.extOk).pass' g6) .nil)⟩, c₅.hD⟩
    obtain ⟨t₆, hd₆⟩ := keepI Sall c₆.inv.hp
    exact ⟨rest.length, by simp, rest, _, ρ₁, σ₄, rfl, hK, S₂.trans Sall, c₆, t₆, hd₆⟩
  · -- the next clause
    refine ev_one hT he hr c₄.inv fun v₅ d₅ σ₄ s₅ hK A₅ r₅ => ?_
    obtain ⟨ys, hIt, J₂, hJ₂, turn₂, fin₂⟩ := hK
    have S₅ : Step C σ₃ σ₄ (ownL cenv) s₄ s₅ := A₅.step.weak fun _ q => q.elim
    have c₅ := (c₄.step S₅ (c₄.inv.after A₅)).down ptb pown c.hD.1
    refine hIt A _ s₅ v₅ _ _ hr c₅.inv.hp (r₅.down C.extOk) fun o tk ti => ?_
    have S₆ : Step C σ₄ σ₄ (owD cenv D) s₅ { s₅ with heap := s₅.heap.push o, toks := tk } := ⟨fun b o _ _ _ e => Heap.get?_push_of_some _ e, by show s₅.heap.objs.size ≤ (s₅.heap.push o).objs.size; rw [Heap.size_push]; exact Nat.le_succ _, fun _ q => .inl q, rfl, rfl⟩
    have c₆ : CSt C (fun b => PP P σ₄ b ∨ b = hsz s₅) cenv D ρ₁ σ₄ acc' { s₅ with heap := s₅.heap.push o, toks := tk } := by
      obtain ⟨vs, ⟨n, e⟩, rl⟩ := c₅.list
      refine ⟨c₅.inv.more, ⟨vs, ⟨n, Heap.get?_push_of_some _ e⟩, rl.pass' fun a x na ea => ⟨Heap.get?_push_of_some _ ea, fun q => q.elim na fun q => by subst q; exact absurd (Heap.lt_size ea) (Nat.lt_irrefl _)⟩⟩, .inl c₅.hD.1, c₅.hD.2⟩
    have hd1 := (drop_get hg).2.1
    have hDlt : D < hsz s₅ := c₅.inv.hp.plt D c₅.hD.1
    have hI2 : (fun b => PP P σ₄ b ∨ b = hsz s₅) (hsz s₅) ∧ C.base ≤ hsz s₅ ∧ hsz s₅ ∉ dom σ₄ ∧ ¬ own cenv (hsz s₅) ∧ hsz s₅ ≠ D :=
      ⟨.inr rfl, C.low c₅.inv.hp.gi, fun q => Nat.lt_irrefl _ (c₅.inv.hp.lt _ q), fun q => Nat.lt_irrefl _ (c₅.inv.envOk.lt _ q), Ne.symm (Nat.ne_of_lt hDlt)⟩
    have hgm' : g' ∈ gens := List.mem_of_mem_drop (hg ▸ List.mem_cons_of_mem _ List.mem_cons_self)
    refine compStart_go hd1 (hp g' hgm').1 (ih hd1 J₂ hJ₂ turn₂ fin₂ c₆ ti hI2 (s₀ := s₅) (Nat.le_refl _) S₆ fun acc₇ ρ₇ σ₇ s₇ hK₇ S₇ c₇ => ⟨rfl, ?_⟩) fun Q q => ti.self q
    have Sall := (((S34.trans S₅).weak (own' := owD cenv D) fun a q => .inl q)).trans S₇
    have c₈ : CSt C (PP P σ₇) cenv D ρ₇ σ₇ acc₇ s₇ := by
      obtain ⟨vs, pl, rl⟩ := c₇.list
      have less : ∀ a, PP P σ₇ a → PP (fun b => PP P σ₄ b ∨ b = hsz s₅) σ₇ a := fun a q => q.elim (fun q => .inl (.inl (.inl q))) .inr
      exact ⟨c₇.inv.less less (fun a ha => .inl (ptb a ha)) (fun a ha => .inr ha) (fun a ha => .inl (pown a ha)), ⟨vs, pl, rl.pass' (Pass.less less)⟩, .inl c.hD.1, c₇.hD.2⟩
    obtain ⟨t₈, hd₈⟩ := keepI Sall c₈.inv.hp
    exact ⟨rest.length, by simp, rest, acc₇, ρ₇, σ₇, rfl, hK₇, S₂.trans Sall, c₈, t₈, hd₈⟩
end Mine
end C9

section C10
open PySem PySem.W PyProof.Rows
set_option Elab.async false
set_option linter.unusedVariables false
namespace Mine

/-! ## closures -/
theorem mem_of_lookup {α β : Type} [BEq α] [LawfulBEq α] {l : List (α × β)} {x : α} {c : β} (h : l.lookup x = some c) : (x, c) ∈ l := by
  induction l with
  | nil => cases h
  | cons p r ih =>
    obtain ⟨y, d⟩ := p
    by_cases e : x = y
    · subst e; rw [List.lookup_cons_self] at h; cases h; exact List.mem_cons_self
    · rw [List.lookup_cons, beq_false_of_ne e] at h; exact List.mem_cons_of_mem _ (ih h)
theorem lookup_of_mem {α β : Type} [BEq α] [LawfulBEq α] {l : List (α × β)} {x : α} {c : β} (h : (x, c) ∈ l) : ∃ d, l.lookup x = some d := by
  induction l with
  | nil => cases h
  | cons p r ih =>
    obtain ⟨y, d⟩ := p
    by_cases e : x = y
    · subst e; exact ⟨d, List.lookup_cons_self⟩
    · rcases List.mem_cons.mp h with h | h
      · cases h; exact absurd rfl e
      · rw [List.lookup_cons, beq_false_of_ne e]; exact ih h
theorem closure_loop {env : Env} : ∀ (names : List (Str × NameKind)) (cs : List (Str × Addr)), (∀ p ∈ names, p.2 = .free → ∃ c, env.cells.lookup p.1 = some c) → (∀ p ∈ cs, env.cells.lookup p.1 = some p.2) →
    ∃ cl, (forIn names cs fun (x : Str × NameKind) (r : List (Str × Addr)) => (if (x.2 == .free) = true then do let a ← cellOf env x.1; pure (ForInStep.yield ((x.1, a) :: r)) else pure (ForInStep.yield r) : Sem (ForInStep (List (Str × Addr))))) = pure cl ∧
      (∀ p ∈ cl, env.cells.lookup p.1 = some p.2) ∧ (∀ p ∈ cs, p ∈ cl) ∧ ∀ p ∈ names, p.2 = .free → ∃ c, (p.1, c) ∈ cl
  | [], cs, _, hc => ⟨cs, rfl, hc, fun p h => h, fun p h => by cases h⟩
  | (x, kd) :: r, cs, h, hc => by
    rw [List.forIn_cons]
    by_cases hk : kd = .free
    · subst hk
      obtain ⟨a, ha⟩ := h _ List.mem_cons_self rfl
      obtain ⟨cl, e, h1, h2, h3⟩ := closure_loop r ((x, a) :: cs) (fun p hp => h p (List.mem_cons_of_mem _ hp)) (fun p hp => by
        rcases List.mem_cons.mp hp with rfl | hp
        · exact ha
        · exact hc p hp)
      refine ⟨cl, ?_, h1, fun p hp => h2 p (List.mem_cons_of_mem _ hp), fun p hp hf => ?_⟩
      · rw [← e]
        have : cellOf env x = pure a := by unfold cellOf; rw [ha]
        simp only [this]
        rfl
      · rcases List.mem_cons.mp hp with rfl | hp
        · exact ⟨a, h2 _ List.mem_cons_self⟩
        · exact h3 p hp hf
    · obtain ⟨cl, e, h1, h2, h3⟩ := closure_loop r cs (fun p hp => h p (List.mem_cons_of_mem _ hp)) hc
      refine ⟨cl, ?_, h1, h2, fun p hp hf => ?_⟩
      · rw [← e]
        have : (kd == NameKind.free) = false := beq_false_of_ne hk
        simp only [this]
        rfl
      · rcases List.mem_cons.mp hp with rfl | hp
        · exact absurd hf hk
        · exact h3 p hp hf
theorem closure_ok {scope : Scope} {env : Env} (h : ∀ p ∈ scope.names, p.2 = .free → ∃ c, env.cells.lookup p.1 = some c) :
    ∃ cl, closureFor scope env = pure cl ∧ (∀ x c, cl.lookup x = some c → env.cells.lookup x = some c) ∧ ∀ p ∈ scope.names, p.2 = .free → ∃ c, cl.lookup p.1 = some c := by
  obtain ⟨cl, e, h1, _, h3⟩ := closure_loop scope.names [] h (fun p hp => by cases hp)
  refine ⟨cl, ?_, fun x c hx => h1 _ (mem_of_lookup hx), fun p hp hf => let ⟨c, hc⟩ := h3 p hp hf; lookup_of_mem hc⟩
  unfold closureFor
  show (forIn scope.names [] _ >>= fun cs => pure cs) = pure cl
  have e2 : (forIn scope.names ([] : List (Str × Addr)) fun (x : Str × NameKind) (r : List (Str × Addr)) => (match x with | (name, kind) => (if (kind == .free) = true then do let a ← cellOf env name; pure (ForInStep.yield ((name, a) :: r)) else pure (ForInStep.yield r)) : Sem (ForInStep (List (Str × Addr))))) = pure cl := e
  first
    | (rw [e2]; rfl)
    | (erw [e2]; rfl)

/-! ## the scope of a comprehension -/
noncomputable def rel (scope sc : Scope) : Scope :=
  { scope with names := scope.names.map fun (n, k) => if (k == .free && sc.kind == .function && sc.names.lookup n == some .cell) then (n, .cell) else (n, k) }
/-- what a scope must be like, looked at from sc -/
noncomputable def okScope (scope sc : Scope) : Bool :=
  scope.names.all fun p => (p.2 != .cell) && (p.2 != .local || scope.names.lookup p.1 == some .local) && (p.2 != .free || sc.names.lookup p.1 == some .cell || sc.names.lookup p.1 == some .free)
theorem rel_lookup {scope sc : Scope} {x : Str} {kd : NameKind} (h : (rel scope sc).names.lookup x = some kd) : ∃ kd', (x, kd') ∈ scope.names ∧ (kd' = kd ∨ kd' = .free) := by
  have := mem_of_lookup h
  obtain ⟨⟨n, k'⟩, hm, he⟩ := List.mem_map.mp this
  dsimp only at he
  by_cases hc : (k' == .free && sc.kind == .function && sc.names.lookup n == some .cell) = true
  · rw [if_pos hc] at he; cases he
    rw [Bool.and_eq_true, Bool.and_eq_true] at hc
    exact ⟨_, hm, .inr (eq_of_beq hc.1.1)⟩
  · rw [if_neg hc] at he; cases he
    exact ⟨_, hm, .inl rfl⟩

theorem compEnv_ok {scope : Scope} {env : Env} {cl : List (Str × Addr)} {L : Addr} {h h' : Heap} (E : EnvOk env h) (hk : scope.kind = .function) (ok : okScope scope env.scope = true)
    (h1 : ∀ x c, cl.lookup x = some c → env.cells.lookup x = some c) (h2 : ∀ p ∈ scope.names, p.2 = .free → ∃ c, cl.lookup p.1 = some c) (hn : ∃ m, h'.Ns L m) (hL : h.objs.size ≤ L)
    (kp : ∀ b o, h.get? b = some o → h'.get? b = some o) : EnvOk (compEnvC scope cl L env) h' where
  kind := hk
  glob := E.glob
  blt := E.blt
  ns := hn
  cells := fun x c hx => by
    obtain ⟨_, v, o, ho, hd⟩ := E.cells x c (h1 x c hx)
    refine ⟨fun q => ?_, v, o, kp c o ho, hd⟩
    have q' : c = L := q
    subst q'
    exact Nat.not_lt.mpr hL (Heap.lt_size ho)
  inj := fun x y c hx hy => E.inj x y c (h1 x c hx) (h1 y c hy)
  has := fun x hx => by
    have key : ∀ kd, (compEnvC scope cl L env).kindOf x = some kd → (kd = .cell ∨ kd = .free) → (x, NameKind.free) ∈ scope.names := fun kd hkd hh => by
      obtain ⟨kd', hm, he⟩ := rel_lookup (scope := scope) (sc := env.scope) hkd
      rcases he with rfl | rfl
      · rcases hh with rfl | rfl
        · have := List.all_eq_true.mp ok _ hm
          simp at this
        · exact hm
      · exact hm
    rcases hx with hx | hx
    · exact h2 _ (key _ hx (.inl rfl)) rfl
    · exact h2 _ (key _ hx (.inr rfl)) rfl
end Mine
end C10

section C11
open PySem PySem.W PyProof.Rows
set_option Elab.async false
set_option linter.unusedVariables false
namespace Mine

structure CEnd (C : Cx) (P : Addr → Prop) (env : Env) (ρ : Lo) (σ : Sto) (s : Shared) (σ' : Sto) (s' : Shared) (D Cl : Addr) (acc : List PV) : Prop where
  step : Step C σ σ' noOwn s s'
  inv : Inv C (PP (fun b => P b ∨ b = Cl) σ') env ρ σ' s'.heap
  rd : Rd C.X (PP (fun b => P b ∨ b = Cl) σ') s'.heap (.ref D) (.list acc)
  lo : hsz s ≤ Cl
  dom : Cl ∉ dom σ'
  base : C.base ≤ Cl
  own : ¬ own env Cl
  ns : ∃ m, s'.heap.Ns Cl m

/-- which names a comprehension captures, with their data -/
noncomputable def Capt (scope sc : Scope) (ρ : Lo) : Lo → Prop
  | [] => True
  | p :: r => (scope.names.lookup (Str.ofString p.1) = some .free ∧ ρ.lookup p.1 = some p.2) ∧ Capt scope sc ρ r
theorem Capt.get {scope sc ρ} : ∀ {ρc : Lo} {x d}, Capt scope sc ρ ρc → ρc.lookup x = some d → scope.names.lookup (Str.ofString x) = some .free ∧ ρ.lookup x = some d
  | [], _, _, _, h => by cases h
  | (y, e) :: r, x, d, hh, h => by
    by_cases hx : x = y
    · subst hx; rw [List.lookup_cons_self] at h; cases h; exact hh.1
    · rw [List.lookup_cons, beq_false_of_ne hx] at h; exact hh.2.get h
theorem rel_free {sc : Scope} : ∀ {names : List (Str × NameKind)} {x : Str}, names.lookup x = some .free →
    (names.map fun (n, k) => if (k == NameKind.free && sc.kind == .function && sc.names.lookup n == some .cell) then (n, NameKind.cell) else (n, k)).lookup x = some .cell ∨
    (names.map fun (n, k) => if (k == NameKind.free && sc.kind == .function && sc.names.lookup n == some .cell) then (n, NameKind.cell) else (n, k)).lookup x = some .free
  | [], _, h => by cases h
  | (n, kd) :: r, x, h => by
    by_cases hx : x = n
    · subst hx
      rw [List.lookup_cons_self] at h; cases h
      rw [List.map_cons]
      dsimp only
      split
      · exact .inl List.lookup_cons_self
      · exact .inr List.lookup_cons_self
    · rw [List.lookup_cons, beq_false_of_ne hx] at h
      rw [List.map_cons]
      dsimp only
      have ih := rel_free (sc := sc) (x := x) h
      split <;> (rw [List.lookup_cons, beq_false_of_ne hx]; exact ih)

theorem comp_core {C k sc A P env s ρ σ elt g gs scope pos pos'} {K : List PV → Sto → Prop} {use : Option (Value → Sem Unit)} {Q : Value → Shared → Prop} (he : env.scope = sc) (hr : Room A k) (I : Inv C P env ρ σ s.heap) (ρc : Lo) (hρ : Capt scope sc ρ ρc)
    (ok : okScope scope sc = true) (hk : scope.kind = .function) (hp : PlainC (g :: gs))
    (h : Ev C k sc ρ σ g.iter fun a σ₁ => ∃ xs, Iterable C k σ₁ a xs ∧ ∃ J : List PV → List PV → Lo → Sto → Prop, J xs [] ρc σ₁ ∧
      (∀ x r acc ρ σ, J (x :: r) acc ρ σ → Bind C k (rel scope sc) ρ σ g.target x ownL fun ρ' σ' => TrAll C k (rel scope sc) ρ' .And σ' g.ifs fun b σ₂ => if b then CompOk C k (rel scope sc) elt gs acc ρ' σ₂ (fun acc' ρ'' σ₃ => J r acc' ρ'' σ₃) else J r acc ρ' σ₂) ∧
      (∀ acc ρ σ, J [] acc ρ σ → K acc σ))
    (hQ : ∀ acc σ' s' D Cl, K acc σ' → CEnd C P env ρ σ s σ' s' D Cl acc → compPost (model C.prog C.w) A NoE use Q (.ref D) Cl (.ok .next) s') :
    wpAny (model C.prog C.w) A (comprehension (.ListComp elt (g :: gs) scope pos) scope env pos' (newList []) false (eval g.iter env) use) Q NoE s := by
  subst he
  have hfree : ∀ p ∈ scope.names, p.2 = .free → ∃ c, env.cells.lookup p.1 = some c := fun p hm hf => by
    have := List.all_eq_true.mp ok p hm
    rw [hf] at this
    simp only [Bool.and_eq_true, Bool.or_eq_true, bne_iff_ne, ne_eq, beq_iff_eq, not_true_eq_false, false_or] at this
    exact I.envOk.has _ this.2
  obtain ⟨cl, hcl, hcl1, hcl2⟩ := closure_ok hfree
  have hnames : ∀ x ∈ scope.names, x.2 = .local → scope.names.lookup x.1 = some .local := fun x hm hl => by
    have := List.all_eq_true.mp ok x hm
    rw [hl] at this
    simp only [Bool.and_eq_true, Bool.or_eq_true, bne_iff_ne, ne_eq, beq_iff_eq, not_true_eq_false, false_or] at this
    exact this.1.2
  have hcell : ∀ y ∈ scope.names, y.2 ≠ .cell := fun x hm hl => by
    have := List.all_eq_true.mp ok x hm
    rw [hl] at this
    simp at this
  refine wpAny_comprehension_free (gs := gs) rfl (hp g List.mem_cons_self |>.2 env) hcl hk hnames (ev_one h rfl hr I fun v₁ d₁ σ₁ s₁ hK₁ A₁ r₁ => ?_)
  obtain ⟨xs, hIt, J, hJ, turn, fin⟩ := hK₁
  have I₁ := I.after A₁
  refine hIt A _ s₁ v₁ _ _ hr I₁.hp r₁ fun o tk ti => ?_
  refine wpAny_newList ?_ (by simp [sizeLine])
  refine wpAny_newFunctionEnv hcell (by intro y hy; simp at hy) (fun h₁ hns hsb => ?_) hk
  dsimp only at hns hsb ⊢
  generalize hH2 : (s₁.heap.push o).push { cls := .type "list", data := .seq ([] : List Value).toArray } = H2 at hns hsb ⊢
  have hz2 : H2.objs.size = hsz s₁ + 2 := by rw [← hH2, Heap.size_push, Heap.size_push]
  have hzD : (s₁.heap.push o).objs.size = hsz s₁ + 1 := by rw [Heap.size_push]
  have hz3 : h₁.objs.size = hsz s₁ + 3 := by rw [hsb.1, Heap.size_push, hz2]
  -- the three new addresses
  have kp : ∀ b x, s₁.heap.get? b = some x → h₁.get? b = some x := fun b x e => hsb.extBut b x (by rw [hz2]; have := Heap.lt_size e; show b ≠ s₁.heap.objs.size + 2; (unfold Addr hsz at *; lia)) (Heap.get?_push_of_some _ (hH2 ▸ Heap.get?_push_of_some _ (Heap.get?_push_of_some _ e)))
  have eD : h₁.get? (hsz s₁ + 1) = some { cls := .type "list", data := .seq ([] : List Value).toArray } := by
    refine hsb.extBut _ _ (by rw [hz2]; (unfold Addr hsz at *; lia)) (Heap.get?_push_of_some _ ?_)
    rw [← hH2, ← hzD]; exact Heap.get?_push_size _ rfl
  have eI : ∀ x, (s₁.heap.push o).get? (hsz s₁) = some x → h₁.get? (hsz s₁) = some x := fun x e => hsb.extBut _ _ (by rw [hz2]; (unfold Addr hsz at *; lia)) (Heap.get?_push_of_some _ (hH2 ▸ Heap.get?_push_of_some _ e))
  have nI : ¬ own env (hsz s₁) := fun q => Nat.lt_irrefl _ (I₁.envOk.lt _ q)
  have fresh : ∀ i, hsz s₁ ≤ i → ¬ PP P σ₁ i ∧ i ∉ dom σ₁ ∧ ¬ own env i ∧ C.base ≤ i := fun i hi => ⟨fun q => Nat.not_lt.mpr hi (I₁.hp.plt _ q), fun q => Nat.not_lt.mpr hi (I₁.hp.lt _ q), fun q => Nat.not_lt.mpr hi (I₁.envOk.lt _ q), Nat.le_trans (C.low I₁.hp.gi) hi⟩
  -- what is watched in the loop
  let P₁ : Addr → Prop := fun b => PP P σ₁ b ∨ b = hsz s₁ ∨ b = hsz s₁ + 1 ∨ b = hsz s₁ + 2
  have g1 : Pass (PP P σ₁) s₁.heap P₁ h₁ := fun a x na e => ⟨kp a x e, fun q => q.elim na fun q => by have := Heap.lt_size e; rcases q with q | q | q <;> (unfold Addr hsz at *; lia)⟩
  have I₂ : Inv C P₁ env ρ σ₁ h₁ := by
    have V := I₁.grown kp (by rw [hz3]; show s₁.heap.objs.size ≤ s₁.heap.objs.size + 3; (unfold Addr hsz at *; lia))
    exact ⟨⟨V.hp.gi, I₁.hp.st.pass g1 (fun b _ x e => kp b x e), fun a ha => .inl (V.hp.ptb a ha), fun a ha => ⟨.inl (V.hp.pdom a ha).1, (V.hp.pdom a ha).2⟩, V.hp.nodup, fun a q => by
      rcases q with q | q | q | q
      · exact V.hp.plt a q
      all_goals (subst q; rw [hz3]; (unfold Addr hsz at *; lia))⟩, V.envOk, fun x d hx => let ⟨v, a, r⟩ := I₁.vars x d hx; ⟨v, a.keep (fun b x _ e => kp b x e), r.pass' g1⟩, fun a ha => ⟨.inl (V.pown a ha).1, (V.pown a ha).2⟩⟩
  let cenv := compEnvC scope cl (hsz s₁ + 2) env
  have hns' : h₁.Ns (hsz s₁ + 2) (fun x => List.lookup x (List.reverse [])) := by rw [← hz2]; exact hns
  have E' : EnvOk cenv h₁ := compEnv_ok I₁.envOk hk ok hcl1 hcl2 ⟨_, hns'⟩ (by show s₁.heap.objs.size ≤ _; (unfold Addr hsz at *; lia)) kp
  have ownC : ∀ a, own cenv a → a = hsz s₁ + 2 ∨ own env a := fun a q => by
    rcases q with q | ⟨x, hx⟩
    · exact .inl q
    · exact .inr (.inr ⟨x, hcl1 x a hx⟩)
  have Ic : Inv C P₁ cenv ρc σ₁ h₁ := by
    refine ⟨I₂.hp, E', fun x d hx => ?_, fun a ha => ?_⟩
    · obtain ⟨hf, hx'⟩ := hρ.get hx
      obtain ⟨v, hv, rv⟩ := I₂.vars x d hx'
      obtain ⟨c, hc⟩ := hcl2 _ (mem_of_lookup hf) rfl
      have hc' := hcl1 _ _ hc
      refine ⟨v, ?_, rv⟩
      have hkc : cenv.kindOf (Str.ofString x) = some .cell ∨ cenv.kindOf (Str.ofString x) = some .free := rel_free hf
      cases hv with
      | loc a n e =>
        exfalso
        have := List.all_eq_true.mp ok _ (mem_of_lookup hf)
        simp only [Bool.and_eq_true, Bool.or_eq_true, bne_iff_ne, ne_eq, beq_iff_eq, not_true_eq_false, false_or] at this
        have a' : env.scope.names.lookup (Str.ofString x) = some .local := a
        rw [a'] at this
        simp at this
      | cell a l c2 =>
        rw [hc'] at l; cases l
        exact .cell hkc hc c2
    · rcases ownC a ha with q | q
      · subst q
        exact ⟨.inr (.inr (.inr rfl)), (fresh _ (by (unfold Addr hsz at *; lia))).2.2.2, (fresh _ (by (unfold Addr hsz at *; lia))).2.1⟩
      · exact ⟨.inl (I₁.pown a q).1, (I₁.pown a q).2⟩
  have hno : ∀ i, hsz s₁ ≤ i → i ≠ hsz s₁ + 2 → ¬ own cenv i := fun i hi hne q => (ownC i q).elim hne (fresh i hi).2.2.1
  have c₁ : CSt C P₁ cenv (hsz s₁ + 1) ρc σ₁ [] { s₁ with heap := h₁, toks := tk } :=
    ⟨Ic, ⟨#[], ⟨_, eD⟩, .nil⟩, .inr (.inr (.inl rfl)), (fresh _ (by (unfold Addr hsz at *; lia))).2.2.2, (fresh _ (by (unfold Addr hsz at *; lia))).2.1, hno _ (by (unfold Addr hsz at *; lia)) (by (unfold Addr hsz at *; lia))⟩
  have t₁ : ItAt C A P₁ h₁ (hsz s₁) xs := by
    refine ti.pass (fun a x na e => ?_) eI (.inr (.inl rfl))
    have hlt : a < hsz s₁ := by
      have := Heap.lt_size e
      rw [Heap.size_push] at this
      have hne : a ≠ hsz s₁ := fun q => na (.inr q)
      (unfold Addr hsz at *; lia)
    have e' : h₁.get? a = some x := hsb.extBut a x (by rw [hz2]; (unfold Addr hsz at *; lia)) (Heap.get?_push_of_some _ (hH2 ▸ Heap.get?_push_of_some _ e))
    exact ⟨e', fun q => q.elim (fun q => na (.inl q)) fun q => by rcases q with q | q | q <;> (unfold Addr hsz at *; lia)⟩
  have S₁ : Step C σ₁ σ₁ (owD cenv (hsz s₁ + 1)) s₁ { s₁ with heap := h₁, toks := tk } := ⟨fun b x _ _ _ e => kp b x e, by show s₁.heap.objs.size ≤ h₁.objs.size; rw [hz3]; (unfold Addr hsz at *; lia), fun _ q => .inl q, rfl, rfl⟩
  have main : codeAny (model C.prog C.w) A (.compStart (.ListComp elt (g :: gs) scope pos) 0 (.ref (hsz s₁)) (.ref (hsz s₁ + 1)) cenv) (compPost (model C.prog C.w) A NoE use Q (.ref (hsz s₁ + 1)) (hsz s₁ + 2)) { s₁ with heap := h₁, toks := tk } := by
    refine compStart_go (gs := gs) rfl (hp g List.mem_cons_self).1 (comp_loop rfl hr hp (gens := g :: gs) (d := 0) rfl J hJ turn (K := fun acc ρ' σ' => K acc σ') fin c₁ t₁ ⟨.inr (.inl rfl), (fresh _ (Nat.le_refl _)).2.2.2, (fresh _ (Nat.le_refl _)).2.1, hno _ (Nat.le_refl _) (by (unfold Addr hsz at *; lia)), by (unfold Addr hsz at *; lia)⟩ (s₀ := s₁) (Nat.le_refl _) S₁ fun acc ρ' σ' s' hK S' c' => ?_) fun Q q => t₁.self q
    refine hQ acc σ' s' _ _ hK ?_
    have S'' : Step C σ₁ σ' noOwn s₁ s' := ⟨fun b x h1 h2 _ e => S'.kept b x h1 h2 (fun q => by
      have := Heap.lt_size e
      rcases q with q | q
      · have q' : b = s₁.heap.objs.size + 2 := q; (unfold Addr hsz at *; lia)
      · have q' : b = s₁.heap.objs.size + 1 := q; (unfold Addr hsz at *; lia)) e, S'.size, S'.new, S'.gens, S'.os⟩
    have dn : hsz s₁ + 2 ∉ dom σ' := fun q => by
      have := (c'.inv.pown (hsz s₁ + 2) (.inl rfl)).2.2; exact this q
    have less : ∀ a, PP (fun b => P b ∨ b = hsz s₁ + 2) σ' a → PP P₁ σ' a := fun a q => by
      rcases q with (q | q) | q
      · exact .inl (.inl (.inl q))
      · exact .inl (.inr (.inr (.inr q)))
      · exact .inr q
    have hsz1 : hsz s ≤ hsz s₁ := A₁.step.size
    refine ⟨A₁.step.trans S'', ?_, ?_, by show s.heap.objs.size ≤ _; have : s.heap.objs.size ≤ s₁.heap.objs.size := hsz1; show s.heap.objs.size ≤ s₁.heap.objs.size + 2; (unfold Addr hsz at *; lia), dn, (fresh _ (by (unfold Addr hsz at *; lia))).2.2.2, (fresh _ (by (unfold Addr hsz at *; lia))).2.2.1, c'.inv.envOk.ns⟩
    · -- the outer frame
      have gg := pass_step (S'.weak (own' := owD cenv (hsz s₁ + 1)) fun a q => q) (fun a q => by rcases q with q | q <;> (subst q; first | exact .inr (.inr (.inr rfl)) | exact .inr (.inr (.inl rfl)))) (P := P₁) (s := s₁) (σ := σ₁)
      have ko : ∀ b x, own env b → s₁.heap.get? b = some x → s'.heap.get? b = some x := fun b x hb e => S''.kept b x (I₁.pown b hb).2.2 (fun q => absurd (C.tbLow b q) (Nat.not_lt.mpr (I₁.pown b hb).2.1)) (fun q => q) e
      have pS : Pass (PP P σ₁) s₁.heap (PP (fun b => P b ∨ b = hsz s₁ + 2) σ') s'.heap := fun a x na e => by
        refine ⟨(pass_step S'' (fun _ q => q.elim) I₁.hp a x na e).1, fun q => ?_⟩
        rcases q with (q | q) | q
        · exact na (.inl q)
        · have := Heap.lt_size e; have q' : a = s₁.heap.objs.size + 2 := q; (unfold Addr hsz at *; lia)
        · rcases S'.new a q with z | z
          · exact na (.inr z)
          · exact absurd (Heap.lt_size e) (Nat.not_lt.mpr z)
      exact ⟨c'.inv.hp.weak less (fun a ha => .inl (.inl (I.hp.ptb a ha))) (fun a ha => .inr ha), I₁.envOk.keep ko, fun x d hx => let ⟨v, a, r⟩ := I₁.vars x d hx; ⟨v, a.keep ko, r.pass' pS⟩, fun a ha => ⟨.inl (.inl (I.pown a ha).1), (I.pown a ha).2.1, fun q => by
        rcases S'.new a q with z | z
        · exact (I₁.pown a ha).2.2 z
        · exact absurd (I₁.envOk.lt a ha) (Nat.not_lt.mpr z)⟩⟩
    · obtain ⟨vs, ⟨n, e⟩, r⟩ := c'.list
      refine .list (fun q => ?_) e (r.pass' (Pass.less less))
      rcases q with (q | q) | q
      · exact (fresh (hsz s₁ + 1) (by (unfold Addr hsz at *; lia))).1 (.inl q)
      · (unfold Addr hsz at *; lia)
      · exact c'.hD.2.2.1 q
  rw [hzD, hz2]
  exact main
end Mine
end C11

section C12
open PySem PySem.W PyProof.Rows
set_option Elab.async false
set_option linter.unusedVariables false
namespace Mine

theorem CEnd.after {C P env ρ σ s σ' s' D Cl acc} (e : CEnd C P env ρ σ s σ' s' D Cl acc) (I : Inv C P env ρ σ s.heap) {h' : Heap} (hs : Heap.SameBut Cl s'.heap h') {tk : Tok} :
    After C P σ s σ' { s' with heap := h', toks := tk } ∧ Inv C (PP P σ') env ρ σ' h' ∧ Rd C.X (PP P σ') h' (.ref D) (.list acc) := by
  have less : ∀ a, PP P σ' a → PP (fun b => P b ∨ b = Cl) σ' a := fun a q => q.elim (fun q => .inl (.inl q)) .inr
  have V := e.inv.moved hs.extBut (Nat.le_of_eq hs.1.symm) ⟨.inl (.inr rfl), e.base, e.dom, e.own⟩
  have V' := V.less less (fun a ha => .inl (I.hp.ptb a ha)) (fun a ha => .inr ha) (fun a ha => .inl (I.pown a ha).1)
  refine ⟨⟨⟨fun b o h1 h2 h3 x => hs.extBut b o (fun q => ?_) (e.step.kept b o h1 h2 h3 x), Nat.le_trans e.step.size (Nat.le_of_eq hs.1.symm), e.step.new, e.step.gens, e.step.os⟩, V'.hp⟩, V', ?_⟩
  · subst q; exact Nat.not_lt.mpr e.lo (Heap.lt_size x)
  · exact (e.rd.pass' (P' := PP (fun b => P b ∨ b = Cl) σ') (h' := h') fun a o na x => ⟨hs.extBut a o (fun q => na (q ▸ .inl (.inr rfl))) x, na⟩).pass' (Pass.less less)

/-- what the clauses of a list comprehension are to do -/
noncomputable def Comp (C : Cx) (k : Nat) (sc : Scope) (ρc : Lo) (elt : Expr) (g : Comprehension) (gs : List Comprehension) (scope : Scope) (xs : List PV) (σ₁ : Sto) (K : List PV → Sto → Prop) : Prop :=
  ∃ J : List PV → List PV → Lo → Sto → Prop, J xs [] ρc σ₁ ∧
      (∀ x r acc ρ σ, J (x :: r) acc ρ σ → Bind C k (rel scope sc) ρ σ g.target x ownL fun ρ' σ' => TrAll C k (rel scope sc) ρ' .And σ' g.ifs fun b σ₂ => if b then CompOk C k (rel scope sc) elt gs acc ρ' σ₂ (fun acc' ρ'' σ₃ => J r acc' ρ'' σ₃) else J r acc ρ' σ₂) ∧
      (∀ acc ρ σ, J [] acc ρ σ → K acc σ)
theorem Ev.listComp {C k sc ρ σ elt g gs scope pos K} (ρc : Lo) (hρ : Capt scope sc ρ ρc) (ok : okScope scope sc = true) (hk : scope.kind = .function) (hp : PlainC (g :: gs))
    (h : Ev C k sc ρ σ g.iter fun a σ₁ => ∃ xs, Iterable C k σ₁ a xs ∧ Comp C k sc ρc elt g gs scope xs σ₁ fun acc σ' => K (.list acc) σ') :
    Ev C k sc ρ σ (.ListComp elt (g :: gs) scope pos) K := fun A P env s he hr I => by
  have ha : firstAsync (g :: gs) = false := by
    obtain ⟨t, i, fs, a⟩ := g
    have : a = 0 := (hp _ List.mem_cons_self).1
    subst this; rfl
  have hi : firstIter (g :: gs) env = eval g.iter env := by
    obtain ⟨t, i, fs, a⟩ := g
    have : a = 0 := (hp _ List.mem_cons_self).1
    subst this; rfl
  rw [arm_eval_ListComp]
  show wpAny _ _ (comprehension _ scope env (firstIterPos (g :: gs) pos) (newList []) (firstAsync (g :: gs)) (firstIter (g :: gs) env)) _ _ s
  rw [ha, hi]
  refine comp_core (K := fun acc σ' => K (.list acc) σ') he hr I ρc hρ ok hk hp h fun acc σ' s' D Cl hK e => ?_
  obtain ⟨m, hm⟩ := e.ns
  refine ⟨m, hm, fun h' hs => ?_⟩
  obtain ⟨hA, _, r⟩ := e.after I hs (tk := s'.toks)
  exact ⟨_, _, hK, hA, r⟩
/-- a comprehension whose list a name of the frame takes at once -/
theorem Ex1.assignComp {C k sc ρ σ x p elt g gs scope cpos pos K} (ρc : Lo) (hρ : Capt scope sc ρ ρc) (ok : okScope scope sc = true) (hk : scope.kind = .function) (hp : PlainC (g :: gs))
    (h : Ev C k sc ρ σ g.iter fun a σ₁ => ∃ xs, Iterable C k σ₁ a xs ∧ Comp C k sc ρc elt g gs scope xs σ₁ fun acc σ' => K .next ((x, .list acc) :: ρ) σ')
    (hx : sc.names.lookup (Str.ofString x) = some .local)
    (hs : ∀ env, env.scope = sc → swapsWith (.ListComp elt (g :: gs) scope cpos) (some (.Name (Str.ofString x) p)) pos.line env = pure true) :
    Ex1 C k sc ρ σ (.Assign [.Name (Str.ofString x) p] (.ListComp elt (g :: gs) scope cpos) pos) K := fun A P env s he hr I => by
  have ha : firstAsync (g :: gs) = false := by
    obtain ⟨t, i, fs, a⟩ := g
    have : a = 0 := (hp _ List.mem_cons_self).1
    subst this; rfl
  have hi : firstIter (g :: gs) env = eval g.iter env := by
    obtain ⟨t, i, fs, a⟩ := g
    have : a = 0 := (hp _ List.mem_cons_self).1
    subst this; rfl
  rw [exec_Assign_Name_used _ _ _ _ (hs env he)]
  refine wpAny_bind (wpAny_standAt (wpAny_bind ?_))
  rw [arm_evalThenUse_ListComp]
  show wpAny _ _ (comprehension _ scope env (firstIterPos (g :: gs) cpos) (newList []) (firstAsync (g :: gs)) (firstIter (g :: gs) env) (some _) >>= _) _ _ s
  rw [ha, hi]
  refine wpAny_bind (comp_core (K := fun acc σ' => K .next ((x, .list acc) :: ρ) σ') he hr I ρc hρ ok hk hp h fun acc σ' s' D Cl hK e => ?_)
  have less : ∀ a, PP P σ' a → PP (fun b => P b ∨ b = Cl) σ' a := fun a q => q.elim (fun q => .inl (.inl q)) .inr
  refine wpAny_assign_Name (inv_storeL he hx e.inv e.rd fun s'' hS I' => ?_)
  have hns : ∃ m, s''.heap.Ns Cl m := by
    obtain ⟨m, hm⟩ := e.ns
    refine ⟨m, hm.at fun o ho => hS.kept Cl o e.dom (fun q => absurd (C.tbLow _ q) (Nat.not_lt.mpr e.base)) (fun q => e.own (.inl q)) ho⟩
  obtain ⟨m, hm⟩ := hns
  refine ⟨m, hm, fun h' hb => ?_⟩
  have V := I'.moved hb.extBut (Nat.le_of_eq hb.1.symm) ⟨.inl (.inr rfl), e.base, e.dom, e.own⟩
  have V' := V.less less (fun a ha => .inl (I.hp.ptb a ha)) (fun a ha => .inr ha) (fun a ha => .inl (I.pown a ha).1)
  refine wpAny_pure (wpAny_pure ⟨.next, _, σ', hK, ⟨?_, V'⟩, .next⟩)
  have S := (e.step.weak (own' := own env) fun _ q => q.elim).trans (hS.weak fun a q => .inl q)
  exact ⟨fun b o h1 h2 h3 x => hb.extBut b o (fun q => by subst q; exact Nat.not_lt.mpr e.lo (Heap.lt_size x)) (S.kept b o h1 h2 h3 x), Nat.le_trans S.size (Nat.le_of_eq hb.1.symm), S.new, S.gens, S.os⟩
end Mine
end C12

section C13
open PySem PySem.W PyProof.Rows
set_option Elab.async false
set_option linter.unusedVariables false
namespace Mine

/-! ## calls of the text's defs -/
theorem bindL_other {kd : Str → Option NameKind} {n : Str} : ∀ {bs : List (Str × Value)} {m : Str → Option Value}, n ∉ bs.map (·.1) → bindL kd bs m n = m n
  | [], _, _ => rfl
  | (k, v) :: r, m, h => by
    rw [List.map_cons, List.mem_cons, not_or] at h
    unfold bindL
    rw [bindL_other h.2]
    split
    · exact if_neg h.1
    · rfl
theorem bindC_other {kd : Str → Option NameKind} {n : Str} : ∀ {bs : List (Str × Value)} {m : Str → Option Value}, n ∉ bs.map (·.1) → bindC kd bs m n = m n
  | [], _, _ => rfl
  | (k, v) :: r, m, h => by
    rw [List.map_cons, List.mem_cons, not_or] at h
    unfold bindC
    rw [bindC_other h.2]
    split
    · rfl
    · exact if_neg h.1
theorem bindL_get {kd : Str → Option NameKind} {n : Str} {v : Value} : ∀ {bs : List (Str × Value)} {m : Str → Option Value}, (bs.map (·.1)).Nodup → (n, v) ∈ bs → kd n = some .local → bindL kd bs m n = some v
  | (k, w) :: r, m, hn, h, hk => by
    rw [List.map_cons, List.nodup_cons] at hn
    unfold bindL
    rcases List.mem_cons.mp h with e | h
    · cases e
      rw [bindL_other hn.1, if_pos hk]; exact if_pos rfl
    · exact bindL_get hn.2 h hk
theorem bindC_get {kd : Str → Option NameKind} {n : Str} {v : Value} : ∀ {bs : List (Str × Value)} {m : Str → Option Value}, (bs.map (·.1)).Nodup → (n, v) ∈ bs → kd n = some .cell → bindC kd bs m n = some v
  | (k, w) :: r, m, hn, h, hk => by
    rw [List.map_cons, List.nodup_cons] at hn
    unfold bindC
    rcases List.mem_cons.mp h with e | h
    · cases e
      rw [bindC_other hn.1, if_neg (by rw [hk]; decide)]; exact if_pos rfl
    · exact bindC_get hn.2 h hk
theorem cellsFrom_acc {x : Str} {c : Addr} : ∀ {names : List (Str × NameKind)} {n : Nat} {acc : List (Str × Addr)}, (x, c) ∈ acc → (x, c) ∈ cellsFrom n names acc
  | [], _, _, h => h
  | (y, kd) :: r, n, acc, h => by
    unfold cellsFrom
    split
    · exact cellsFrom_acc (List.mem_cons_of_mem _ h)
    · exact cellsFrom_acc h
theorem cellsFrom_has {x : Str} : ∀ {names : List (Str × NameKind)} {n : Nat} {acc : List (Str × Addr)}, (x, NameKind.cell) ∈ names → ∃ c, (x, c) ∈ cellsFrom n names acc
  | (y, kd) :: r, n, acc, h => by
    unfold cellsFrom
    rcases List.mem_cons.mp h with e | h
    · cases e
      exact ⟨n, by rw [if_pos (show (NameKind.cell == NameKind.cell) = true from rfl)]; exact cellsFrom_acc List.mem_cons_self⟩
    · split <;> exact cellsFrom_has h

theorem nodup_names : ∀ {l : List String}, l.Nodup → (l.map Str.ofString).Nodup
  | [], _ => List.nodup_nil
  | x :: r, h => by
    rw [List.nodup_cons] at h
    rw [List.map_cons, List.nodup_cons]
    exact ⟨fun q => by obtain ⟨y, hy, e⟩ := List.mem_map.mp q; exact h.1 (ofString_inj e ▸ hy), nodup_names h.2⟩
/-- the def at a: its parameters' names, scope, body -/
noncomputable def FnAt (C : Cx) (a : Addr) (names : List String) (scope : Scope) (body : List Stmt) : Prop :=
  ∀ h, C.gi h → ∃ o fd, h.get? a = some o ∧ o.data = .func fd ∧ h.CodeRec fd.code fd.qualname ∧ fd.body = .stmts body ∧ fd.scope = scope ∧ fd.closure = [] ∧ fd.globals = mainGlobals ∧ fd.builtins = builtinsNs ∧
    ∀ vals : List Value, vals.length = names.length → bindArgs fd ⟨vals, []⟩ = pure ((names.map Str.ofString).zip vals)
theorem FnAt.callable {C a names scope body} (F : FnAt C a names scope body) : Callable C (.ref a) := fun h g => by
  obtain ⟨o, fd, ho, hd, _⟩ := F h g
  refine ⟨.frame, .inl rfl, fun M => (Looks.ld (part := none) ho).andThen ?_⟩
  rw [hd]; exact Looks.now
noncomputable def okFn (names : List String) (scope : Scope) : Bool :=
  (scope.names.all fun p => p.2 != .free) && (names.all fun n => scope.names.lookup (Str.ofString n) == some .local || scope.names.lookup (Str.ofString n) == some .cell) && decide names.Nodup && !scope.isCoroutine && !scope.isGenerator && scope.kind == .function

theorem zip_rd {X P h} : ∀ {names : List String} {vs : List Value} {ds : List PV} {x d}, RdL X P h vs ds → (names.zip ds).lookup x = some d → ∃ v, (Str.ofString x, v) ∈ (names.map Str.ofString).zip vs ∧ Rd X P h v d
  | [], _, _, _, _, _, h => by cases h
  | n :: ns, _, _, _, _, .nil, h => by cases h
  | n :: ns, _, _, x, d, .cons (v := v) (vs := vs) (d := d₁) (ds := ds) r rs, h => by
    rw [List.zip_cons_cons] at h
    by_cases e : x = n
    · subst e
      rw [List.lookup_cons_self] at h; cases h
      exact ⟨v, by rw [List.map_cons, List.zip_cons_cons]; exact List.mem_cons_self, r⟩
    · rw [List.lookup_cons, beq_false_of_ne e] at h
      obtain ⟨w, hw, rw'⟩ := zip_rd rs h
      exact ⟨w, by rw [List.map_cons, List.zip_cons_cons]; exact List.mem_cons_of_mem _ hw, rw'⟩

theorem Fn.call {C k a names scope body σ ds K} (F : FnAt C a names scope body) (ok : okFn names scope = true) (hl : ds.length = names.length)
    (h : Ex C k scope (names.zip ds) σ body fun g _ σ' => match g with | .ret d => K d σ' | .next => K .none σ' | _ => False) :
    OpL C (k + 1) σ ds (fun vs => PySem.call (.ref a) vs) K := fun A P s vs hr H r => by
  obtain ⟨o, fd, ho, hd, hcd, hbody, hsc, hclo, hgl, hbl, hbind⟩ := F s.heap H.gi
  simp only [okFn, Bool.and_eq_true] at ok
  obtain ⟨⟨⟨⟨⟨ok1, ok2⟩, ok3⟩, ok4⟩, ok5⟩, ok6⟩ := ok
  have ok3 : names.Nodup := of_decide_eq_true ok3
  have ok6 : scope.kind = .function := eq_of_beq ok6
  subst hsc
  have hlv : vs.length = names.length := r.length.trans hl
  have hnd : (((names.map Str.ofString).zip vs).map (·.1)).Nodup := by
    rw [List.map_fst_zip (by simp [hlv])]
    exact nodup_names ok3
  have hin : ∀ x ∈ (names.map Str.ofString).zip vs, fd.scope.names.lookup x.1 = some .local ∨ fd.scope.names.lookup x.1 = some .cell := fun x hx => by
    have := (List.of_mem_zip hx).1
    obtain ⟨n, hn, e⟩ := List.mem_map.mp this
    have := List.all_eq_true.mp ok2 n hn
    rw [Bool.or_eq_true, beq_iff_eq, beq_iff_eq] at this
    rw [← e]; exact this
  refine wpAny_call (codeAny_call_cells hr.limit ho hd (C.nolimit H.gi) hcd hbody (hbind vs hlv) hclo (fun x hx => ?_) (fun s₁ hin₁ => ?_) (by simpa using ok4) (by simpa using ok5) ok6)
  · rcases hin x hx with q | q
    · exact .inl q
    · refine .inr ⟨q, ?_⟩
      obtain ⟨c, hc⟩ := cellsFrom_has (n := s.heap.objs.size + 1) (acc := []) (Mine.mem_of_lookup q)
      obtain ⟨d, hd⟩ := Mine.lookup_of_mem hc
      rw [hd]; rfl
  · generalize henv : callEnvC fd s.heap.objs.size a = env at hin₁ ⊢
    have hloc : env.locals = s.heap.objs.size := by rw [← henv]; rfl
    have hscp : env.scope = fd.scope := by rw [← henv]; rfl
    have hcells : env.cells = cellsFrom (s.heap.objs.size + 1) fd.scope.names [] := by rw [← henv]; rfl
    have hkd : env.kindOf = fun n => fd.scope.names.lookup n := by funext n; unfold Env.kindOf; rw [hscp]
    obtain ⟨h', tk, hs₁, kp⟩ := hin₁.done
    subst hs₁
    have ns := hin₁.toInCall.ns
    have cellAt : ∀ x c, env.cells.lookup x = some c → s.heap.objs.size < c := fun x c hx => hloc ▸ hin₁.above x c (Mine.mem_of_lookup hx)
    have ownF : ∀ b, own env b → s.heap.objs.size ≤ b := fun b q => by
      rcases q with q | ⟨x, hx⟩
      · rw [q, hloc]; exact Nat.le_refl _
      · exact Nat.le_of_lt (cellAt x b hx)
    have hsz1 : s.heap.objs.size ≤ h'.objs.size := by have := ns.lt; rw [hloc] at this; exact Nat.le_of_lt this
    have E : EnvOk env h' := by
      refine ⟨by rw [hscp]; exact ok6, by rw [← henv]; exact hgl, by rw [← henv]; exact hbl, ⟨_, ns⟩, fun x c hx => ⟨fun q => ?_, _, hin₁.cell x c hx⟩, fun x y c hx hy => ?_, fun x hx => ?_⟩
      · have := cellAt x c hx
        rw [q, hloc] at this
        exact Nat.lt_irrefl _ this
      · exact name_of_addr hin₁.apart (Mine.mem_of_lookup hx) (Mine.mem_of_lookup hy)
      · rw [hkd] at hx
        rcases hx with hx | hx
        · rw [hcells]
          obtain ⟨c, hc⟩ := cellsFrom_has (n := s.heap.objs.size + 1) (acc := []) (Mine.mem_of_lookup hx)
          exact Mine.lookup_of_mem hc
        · have := List.all_eq_true.mp ok1 _ (Mine.mem_of_lookup hx)
          simp at this
    have g : Pass P s.heap (fun b => P b ∨ own env b) h' := fun b x na e => ⟨kp b x e, fun q => q.elim na fun q => absurd (Heap.lt_size e) (Nat.not_lt.mpr (ownF b q))⟩
    have I : Inv C (fun b => P b ∨ own env b) env (names.zip ds) σ h' := by
      refine ⟨⟨C.keep H.gi (fun b x _ e => kp b x e) hsz1, H.st.pass g (fun b _ x e => kp b x e), fun b hb => .inl (H.ptb b hb), fun b hb => ⟨.inl (H.pdom b hb).1, (H.pdom b hb).2⟩, H.nodup, fun b q => q.elim (fun q => Nat.lt_of_lt_of_le (H.plt b q) hsz1) fun q => E.lt b q⟩, E, fun x d hx => ?_, fun b q => ⟨.inr q, Nat.le_trans (C.low H.gi) (ownF b q), fun hd => absurd (H.lt b hd) (Nat.not_lt.mpr (ownF b q))⟩⟩
      obtain ⟨v, hm, rv⟩ := zip_rd r hx
      refine ⟨v, ?_, rv.pass' g⟩
      rcases hin _ hm with q | q
      · have q' : env.kindOf (Str.ofString x) = some .local := by rw [hkd]; exact q
        exact .loc q' ns (bindL_get hnd hm q')
      · have q' : env.kindOf (Str.ofString x) = some .cell := by rw [hkd]; exact q
        obtain ⟨c, hc⟩ := E.has _ (.inl q')
        exact .cell (.inl q') hc (bindC_get hnd hm q' ▸ hin₁.cell _ c hc)
    refine wpAny_mono (h (A.deeper env) _ env _ hscp (hr.deeper env) I) (fun f s' o => ?_) fun _ _ x => x.elim
    obtain ⟨fl, ρ', σ', hK, hA, hf⟩ := o
    have S : Step C σ σ' noOwn s s' := ⟨fun b x h1 h2 _ e => hA.step.kept b x h1 h2 (fun q => absurd (Heap.lt_size e) (Nat.not_lt.mpr (ownF b q))) (kp b x e), Nat.le_trans hsz1 hA.step.size, fun b hb => (hA.step.new b hb).elim .inl fun q => .inr (Nat.le_trans hsz1 q), hA.step.gens, hA.step.os⟩
    have less : ∀ b, PP P σ' b → PP (fun b => P b ∨ own env b) σ' b := fun b q => q.elim (fun q => .inl (.inl q)) .inr
    have Af : After C P σ s σ' s' := ⟨S, hA.inv.hp.weak less (fun b hb => .inl (H.ptb b hb)) (fun b hb => .inr hb)⟩
    cases hf with
    | next => exact ⟨_, _, hK, Af, .none⟩
    | brk => exact hK.elim
    | cont => exact hK.elim
    | ret rv => exact ⟨_, _, hK, Af, rv.pass' (Pass.less less)⟩
end Mine
end C13

section C14
open PySem PySem.W PyProof.Rows
set_option Elab.async false
set_option linter.unusedVariables false
namespace Mine

/-! ## what is let go of -/
theorem dom_sub {σ σ' : Sto} (h : σ'.Sublist σ) : (dom σ').Sublist (dom σ) := by
  induction h with
  | slnil => exact .slnil
  | cons a _ ih => exact .cons _ (ih.trans (List.sublist_append_right _ _))
  | cons_cons a _ ih => exact (((List.Sublist.refl _).append ih)).cons_cons _
theorem PP_sub {P : Addr → Prop} {σ σ' : Sto} (h : σ'.Sublist σ) : ∀ a, PP P σ' a → PP P σ a := fun a q => q.elim .inl fun q => .inr ((dom_sub h).subset q)
theorem After.drop {C P σ s σ' σ'' s'} (H : Hp C P σ s.heap) (h : After C P σ s σ' s') (e : σ''.Sublist σ') : After C P σ s σ'' s' :=
  ⟨⟨h.step.kept, h.step.size, fun a ha => h.step.new a ((dom_sub e).subset ha), h.step.gens, h.step.os⟩,
   ⟨h.hp.gi, fun a ao hm => (h.hp.st a ao (e.subset hm)).pass (Pass.less (PP_sub e)) (fun _ _ _ x => x), fun a ha => .inl (H.ptb a ha), fun a ha => ⟨.inr ha, (h.hp.pdom a ((dom_sub e).subset ha)).2⟩, h.hp.nodup.sublist (dom_sub e), fun a q => h.hp.plt a (PP_sub e a q)⟩⟩
/-- a list that changes no more -/
theorem Out.freeze {C P σ s K v s'} (H : Hp C P σ s.heap) (o : Out C P σ s (fun d σ' => ∃ a xs σ'', d = .raw (.ref a) ∧ (a, AO.mlist xs) ∈ σ' ∧ σ''.Sublist σ' ∧ a ∉ dom σ'' ∧ a ∉ dom σ ∧ K (.list xs) σ'') v s') : Out C P σ s K v s' := by
  obtain ⟨d, σ', ⟨a, xs, σ'', rfl, hm, hs, hn, hn', hK⟩, A, r⟩ := o
  obtain rfl := r.rawE
  have A' := A.drop H hs
  obtain ⟨vs, n, e, rl⟩ := A.hp.st _ _ hm
  refine ⟨_, σ'', hK, A', .list (fun q => q.elim (fun q => ?_) hn) e (rl.pass' (Pass.less (PP_sub hs)))⟩
  rcases A.step.new a (mem_dom hm a (.inl rfl)) with z | z
  · exact hn' z
  · exact Nat.not_lt.mpr z (H.plt a q)
theorem OpL.freeze {C k σ ds f K} (h : OpL C k σ ds f fun d σ' => ∃ a xs σ'', d = .raw (.ref a) ∧ (a, AO.mlist xs) ∈ σ' ∧ σ''.Sublist σ' ∧ a ∉ dom σ'' ∧ a ∉ dom σ ∧ K (.list xs) σ'') : OpL C k σ ds f K := fun A P s vs hr H r =>
  wpAny_mono (h A P s vs hr H r) (fun v s' o => Out.freeze H o) fun _ _ x => x
/-- what is watched no more -/
theorem OpL.drop {C k σ ds f K} (h : OpL C k σ ds f fun d σ' => ∃ σ'', σ''.Sublist σ' ∧ K d σ'') : OpL C k σ ds f K := fun A P s vs hr H r =>
  wpAny_mono (h A P s vs hr H r) (fun v s' o => let ⟨d, σ', ⟨σ'', hs, hK⟩, A', r'⟩ := o; ⟨d, σ'', hK, A'.drop H hs, r'.pass' (Pass.less (PP_sub hs))⟩) fun _ _ x => x

/-! ## ints -/
section
variable {C : Cx} {k : Nat} {σ : Sto} {a b : Int} {K : PV → Sto → Prop}
theorem Op2.add (h : K (.int (a + b)) σ) : Op2 C k σ (.int a) (.int b) (binaryOp .Add) K := fun A P s v w hr H r₁ r₂ => by
  obtain ⟨_, rfl⟩ := r₁.intE; obtain ⟨_, rfl⟩ := r₂.intE; exact PyProof.Rows.add_int (Out.here H (.int _ _) h)
theorem Op2.sub (h : K (.int (a - b)) σ) : Op2 C k σ (.int a) (.int b) (binaryOp .Sub) K := fun A P s v w hr H r₁ r₂ => by
  obtain ⟨_, rfl⟩ := r₁.intE; obtain ⟨_, rfl⟩ := r₂.intE; exact PyProof.Rows.sub_int (Out.here H (.int _ _) h)
theorem Op2.mul (h : K (.int (a * b)) σ) (hm : IntMulOk a b) : Op2 C k σ (.int a) (.int b) (binaryOp .Mult) K := fun A P s v w hr H r₁ r₂ => by
  obtain ⟨_, rfl⟩ := r₁.intE; obtain ⟨_, rfl⟩ := r₂.intE; exact PyProof.Rows.mul_int (Out.here H (.int _ _) h) hm
theorem Op2.mod (hb : 0 < b) (h : K (.int (a % b)) σ) : Op2 C k σ (.int a) (.int b) (binaryOp .Mod) K := fun A P s v w hr H r₁ r₂ => by
  obtain ⟨_, rfl⟩ := r₁.intE; obtain ⟨_, rfl⟩ := r₂.intE
  exact PyProof.Rows.mod_int' (by omega) (by rw [Int.fmod_eq_emod_of_nonneg _ (Int.le_of_lt hb)]; exact Out.here H (.int _ _) h)
theorem Op2.div (hb : 0 < b) (h : K (.int (a / b)) σ) (hp : Builtin.divisionGoesByPylong a b = false) : Op2 C k σ (.int a) (.int b) (binaryOp .FloorDiv) K := fun A P s v w hr H r₁ r₂ => by
  obtain ⟨_, rfl⟩ := r₁.intE; obtain ⟨_, rfl⟩ := r₂.intE
  exact PyProof.Rows.floordiv_int (by omega) (by rw [Int.fdiv_eq_ediv_of_nonneg _ (Int.le_of_lt hb)]; exact Out.here H (.int _ _) h) (.inl hp)
theorem Op2.pow (hb : 0 ≤ b) (hsz : (Builtin.Int.intBits a : Int) * b ≤ 2 ^ 27) (h : K (.int (a ^ b.toNat)) σ) : Op2 C k σ (.int a) (.int b) (binaryOp .Pow) K := fun A P s v w hr H r₁ r₂ => by
  obtain ⟨_, rfl⟩ := r₁.intE; obtain ⟨_, rfl⟩ := r₂.intE; exact PyProof.Rows.pow_int hb hsz (Out.here H (.int _ _) h)
theorem Op1.neg (h : K (.int (-a)) σ) : Op1 C k σ (.int a) (unaryOp .USub) K := fun A P s v hr H r => by
  obtain ⟨_, rfl⟩ := r.intE; exact PyProof.Rows.neg_int (Out.here H (.int _ _) h)
theorem Op2.lt (h : K (.bool (decide (a < b))) σ) : Op2 C k σ (.int a) (.int b) (compareOp .Lt) K := fun A P s v w hr H r₁ r₂ => by
  obtain ⟨_, rfl⟩ := r₁.intE; obtain ⟨_, rfl⟩ := r₂.intE; exact PyProof.Rows.lt_int (Out.here' H (.bool _) h)
theorem Op2.gt (h : K (.bool (decide (b < a))) σ) : Op2 C k σ (.int a) (.int b) (compareOp .Gt) K := fun A P s v w hr H r₁ r₂ => by
  obtain ⟨_, rfl⟩ := r₁.intE; obtain ⟨_, rfl⟩ := r₂.intE; exact PyProof.Rows.gt_int (Out.here' H (.bool _) h)
theorem Op2.le (h : K (.bool (decide (a ≤ b))) σ) : Op2 C k σ (.int a) (.int b) (compareOp .LtE) K := fun A P s v w hr H r₁ r₂ => by
  obtain ⟨_, rfl⟩ := r₁.intE; obtain ⟨_, rfl⟩ := r₂.intE; exact PyProof.Rows.le_int (Out.here' H (.bool _) h)
theorem Op2.eqi (h : K (.bool (a == b)) σ) : Op2 C k σ (.int a) (.int b) (compareOp .Eq) K := fun A P s v w hr H r₁ r₂ => by
  obtain ⟨_, rfl⟩ := r₁.intE; obtain ⟨_, rfl⟩ := r₂.intE; exact PyProof.Rows.eq_int (Out.here' H (.bool _) h)
end

/-! ## truth of values -/
section
variable {C : Cx} {k : Nat} {σ : Sto} {K : Bool → Sto → Prop}
theorem OutB.toks {P s b n} (H : Hp C P σ s.heap) (hK : K b σ) : OutB C P σ s K b { s with toks := n } := ⟨σ, hK, After.toks H⟩
theorem OpB.bool {b} (h : K b σ) : OpB C k σ (.bool b) truthy K := fun A P s v hr H r => by cases r; exact wpAny_truthy_bool (OutB.here H h)
theorem OpB.int {a : Int} (h : K (a != 0) σ) : OpB C k σ (.int a) truthy K := fun A P s v hr H r => by obtain ⟨_, rfl⟩ := r.intE; exact PyProof.Rows.truthy_int (OutB.here H h)
theorem OpB.none (h : K false σ) : OpB C k σ .none truthy K := fun A P s v hr H r => by cases r; exact PyProof.Rows.truthy_none (OutB.here H h)
theorem OpB.str {x : List Nat} (hx : x.length < 2 ^ 60) (h : K (!x.isEmpty) σ) : OpB C k σ (.str x) truthy K := fun A P s v hr H r => by
  cases r with | str y t =>
  have hf : ¬ ((y.length : Int) ≥ 2 ^ 63) := by
    have : y.cps.size < 2 ^ 60 := by simpa using hx
    show ¬ ((y.cps.size : Int) ≥ _)
    omega
  refine PySem.P.truthy_str hf ?_
  have : ((y.length : Int) != 0) = !y.cps.toList.isEmpty := by
    show ((y.cps.size : Int) != 0) = _
    cases hh : y.cps.toList with
    | nil => have : y.cps.size = 0 := by rw [← Array.length_toList, hh]; rfl
             rw [this]; rfl
    | cons a r => have : y.cps.size = r.length + 1 := by rw [← Array.length_toList, hh]; rfl
                  rw [this]; simp only [bne_iff_ne, ne_eq, List.isEmpty_cons, Bool.not_false]; omega
  rw [this]; exact OutB.toks H h
end
end Mine
end C14

section C15
open PySem PySem.W PyProof.Rows
set_option Elab.async false
set_option linter.unusedVariables false
namespace Mine

/-! ## data that == looks at -/
noncomputable def strL (x : List Nat) : Str := ⟨x.toArray⟩
mutual
noncomputable def toP : PV → PyData
  | .none => .none
  | .bool b => .bool b
  | .int i => .int i
  | .str x => .str (strL x)
  | .list xs => .list (toPL xs)
  | .tuple xs => .tuple (toPL xs)
  | _ => .none
noncomputable def toPL : List PV → List PyData
  | [] => []
  | x :: r => toP x :: toPL r
end
mutual
/-- plain data, d lists deep at most -/
noncomputable def pl : Nat → PV → Bool
  | _, .none | _, .bool _ | _, .int _ => true
  | _, .str x => x.all (· < 0x110000)
  | n + 1, .list xs | n + 1, .tuple xs => plL n xs
  | _, _ => false
noncomputable def plL : Nat → List PV → Bool
  | _, [] => true
  | n, x :: r => pl n x && plL n r
end
theorem strL_toList (x : Str) : strL x.cps.toList = x := by cases x; simp [strL]
mutual
theorem rd_reads {X P h} : ∀ {n : Nat} {v : Value} {d : PV}, Rd X P h v d → pl n d = true → ∃ as, Reads h v (toP d) as
  | _, _, _, .none, _ => by rw [toP]; exact ⟨_, .none⟩
  | _, _, _, .bool b, _ => by rw [toP]; exact ⟨_, .bool b⟩
  | _, _, _, .int i t, _ => by rw [toP]; exact ⟨_, .int i t⟩
  | _, _, _, .str x t, _ => by rw [toP, strL_toList]; exact ⟨_, .str x t⟩
  | n + 1, _, _, .list a e r, hp => by
    rw [pl] at hp
    obtain ⟨as, q⟩ := rdL_reads (n := n) r hp
    rw [toP]; exact ⟨_, .list e rfl rfl q⟩
  | n + 1, _, _, .tuple a e r, hp => by
    rw [pl] at hp
    obtain ⟨as, q⟩ := rdL_reads (n := n) r hp
    rw [toP]; exact ⟨_, .tuple e rfl rfl q⟩
  | 0, _, _, .list a e r, hp => by simp [pl] at hp
  | 0, _, _, .tuple a e r, hp => by simp [pl] at hp
  | _, _, _, .raw _, h => by simp [pl] at h
  | _, _, _, .ext _, h => by simp [pl] at h
  | _, _, _, .slice _ _ _ _ _, h => by simp [pl] at h
  | _, _, _, .range _ _, h => by simp [pl] at h
theorem rdL_reads {X P h} : ∀ {n : Nat} {vs : List Value} {ds : List PV}, RdL X P h vs ds → plL n ds = true → ∃ as, ReadsAll h vs (toPL ds) as
  | _, _, _, .nil, _ => by rw [toPL]; exact ⟨_, .nil⟩
  | n, _, _, .cons a r, hp => by
    rw [plL, Bool.and_eq_true] at hp
    obtain ⟨as, q⟩ := rd_reads a hp.1
    obtain ⟨bs, q'⟩ := rdL_reads r hp.2
    rw [toPL]; exact ⟨_, .cons q q'⟩
end
mutual
theorem pl_can : ∀ {n : Nat} {d : PV}, pl n d = true → (toP d).canLay0 = true ∧ (toP d).depth ≤ n
  | _, .none, _ => by rw [toP]; simp [PyData.canLay0, PyData.depth]
  | _, .bool _, _ => by rw [toP]; simp [PyData.canLay0, PyData.depth]
  | _, .int _, _ => by rw [toP]; simp [PyData.canLay0, PyData.depth]
  | _, .str x, h => by rw [toP]; rw [pl] at h; simp only [PyData.canLay0, PyData.depth, PyData.strOk, strL]; exact ⟨by simpa using h, Nat.zero_le _⟩
  | n + 1, .list xs, h => by
    rw [pl] at h; rw [toP]
    obtain ⟨a, b⟩ := plL_can (n := n) (ds := xs) h
    simp only [PyData.canLay0, PyData.depth]; exact ⟨a, Nat.succ_le_succ b⟩
  | n + 1, .tuple xs, h => by
    rw [pl] at h; rw [toP]
    obtain ⟨a, b⟩ := plL_can (n := n) (ds := xs) h
    simp only [PyData.canLay0, PyData.depth]; exact ⟨a, Nat.succ_le_succ b⟩
  | 0, .list xs, h => by simp [pl] at h
  | 0, .tuple xs, h => by simp [pl] at h
  | _, .raw _, h => by simp [pl] at h
  | _, .ext _ _, h => by simp [pl] at h
  | _, .slice _ _ _, h => by simp [pl] at h
  | _, .range _ _ _, h => by simp [pl] at h
theorem plL_can : ∀ {n : Nat} {ds : List PV}, plL n ds = true → PyData.canLayAll0 (toPL ds) = true ∧ PyData.depthAll (toPL ds) ≤ n
  | _, [], _ => by rw [toPL]; simp [PyData.canLayAll0, PyData.depthAll]
  | n, d :: r, h => by
    rw [plL, Bool.and_eq_true] at h
    obtain ⟨a, b⟩ := pl_can h.1
    obtain ⟨a', b'⟩ := plL_can h.2
    rw [toPL]; simp only [PyData.canLayAll0, PyData.depthAll, a, a']; exact ⟨rfl, Nat.max_le.mpr ⟨b, b'⟩⟩
end
noncomputable def peq (a b : PV) : Bool := PyData.eqv (toP a) (toP b)
theorem Op2.eq {C k σ a b K} (ha : pl 60 a = true) (hb : pl 60 b = true) (h : K (.bool (peq a b)) σ) : Op2 C k σ a b (compareOp .Eq) K := fun A P s v w hr H r₁ r₂ => by
  obtain ⟨_, q₁⟩ := rd_reads r₁ ha
  obtain ⟨_, q₂⟩ := rd_reads r₂ hb
  have c₁ := pl_can ha; have c₂ := pl_can hb
  exact SeqAt.compareEq_shaped q₁ q₂ (by unfold SeqAt.shaped; rw [c₁.1]; simp; lia) (by unfold SeqAt.shaped; rw [c₂.1]; simp; lia) (by have := hr.units; show A.units + 64 < 9900; lia) (Out.here' H (.bool _) h)
theorem Op2.ne {C k σ a b K} (ha : pl 60 a = true) (hb : pl 60 b = true) (h : K (.bool (!peq a b)) σ) : Op2 C k σ a b (compareOp .NotEq) K := fun A P s v w hr H r₁ r₂ => by
  obtain ⟨_, q₁⟩ := rd_reads r₁ ha
  obtain ⟨_, q₂⟩ := rd_reads r₂ hb
  have c₁ := pl_can ha; have c₂ := pl_can hb
  exact SeqAt.compareNe_shaped q₁ q₂ (by unfold SeqAt.shaped; rw [c₁.1]; simp; lia) (by unfold SeqAt.shaped; rw [c₂.1]; simp; lia) (by have := hr.units; show A.units + 64 < 9900; lia) (Out.here' H (.bool _) h)
/-- in, not in a list -/
noncomputable def datOf (h : Heap) (y : Value) : PyData := by
  classical
  exact if q : ∃ e as, e.canLay0 = true ∧ Reads h y e as then q.choose else .none
theorem datOf_eq {h : Heap} {y : Value} {e : PyData} {as} (r : Reads h y e as) (c : e.canLay0 = true) : datOf h y = e := by
  have q : ∃ e as, e.canLay0 = true ∧ Reads h y e as := ⟨e, as, c, r⟩
  unfold datOf
  rw [dif_pos q]
  obtain ⟨as', c', r'⟩ := q.choose_spec
  exact (PySem.Reads.unique r' _ _ r).1
theorem in_core {X : Ext} {k A P} {s : Shared} {d : PV} {w : Value} (hr : Room A k) (rx : Rd X P s.heap w d) (hb : pl 59 d = true) : ∀ {l : List Value} {xs : List PV}, RdL X P s.heap l xs → plL 59 xs = true →
    (∀ y, y ∈ l → SeqAt.EqAt A.in1 s y w (PyData.eqv (datOf s.heap y) (toP d))) ∧ (l.any fun y => PyData.eqv (datOf s.heap y) (toP d)) = xs.any fun y => peq y d
  | _, _, .nil, _ => ⟨fun y hy => (nomatch hy), rfl⟩
  | _, _, .cons (v := v) r rs, hp => by
    rw [plL, Bool.and_eq_true] at hp
    obtain ⟨_, q⟩ := rd_reads rx hb
    obtain ⟨_, q₁⟩ := rd_reads r hp.1
    have cb := pl_can hb
    have ca := pl_can hp.1
    have e := datOf_eq q₁ ca.1
    obtain ⟨h1, h2⟩ := in_core hr rx hb rs hp.2
    refine ⟨fun y hy => ?_, ?_⟩
    · rcases List.mem_cons.mp hy with rfl | hy
      · rw [e]; exact SeqAt.eqAt_reads _ _ _ _ _ _ _ _ q₁ q ca.1 cb.1 (by have := hr.units; show A.units + 1 + _ < 9900; lia)
      · exact h1 y hy
    · rw [List.any_cons, List.any_cons, h2, e]; rfl
theorem Op2.in {C k σ d a xs K} (hl : LRead C σ a xs) (ha : plL 59 xs = true) (hb : pl 59 d = true) (h : K (.bool (xs.any fun y => peq y d)) σ) : Op2 C k σ d a (compareOp .In) K := fun A P s v w hr H r₁ r₂ => by
  obtain ⟨a₁, vs, n, rfl, e, r⟩ := hl P s w H r₂
  obtain ⟨h1, h2⟩ := in_core hr r₁ hb r ha
  refine SeqAt.in_listAt _ (isList_of e) (fun y hy => h1 y (by simpa using hy)) ?_
  rw [← Array.any_toList, h2]; exact Out.here' H (.bool _) h

/-! ## is -/
noncomputable def plainI : PV → Bool
  | .none | .bool _ => true
  | _ => false
/-- `a is b`, b None, True or False -/
noncomputable def pis : PV → PV → Bool
  | .none, .none => true
  | .bool a, .bool b => a == b
  | _, _ => false
theorem is_core {X P h} {v w : Value} {a b : PV} (r₁ : Rd X P h v a) (r₂ : Rd X P h w b) (hb : plainI b = true) (ha : ∀ x, a ≠ .raw x) (ha' : ∀ t x, a ≠ .ext t x) : PySem.plainIs v w = true ∧ (v == w) = pis a b := by
  cases r₂ <;> simp [plainI] at hb <;> cases r₁ <;> first | exact ⟨rfl, rfl⟩ | exact absurd rfl (ha _) | exact absurd rfl (ha' _ _) | skip
  rename_i b₂ b₁
  cases b₁ <;> cases b₂ <;> exact ⟨rfl, rfl⟩
noncomputable def notRaw : PV → Bool
  | .raw _ | .ext _ _ => false
  | _ => true
theorem Op2.is {C k σ a b K} (hb : plainI b = true) (ha : notRaw a = true) (h : K (.bool (pis a b)) σ) : Op2 C k σ a b (compareOp .Is) K := fun A P s v w hr H r₁ r₂ => by
  obtain ⟨h1, h2⟩ := is_core r₁ r₂ hb (by rintro x rfl; cases ha) (by rintro t x rfl; cases ha)
  exact wpAny_is_plain h1 (by rw [h2]; exact Out.here' H (.bool _) h)
theorem Op2.isNot {C k σ a b K} (hb : plainI b = true) (ha : notRaw a = true) (h : K (.bool (!pis a b)) σ) : Op2 C k σ a b (compareOp .IsNot) K := fun A P s v w hr H r₁ r₂ => by
  obtain ⟨h1, h2⟩ := is_core r₁ r₂ hb (by rintro x rfl; cases ha) (by rintro t x rfl; cases ha)
  exact wpAny_isNot_plain h1 (by rw [h2]; exact Out.here' H (.bool _) h)
end Mine
end C15

section C16
open PySem PySem.W PyProof.Rows
set_option Elab.async false
set_option linter.unusedVariables false
namespace Mine

theorem RdL.one {X P h vs d} (r : RdL X P h vs [d]) : ∃ v, vs = [v] ∧ Rd X P h v d := by
  cases r with
  | cons r₁ r₂ => cases r₂; exact ⟨_, rfl, r₁⟩
theorem RdL.two {X P h vs d e} (r : RdL X P h vs [d, e]) : ∃ v w, vs = [v, w] ∧ Rd X P h v d ∧ Rd X P h w e := by
  cases r with
  | cons r₁ r₂ => obtain ⟨w, rfl, r₃⟩ := RdL.one r₂; exact ⟨_, w, rfl, r₁, r₃⟩
theorem RdL.three {X P h vs d e f} (r : RdL X P h vs [d, e, f]) : ∃ v w u, vs = [v, w, u] ∧ Rd X P h v d ∧ Rd X P h w e ∧ Rd X P h u f := by
  cases r with
  | cons r₁ r₂ => obtain ⟨w, u, rfl, r₃, r₄⟩ := RdL.two r₂; exact ⟨_, w, u, rfl, r₁, r₃, r₄⟩
theorem Rd.str_inv {X P h v l} (r : Rd X P h v (.str l)) : ∃ y t, v = .str y t ∧ y.cps.toList = l := by
  generalize hd : PV.str l = d at r
  cases r <;> first | (cases hd; done) | skip
  · rename_i y t
    exact ⟨y, t, rfl, by injection hd with e; exact e.symm⟩
theorem str_len (x : Str) : x.length = x.cps.toList.length := by show x.cps.size = _; simp
section
variable {C : Cx} {k : Nat} {σ : Sto} {K : PV → Sto → Prop}
theorem Op2.addl {a b : PV} {xs ys : List PV} (ha : LRead C σ a xs) (hb : LRead C σ b ys) (hsz : xs.length + ys.length ≤ sizeLine) (h : K (.list (xs ++ ys)) σ) : Op2 C k σ a b (binaryOp .Add) K := fun A P s v w hr H r₁ r₂ => by
  obtain ⟨l, vs, n, rfl, e, r⟩ := ha P s v H r₁
  obtain ⟨l', vs', n', rfl, e', r'⟩ := hb P s w H r₂
  have z := r.length; have z' := r'.length
  refine concat_meets ⟨_, e, rfl⟩ ⟨_, e', rfl⟩ noFill_list_add seq_list_add PySem.F.slot_list_add PySem.F.entry_list_add (PySem.F.args_list_add_2 _ _) (list_addW l l' vs vs' n n' _ _ _ _ (by simp at z z'; lia)) ⟨e, e', ?_⟩
  have o := Out.newList (C := C) (P := P) (K := K) (vs := vs.toList ++ vs'.toList) (tk := s.toks) H (r.append r') h
  have e2 : (vs.toList ++ vs'.toList).toArray = vs ++ vs' := by simp
  rw [e2] at o
  exact o
/-- str * int, int * str is not asked -/
theorem Op2.muls {a : List Nat} {i : Int} (h0 : 0 ≤ i) (h1 : i ≤ 4096) (hx : a.length ≤ 4096) (h : K (.str (List.replicate i.toNat a).flatten) σ) : Op2 C k σ (.str a) (.int i) (binaryOp .Mult) K := fun A P s v w hr H r₁ r₂ => by
  obtain ⟨u, rfl⟩ := r₂.intE
  cases r₁ with | str x t =>
  refine SB.mul (mulOk_of 4096 4096 (by rw [str_len]; exact hx) (by lia) (by lia) (by decide) (by decide)) fun t' tk => Out.here H ?_ h
  have : (Txt.mul x i).cps.toList = (List.replicate i.toNat x.cps.toList).flatten := by
    unfold Txt.mul
    have key : ∀ (n : Nat) (acc : Array Nat), ((List.replicate n x.cps).foldl (· ++ ·) acc).toList = acc.toList ++ (List.replicate n x.cps.toList).flatten := by
      intro n
      induction n with
      | zero => intro acc; simp
      | succ n ih => intro acc; rw [List.replicate_succ, List.foldl_cons, ih, List.replicate_succ, List.flatten_cons]; simp
    split
    · have : i.toNat = 0 := by lia
      rw [this]; rfl
    · split
      · rename_i h3 h4
        rw [Bool.or_eq_true] at h4
        rcases h4 with h4 | h4
        · have : i = 1 := eq_of_beq h4
          subst this; simp
        · have : x.cps.toList = [] := by have : x.length = 0 := eq_of_beq h4
                                         rw [str_len] at this; exact List.eq_nil_of_length_eq_zero this
          rw [this]; simp
      · rw [key]; simp
  rw [← this]; exact .str _ _
theorem OpL.len_l {a : PV} {xs : List PV} (ha : LRead C σ a xs) (hsz : xs.length < 2 ^ 60) (h : K (.int xs.length) σ) : OpL C k σ [a] (fun vs => PySem.call (.builtin "len") vs) K := fun A P s vs hr H r => by
  obtain ⟨v, rfl, r₁⟩ := r.one
  obtain ⟨l, vs, n, rfl, e, r⟩ := ha P s v H r₁
  have z : vs.size = xs.length := by rw [← r.length, Array.length_toList]
  exact Calls.call_len_list (isList_of e) (by rw [z]; lia) (by rw [z]; exact Out.here H (.int _ _) h)
theorem OpL.len_s {x : List Nat} (hsz : x.length < 2 ^ 60) (h : K (.int x.length) σ) : OpL C k σ [.str x] (fun vs => PySem.call (.builtin "len") vs) K := fun A P s vs hr H r => by
  obtain ⟨v, rfl, r₁⟩ := r.one
  cases r₁ with | str y t =>
  refine PySem.P.len_str (by have := str_len y; lia) ?_
  rw [str_len y]; exact Out.here H (.int _ _) h
theorem OpL.ord {c : Nat} (h : K (.int c) σ) : OpL C k σ [.str [c]] (fun vs => PySem.call (.builtin "ord") vs) K := fun A P s vs hr H r => by
  obtain ⟨v, rfl, r₁⟩ := r.one
  obtain ⟨y, t, rfl, hy⟩ := r₁.str_inv
  have : y = ⟨#[c]⟩ := by
    obtain ⟨z⟩ := y
    have : z.toList = [c] := hy
    have : z = #[c] := by rw [← Array.toArray_toList (xs := z), this]
    rw [this]
  subst this
  exact PySem.P.ord_of_char (Out.here H (.int _ _) h)
theorem OpL.chr {i : Int} (h0 : 0 ≤ i) (h1 : i ≤ 0x10FFFF) (h : K (.str [i.toNat]) σ) : OpL C k σ [.int i] (fun vs => PySem.call (.builtin "chr") vs) K := fun A P s vs hr H r => by
  obtain ⟨v, rfl, r₁⟩ := r.one
  obtain ⟨t, rfl⟩ := r₁.intE
  exact PySem.P.chr_of_int (by simp; lia) (Out.here H (.str _ _) h)
end
end Mine
end C16

section C17
open PySem PySem.W PyProof.Rows
set_option Elab.async false
set_option linter.unusedVariables false
set_option maxRecDepth 100000
namespace Mine

/-! ## lists that change -/
inductive Upd : Sto → Addr → AO → AO → Sto → Prop
  | here {a o n r} : Upd ((a, o) :: r) a o n ((a, n) :: r)
  | there {p r a o n r'} : Upd r a o n r' → Upd (p :: r) a o n (p :: r')
theorem Upd.mem {σ a o n σ'} (u : Upd σ a o n σ') : (a, o) ∈ σ := by
  induction u with
  | here => exact List.mem_cons_self
  | there _ ih => exact List.mem_cons_of_mem _ ih
theorem Upd.dom {σ a o n σ'} (u : Upd σ a o n σ') (h : o.more = n.more) : dom σ' = dom σ := by
  induction u with
  | here => simp only [Mine.dom, h]
  | there _ ih => simp only [Mine.dom]; rw [ih h]
theorem Upd.cases {σ a o n σ'} (u : Upd σ a o n σ') (hn : (Mine.dom σ).Nodup) : ∀ b ao, (b, ao) ∈ σ' → (b = a ∧ ao = n) ∨ ((b, ao) ∈ σ ∧ a ≠ b ∧ a ∉ ao.more) := by
  induction u with
  | here =>
    intro b ao hm
    rcases List.mem_cons.mp hm with e | hm
    · cases e; exact .inl ⟨rfl, rfl⟩
    · have h1 := (List.nodup_cons.mp hn).1
      have h2 : ∀ c, c = b ∨ c ∈ ao.more → c ∈ Mine.dom _ := mem_dom hm
      exact .inr ⟨List.mem_cons_of_mem _ hm, fun q => h1 (List.mem_append_right _ (h2 _ (.inl q))), fun q => h1 (List.mem_append_right _ (h2 _ (.inr q)))⟩
  | there u ih =>
    rename_i p r a o n r'
    intro b ao hm
    have hn' : (Mine.dom r).Nodup := by
      have := (List.nodup_cons.mp hn).2
      exact (List.nodup_append.mp this).2.1
    rcases List.mem_cons.mp hm with e | hm
    · subst e
      have ha : a ∈ Mine.dom r := mem_dom u.mem a (.inl rfl)
      refine .inr ⟨List.mem_cons_self, fun q => (List.nodup_cons.mp hn).1 (List.mem_append_right _ (q ▸ ha)), fun q => ?_⟩
      exact (List.nodup_append.mp (List.nodup_cons.mp hn).2).2.2 _ q _ ha rfl
    · rcases ih hn' b ao hm with h | h
      · exact .inl h
      · exact .inr ⟨List.mem_cons_of_mem _ h.1, h.2⟩
theorem After.mset {C P σ s σ' a xs ys} {h' : Heap} {n : Tok} {vs : Array Value} {m : Nat} (u : Upd σ a (.mlist xs) (.mlist ys) σ') (H : Hp C P σ s.heap) (hs : Heap.SameBut a s.heap h') (e : h'.get? a = some { cls := .type "list", data := .seq vs m })
    (r : RdL C.X P s.heap vs.toList ys) : After C P σ s σ' { s with heap := h', toks := n } := by
  have hd : dom σ' = dom σ := u.dom rfl
  have ha : a ∈ dom σ := mem_dom u.mem a (.inl rfl)
  have hP := H.pdom a ha
  have g : Pass P s.heap P h' := fun b o na x => ⟨hs.extBut b o (fun q => na (q ▸ hP.1)) x, na⟩
  have hpp : ∀ b, PP P σ' b → P b := fun b q => q.elim (fun q => q) fun q => (H.pdom b (hd ▸ q)).1
  refine ⟨⟨fun b o h1 _ _ x => hs.extBut b o (fun q => h1 (q ▸ ha)) x, Nat.le_of_eq hs.1.symm, fun b hb => .inl (hd ▸ hb), rfl, rfl⟩, ?_⟩
  refine ⟨C.keep H.gi (fun b o hb x => hs.extBut b o (fun q => hP.2.elim (fun z => Nat.not_lt.mpr z (q ▸ hb.1)) (fun z => hb.2 (q.symm ▸ z))) x) (Nat.le_of_eq hs.1.symm), fun b ao hm => ?_, fun b hb => .inl (H.ptb b hb), fun b hb => ⟨.inr hb, (H.pdom b (hd ▸ hb)).2⟩, hd ▸ H.nodup, fun b q => by show b < h'.objs.size; rw [hs.1]; exact H.plt b (hpp b q)⟩
  rcases u.cases H.nodup b ao hm with ⟨rfl, rfl⟩ | ⟨hm', hne, hno⟩
  · exact ⟨vs, m, e, r.pass' (g.trans (Pass.less hpp))⟩
  · refine (H.st b ao hm').pass (g.trans (Pass.less hpp)) fun c hc o x => hs.extBut c o (fun q => ?_) x
    subst q
    rcases hc with hc | hc
    · exact hne hc
    · exact hno hc

theorem upd_list {h : Heap} {l : Addr} {items : Array Value} {n : Nat} (f : Array Value → Array Value) (e : h.get? l = some { cls := .type "list", data := .seq items n }) :
    ∃ m, (h.update l (Obj.mapSeq f)).get? l = some { cls := .type "list", data := .seq (f items) m } := by
  obtain ⟨m, hm⟩ := Obj.data_mapSeq (o := { cls := .type "list", data := .seq items n }) rfl f
  have e2 := Heap.get?_update_self (Obj.mapSeq f) e (Obj.isFreed_of_seq hm)
  refine ⟨m, ?_⟩
  rw [e2]
  congr 1
  have hc := Obj.cls_mapSeq ({ cls := .type "list", data := .seq items n } : Obj) f
  unfold Obj.mapSeq at hm hc ⊢
  simp only at hm hc ⊢
  simp_all

section
variable {C : Cx} {k : Nat} {σ σ' : Sto} {K : PV → Sto → Prop} {a : Addr} {xs : List PV}
theorem OpL.append {d : PV} (u : Upd σ a (.mlist xs) (.mlist (xs ++ [d])) σ') (hsz : xs.length ≤ sizeLine) (h : K .none σ') : OpL C k σ [.raw (.ref a), d] (fun vs => PySem.call (.builtin "list.append") vs) K := fun A P s vs hr H r => by
  obtain ⟨v, w, rfl, r₁, r₂⟩ := r.two
  obtain rfl := r₁.rawE
  obtain ⟨vs, n, e, rl⟩ := H.st _ _ u.mem
  have z : vs.size = xs.length := by rw [← rl.length, Array.length_toList]
  refine wpAny_list_append_plain ⟨n, e⟩ (fun h' pl sb => ?_) (by rw [z]; exact hsz)
  obtain ⟨m, e'⟩ := pl
  exact ⟨_, _, h, After.mset (n := s.toks) u H sb e' (by rw [Array.toList_push]; exact rl.append (.cons r₂ .nil)), .none⟩
theorem OpL.extend {d : PV} {ys : List PV} (hd : LRead C σ d ys) (u : Upd σ a (.mlist xs) (.mlist (xs ++ ys)) σ') (hsz : xs.length + ys.length ≤ 2 ^ 20) (h : K .none σ') : OpL C k σ [.raw (.ref a), d] (fun vs => PySem.call (.builtin "list.extend") vs) K := fun A P s vs hr H r => by
  obtain ⟨v, w, rfl, r₁, r₂⟩ := r.two
  obtain rfl := r₁.rawE
  obtain ⟨vs, n, e, rl⟩ := H.st _ _ u.mem
  obtain ⟨b, vs', n', rfl, e', rl'⟩ := hd P s w H r₂
  have z : vs.size = xs.length := by rw [← rl.length, Array.length_toList]
  have z' : vs'.size = ys.length := by rw [← rl'.length, Array.length_toList]
  have hdoor : ¬(!vs.isEmpty && Builtin.List.listTooLong (vs.size + vs'.size)) = true := by
    have : Builtin.List.listTooLong (vs.size + vs'.size) = false := by unfold Builtin.List.listTooLong; simp [sizeLine]; lia
    rw [this]; simp
  refine call_meets F.slot_list_extend ⟨_, e, rfl⟩ F.entry_list_extend (F.args_list_extend_2 _ _) (AutoSeq1.list_extend_list_list_0 a vs n b vs' n' hdoor (by simp [sizeLine]; lia) (by simp [sizeLine]; lia)) ⟨e, e', ?_⟩
  obtain ⟨m, e2⟩ := upd_list (fun x => x ++ vs') e
  exact ⟨_, _, h, After.mset (n := s.toks) u H (Heap.SameBut.update ..) e2 (by rw [Array.toList_append]; exact rl.append rl'), .none⟩
end
/-- a store into a list -/
noncomputable def Op3u (C : Cx) (k : Nat) (σ : Sto) (a b c : PV) (f : Value → Value → Value → Sem Unit) (K : Sto → Prop) : Prop :=
  ∀ (A : Around) (P : Addr → Prop) (s : Shared) (v w x : Value), Room A k → Hp C P σ s.heap → Rd C.X P s.heap v a → Rd C.X P s.heap w b → Rd C.X P s.heap x c → wpAny (model C.prog C.w) A (f v w x) (fun _ s' => ∃ σ', K σ' ∧ After C P σ s σ' s') NoE s
theorem setItem_exact {prog w A E} {s : Shared} {l : Addr} {items : Array Value} {n : Nat} {k : Int} {t : Tok} {v : Value} {Q : Unit → Shared → Prop} (e : s.heap.get? l = some { cls := .type "list", data := .seq items n })
    (h0 : 0 ≤ k) (hfit : k < 2 ^ 63) (hn : k < items.size) (hQ : Q () { s with heap := s.heap.update l (Obj.mapSeq (·.setIfInBounds k.toNat v)) }) :
    wpAny (model prog w) A (setItem (.ref l) (.int k t) v) Q E s := by
  have hl := isList_of e
  obtain ⟨o, ho, hd, hQ⟩ : ∃ o, s.heap.get? l = some o ∧ o.data = .seq items n ∧ Q () { s with heap := s.heap.update l (Obj.mapSeq (·.setIfInBounds k.toNat v)) } := ⟨_, e, rfl, hQ⟩
  clear e
  unfold setItem
  try with_reducible refine wpAny_holding ?_
  first | refine wpAny_bind (wpAny_pure ?_) | skip
  refine wpAny_bind (wpAny_sequenceKey hl.typeIs (by decide) ?_)
  refine wpAny_bind (wpAny_callSpecial?_slot (name := Str.ofString "__setitem__") hl.typeIs slot_list_setitem
    (wpAny_call_entry slot_list_setitem hl.typeIs entry_list_setitem ?_ (args_list_setitem _ _ _)))
  show wpAny _ _ (Builtin.List.listSubscript? (.int k t) >>= _) _ _ s
  refine wpAny_bind (wpAny_listSubscript_int (fitsIndex_of h0 hfit) ?_)
  clear hfit
  obtain ⟨j, rfl⟩ := Int.eq_ofNat_of_zero_le h0
  have hj : j < items.size := by lia
  have hx' : items[j]? = some items[j] := Array.getElem?_eq_getElem hj
  show wpAny _ _ ((seqItemAt l j >>= fun r => pure (r.map (j, ·))) >>= _) _ _ s
  refine wpAny_bind (wpAny_bind (wpAny_seqItemAt ho hd (wpAny_pure ?_)))
  rw [hx']
  show wpAny _ _ (setSeqItemAt l j v >>= _) _ _ s
  refine wpAny_bind (wpAny_setSeqItemAt ho hd ?_)
  first
    | exact wpAny_bind (wpAny_pure (wpAny_pure ⟨.none, rfl, wpAny_pure hQ⟩))
    | exact wpAny_pure ⟨.none, rfl, wpAny_pure hQ⟩
theorem RdL.set {X P h} : ∀ {vs : List Value} {ds : List PV} {i : Nat} {v d}, RdL X P h vs ds → Rd X P h v d → RdL X P h (vs.set i v) (ds.set i d)
  | _, _, _, _, _, .nil, _ => .nil
  | _, _, 0, _, _, .cons r rs, r' => .cons r' rs
  | _, _, i + 1, _, _, .cons r rs, r' => .cons r (RdL.set rs r')
theorem Op3u.setList {C k σ σ' a xs i d K} (u : Upd σ a (.mlist xs) (.mlist (xs.set i d)) σ') (hi : i < xs.length) (hsz : xs.length < 2 ^ 60) (h : K σ') : Op3u C k σ (.raw (.ref a)) (.int (i : Nat)) d setItem K := fun A P s v w x hr H r₁ r₂ r₃ => by
  obtain rfl := r₁.rawE
  obtain ⟨t, rfl⟩ := r₂.intE
  obtain ⟨vs, n, e, rl⟩ := H.st _ _ u.mem
  have z : vs.size = xs.length := by rw [← rl.length, Array.length_toList]
  refine setItem_exact e (Int.natCast_nonneg i) (by lia) (by lia) ?_
  obtain ⟨m, e2⟩ := upd_list (fun y => y.setIfInBounds i x) e
  exact ⟨_, h, After.mset (n := s.toks) u H (Heap.SameBut.update ..) e2 (by rw [Array.toList_setIfInBounds]; exact rl.set r₃)⟩
theorem Ex1.setSub {C k sc ρ σ e o i p pos K} (h : Ev C k sc ρ σ e fun d σ₁ => Ev C k sc ρ σ₁ o fun a σ₂ => Ev C k sc ρ σ₂ i fun b σ₃ => Op3u C k σ₃ a b d setItem fun σ₄ => K .next ρ σ₄)
    (hs : ∀ env, swapsWith e (some (.Subscript o i p)) pos.line env = pure false) : Ex1 C k sc ρ σ (.Assign [.Subscript o i p] e pos) K := fun A P env s he hr I => by
  refine wpAny_Assign_Subscript (ev_one h he hr I fun v d σ₁ s₁ hK A₁ r₁ => ?_) (hs env)
  refine ev_one hK he hr (I.after A₁) fun v₂ d₂ σ₂ s₂ hK₂ A₂ r₂ => ?_
  have A12 := A₁.trans I.hp A₂
  refine ev_one hK₂ he hr (I.after A12) fun v₃ d₃ σ₃ s₃ hK₃ A₃ r₃ => ?_
  have A123 := A12.trans I.hp A₃
  have q₁ := (((r₁.pass' (A₂.pass A₁.hp)).down C.extOk).pass' (A₃.pass A12.hp)).down C.extOk
  have q₂ := (((r₂.down C.extOk)).pass' (A₃.pass A12.hp)).down C.extOk
  refine wpAny_mono (hK₃ A _ s₃ v₂ v₃ v hr A123.hp q₂ (r₃.down C.extOk) q₁) (fun _ s₄ o => ?_) fun _ _ x => x
  obtain ⟨σ₄, hK₄, A₄⟩ := o
  exact ⟨_, _, _, hK₄, .of I (A123.trans I.hp A₄), .next⟩
end Mine
end C17

section C18
open PySem PySem.W PyProof.Rows
set_option Elab.async false
set_option linter.unusedVariables false
set_option maxRecDepth 100000
namespace Mine

theorem After.kept {C P σ} {s : Shared} {h' : Heap} {n : Tok} (H : Hp C P σ s.heap) (k : ∀ b o, s.heap.get? b = some o → h'.get? b = some o) (hz : hsz s ≤ h'.objs.size) : After C P σ s σ { s with heap := h', toks := n } := by
  have g : Pass P s.heap P h' := fun a o na e => ⟨k a o e, na⟩
  exact ⟨⟨fun b o _ _ _ e => k b o e, hz, fun _ q => .inl q, rfl, rfl⟩,
    (Hp.pp (C := C) (P := P) (σ := σ) (h := h') ⟨C.keep H.gi (fun b o _ e => k b o e) hz, H.st.pass g (fun b _ o e => k b o e), H.ptb, H.pdom, H.nodup, fun a ha => Nat.lt_of_lt_of_le (H.plt a ha) hz⟩)⟩

/-! ## slices -/
theorem RdL.pick {X P h} {vs : List Value} {ds : List PV} (r : RdL X P h vs ds) : ∀ idx : List Nat, RdL X P h (idx.filterMap (vs[·]?)) (idx.filterMap (ds[·]?))
  | [] => .nil
  | i :: t => by
    rw [List.filterMap_cons, List.filterMap_cons]
    cases e : vs[i]? with
    | none =>
      have : ds[i]? = none := by
        rw [List.getElem?_eq_none_iff] at e ⊢
        rw [← r.length]; exact e
      rw [this]; exact r.pick t
    | some v =>
      obtain ⟨d, hd, rd⟩ := r.get e
      rw [hd]; exact .cons rd (r.pick t)
noncomputable def slcL {α : Type} (xs : List α) (lo hi st : Option Int) : List α := (sliceRange (sliceBounds lo hi st xs.length).1 (sliceBounds lo hi st xs.length).2.1 (sliceBounds lo hi st xs.length).2.2).filterMap (xs[·]?)
section
variable {C : Cx} {k : Nat} {σ : Sto} {K : PV → Sto → Prop}
theorem Op2.slice {value slice : Expr} {a : PV} {xs : List PV} {lo hi st : Option Int} (hl : LRead C σ a xs) (h0 : st ≠ some 0) (hsz : xs.length ≤ sizeLine) (h : K (.list (slcL xs lo hi st)) σ) : Op2 C k σ a (.slice lo hi st) (subscriptTail value slice) K := fun A P s v w hr H r₁ r₂ => by
  obtain ⟨b, vs, n, rfl, e, r⟩ := hl P s v H r₁
  cases r₂ with | slice na e2 p1 p2 p3 =>
  rename_i c vl vu vst
  have z : vs.size = xs.length := by rw [← r.length, Array.length_toList]
  obtain ⟨ops, ho⟩ := sub_ops slice (.ref b) (.ref c)
  refine tail_any (isList_of e).typeIs slot_list_getitem.lookup (wpAny_getItem_list_slice (isList_of e) ⟨_, e2, rfl, rfl⟩ p1 p2 p3 h0 ?_ (by rw [z]; exact hsz)) ho
  have e3 : (slicePick vs lo hi st).toList = (sliceRange (sliceBounds lo hi st vs.toList.length).1 (sliceBounds lo hi st vs.toList.length).2.1 (sliceBounds lo hi st vs.toList.length).2.2).filterMap (vs.toList[·]?) := by
    unfold slicePick; simp
  have q : RdL C.X P s.heap (slicePick vs lo hi st).toList (slcL xs lo hi st) := by
    rw [e3]; unfold slcL; rw [r.length]; exact r.pick _
  have o := Out.newList (tk := s.toks) H q h
  simpa using o
/-- a str's slice -/
noncomputable def slcS (xs : List Nat) (lo hi st : Option Int) : List Nat := (Builtin.Str.strSliceIndices lo hi (st.getD 1) xs.length).filterMap (xs[·]?)
theorem range_pick (x : List Nat) : (List.range x.length).filterMap (x[·]?) = x := by
  apply List.ext_getElem?
  intro i
  have : (List.range x.length).filterMap (x[·]?) = (List.range x.length).map (fun i => x.getD i 0) := by
    have key : ∀ l : List Nat, (∀ i ∈ l, i < x.length) → l.filterMap (x[·]?) = l.map (fun i => x.getD i 0) := by
      intro l
      induction l with
      | nil => intro _; rfl
      | cons a t ih =>
        intro h
        have ha := h a List.mem_cons_self
        rw [List.filterMap_cons, List.map_cons, List.getElem?_eq_getElem ha]
        simp only [ih fun i hi => h i (List.mem_cons_of_mem _ hi), List.getD_eq_getElem?_getD, List.getElem?_eq_getElem ha, Option.getD_some]
    exact key _ fun i hi => List.mem_range.mp hi
  rw [this, List.getElem?_map]
  by_cases hi : i < x.length
  · rw [List.getElem?_range hi]; simp [List.getElem?_eq_getElem hi]
  · rw [List.getElem?_eq_none (by simpa using hi), List.getElem?_eq_none (by simpa using hi)]; rfl
theorem sr_one {a b : Int} {n : Nat} (a0 : 0 ≤ a) (bn : b ≤ n) (h : (sliceRange a b 1).length = n) : sliceRange a b 1 = List.range n := by
  unfold sliceRange at h ⊢
  simp only [List.length_map, List.length_range, Int.ediv_one, Int.one_mul, gt_iff_lt, show (0 : Int) < 1 from by decide, if_true] at h ⊢
  by_cases hab : a < b
  · rw [if_pos hab] at h ⊢
    have ha : a = 0 := by omega
    have hb : b = n := by omega
    subst ha; rw [h]
    apply List.ext_getElem?
    intro i
    simp
  · rw [if_neg hab] at h ⊢
    have : n = 0 := by simpa using h.symm
    rw [this]; rfl
theorem slcS_whole {x : List Nat} {lo hi st : Option Int} (h1 : st.getD 1 = 1) (h2 : (Builtin.Str.strSliceIndices lo hi (st.getD 1) x.length).length = x.length) : slcS x lo hi st = x := by
  unfold slcS
  have : Builtin.Str.strSliceIndices lo hi (st.getD 1) x.length = List.range x.length := by
    rw [h1] at h2 ⊢
    unfold Builtin.Str.strSliceIndices at h2 ⊢
    refine sr_one ?_ ?_ h2
    · cases lo <;> simp <;> omega
    · cases hi <;> simp <;> omega
  rw [this, range_pick]
theorem Op2.slice_s {value slice : Expr} {x : List Nat} {lo hi st : Option Int} (h0 : st.getD 1 ≠ 0) (hsz : (slcS x lo hi st).length ≤ sizeLine) (h : K (.str (slcS x lo hi st)) σ) : Op2 C k σ (.str x) (.slice lo hi st) (subscriptTail value slice) K := fun A P s v w hr H r₁ r₂ => by
  obtain ⟨y, t, rfl, rfl⟩ := r₁.str_inv
  cases r₂ with | slice na e2 p1 p2 p3 =>
  rename_i c vl vu vst
  have part : ∀ {v : Value} {p : Option Int}, IsPart v p → ∃ q : Option (Int × Tok), v = partValue q ∧ q.map (·.1) = p := fun hp => by
    cases hp with
    | none => exact ⟨none, rfl, rfl⟩
    | int i t => exact ⟨some (i, t), rfl, rfl⟩
  obtain ⟨l, rfl, rfl⟩ := part p1
  obtain ⟨u, rfl, rfl⟩ := part p2
  obtain ⟨q, rfl, rfl⟩ := part p3
  obtain ⟨ops, ho⟩ := sub_ops slice (.str y t) (.ref c)
  refine tail_any rfl F.slot_str_getitem.lookup (wpAny_getItem_str_slice ⟨_, e2, rfl, rfl⟩ (beq_false_of_ne h0) ?_) ho
  have hz : y.length = y.cps.toList.length := str_len y
  unfold sliceMade
  split
  · rename_i hc
    rw [Bool.and_eq_true] at hc
    have : slcS y.cps.toList (l.map (·.1)) (u.map (·.1)) (q.map (·.1)) = y.cps.toList := slcS_whole (eq_of_beq hc.1) (by
      have := eq_of_beq hc.2
      unfold slicePicked at this
      rw [hz] at this; exact this)
    rw [this] at h
    exact Out.here' H (.str _ _) h
  · have : (⟨((slicePicked y l u q).filterMap (y.cps[·]?)).toArray⟩ : Str).cps.toList = slcS y.cps.toList (l.map (·.1)) (u.map (·.1)) (q.map (·.1)) := by
      unfold slcS slicePicked
      rw [hz]; simp
    rw [← this] at h hsz
    exact ⟨by rw [str_len]; exact hsz, Out.here H (.str _ _) h⟩
theorem Op2.item_s {value slice : Expr} {x : List Nat} {i : Nat} {c : Nat} (hi : i < 2 ^ 60) (hx : x[i]? = some c) (h : K (.str [c]) σ) : Op2 C k σ (.str x) (.int (i : Nat)) (subscriptTail value slice) K := fun A P s v w hr H r₁ r₂ => by
  obtain ⟨y, t, rfl, rfl⟩ := r₁.str_inv
  obtain ⟨u, rfl⟩ := r₂.intE
  obtain ⟨ops, ho⟩ := sub_ops slice (.str y t) (.int (i : Nat) u)
  have hlt : i < y.cps.size := by
    have := (List.getElem?_eq_some_iff.mp hx).1
    simpa using this
  have hc : Txt.charAt y (i : Nat) = some c := by
    unfold Txt.charAt seqIndex?
    have h1 : ¬ ((i : Int) < 0) := by omega
    simp only [h1, if_false]
    have h2 : (decide (0 ≤ (i : Int)) && decide ((i : Int) < (y.length : Int))) = true := by
      rw [Bool.and_eq_true]; exact ⟨decide_eq_true (by omega), decide_eq_true (by show (i : Int) < (y.cps.size : Int); omega)⟩
    rw [if_pos h2]
    simpa using hx
  refine tail_any rfl F.slot_str_getitem.lookup (SB.getItem (by unfold PySem.fitsSsize; simp; omega) (by rw [hc]; rfl) ?_) ho
  have : Txt.item y (i : Nat) = ⟨#[c]⟩ := by unfold Txt.item; rw [hc]; rfl
  rw [this]; exact Out.here H (.str _ _) h
end
end Mine
end C18

section C19
open PySem PySem.W PyProof.Rows
set_option Elab.async false
set_option linter.unusedVariables false
set_option maxRecDepth 100000
namespace Mine

noncomputable def lowerL (x : List Nat) : List Nat := (Txt.lower (strL x)).cps.toList
theorem strL_eq {y : Str} {x : List Nat} (h : y.cps.toList = x) : y = strL x := by rw [← h, strL_toList]
section
variable {C : Cx} {k : Nat} {σ : Sto} {K : PV → Sto → Prop}
theorem OpL.lower {x : List Nat} (hsz : (lowerL x).length ≤ sizeLine) (h : K (.str (lowerL x)) σ) : OpL C k σ [.str x] (fun vs => PySem.call (.builtin "str.lower") vs) K := fun A P s vs hr H r => by
  obtain ⟨v, rfl, r₁⟩ := r.one
  obtain ⟨y, t, rfl, hy⟩ := r₁.str_inv
  have e := strL_eq hy
  subst e
  exact SC.lower (by unfold Builtin.Str.tooLong; rw [str_len]; exact decide_eq_false (Nat.not_lt.mpr hsz)) (Out.here H (.str _ _) h)

theorem strs_are {X : Ext} {P h} : ∀ {xs : List (List Nat)} {vs : List Value}, RdL X P h vs (xs.map .str) → ∃ ys, StrsAre vs ys ∧ ys.map (fun y => y.cps.toList) = xs
  | [], _, r => by cases r; exact ⟨[], .nil, rfl⟩
  | x :: xs, _, r => by
    rw [List.map_cons] at r
    cases r with
    | cons r₁ rs =>
      obtain ⟨y, t, rfl, hy⟩ := r₁.str_inv
      obtain ⟨ys, h1, h2⟩ := strs_are rs
      exact ⟨y :: ys, .cons y t h1, by rw [List.map_cons, hy, h2]⟩
theorem join_empty : ∀ ys : List Str, (Txt.join Str.empty ys).cps.toList = (ys.map fun y => y.cps.toList).flatten := by
  intro ys
  unfold Txt.join Builtin.Str.glued
  have key : ∀ (l : List Str) (acc : Array Nat), (l.foldl (fun acc p => acc ++ Str.empty.cps ++ p.cps) acc).toList = acc.toList ++ (l.map fun y => y.cps.toList).flatten := by
    intro l
    induction l with
    | nil => intro acc; simp
    | cons a t ih => intro acc; rw [List.foldl_cons, ih, List.map_cons, List.flatten_cons]; simp [Str.empty]
  cases ys with
  | nil => rfl
  | cons a t => simp only [List.drop_succ_cons, List.drop_zero, List.headD_cons]; rw [key, List.map_cons, List.flatten_cons]
theorem OpL.join0 {a : PV} {xs : List (List Nat)} (ha : LRead C σ a (xs.map .str)) (hsz : (xs.map List.length).sum ≤ 16777216) (h : K (.str xs.flatten) σ) : OpL C k σ [.str [], a] (fun vs => PySem.call (.builtin "str.join") vs) K := fun A P s vs hr H r => by
  obtain ⟨v, w, rfl, r₁, r₂⟩ := r.two
  obtain ⟨y, t, rfl, hy⟩ := r₁.str_inv
  obtain ⟨b, vs, n, rfl, e, rl⟩ := ha P s w H r₂
  obtain ⟨ys, h1, h2⟩ := strs_are rl
  have e1 : y = Str.empty := by have := strL_eq hy; rw [this]; rfl
  subst e1
  have hl : (ys.map fun y : Str => y.length) = xs.map List.length := by
    rw [← h2, List.map_map]; exact List.map_congr_left fun y _ => str_len y
  refine join_list (isList_of e) h1 (by rw [hl]; show _ + _ * 0 ≤ _; omega) fun t' tk => Out.here H ?_ h
  rw [← h2, ← join_empty]; exact .str _ _

/-! ## range, max, min, sum, sorted -/
theorem OpL.range1 {n : Int} (h : K (.range 0 n 1) σ) : OpL C k σ [.int n] (fun vs => PySem.call (.type "range") vs) K := fun A P s vs hr H r => by
  obtain ⟨v, rfl, r₁⟩ := r.one
  obtain ⟨t, rfl⟩ := r₁.intE
  refine call_range_1 ?_
  have A' := After.push (o := { cls := .type "range", data := .fields #[.int 0 s.toks, .int n t, .int 1 (s.toks + 1)] }) (n := s.toks + 1 + 1) H
  exact ⟨_, σ, h, A', .range H.fresh (IsRange.new ..)⟩
theorem OpL.range2 {a b : Int} (h : K (.range a b 1) σ) : OpL C k σ [.int a, .int b] (fun vs => PySem.call (.type "range") vs) K := fun A P s vs hr H r => by
  obtain ⟨v, w, rfl, r₁, r₂⟩ := r.two
  obtain ⟨t, rfl⟩ := r₁.intE
  obtain ⟨u, rfl⟩ := r₂.intE
  refine call_range_2 ?_
  have A' := After.push (o := { cls := .type "range", data := .fields #[.int a t, .int b u, .int 1 s.toks] }) (n := s.toks + 1) H
  exact ⟨_, σ, h, A', .range H.fresh (IsRange.new ..)⟩
theorem OpL.range3 {a b c : Int} (hc : c ≠ 0) (hp : Builtin.divisionGoesByPylong (b - a) c = false) (h : K (.range a b c) σ) : OpL C k σ [.int a, .int b, .int c] (fun vs => PySem.call (.type "range") vs) K := fun A P s vs hr H r => by
  obtain ⟨v, w, x, rfl, r₁, r₂, r₃⟩ := r.three
  obtain ⟨t, rfl⟩ := r₁.intE
  obtain ⟨u, rfl⟩ := r₂.intE
  obtain ⟨v, rfl⟩ := r₃.intE
  refine call_range_3 hc ?_ (.inl hp)
  have A' := After.push (o := { cls := .type "range", data := .fields #[.int a t, .int b u, .int c v] }) (n := s.toks) H
  exact ⟨_, σ, h, A', .range H.fresh (IsRange.new ..)⟩

theorem ints_items {X : Ext} {P h} : ∀ {ns : List Int} {vs : List Value}, RdL X P h vs (ns.map .int) → ∃ ps : List (Int × Tok), vs = ps.map (fun p => .int p.1 p.2) ∧ ps.map (·.1) = ns
  | [], _, r => by cases r; exact ⟨[], rfl, rfl⟩
  | n :: ns, _, r => by
    rw [List.map_cons] at r
    cases r with
    | cons r₁ rs =>
      cases r₁ with
      | int _ t =>
        obtain ⟨ps, h1, h2⟩ := ints_items rs
        exact ⟨(n, t) :: ps, by rw [h1]; rfl, by rw [List.map_cons, h2]⟩
theorem ints_arr {X : Ext} {P h} {ns : List Int} {vs : Array Value} (r : RdL X P h vs.toList (ns.map .int)) : ∃ xs : Array (Int × Tok), vs = intItems xs ∧ xs.toList.map (·.1) = ns := by
  obtain ⟨ps, h1, h2⟩ := ints_items r
  refine ⟨ps.toArray, ?_, by simpa using h2⟩
  unfold intItems
  rw [← Array.toArray_toList (xs := vs), h1]
  simp
theorem OpL.sum {a : PV} {ns : List Int} (ha : LRead C σ a (ns.map .int)) (h : K (.int ns.sum) σ) : OpL C k σ [a] (fun vs => PySem.call (.builtin "sum") vs) K := fun A P s vs hr H r => by
  obtain ⟨v, rfl, r₁⟩ := r.one
  obtain ⟨b, vs, n, rfl, e, rl⟩ := ha P s v H r₁
  obtain ⟨xs, rfl, hx⟩ := ints_arr rl
  refine with_size (sum_intListG hr.handled (isList_of e) fun h' tk t' kp hz => ?_)
  refine ⟨_, σ, h, After.kept H kp hz, ?_⟩
  have : preSum (numAt xs) xs.size = ns.sum := by rw [preSum_eq, ← hx, List.take_of_length_le (by simp)]
  rw [this]; exact .int _ _
theorem OpL.max {a : PV} {ns : List Int} (ha : LRead C σ a (ns.map .int)) (hne : ns ≠ []) (h : ∀ M, M ∈ ns → (∀ a ∈ ns, a ≤ M) → K (.int M) σ) : OpL C k σ [a] (fun vs => PySem.call (.builtin "max") vs) K := fun A P s vs hr H r => by
  obtain ⟨v, rfl, r₁⟩ := r.one
  obtain ⟨b, vs, n, rfl, e, rl⟩ := ha P s v H r₁
  obtain ⟨xs, rfl, hx⟩ := ints_arr rl
  have hsz : 0 < xs.size := by
    cases hh : xs.toList with
    | nil => rw [hh] at hx; exact absurd hx.symm hne
    | cons p t => have := congrArg List.length hh; simp at this; omega
  refine with_size (max_intList hr.handled (isList_of e) hsz fun v h' tk hv kp hz => ?_)
  obtain ⟨t, rfl⟩ := intItems_at hv
  obtain ⟨h1, h2⟩ := argBest_gt (numAt xs) (xs.size - 1)
  refine ⟨_, σ, h _ ?_ fun a ha => ?_, After.kept H kp hz, .int _ _⟩
  · rw [← hx, numAt_eq]; exact getD_mem (by rw [List.length_map, Array.length_toList]; omega)
  · rw [← hx] at ha
    obtain ⟨j, hj, rfl⟩ := mem_getD ha
    rw [List.length_map, Array.length_toList] at hj
    rw [← numAt_eq]; exact h2 j (by omega)
theorem OpL.min {a : PV} {ns : List Int} (ha : LRead C σ a (ns.map .int)) (hne : ns ≠ []) (h : ∀ M, M ∈ ns → (∀ a ∈ ns, M ≤ a) → K (.int M) σ) : OpL C k σ [a] (fun vs => PySem.call (.builtin "min") vs) K := fun A P s vs hr H r => by
  obtain ⟨v, rfl, r₁⟩ := r.one
  obtain ⟨b, vs, n, rfl, e, rl⟩ := ha P s v H r₁
  obtain ⟨xs, rfl, hx⟩ := ints_arr rl
  have hsz : 0 < xs.size := by
    cases hh : xs.toList with
    | nil => rw [hh] at hx; exact absurd hx.symm hne
    | cons p t => have := congrArg List.length hh; simp at this; omega
  refine with_size (min_intList hr.handled (isList_of e) hsz fun v h' tk hv kp hz => ?_)
  obtain ⟨t, rfl⟩ := intItems_at hv
  obtain ⟨h1, h2⟩ := argBest_lt (numAt xs) (xs.size - 1)
  refine ⟨_, σ, h _ ?_ fun a ha => ?_, After.kept H kp hz, .int _ _⟩
  · rw [← hx, numAt_eq]; exact getD_mem (by rw [List.length_map, Array.length_toList]; omega)
  · rw [← hx] at ha
    obtain ⟨j, hj, rfl⟩ := mem_getD ha
    rw [List.length_map, Array.length_toList] at hj
    rw [← numAt_eq]; exact h2 j (by omega)
theorem ints_are {X : Ext} {P h} : ∀ {ns : List Int} {vs : List Value}, RdL X P h vs (ns.map .int) → IntsAre vs ns
  | [], _, r => by cases r; exact .nil
  | n :: ns, _, r => by
    rw [List.map_cons] at r
    cases r with
    | cons r₁ rs => obtain ⟨t, rfl⟩ := r₁.intE; exact .cons n t (ints_are rs)
theorem are_ints {X : Ext} {P h} : ∀ {ns : List Int} {vs : List Value}, IntsAre vs ns → RdL X P h vs (ns.map .int)
  | _, _, .nil => .nil
  | _, _, .cons n t r => .cons (.int n t) (are_ints r)
theorem OpL.sorted {a : PV} {ns : List Int} (ha : LRead C σ a (ns.map .int)) (h64 : ns.length < 64) (h : ∀ ns' : List Int, ns'.Perm ns → ns'.Pairwise (· ≤ ·) → K (.list (ns'.map .int)) σ) : OpL C k σ [a] (fun vs => PySem.call (.builtin "sorted") vs) K := fun A P s vs hr H r => by
  obtain ⟨v, rfl, r₁⟩ := r.one
  obtain ⟨b, vs, n, rfl, e, rl⟩ := ha P s v H r₁
  have hI := ints_are rl
  have hl : s.heap.IsList b vs.toList.toArray := by rw [Array.toArray_toList]; exact isList_of e
  refine with_size (sorted_ints hl hI (by rw [hI.length]; exact h64) fun out ns' a1 a2 a3 hz => ?_)
  obtain ⟨m, he⟩ := sortedAll_at s.heap vs.toList out
  refine ⟨_, σ, h ns' a2 a3, After.kept (n := s.toks) H (fun _ _ => sortedAll_old) hz, .list (fun q => ?_) he (are_ints a1)⟩
  exact Nat.not_lt.mpr (Nat.le_succ _) (H.pplt _ q)
end
end Mine
end C19

section C20
open PySem PySem.W PyProof.Rows
set_option Elab.async false
set_option linter.unusedVariables false
set_option maxRecDepth 100000
namespace Mine

/-! ## the two tables of the top -/
noncomputable def DictAt (C : Cx) (a : Addr) (D : List (PyData × PyData)) : Prop := ∀ h, C.gi h → IntTab C.prog C.w h a D
noncomputable def SetAt (C : Cx) (a : Addr) (S : Int → Bool) (n : Nat) : Prop := ∀ h, C.gi h → h.SetOf (intKind C.prog C.w) a S n
inductive PvOf : PyData → PV → Prop
  | none : PvOf .none .none
  | str (x : Str) : PvOf (.str x) (.str x.cps.toList)
theorem flat_rd {X P h v e d} (f : PyProof.V.Flat v e) (p : PvOf e d) : Rd X P h v d := by
  have r := f h
  cases p with
  | none => cases r; exact .none
  | str x => cases r; exact .str x _
section
variable {C : Cx} {k : Nat} {σ : Sto} {K : PV → Sto → Prop}
theorem OfType.dictAt {a D} (T : DictAt C a D) : OfType C σ (.raw (.ref a)) "dict" := fun P s v H r => by
  cases r
  obtain ⟨_, kvs, ⟨o, es, ep, ho, hd, _⟩, _⟩ := T _ H.gi
  exact ⟨⟨o, ho, hd.1⟩, fun b e => by cases e; exact ⟨o, ho, hd.2.1⟩⟩
theorem OpL.dget {a D} {i : Int} {d : PV} (T : DictAt C a D) (p : PvOf ((PySem.Spec.lookup (.int i) D).getD .none) d) (h : K d σ) : OpL C k σ [.raw (.ref a), .int i] (fun vs => PySem.call (.builtin "dict.get") vs) K := fun A P s vs hr H r => by
  obtain ⟨v, w, rfl, r₁, r₂⟩ := r.two
  cases r₁ with | raw =>
  cases r₂ with | int _ t =>
  exact call_get1_intTab (T _ H.gi) fun v f => Out.here H (flat_rd f p) h
theorem Op2.inSet {a S n} {i : Int} (T : SetAt C a S n) (h : K (.bool (S i)) σ) : Op2 C k σ (.int i) (.raw (.ref a)) (compareOp .In) K := fun A P s v w hr H r₁ r₂ => by
  cases r₁ with | int _ t =>
  cases r₂ with | raw =>
  refine wpAny_inSet_of (knd := intKind C.prog C.w) (k := i) ?_ ?_ (T _ H.gi) (Out.here H (.bool _) h)
  · show Value.isInt i (.int i t) = true
    simp [Value.isInt]
  · rfl
end
end Mine
end C20

section C21
open PySem PySem.W PyProof.Rows
set_option Elab.async false
set_option linter.unusedVariables false
set_option maxRecDepth 100000
namespace Mine

/-! ## the text's one class -/
/-- the class, its names -/
noncomputable def ClsOk (C : Cx) (N : Addr) (mN : Str → Option Value) : Prop := ∀ h, C.gi h → ClsAt h C.cls N mN
/-- a value that an attribute hands out as it is -/
noncomputable def handed : PV → Bool
  | .raw (.builtin _) => false
  | .ext _ _ => false
  | _ => true
theorem handed_ok {X P h v d} (r : Rd X P h v d) (hd : handed d = true) : handedOut v = pure v := by
  cases r with
  | raw v => cases v <;> first | rfl | cases hd
  | ext => cases hd
  | _ => rfl
theorem inst_of {C : Cx} {P h a d fs} (r : AoIs C P h a (.inst d fs)) : ∃ mA, h.Inst a C.cls mA ∧ h.Ns1 d mA ∧ FieldsAre C.X P h mA fs := by
  obtain ⟨⟨o, e, hc, hd, hn⟩, hne, mA, ns, hf⟩ := r
  exact ⟨mA, ⟨o, e, hc, hn, .inr ⟨d, hd, hne, ns⟩⟩, ns, hf⟩
theorem Ev.attr {C k sc ρ σ e name pos K} (h : Ev C k sc ρ σ e fun a σ₁ => Op1 C k σ₁ a (fun v => getAttr v name true) K) (he' : ∀ env, eval (.Attribute e name pos) env = (do
      let o ← eval e env
      standAt pos.atName
      let r ← holding [o] (getAttr o name true)
      letTemporaryGo e o r
      pure r)) : Ev C k sc ρ σ (.Attribute e name pos) K := fun A P env s he hr I =>
  Attribute_any_ (ev_one h he hr I fun v d σ₁ s₁ hK hA r => wp_seq hA I.hp (hK A _ s₁ v hr hA.hp r)) (he' env)
section
variable {C : Cx} {k : Nat} {σ : Sto} {K : PV → Sto → Prop} {N : Addr} {mN : Str → Option Value}
theorem Op1.field {a d : Addr} {fs : List (String × PV)} {x : String} {dv : PV} (X : ClsOk C N mN) (hm : (a, AO.inst d fs) ∈ σ) (hx : fs.lookup x = some dv) (hh : handed dv = true) (h : K dv σ)
    (hng : mN "__getattribute__" = none) (hna : mN (Str.ofString x) = none) (hB : typeLookup (.type "object") (Str.ofString x) = pure none) : Op1 C k σ (.raw (.ref a)) (fun v => getAttr v (Str.ofString x) true) K := fun A P s v hr H r => by
  obtain rfl := r.rawE
  obtain ⟨mA, I, ns, hf⟩ := inst_of (H.st _ _ hm)
  obtain ⟨w, hw, rw'⟩ := hf.1 x dv hx
  have X' := X _ H.gi
  obtain ⟨hh', g, dd, t, os⟩ := s
  obtain ⟨nm, q, bs, sn, sub, col, ddd, k0, k1, k2, k3, k5, hC⟩ := X'.obj
  exact load_attr hC X'.ns hng hna hB I hw (handed_ok rw' hh) (Out.here (tk := t + 1) H rw' h)
end
/-- a field's store -/
noncomputable def setF (fs : List (String × PV)) (x : String) (d : PV) : List (String × PV) := (x, d) :: fs
theorem setF_lookup {fs : List (String × PV)} {x : String} {d : PV} (y : String) : (setF fs x d).lookup y = if y = x then some d else fs.lookup y := by
  unfold setF
  by_cases h : y = x
  · subst h; rw [List.lookup_cons_self, if_pos rfl]
  · rw [List.lookup_cons, beq_false_of_ne h, if_neg h]
theorem Upd.other {σ a o n σ'} (u : Upd σ a o n σ') (hn : (Mine.dom σ).Nodup) : ∀ b ao, (b, ao) ∈ σ' → (b = a ∧ ao = n) ∨ ((b, ao) ∈ σ ∧ ∀ c, (c = a ∨ c ∈ o.more) → c ≠ b ∧ c ∉ ao.more) := by
  induction u with
  | here =>
    intro b ao hm
    rename_i a o n r
    rcases List.mem_cons.mp hm with e | hm
    · cases e; exact .inl ⟨rfl, rfl⟩
    · refine .inr ⟨List.mem_cons_of_mem _ hm, fun c hc => ?_⟩
      have h2 : ∀ c, c = b ∨ c ∈ ao.more → c ∈ Mine.dom r := mem_dom hm
      have h1 : c ∉ Mine.dom r := by
        rcases hc with rfl | hc
        · exact fun q => (List.nodup_cons.mp hn).1 (List.mem_append_right _ q)
        · exact fun q => (List.nodup_append.mp (List.nodup_cons.mp hn).2).2.2 _ hc _ q rfl
      exact ⟨fun q => h1 (h2 _ (.inl q)), fun q => h1 (h2 _ (.inr q))⟩
  | there u ih =>
    rename_i p r a o n r'
    intro b ao hm
    have hn' : (Mine.dom r).Nodup := (List.nodup_append.mp (List.nodup_cons.mp hn).2).2.1
    rcases List.mem_cons.mp hm with e | hm
    · subst e
      refine .inr ⟨List.mem_cons_self, fun c hc => ?_⟩
      have ha : c ∈ Mine.dom r := mem_dom u.mem c hc
      refine ⟨fun q => (List.nodup_cons.mp hn).1 (List.mem_append_right _ (q ▸ ha)), fun q => ?_⟩
      exact (List.nodup_append.mp (List.nodup_cons.mp hn).2).2.2 _ q _ ha rfl
    · rcases ih hn' b ao hm with h | h
      · exact .inl h
      · exact .inr ⟨List.mem_cons_of_mem _ h.1, h.2⟩
/-- a store into a field -/
theorem store_field {C : Cx} {k : Nat} {σ σ' : Sto} {N : Addr} {mN : Str → Option Value} {a d : Addr} {fs : List (String × PV)} {x : String} {dv : PV} {A P} {s : Shared} {w : Value} (X : ClsOk C N mN) (u : Upd σ a (.inst d fs) (.inst d (setF fs x dv)) σ') (H : Hp C P σ s.heap) (r : Rd C.X P s.heap w dv)
    (hcls : C.cls < C.base) (hns : mN "__setattr__" = none) (hna : mN (Str.ofString x) = none) (hB : typeLookup (.type "object") (Str.ofString x) = pure none) (hsz : fs.length ≤ sizeLine) {Q : Unit → Shared → Prop}
    (hQ : ∀ s', After C P σ s σ' s' → Q () s') : wpAny (model C.prog C.w) A (setAttr (.ref a) (Str.ofString x) w) Q NoE s := by
  have hd := u.dom rfl
  have hda : a ∈ dom σ := mem_dom u.mem a (.inl rfl)
  have hdd : d ∈ dom σ := mem_dom u.mem d (.inr List.mem_cons_self)
  have Pa := H.pdom a hda
  have Pd := H.pdom d hdd
  have aoi := H.st _ _ u.mem
  obtain ⟨⟨o, e, hc, hdict, hnc⟩, hne, mA, ns, hf⟩ := id aoi
  have I : s.heap.Inst a C.cls mA := ⟨o, e, hc, hnc, .inr ⟨d, hdict, hne, ns⟩⟩
  have X' := X _ H.gi
  obtain ⟨hh', g, dd, t, os⟩ := s
  obtain ⟨nm, q, bs, sn, sub, col, ddd, k0, k1, k2, k3, k5, hC⟩ := X'.obj
  have hxC : a ≠ C.cls := fun q => by
    have e2 := e
    rw [q, hC] at e2
    exact hnc _ (by rw [← Option.some.inj e2])
  have hw : Within mA (fs.map fun p => Str.ofString p.1) := fun y hy => by
    cases hm : mA y with
    | none => exact absurd hm hy
    | some v =>
      obtain ⟨z, dz, rfl, hz⟩ := hf.2 y v hm
      exact List.mem_map.mpr ⟨(z, dz), Mine.mem_of_lookup hz, rfl⟩
  refine with_size (store_attr PySem.F.store_object hC X'.ns hns hna hB hxC I (fun h' tk' I' hk hsame hz => hQ _ ?_) hw (by simpa using hsz))
  have kk : ∀ b o, b ≠ a → b ≠ d → hh'.get? b = some o → h'.get? b = some o := fun b o h1 h2 e' => hk b o h1 (fun o₀ d' e₀ ed => by
    obtain rfl := Option.some.inj (e.symm.trans e₀); obtain rfl := Option.some.inj (hdict.symm.trans ed); exact h2) e'
  obtain ⟨o₁, e₁, c₁, dt₁, _, dk₁⟩ := hsame o e
  have gp : Pass P hh' P h' := fun b o' na e' => ⟨kk b o' (fun q => na (q ▸ Pa.1)) (fun q => na (q ▸ Pd.1)) e', na⟩
  have hpp : ∀ b, PP P σ' b → P b := fun b q => q.elim (fun q => q) fun q => (H.pdom b (hd ▸ q)).1
  refine ⟨⟨fun b o' h1 _ _ e' => kk b o' (fun q => h1 (q ▸ hda)) (fun q => h1 (q ▸ hdd)) e', hz, fun b hb => .inl (hd ▸ hb), rfl, rfl⟩, ?_⟩
  refine ⟨C.keep H.gi (fun b o' hb e' => kk b o' (fun q => Pa.2.elim (fun z => Nat.not_lt.mpr z (q ▸ hb.1)) (fun z => hb.2 (q.symm ▸ z))) (fun q => Pd.2.elim (fun z => Nat.not_lt.mpr z (q ▸ hb.1)) (fun z => hb.2 (q.symm ▸ z))) e') hz, fun b ao hm => ?_, fun b hb => .inl (H.ptb b hb), fun b hb => ⟨.inr hb, (H.pdom b (hd ▸ hb)).2⟩, hd ▸ H.nodup, fun b q => Nat.lt_of_lt_of_le (H.plt b (hpp b q)) hz⟩
  rcases u.other H.nodup b ao hm with ⟨rfl, rfl⟩ | ⟨hm', hap⟩
  · obtain ⟨o', e', _, _, hd'⟩ := I'
    obtain rfl := Option.some.inj (e₁.symm.trans e')
    rcases hd' with ⟨hn0, _⟩ | ⟨d', hd', _, hns'⟩
    · rw [dk₁ d hdict] at hn0; cases hn0
    · obtain rfl := Option.some.inj ((dk₁ d hdict).symm.trans hd')
      have gp' : Pass P hh' (PP P σ') h' := gp.trans (Pass.less hpp)
      refine ⟨⟨o₁, e₁, c₁.trans hc, dk₁ _ hdict, fun c => dt₁ ▸ hnc c⟩, hne, _, hns', fun y dy hy => ?_, fun y v hy => ?_⟩
      · rw [setF_lookup] at hy
        by_cases hyx : y = x
        · subst hyx
          rw [if_pos rfl] at hy; cases hy
          exact ⟨w, if_pos rfl, r.pass' gp'⟩
        · rw [if_neg hyx] at hy
          obtain ⟨v, hv, rv⟩ := hf.1 y dy hy
          exact ⟨v, (if_neg fun q => hyx (ofString_inj q)).trans hv, rv.pass' gp'⟩
      · by_cases hyx : y = Str.ofString x
        · exact ⟨x, dv, hyx, by rw [setF_lookup, if_pos rfl]⟩
        · obtain ⟨z, dz, rfl, hz'⟩ := hf.2 y v ((if_neg hyx).symm.trans hy)
          exact ⟨z, dz, rfl, by rw [setF_lookup, if_neg fun q => hyx (by rw [q])]; exact hz'⟩
  · refine (H.st b ao hm').pass (gp.trans (Pass.less hpp)) fun c hc' o' e' => kk c o' (fun q => ?_) (fun q => ?_) e'
    · have := hap a (.inl rfl)
      rcases hc' with z | z
      · exact this.1 (q ▸ z)
      · exact this.2 (q ▸ z)
    · have := hap d (.inr List.mem_cons_self)
      rcases hc' with z | z
      · exact this.1 (q ▸ z)
      · exact this.2 (q ▸ z)
theorem Ex1.setAttr {C k sc ρ σ e o x p pos K N mN} (X : ClsOk C N mN) (h : Ev C k sc ρ σ e fun dv σ₁ => Ev C k sc ρ σ₁ o fun a σ₂ => ∃ b d fs σ₃, a = .raw (.ref b) ∧ Upd σ₂ b (.inst d fs) (.inst d (setF fs x dv)) σ₃ ∧ fs.length ≤ sizeLine ∧ K .next ρ σ₃)
    (hcls : C.cls < C.base) (hns : mN "__setattr__" = none) (hna : mN (Str.ofString x) = none) (hB : typeLookup (.type "object") (Str.ofString x) = pure none)
    (hs : ∀ env, swapsWith e (some (Expr.Attribute o (Str.ofString x) p)) pos.line env = pure false) (hw : ∀ env, swappedStores [Expr.Attribute o (Str.ofString x) p] e env = pure none) : Ex1 C k sc ρ σ (.Assign [Expr.Attribute o (Str.ofString x) p] e pos) K := fun A P env s he hr I => by
  refine wpAny_Assign_stores (ev_one h he hr I fun v d₁ σ₁ s₁ hK A₁ r₁ => ?_) (hs env) (hw env)
  show wpAny _ _ (PySem.assign (Expr.Attribute o (Str.ofString x) p) env v) _ _ _
  rw [arm_assign_Attribute]
  refine wpAny_bind (wpAny_holding (ev_one hK he hr (I.after A₁) fun v₂ d₂ σ₂ s₂ hK₂ A₂ r₂ => ?_))
  obtain ⟨b, d, fs, σ₃, rfl, u, hsz, hK₃⟩ := hK₂
  have A12 := A₁.trans I.hp A₂
  obtain rfl := r₂.rawE
  refine wpAny_bind (wpAny_standAt (wpAny_bind (wpAny_holding (store_field (k := k) X u A12.hp (((r₁.pass' (A₂.pass A₁.hp)).down C.extOk)) hcls hns hna hB hsz fun s' A₃ => ?_))))
  exact wpAny_release ⟨_, _, _, hK₃, .of I (A12.trans I.hp A₃), .next⟩
end Mine
end C21

section C22
open PySem PySem.W PyProof.Rows
set_option Elab.async false
set_option linter.unusedVariables false
set_option maxRecDepth 100000
namespace Mine

/-! ## an instance is made -/
section
variable {prog : Program} {w : World} {A : Around} {E : Value → Shared → Prop} {h : Heap} {g : Array GenState} {d : Drawn} {t : Nat} {os : OsState}
variable {nm q : Str} {C N : Addr} {bs : List Value} {sn : List Str} {sub : List Value} {col : Option Bool} {dd : Option Addr} {k0 k1 k2 k3 k5 : Option Value} {newId : String}
noncomputable abbrev made (h : Heap) (C : Addr) : Heap := (h.push { cls := .type "dict", data := .dict #[] }).push { cls := .ref C, dict := some h.objs.size, data := .plain }
theorem type_call_made (F : ObjNewFacts newId) {mN : Str → Option Value} {rest : List Value} {fI : Addr} {oI : Obj} {Q : Fin → Shared → Prop}
    (hC : h.get? C = some (excClassObj nm q C N bs [.type "object"] true sn sub false col dd k0 k1 k2 k3 k5 newId)) (hn : h.Ns N mN) (hi : mN "__init__" = some (.ref fI))
    (hfI : h.get? fI = some oI) (hfc : oI.cls = .type "function")
    (hq : wpAny (model prog w) A (call (.ref fI) (.ref (h.objs.size + 1) :: rest)) (fun r s' => r = .none ∧ Q (.done (.ret (.ref (h.objs.size + 1)))) s') E ⟨made h C, g, d, t, os⟩) :
    wpAny (model prog w) A (Builtin.«type.__call__» ⟨.ref C :: rest, []⟩) Q E ⟨h, g, d, t, os⟩ := by
  have hmro : mroOf (.type "object") = pure [.type "object"] := by kernel_rfl
  have hlk : typeLookup (.type "object") "__init__" = pure (some (.builtin "object.__init__")) := by rw [typeLookup_type, builtinLookup_eq_fast]; kernel_rfl
  repeat (first | with_reducible refine wpAny_loadPart_at hC ?_ | with_reducible refine wpAny_madeBy_exc hC ?_ | wp_step)
  refine codeAny_call_builtin_code (Code.quiet_builtin _ F.quiet) (wpAny_check_obj_new F hC ?_)
  refine codeAny_obj_new F hC hn hi ?_
  show wpAny _ _ _ _ _ _
  have hC₁ := Heap.get?_push_of_some { cls := .ref C, dict := some h.objs.size, data := .plain } (Heap.get?_push_of_some { cls := .type "dict", data := .dict #[] } hC)
  have hfI₁ := Heap.get?_push_of_some { cls := .ref C, dict := some h.objs.size, data := .plain } (Heap.get?_push_of_some { cls := .type "dict", data := .dict #[] } hfI)
  have hn₁ : (made h C).Ns N mN := let ⟨o, es, ep, e, r⟩ := hn; ⟨o, es, ep, Heap.get?_push_of_some _ (Heap.get?_push_of_some _ e), r⟩
  have hget : (made h C).get? (h.objs.size + 1) = some { cls := .ref C, dict := some h.objs.size, data := .plain } := by heap_get
  have hcC : (Value.ref C :: [Value.type "object"]).contains (.ref C) = true := by simp
  unfold isInstance
  repeat (first | with_reducible refine wpAny_loadPart_at hget ?_ | (with_reducible refine wpAny_isSubtype_exc hC₁ ?_; rw [hcC]) | wp_step)
  show wpAny _ _ (typeLookup (.ref C) _) _ _ _
  refine wpAny_typeLookup_exc hC₁ hn₁ hmro hlk ?_
  rw [hi]
  refine wpAny_holding (wpAny_bind ?_)
  unfold bindSpecial
  refine wpAny_bind (wpAny_typeOf (T := "function") ⟨_, hfI₁, hfc⟩ ?_)
  rw [if_pos (by decide)]
  refine wpAny_pure (wpAny_bind (wpAny_mono hq (fun r s' hr => ?_) fun _ _ x => x))
  obtain ⟨rfl, hQ⟩ := hr
  wp_walk
  exact hQ
theorem call_made (F : ObjNewFacts newId) {mN : Str → Option Value} {rest : List Value} {fI : Addr} {oI : Obj} {Q : Value → Shared → Prop}
    (hC : h.get? C = some (excClassObj nm q C N bs [.type "object"] true sn sub false col dd k0 k1 k2 k3 k5 newId)) (hn : h.Ns N mN) (hi : mN "__init__" = some (.ref fI))
    (hfI : h.get? fI = some oI) (hfc : oI.cls = .type "function")
    (hq : wpAny (model prog w) (A.under (.builtin "type.__call__" ⟨.ref C :: rest, []⟩)) (call (.ref fI) (.ref (h.objs.size + 1) :: rest)) (fun r s' => r = .none ∧ Q (.ref (h.objs.size + 1)) s') E ⟨made h C, g, d, t, os⟩) :
    wpAny (model prog w) A (call (.ref C) rest) Q E ⟨h, g, d, t, os⟩ := by
  have f1 := tc_lookup
  have f2 := tc_bind (.ref C)
  have hT : (⟨h, g, d, t, os⟩ : Shared).TypeIs (.ref C) "type" := ⟨_, hC, rfl⟩
  refine wpAny_call (codeAny_of_tree ?_)
  show wpAny _ _ (callAny (.ref C) _) _ _ _
  repeat (any_goals (first | assumption | with_reducible refine wpAny_loadPart_at hC ?_ | wp_step))
  refine ⟨rfl, ?_⟩
  exact codeAny_call_builtin_at (Code.quiet_builtin _ (by decide +kernel)) entry_typeCall (wpAny_check_type_call_sub hC (type_call_made F hC hn hi hfI hfc hq))
end
theorem ClsOk.callable {C N mN} (X : ClsOk C N mN) : Callable C (.ref C.cls) := fun h g => ⟨.machine, .inr (.inl rfl), fun M A Q E s kp hq => by
  obtain ⟨hh, g', d, t, os⟩ := s
  obtain ⟨nm, q, bs, sn, sub, col, dd, k0, k1, k2, k3, k5, hC⟩ := ((X h g).keeps kp).obj
  have f1 := tc_lookup
  have hT : (⟨hh, g', d, t, os⟩ : Shared).TypeIs (.ref C.cls) "type" := ⟨_, hC, rfl⟩
  unfold keeperOf specialOf
  repeat (any_goals (first | assumption | with_reducible refine wpAny_loadPart_at hC ?_ | with_reducible refine wpAny_load' hC ?_ | wp_step))
  all_goals first | exact hq | (rw [if_pos (by rfl)]; exact hq)⟩
theorem OpL.make {C : Cx} {k : Nat} {σ : Sto} {K : PV → Sto → Prop} {N : Addr} {mN : Str → Option Value} {fI : Addr} (X : ClsOk C N mN) (hi : mN "__init__" = some (.ref fI)) (hf : ∀ h, C.gi h → ∃ o, h.get? fI = some o ∧ o.cls = .type "function")
    (h : ∀ a d, a ∉ dom σ → d ∉ dom σ → a ≠ d → OpL C k ((a, .inst d []) :: σ) [.raw (.ref a)] (fun vs => PySem.call (.ref fI) vs) fun r σ' => r = .none ∧ K (.raw (.ref a)) σ') :
    OpL C (k + 1) σ [] (fun vs => PySem.call (.ref C.cls) vs) K := fun A P s vs hr H r => by
  cases r
  obtain ⟨hh, g, d, t, os⟩ := s
  have X' := X _ H.gi
  obtain ⟨nm, q, bs, sn, sub, col, dd, k0, k1, k2, k3, k5, hC⟩ := X'.obj
  obtain ⟨oI, hfI, hfc⟩ := hf _ H.gi
  refine call_made PySem.F.objNew hC X'.ns hi hfI hfc ?_
  have hkeep : ∀ b o, hh.get? b = some o → (made hh C.cls).get? b = some o := fun b o e => Heap.get?_push_of_some _ (Heap.get?_push_of_some _ e)
  have hsz2 : (made hh C.cls).objs.size = hh.objs.size + 2 := by rw [Heap.size_push, Heap.size_push]
  have hget : (made hh C.cls).get? (hh.objs.size + 1) = some { cls := .ref C.cls, dict := some hh.objs.size, data := .plain } := by heap_get
  have hgd : (made hh C.cls).get? hh.objs.size = some { cls := .type "dict", data := .dict #[] } := Heap.get?_push_of_some _ (Heap.get?_push_at rfl rfl)
  have hns : (made hh C.cls).Ns1 hh.objs.size fun _ => none := Heap.Ns1.of_empty ⟨_, #[], _, hgd, rfl, fun e he => absurd he (by simp), fun _ => rfl⟩
  have hlo : C.base ≤ hh.objs.size := C.low H.gi
  have hP0 : ∀ i, hh.objs.size ≤ i → ¬ P i ∧ i ∉ dom σ := fun i hi => ⟨fun q => Nat.not_lt.mpr hi (H.plt i q), fun q => Nat.not_lt.mpr hi (H.lt i q)⟩
  let P' : Addr → Prop := fun b => P b ∨ b = hh.objs.size ∨ b = hh.objs.size + 1
  have gp : Pass P hh P' (made hh C.cls) := fun b o na e => ⟨hkeep b o e, fun q => q.elim na fun q => by
    have := Heap.lt_size e
    rcases q with q | q <;> (unfold Addr at *; lia)⟩
  have H' : Hp C P' ((hh.objs.size + 1, .inst hh.objs.size []) :: σ) (made hh C.cls) := by
    refine ⟨C.keep H.gi (fun b o _ e => hkeep b o e) (by rw [hsz2]; exact Nat.le_add_right _ _), fun b ao hm => ?_, fun b hb => .inl (H.ptb b hb), fun b hb => ?_, ?_, fun b q => ?_⟩
    · rcases List.mem_cons.mp hm with e | hm
      · cases e
        exact ⟨⟨_, hget, rfl, rfl, fun c => by simp⟩, Nat.ne_of_lt (Nat.lt_succ_self _), _, hns, And.intro (fun y e' (hy : ([] : List (String × PV)).lookup y = some e') => by cases hy) (fun y v (hy : (none : Option Value) = some v) => by cases hy)⟩
      · exact (H.st b ao hm).pass gp fun c _ o e => hkeep c o e
    · rcases List.mem_cons.mp hb with rfl | hb
      · exact ⟨.inr (.inr rfl), .inl (Nat.le_succ_of_le hlo)⟩
      · rcases List.mem_cons.mp hb with rfl | hb
        · exact ⟨.inr (.inl rfl), .inl hlo⟩
        · exact ⟨.inl (H.pdom b hb).1, (H.pdom b hb).2⟩
    · show ((hh.objs.size + 1) :: (hh.objs.size :: dom σ)).Nodup
      refine List.nodup_cons.mpr ⟨fun q => ?_, List.nodup_cons.mpr ⟨(hP0 _ (Nat.le_refl _)).2, H.nodup⟩⟩
      rcases List.mem_cons.mp q with q | q
      · exact absurd q (Nat.ne_of_gt (Nat.lt_succ_self _))
      · exact (hP0 _ (Nat.le_succ _)).2 q
    · rw [hsz2]
      rcases q with q | q | q
      · exact Nat.lt_of_lt_of_le (H.plt b q) (Nat.le_add_right _ _)
      · subst q; exact Nat.lt_add_of_pos_right (by decide)
      · subst q; exact Nat.lt_succ_self _
  have hc : (Code.builtin "type.__call__" ⟨[.ref C.cls], []⟩).cUnits ≤ 50 := Nat.le_of_ble_eq_true rfl
  have hr' : Room (A.under (.builtin "type.__call__" ⟨.ref C.cls :: [], []⟩)) k := by
    refine ⟨?_, ?_, hr.handled⟩
    · have := hr.depth
      show A.depth + 1 + k ≤ 900
      lia
    · have := hr.units
      show A.units + (Code.builtin "type.__call__" ⟨[.ref C.cls], []⟩).cUnits + 100 * k ≤ 9000
      lia
  refine wpAny_mono (h _ _ (hP0 _ (Nat.le_succ _)).2 (hP0 _ (Nat.le_refl _)).2 (Nat.ne_of_gt (Nat.lt_succ_self _)) _ P' ⟨made hh C.cls, g, d, t, os⟩ [.ref (hh.objs.size + 1)] hr' H' (.cons (.raw _) .nil)) (fun v s' o => ?_) fun _ _ x => x
  obtain ⟨dv, σ', ⟨rfl, hK⟩, A', rv⟩ := o
  cases rv
  refine ⟨rfl, _, σ', hK, ⟨⟨fun b o h1 h2 h3 e => A'.step.kept b o (fun q => ?_) h2 h3 (hkeep b o e), Nat.le_trans (by show hh.objs.size ≤ (made hh C.cls).objs.size; rw [hsz2]; exact Nat.le_add_right _ _) A'.step.size, fun b hb => ?_, A'.step.gens, A'.step.os⟩, ?_⟩, .raw _⟩
  · have := Heap.lt_size e
    rcases List.mem_cons.mp q with q | q
    · subst q; exact Nat.not_lt.mpr (Nat.le_succ _) this
    · rcases List.mem_cons.mp q with q | q
      · subst q; exact Nat.lt_irrefl _ this
      · exact h1 q
  · rcases A'.step.new b hb with q | q
    · rcases List.mem_cons.mp q with q | q
      · subst q; exact .inr (Nat.le_succ _)
      · rcases List.mem_cons.mp q with q | q
        · subst q; exact .inr (Nat.le_refl _)
        · exact .inl q
    · exact .inr (Nat.le_trans (by show hh.objs.size ≤ (made hh C.cls).objs.size; rw [hsz2]; exact Nat.le_add_right _ _) q)
  · exact A'.hp.weak (fun b q => q.elim (fun q => .inl (.inl q)) .inr) (fun b hb => .inl (H.ptb b hb)) (fun b hb => .inr hb)
end Mine
end C22

section C23
open PySem PySem.W PyProof.Rows
set_option Elab.async false
set_option linter.unusedVariables false
set_option maxRecDepth 100000
namespace Mine

/-- a method of an instance -/
theorem Ev.methodI {C k sc ρ σ o x apos pos es K N mN f} (X : ClsOk C N mN) (hfn : ∀ h, C.gi h → ∃ ob fd, h.get? f = some ob ∧ ob.cls = .type "function" ∧ ob.data = .func fd)
    (h : Ev C k sc ρ σ o fun a σ₁ => ∃ b d fs, a = .raw (.ref b) ∧ (b, AO.inst d fs) ∈ σ₁ ∧ fs.lookup x = Option.none ∧ EvL C k sc ρ σ₁ es fun ds σ₂ => OpL C k σ₂ (a :: ds) (fun vs => PySem.call (.ref f) vs) K)
    (hf : mN (Str.ofString x) = some (.ref f)) (hng : mN "__getattribute__" = Option.none) (hnh : mN "__getattr__" = Option.none) (hB : ∃ y, typeLookup (.type "object") (Str.ofString x) = pure y)
    (hp : es.all plainE = true) (hfew : es.length < 30) (hline : (apos.endLine == pos.line) = true) (hbase : ∀ env, attributeBase o (Str.ofString x) env (eval o env) = eval o env) :
    Ev C k sc ρ σ (.Call (.Attribute o (Str.ofString x) apos) es [] pos) K := fun A P env s he hr I => by
  rw [arm_eval_Call, hbase env]
  refine wpAny_bind (ev_one h he hr I fun v d₁ σ₁ s₁ hK hA r => ?_)
  obtain ⟨b, d, fs, rfl, hm, hlk, hK⟩ := hK
  obtain rfl := r.rawE
  refine wpAny_bind (wpAny_standAt ?_)
  have hform : methodCallForm (es.length + ([] : List Keyword).length) (backTo pos (starEach es env)) (backToKw pos (keywordEach [] env)) = true := by
    unfold methodCallForm
    rw [plain_trees' hp]
    simpa [keywordEach, backToKw] using hfew
  have hpos : methodCallPos true o env apos pos = pure pos := by unfold methodCallPos; simp [hline]
  unfold methodCall
  rw [hform]
  obtain ⟨mA, Ii, ns, hf'⟩ := inst_of (hA.hp.st _ _ hm)
  have hsh : mA (Str.ofString x) = Option.none := by
    cases hq : mA (Str.ofString x) with
    | none => rfl
    | some v =>
      obtain ⟨z, dz, e, hz⟩ := hf'.2 _ _ hq
      rw [← ofString_inj e, hlk] at hz; cases hz
  obtain ⟨ob, fd, hfo, hfc, hfd⟩ := hfn _ hA.hp.gi
  have hcal : Callable C (.ref f) := fun h g => by
    obtain ⟨o, fd, ho, _, hd⟩ := hfn h g
    refine ⟨.frame, .inl rfl, fun M => (Looks.ld (part := Option.none) ho).andThen ?_⟩
    rw [hd]; exact Looks.now
  have X' := X _ hA.hp.gi
  obtain ⟨y, hB⟩ := hB
  have fin := wp_seq hA I.hp (callWith_L (pos := pos) he hr (I.after hA) hcal (.cons (.raw (.ref b)) .nil) hK hp)
  obtain ⟨hh', g, dd, t, os⟩ := s₁
  obtain ⟨nm, q, bs, sn, sub, col, ddd, k0, k1, k2, k3, k5, hC⟩ := X'.obj
  exact wpAny_bind (wpAny_holding (PySem.method_of hC X'.ns hng hnh hf hfo hfc hB Ii hsh (wpAny_bind (wpAny_of_eq hpos fin))))
end Mine
end C23

section C24
open PySem PySem.W PyProof.Rows
set_option Elab.async false
set_option linter.unusedVariables false
set_option maxRecDepth 100000
namespace Mine

/-- a < b <= c -/
theorem Tr.chain2 {C k sc ρ σ l o₁ o₂ r₁ r₂ pos K}
    (h : Ev C k sc ρ σ l fun a σ₁ => Ev C k sc ρ σ₁ r₁ fun b σ₂ => Op2 C k σ₂ a b (compareOp o₁) fun c σ₃ => OpB C k σ₃ c truthy fun t σ₄ =>
      if t then Ev C k sc ρ σ₄ r₂ fun d σ₅ => Op2 C k σ₅ b d (compareOp o₂) fun e σ₆ => OpB C k σ₆ e truthy K else K false σ₄)
    (hm : lastMarks [o₁, o₂] [r₁, r₂] = false) : Tr C k sc ρ σ (.Compare l [o₁, o₂] [r₁, r₂] pos) K := fun A P env s he hr I => by
  refine isTrue_chain (ev_one h he hr I fun v₁ d₁ σ₁ s₁ hK A₁ q₁ => ?_) hm
  have I₁ := I.after A₁
  unfold testChain
  refine wpAny_bind (wpAny_holding (ev_one hK he hr I₁ fun v₂ d₂ σ₂ s₂ hK₂ A₂ q₂ => ?_))
  have A12 := A₁.trans I.hp A₂
  have q₁' := (q₁.pass' (A₂.pass A₁.hp)).down C.extOk
  have q₂' := q₂.down C.extOk
  refine wpAny_bind (wpAny_standAt (wpAny_bind (wpAny_holding (wpAny_mono (hK₂ A _ s₂ v₁ v₂ hr A12.hp q₁' q₂') (fun c s₃ o => ?_) fun _ _ x => x))))
  obtain ⟨d₃, σ₃, hK₃, A₃, q₃⟩ := o
  have A123 := A12.trans I.hp A₃
  refine wpAny_bind (wpAny_release ?_)
  refine wpAny_bind (wpAny_holding (wpAny_mono (hK₃ A _ s₃ c hr A₃.hp q₃) (fun t s₄ o => ?_) fun _ _ x => x))
  obtain ⟨σ₄, hK₄, A₄⟩ := o
  have A34 := A₃.trans A12.hp A₄
  have A14 := A12.trans I.hp A34
  cases t with
  | false => exact wpAny_pure ⟨σ₄, hK₄, A14⟩
  | true =>
    have I₄ := I.after A14
    have q₂'' := (q₂'.pass' (A34.pass A12.hp)).down C.extOk
    have hK₄' : Ev C k sc ρ σ₄ r₂ fun d σ₅ => Op2 C k σ₅ d₂ d (compareOp o₂) fun e σ₆ => OpB C k σ₆ e truthy K := hK₄
    show wpAny _ A (testChain pos v₂ [o₂] [eval r₂ env]) _ _ _
    unfold testChain
    refine wpAny_bind (wpAny_holding (ev_one hK₄' he hr I₄ fun v₅ d₅ σ₅ s₅ hK₅ A₅ q₅ => ?_))
    have A15 := A14.trans I.hp A₅
    have q2 := (q₂''.pass' (A₅.pass A14.hp)).down C.extOk
    refine wpAny_bind (wpAny_standAt (wpAny_bind (wpAny_operating (wpAny_mono (hK₅ A _ s₅ v₂ v₅ hr A15.hp q2 (q₅.down C.extOk)) (fun e s₆ o => ?_) fun _ _ x => x))))
    obtain ⟨d₆, σ₆, hK₆, A₆, q₆⟩ := o
    have A16 := A15.trans I.hp A₆
    exact wpAny_holding (wp_seqB A16 I.hp (hK₆ A _ s₆ e hr A16.hp (q₆.down C.extOk)))

theorem RdL.reverse {X : Ext} {P h} : ∀ {vs : List Value} {ds : List PV}, RdL X P h vs ds → RdL X P h vs.reverse ds.reverse
  | _, _, .nil => .nil
  | _, _, .cons r rs => by rw [List.reverse_cons, List.reverse_cons]; exact rs.reverse.append (.cons r .nil)
theorem Inv.sub {C P env ρ ρ' σ h} (I : Inv C P env ρ σ h) (e : ∀ x d, ρ'.lookup x = some d → ρ.lookup x = some d) : Inv C P env ρ' σ h := ⟨I.hp, I.envOk, fun x d hx => I.vars x d (e x d hx), I.pown⟩
theorem zip_rev {α β : Type} : ∀ {a : List α} {b : List β}, a.length = b.length → (a.reverse.zip b.reverse).reverse = a.zip b
  | [], [], _ => rfl
  | x :: a, y :: b, h => by
    have h' : a.length = b.length := by simpa using h
    rw [List.reverse_cons, List.reverse_cons, List.zip_append (by simpa using h'), List.reverse_append, zip_rev h']
    rfl
/-- two or three names at once, from a written tuple: the last one first -/
theorem Ex1.swap {C k sc ρ σ ts x1 p vs x2 p2 pos K} {names : List String} (h : Ev C k sc ρ σ (.Tuple vs x2 p2) fun d σ₁ => ∃ ds, d = .tuple ds ∧ ds.length = names.length ∧ K .next ((names.zip ds) ++ ρ) σ₁)
    (hn : ∀ n ∈ names, sc.names.lookup (Str.ofString n) = some .local) (hs : ∀ env, env.scope = sc → swapsWith (.Tuple vs x2 p2) (some (.Tuple ts x1 p)) pos.line env = pure false)
    (hw : ∀ env, env.scope = sc → swappedStores [.Tuple ts x1 p] (.Tuple vs x2 p2) env = pure (some (names.map Str.ofString))) (hl : names.length = ts.length) : Ex1 C k sc ρ σ (.Assign [.Tuple ts x1 p] (.Tuple vs x2 p2) pos) K := fun A P env s he hr I => by
  rw [arm_exec_Assign]
  refine wpAny_bind (wpAny_standAt (wpAny_bind (wpAny_of_eq (show swapsWithSole [.Tuple ts x1 p] (.Tuple vs x2 p2) pos.line env = pure false from hs env he) ?_)))
  simp only [Bool.false_eq_true, if_false]
  refine wpAny_bind (ev_one h he hr I fun v d σ₁ s₁ hK hA r => ?_)
  obtain ⟨ds, rfl, hdl, hK⟩ := hK
  refine wpAny_bind (wpAny_of_eq (hw env he) ?_)
  have hF := AfterF.of I hA
  unfold assignStores
  refine wpAny_bind (wpAny_rule ?_)
  rw [List.length_map, ← hdl]
  refine wpAny_bind (unpack_it Iterable.tuple Unpackable.tuple hr hA.hp r fun ws h' tk hz hk rl => ?_)
  have I₂ := hF.inv.grown hk hz
  have S₂ : Step C σ σ₁ (own env) s { s₁ with heap := h', toks := tk } := hF.step.trans ⟨fun b o _ _ _ e => hk b o e, hz, fun _ q => .inl q, rfl, rfl⟩
  -- the stores, from behind
  have run : ∀ (ns : List String) (es : List PV) (us : List Value) (ρ₀ : Lo) (s₀ : Shared), (∀ n ∈ ns, sc.names.lookup (Str.ofString n) = some .local) → ns.length = es.length → Step C σ σ₁ (own env) s s₀ → Inv C (PP P σ₁) env ρ₀ σ₁ s₀.heap → RdL C.X (PP P σ₁) s₀.heap us es →
      wpAny (model C.prog C.w) A (assignInOrder (ns.map fun n => bindName env (Str.ofString n)) us) (fun _ s' => ∃ ρ', (∀ y dy, (((ns.zip es).reverse) ++ ρ₀).lookup y = some dy → ρ'.lookup y = some dy) ∧ Step C σ σ₁ (own env) s s' ∧ Inv C (PP P σ₁) env ρ' σ₁ s'.heap) NoE s₀ := by
    intro ns
    induction ns with
    | nil => intro es us ρ₀ s₀ _ hl S V rr; exact wpAny_pure ⟨ρ₀, fun y dy hy => by simpa using hy, S, V⟩
    | cons n ns ih =>
      intro es us ρ₀ s₀ hloc hl S V rr
      cases rr with
      | nil => simp at hl
      | cons r₁ rs =>
      rename_i u us e es
      refine wpAny_assignInOrder_more (wpAny_bindName (inv_storeL he (hloc n List.mem_cons_self) V r₁ fun s' S' V' => ?_))
      have S1 : Step C σ₁ σ₁ (own env) s₀ s' := S'.weak fun a q => .inl q
      have g := pass_step S1 (fun a q => (V.pown a q).1) V.hp
      have gg : Pass (PP P σ₁) s₀.heap (PP P σ₁) s'.heap := g.trans (Pass.less fun a q => .inl q)
      refine wpAny_mono (ih es us _ s' (fun m hm => hloc m (List.mem_cons_of_mem _ hm)) (by simpa using hl) (S.trans S1) V' (rs.pass' gg)) (fun _ s'' o => ?_) fun _ _ x => x
      obtain ⟨ρ', h1, h2, h3⟩ := o
      refine ⟨ρ', fun y dy hy => h1 y dy ?_, h2, h3⟩
      simpa [List.zip_cons_cons, List.reverse_cons, List.append_assoc] using hy
  have go := run names.reverse ds.reverse ws.reverse ρ _ (fun n hm => hn n (List.mem_reverse.mp hm)) (by simpa using hdl.symm) S₂ I₂ rl.reverse
  have eq1 : ((names.map Str.ofString).reverse.map fun n => bindName env n) = names.reverse.map fun n => bindName env (Str.ofString n) := by
    rw [← List.map_reverse, List.map_map]; rfl
  rw [eq1]
  refine wpAny_bind (wpAny_mono go (fun _ s' o => ?_) fun _ _ x => x)
  obtain ⟨ρ', h1, h2, h3⟩ := o
  rw [zip_rev hdl.symm] at h1
  exact wpAny_pure ⟨.next, _, σ₁, hK, ⟨h2, h3.sub h1⟩, .next⟩
end Mine
end C24

section C25
open PySem PySem.W PyProof.Rows
set_option Elab.async false
set_option linter.unusedVariables false
set_option maxRecDepth 100000
namespace Mine

noncomputable abbrev LSub (ρ ρ' : Lo) : Prop := ∀ y d, ρ'.lookup y = some d → ρ.lookup y = some d
theorem Ev.lsub {C k sc ρ ρ' σ e K} (h : LSub ρ ρ') (q : Ev C k sc ρ' σ e K) : Ev C k sc ρ σ e K := fun A P env s h1 h2 h3 => q A P env s h1 h2 (h3.sub h)
theorem Tr.sub {C k sc ρ ρ' σ e K} (h : LSub ρ ρ') (q : Tr C k sc ρ' σ e K) : Tr C k sc ρ σ e K := fun A P env s h1 h2 h3 => q A P env s h1 h2 (h3.sub h)
theorem TrAll.sub {C k sc ρ ρ' op} (h : LSub ρ ρ') : ∀ {es σ K}, TrAll C k sc ρ' op σ es K → TrAll C k sc ρ op σ es K
  | [], _, _, q => q
  | e :: r, _, _, q => Tr.sub h (Tr.mono q fun b σ₁ z => by
      by_cases hb : b = (op == .And)
      · rw [if_pos hb] at z ⊢; exact TrAll.sub h z
      · rw [if_neg hb] at z ⊢; exact z)
theorem LSub.cons {ρ ρc : Lo} {t : String} {x : PV} (h : LSub ρ ρc) (ht : ρc.lookup t = none) : LSub ((t, x) :: ρ) ((t, x) :: ρc) := fun y d hy => by
  by_cases e : y = t
  · subst e; rw [List.lookup_cons_self] at hy ⊢; exact hy
  · rw [List.lookup_cons, beq_false_of_ne e] at hy ⊢; exact h y d hy
theorem LSub.skip {ρ ρc : Lo} {t : String} {x : PV} (h : LSub ρ ρc) (ht : ρc.lookup t = none) : LSub ((t, x) :: ρ) ρc := fun y d hy => by
  by_cases e : y = t
  · subst e; rw [ht] at hy; cases hy
  · rw [List.lookup_cons, beq_false_of_ne e]; exact h y d hy
/-- one clause, a name, nothing stored: filter and map -/
theorem Comp.pure1 {C k sc ρc elt t p iter ifs scope xs σ} {K : List PV → Sto → Prop} (keep : PV → Bool) (f : PV → PV) (hx : (rel scope sc).names.lookup (Str.ofString t) = some .local) (ht0 : ρc.lookup t = none)
    (ht : ∀ x ∈ xs, ∀ K' : Bool → Sto → Prop, K' (keep x) σ → TrAll C k (rel scope sc) ((t, x) :: ρc) .And σ ifs K')
    (he : ∀ x ∈ xs, keep x = true → ∀ K' : PV → Sto → Prop, K' (f x) σ → Ev C k (rel scope sc) ((t, x) :: ρc) σ elt K')
    (hl : xs.length ≤ sizeLine) (h : K ((xs.filter keep).map f) σ) : Comp C k sc ρc elt ⟨.Name (Str.ofString t) p, iter, ifs, 0⟩ [] scope xs σ K := by
  refine ⟨fun rest acc ρ σ' => σ' = σ ∧ LSub ρ ρc ∧ ∃ done, done ++ rest = xs ∧ acc = (done.filter keep).map f, ⟨rfl, fun _ _ h => h, [], rfl, rfl⟩, ?_, ?_⟩
  · rintro x r acc ρ σ' ⟨rfl, hs, done, hd, rfl⟩
    have hm : x ∈ xs := hd ▸ List.mem_append_right _ List.mem_cons_self
    refine Bind.nameL hx (TrAll.sub (hs.cons ht0) (ht x hm _ ?_))
    cases hk : keep x with
    | false =>
      refine ⟨rfl, hs.skip ht0, done ++ [x], by simpa using hd, ?_⟩
      simp [List.filter_append, hk]
    | true =>
      refine Ev.lsub (hs.cons ht0) (he x hm hk _ ?_)
      refine ⟨?_, rfl, hs.skip ht0, done ++ [x], by simpa using hd, ?_⟩
      · have h1 : ((done.filter keep).map f).length ≤ done.length := by rw [List.length_map]; exact List.length_filter_le ..
        have h2 : done.length ≤ xs.length := by rw [← hd]; simp
        lia
      · simp [List.filter_append, hk]
  · rintro acc ρ σ' ⟨rfl, hs, done, hd, rfl⟩
    rw [List.append_nil] at hd
    rw [hd]; exact h

theorem lookup_app {ρ₁ ρ₂ : Lo} {y : String} : (ρ₁ ++ ρ₂).lookup y = (ρ₁.lookup y).or (ρ₂.lookup y) := by
  induction ρ₁ with
  | nil => rfl
  | cons p r ih =>
    obtain ⟨a, b⟩ := p
    by_cases e : y = a
    · subst e; rw [List.cons_append, List.lookup_cons_self, List.lookup_cons_self]; rfl
    · rw [List.cons_append, List.lookup_cons, List.lookup_cons, beq_false_of_ne e]; exact ih
theorem LSub.app {ρ ρc b : Lo} (h : LSub ρ ρc) : LSub (b ++ ρ) (b ++ ρc) := fun y d hy => by
  rw [lookup_app] at hy ⊢
  cases hb : b.lookup y with
  | some e => rw [hb] at hy; exact hy
  | none => rw [hb] at hy; exact h y d hy
theorem LSub.skipApp {ρ ρc b : Lo} (h : LSub ρ ρc) (hd : ∀ y d, ρc.lookup y = some d → b.lookup y = none) : LSub (b ++ ρ) ρc := fun y d hy => by
  rw [lookup_app, hd y d hy]; exact h y d hy
/-- one clause, any target, nothing stored -/
theorem Comp.pure {C k sc ρc elt target iter ifs scope xs σ} {K : List PV → Sto → Prop} (bs : PV → Lo) (keep : PV → Bool) (f : PV → PV)
    (hb : ∀ x ∈ xs, ∀ ρ (K' : Lo → Sto → Prop), K' (bs x ++ ρ) σ → Bind C k (rel scope sc) ρ σ target x ownL K') (hd0 : ∀ x ∈ xs, ∀ y d, ρc.lookup y = some d → (bs x).lookup y = none)
    (ht : ∀ x ∈ xs, ∀ K' : Bool → Sto → Prop, K' (keep x) σ → TrAll C k (rel scope sc) (bs x ++ ρc) .And σ ifs K')
    (he : ∀ x ∈ xs, keep x = true → ∀ K' : PV → Sto → Prop, K' (f x) σ → Ev C k (rel scope sc) (bs x ++ ρc) σ elt K')
    (hl : xs.length ≤ sizeLine) (h : K ((xs.filter keep).map f) σ) : Comp C k sc ρc elt ⟨target, iter, ifs, 0⟩ [] scope xs σ K := by
  refine ⟨fun rest acc ρ σ' => σ' = σ ∧ LSub ρ ρc ∧ ∃ done, done ++ rest = xs ∧ acc = (done.filter keep).map f, ⟨rfl, fun _ _ h => h, [], rfl, rfl⟩, ?_, ?_⟩
  · rintro x r acc ρ σ' ⟨rfl, hs, done, hd, rfl⟩
    have hm : x ∈ xs := hd ▸ List.mem_append_right _ List.mem_cons_self
    refine hb x hm _ _ (TrAll.sub hs.app (ht x hm _ ?_))
    cases hk : keep x with
    | false =>
      refine ⟨rfl, hs.skipApp (hd0 x hm), done ++ [x], by simpa using hd, ?_⟩
      simp [List.filter_append, hk]
    | true =>
      refine Ev.lsub hs.app (he x hm hk _ ?_)
      refine ⟨?_, rfl, hs.skipApp (hd0 x hm), done ++ [x], by simpa using hd, ?_⟩
      · have h1 : ((done.filter keep).map f).length ≤ done.length := by rw [List.length_map]; exact List.length_filter_le ..
        have h2 : done.length ≤ xs.length := by rw [← hd]; simp
        lia
      · simp [List.filter_append, hk]
  · rintro acc ρ σ' ⟨rfl, hs, done, hd, rfl⟩
    rw [List.append_nil] at hd
    rw [hd]; exact h
/-- two names out of a pair -/
theorem Bind.pair {C k sc ρ σ t₁ t₂ p₁ p₂ x1 pos a b K} (h1 : sc.names.lookup (Str.ofString t₁) = some .local) (h2 : sc.names.lookup (Str.ofString t₂) = some .local) (h : K ((t₂, b) :: (t₁, a) :: ρ) σ) :
    Bind C k sc ρ σ (.Tuple [.Name (Str.ofString t₁) p₁, .Name (Str.ofString t₂) p₂] x1 pos) (.tuple [a, b]) ownL K :=
  Bind.tuple Iterable.tuple Unpackable.tuple (Bind.nameL h1 (Bind.nameL h2 h)) rfl rfl fun env a q => .inl q
theorem Bind.pairF {C k sc ρ σ t₁ t₂ p₁ p₂ x1 pos a b K} (h1 : Storable sc t₁) (h2 : Storable sc t₂) (h : K ((t₂, b) :: (t₁, a) :: ρ) σ) :
    Bind C k sc ρ σ (.Tuple [.Name (Str.ofString t₁) p₁, .Name (Str.ofString t₂) p₂] x1 pos) (.tuple [a, b]) own K :=
  Bind.tuple Iterable.tuple Unpackable.tuple (Bind.name h1 (Bind.name h2 h)) rfl rfl fun env a q => q
end Mine
end C25

section C26
open PySem PySem.W PyProof.Rows
set_option Elab.async false
set_option linter.unusedVariables false
set_option maxRecDepth 100000
namespace Mine
theorem pick_range {α : Type} (xs : List α) (a : Nat) : ∀ n, a + n ≤ xs.length → ((List.range n).map fun k => a + k).filterMap (xs[·]?) = (xs.drop a).take n
  | 0, _ => by simp
  | n + 1, h => by
    rw [List.range_succ, List.map_append, List.filterMap_append, pick_range xs a n (by lia), List.take_add_one]
    have : xs[a + n]? = some xs[a + n] := List.getElem?_eq_getElem (by lia)
    simp [this]
theorem sr_up (a n : Nat) : sliceRange (a : Int) ((a + n : Nat) : Int) 1 = (List.range n).map fun k => a + k := by
  unfold sliceRange
  simp only [gt_iff_lt, show (0 : Int) < 1 from by decide, if_true, Int.ediv_one, Int.one_mul]
  by_cases h : n = 0
  · subst h; simp
  · rw [if_pos (by lia)]
    have : ((((a + n : Nat) : Int) - (a : Int) + 1 - 1)).toNat = n := by lia
    rw [this]
    exact List.map_congr_left fun k _ => by lia
/-- xs[:n] -/
theorem slcL_to {α : Type} (xs : List α) (n : Nat) : slcL xs none (some (n : Int)) none = xs.take n := by
  unfold slcL sliceBounds
  simp only [Option.getD_none, gt_iff_lt, show (0 : Int) < 1 from by decide, if_true]
  have h1 : ¬ ((n : Int) < 0) := by lia
  simp only [h1, if_false]
  have h2 : max (0 : Int) (min (n : Int) (xs.length : Int)) = ((0 + min n xs.length : Nat) : Int) := by lia
  rw [h2]
  have := sr_up 0 (min n xs.length)
  rw [Int.natCast_zero] at this
  rw [this, pick_range xs 0 _ (by lia), List.drop_zero]
  by_cases h : n ≤ xs.length
  · rw [Nat.min_eq_left h]
  · rw [Nat.min_eq_right (by lia), List.take_of_length_le (Nat.le_refl _), List.take_of_length_le (by lia)]
/-- xs[n:] -/
theorem slcL_from {α : Type} (xs : List α) (n : Nat) : slcL xs (some (n : Int)) none none = xs.drop n := by
  unfold slcL sliceBounds
  simp only [Option.getD_none, gt_iff_lt, show (0 : Int) < 1 from by decide, if_true]
  have h1 : ¬ ((n : Int) < 0) := by lia
  simp only [h1, if_false]
  have h2 : max (0 : Int) (min (n : Int) (xs.length : Int)) = ((min n xs.length : Nat) : Int) := by lia
  have h3 : ((xs.length : Nat) : Int) = ((min n xs.length + (xs.length - min n xs.length) : Nat) : Int) := by lia
  rw [h2, h3, sr_up, pick_range xs _ _ (by lia)]
  by_cases h : n ≤ xs.length
  · rw [Nat.min_eq_left h, List.take_of_length_le (by simp)]
  · rw [Nat.min_eq_right (by lia), List.drop_of_length_le (Nat.le_refl _), List.drop_of_length_le (by lia)]; simp
/-- xs[a:b] -/
theorem slcL_mid {α : Type} (xs : List α) (a b : Nat) (h : a ≤ b) (hb : b ≤ xs.length) : slcL xs (some (a : Int)) (some (b : Int)) none = (xs.drop a).take (b - a) := by
  unfold slcL sliceBounds
  simp only [Option.getD_none, gt_iff_lt, show (0 : Int) < 1 from by decide, if_true]
  have h1 : ¬ ((a : Int) < 0) := by lia
  have h1' : ¬ ((b : Int) < 0) := by lia
  simp only [h1, h1', if_false]
  have h2 : max (0 : Int) (min (a : Int) (xs.length : Int)) = (a : Int) := by lia
  have h3 : max (0 : Int) (min (b : Int) (xs.length : Int)) = ((a + (b - a) : Nat) : Int) := by lia
  rw [h2, h3, sr_up, pick_range xs _ _ (by lia)]
theorem slcS_eq (xs : List Nat) (lo hi : Option Int) : slcS xs lo hi none = slcL xs lo hi none := by
  unfold slcS slcL Builtin.Str.strSliceIndices sliceBounds
  rfl
theorem small_up {a b : Int} (h1 : -(10 ^ 9) ≤ a) (h2 : a ≤ 10 ^ 9) (h3 : -(10 ^ 9) ≤ b) (h4 : b ≤ 10 ^ 9) : Builtin.Range.small a b 1 = true := by
  unfold Builtin.Range.small Builtin.Range.rangeFitsLong
  rw [PySem.rangeSize_one]
  split <;> simp <;> lia
end Mine
end C26

section C27
open PySem PySem.W PyProof.Rows
set_option Elab.async false
set_option linter.unusedVariables false
set_option maxRecDepth 100000
namespace Mine
/-- a written list of ints -/
noncomputable def constInts : List Expr → Option (List Int)
  | [] => some []
  | .Constant (.int i) _ _ :: r => (constInts r).map (i :: ·)
  | _ => none
theorem evL_ints {C k sc ρ σ} : ∀ {es : List Expr} {ns : List Int} {K : List PV → Sto → Prop}, constInts es = some ns → K (ns.map .int) σ → EvL C k sc ρ σ es K ∧ es.all plainE = true
  | [], ns, K, h, hK => by
    rw [constInts] at h; cases h; exact ⟨hK, rfl⟩
  | e :: r, ns, K, h, hK => by
    unfold constInts at h
    split at h
    · rename_i heq; cases heq
    · rename_i i a b r' heq
      cases heq
      cases hr : constInts r with
      | none => rw [hr] at h; cases h
      | some ms =>
        rw [hr] at h; cases h
        obtain ⟨h1, h2⟩ := evL_ints (C := C) (k := k) (sc := sc) (ρ := ρ) (σ := σ) (K := fun ds σ' => K (.int i :: ds) σ') hr hK
        exact ⟨Ev.int h1, by rw [List.all_cons, h2]; rfl⟩
    · cases h
theorem Ev.ints {C k sc ρ σ es pos K} (ns : List Int) (h : constInts es = some ns) (hl : ns.length ≤ 1000) (hK : K (.list (ns.map .int)) σ) : Ev C k sc ρ σ (.List es pos) K :=
  let ⟨a, b⟩ := evL_ints (K := fun ds σ' => ds.length ≤ sizeLine ∧ K (.list ds) σ') h ⟨by rw [List.length_map]; simp [sizeLine]; lia, hK⟩
  Ev.list a b
end Mine
end C27

section C28
open PySem PySem.W PyProof.Rows
set_option Elab.async false
set_option linter.unusedVariables false
set_option maxRecDepth 100000
namespace Mine
/-! ## a set of the texts of a list -/
theorem setOf_as {prog : Program} {w : World} {h : Heap} {a : Addr} {S S' : Str → Bool} {n n' : Nat} (q : h.SetOf (strKind prog w) a S n) (e : ∀ k, S k = S' k) (en : n = n') : h.SetOf (strKind prog w) a S' n' := by
  have : S = S' := funext e
  subst this; subst en; exact q
section
variable {prog : Program} {w : World} {A : Around} {R : Result → Shared → Prop} {I : Addr} {fp wr : List Addr} {G : Array GenState → Array GenState → Prop} {P : Nat → Value → Prop} {St : Nat → Shared → Prop}
theorem strs_loop {ys : List Str} (W : WalksS prog w A.in1 I fp wr G ys.length P St) (D : Addr) (hD : D ∉ fp) (hv : ∀ i v, P i v → ∃ y t, ys[i]? = some y ∧ v = .str y t) (hb : ys.length + 1 < scanBound) :
    ∀ (todo i m : Nat) (s : Shared), i + todo = ys.length → m ≤ i → St i s → s.heap.SetOf (strKind prog w) D (fun y => decide (y ∈ ys.take i)) m →
      (∀ s', Moved (D :: wr) G s s' → (∃ m, s'.heap.SetOf (strKind prog w) D (fun y => decide (y ∈ ys)) m) → R (.ok (.ret .none)) s') →
      codeAny (model prog w) A (.builtin "set.update.loop" ⟨[.ref D, .ref I], []⟩) R s := by
  have hDw : D ∉ wr := fun q => hD (W.sub _ q)
  have up : ∀ b ∈ wr, b ∈ D :: wr := fun b q => List.mem_cons_of_mem _ q
  intro todo
  induction todo with
  | zero =>
    intro i m s hi hm st hS hR
    obtain rfl : i = ys.length := by lia
    refine codeAny_builtin PyProof.Rows.F.entry_set_update_loop ?_
    rw [Around.under_plainId PyProof.Rows.F.plain_set_update_loop _]
    show wpAny _ A.in1 (pyNext (.ref I) >>= _) _ _ s
    refine wpAny_bind (W.done s _ _ st fun s' mv => ?_)
    show wpAny _ A.in1 (ret Value.none) _ _ s'
    refine wpAny_pure (hR s' (mv.mono up) ⟨m, ?_⟩)
    obtain ⟨o, es, ep, t, ho, rest⟩ := hS
    rw [List.take_length] at rest
    exact ⟨o, es, ep, t, mv.heap D _ hDw ho, rest⟩
  | succ todo ih =>
    intro i m s hi hm st hS hR
    refine codeAny_builtin PyProof.Rows.F.entry_set_update_loop ?_
    rw [Around.under_plainId PyProof.Rows.F.plain_set_update_loop _]
    show wpAny _ A.in1 (pyNext (.ref I) >>= _) _ _ s
    refine wpAny_bind (W.item i s _ _ (by lia) st fun v s' hP st' mv => ?_)
    obtain ⟨y, t, hy, rfl⟩ := hv i v hP
    have hS' : s'.heap.SetOf (strKind prog w) D (fun y => decide (y ∈ ys.take i)) m := by
      obtain ⟨o, es, ep, tb, ho, rest⟩ := hS
      exact ⟨o, es, ep, tb, mv.heap D _ hDw ho, rest⟩
    show wpAny _ A.in1 (holding [Value.str y t] (setAdd D (.str y t)) >>= _) _ _ s'
    refine wpAny_bind (wpAny_holding ?_)
    unfold setAdd
    refine wpAny_holding ?_
    refine wpAny_bind ((strKind prog w).pyHash (k := y) (strKind_is _ _ _ _) ?_)
    refine wpAny_setAddHashed_of (knd := strKind prog w) (s := { s' with toks := s'.toks + 1 }) (strKind_is _ _ _ _) rfl hS' (by lia) fun h' sb hS2 => ?_
    have hS3 : ∃ m' ≤ i + 1, h'.SetOf (strKind prog w) D (fun y => decide (y ∈ ys.take (i + 1))) m' := by
      refine ⟨_, ?_, setOf_as hS2 (fun k => ?_) rfl⟩
      · split <;> lia
      · rw [List.take_add_one, hy]; simp [Bool.decide_or]
    obtain ⟨m', hm', hS3⟩ := hS3
    refine wpAny_pure ⟨plainId_quiet PyProof.Rows.F.plain_set_update_loop _, ih (i + 1) m' _ (by lia) hm' (W.frame _ s' _ _ st' (Nat.le_succ _) fun b hb o e => ?_) hS3 fun s'' mv'' q => hR s'' (Moved.trans W.gtrans ((mv.mono up).then_heap (Nat.le_succ _) fun b o hb e => ?_) mv'') q⟩
    · rw [sb.2 b (fun q : b = D => hD (by rw [← q]; exact hb))]; exact e
    · rw [sb.2 b (fun q : b = D => hb (by rw [q]; exact List.mem_cons_self))]; exact e
end
section
variable {prog : Program} {w : World} {A : Around} {E : Value → Shared → Prop} {s : Shared}
set_option maxHeartbeats 3200000 in
theorem set_of_strs {l : Addr} {items : Array Value} {ys : List Str} {Q : Value → Shared → Prop} (hh : A.handled = none) (hl : s.heap.IsList l items) (hi : StrsAre items.toList ys) (hb : ys.length + 1 < scanBound)
    (h : ∀ (h' : Heap) (tk : Nat) m, h'.SetOf (strKind prog w) s.heap.objs.size (fun y => decide (y ∈ ys)) m → (∀ b o, s.heap.get? b = some o → h'.get? b = some o) → Q (.ref s.heap.objs.size) { s with heap := h', toks := tk }) :
    wpAny (model prog w) A (call (.type "set") [.ref l]) Q E s := by
  have hz : items.size = ys.length := by rw [← hi.length, Array.length_toList]
  obtain ⟨c, tl, hmro⟩ := F.called_set.mro
  have hmade := F.called_set.made
  have hsub := F.called_set.sub
  refine wpAny_call (codeAny_of_tree ?_)
  show wpAny _ _ (callAny (.type "set") _) _ _ _
  refine wpAny_pure ⟨Code.quiet_builtin _ (by decide +kernel), codeAny_builtin F.entry_type_call ?_⟩
  rw [Around.under_plain (weight_type_call_type "set" [.ref l] []) rfl]
  have h1 := F.called_set.notType
  have h2 := F.called_set.canCreate
  have hct := F.typeCall_set_1 (.ref l)
  repeat (any_goals (first | assumption | wp_step))
  refine codeAny_mono (code_set_new_1 (.ref l) (E := E) (Q₁ := fun obj s₁ => ∃ led : Bool, obj = .ref s.heap.objs.size ∧ s₁ = { s with heap := s.heap.push { cls := .type "set", dict := none, data := .set #[] 0 (.fresh 0 0 led) } }) fun led => ⟨led, rfl, rfl⟩) fun r s₁ hr => ?_
  obtain _ | (_ | _ | _ | obj) := r
  · exact hr
  · exact hr.elim
  · exact hr.elim
  · exact hr.elim
  obtain ⟨led, rfl, rfl⟩ := hr
  generalize hH : s.heap.push { cls := .type "set", dict := none, data := .set #[] 0 (.fresh 0 0 led) } = H₁
  have hS : H₁.get? s.heap.objs.size = some { cls := .type "set", dict := none, data := .set #[] 0 (.fresh 0 0 led) } := hH ▸ Heap.get?_push_size _ rfl
  have hk₁ : ∀ b o, s.heap.get? b = some o → H₁.get? b = some o := fun b o e => hH ▸ Heap.get?_push_of_some _ e
  have hz₁ : H₁.objs.size = s.heap.objs.size + 1 := by rw [← hH, Heap.size_push]
  have hT : Shared.TypeIs { s with heap := H₁ } (.ref s.heap.objs.size) "set" := ⟨_, hS, rfl⟩
  have hli := F.called_set.init.lookup
  have hbi := F.called_set.init.bind (.ref s.heap.objs.size)
  repeat (any_goals (first | assumption | wp_step))
  refine codeAny_mono (codeAny_call_builtin (R := wants (fun r s₂ => r = .none ∧ ∃ h' tk m, s₂ = { s with heap := h', toks := tk } ∧ h'.SetOf (strKind prog w) s.heap.objs.size (fun y => decide (y ∈ ys)) m ∧ (∀ b o, s.heap.get? b = some o → h'.get? b = some o)) E)
    F.called_set.init.plain F.entry_set_init (check_set_init_1 hT ?_)) fun r₂ s₂ hr₂ => ?_
  · obtain ⟨ol, hol, hcl, nl, hdl⟩ := hl
    obtain ⟨ocls, odict, odata, oslots⟩ := ol
    simp only at hcl hdl
    subst hcl; subst hdl
    have hol' := hk₁ _ _ hol
    have hsls := F.sub_list_set
    have hslf := F.sub_list_frozenset
    have hne : (Value.type "list" == Value.type "dict") = false := by decide
    have hl1 : H₁.IsList l items := ⟨_, hol', rfl, nl, rfl⟩
    unfold Builtin.«set.__init__» noKeywords Builtin.Frozenset.updateFrom
    generalize hPI : pyIter = PI
    wp_walk
    subst hPI
    refine wpAny_pyIter_list hl1 ?_
    refine wpAny_bind (wpAny_runValue ?_)
    have hlS : l < s.heap.objs.size := Heap.lt_size hol
    have hh3 : A.in1.in1.in1.handled = none := by simp [hh]
    have hneI : l ≠ H₁.objs.size := by rw [hz₁]; exact Nat.ne_of_lt (Nat.lt_succ_of_lt hlS)
    have hSf : s.heap.objs.size ∉ [H₁.objs.size, l] := by
      rw [hz₁]; simp only [List.mem_cons, List.not_mem_nil, or_false, not_or]
      exact ⟨Nat.ne_of_lt (Nat.lt_succ_self _), Nat.ne_of_gt hlS⟩
    have hval : ∀ (i : Nat) (v : Value), items[i]? = some v → ∃ y t, ys[i]? = some y ∧ v = .str y t := fun i v hv => by
      have : items.toList[i]? = some v := by simpa using hv
      clear hz hb hl1 hol hol' h
      generalize items.toList = vs at hi this
      clear hv
      induction hi generalizing i with
      | nil => cases this
      | cons y t r ih =>
        cases i with
        | zero => exact ⟨y, t, rfl, by simpa using this.symm⟩
        | succ i => exact ih i (by simpa using this)
    have W := (Walks.list (prog := prog) (w := w) hh3 H₁.objs.size l hneI items).toS
    rw [hz] at W
    refine strs_loop W s.heap.objs.size hSf hval hb ys.length 0 0 _ (by lia) (Nat.le_refl _) ⟨⟨_, Heap.get?_push_size _ rfl, rfl, rfl⟩, (hl1.push _)⟩ ?_ fun s' mv q => ?_
    · exact setOf_as ((setObjOf_fresh (knd := strKind prog w) led).setOf (Heap.get?_push_of_some _ hS) (by unfold scanBound; lia)) (fun _ => by simp) rfl
    · obtain ⟨h', g', d', tk', os'⟩ := s'
      have eg : g' = s.gens := mv.gens
      have ed : d' = s.drawn := mv.drawn
      have eo : os' = s.os := mv.os
      subst eg; subst ed; subst eo
      obtain ⟨m, q⟩ := q
      show wpAny _ _ _ _ _ _
      refine wpAny_pure ?_
      show wpAny _ _ (ret Value.none) _ _ _
      refine wpAny_pure ⟨rfl, h', tk', m, rfl, q, fun b o e => mv.heap b o ?_ (Heap.get?_push_of_some _ (hk₁ b o e))⟩
      have hlt := Heap.lt_size e
      simp only [List.mem_cons, List.not_mem_nil, or_false, not_or]
      rw [hz₁]
      exact ⟨Nat.ne_of_lt hlt, Nat.ne_of_lt (Nat.lt_succ_of_lt hlt)⟩
  · obtain _ | (_ | _ | _ | r) := r₂
    · exact hr₂
    · exact hr₂.elim
    · exact hr₂.elim
    · exact hr₂.elim
    obtain ⟨rfl, h', tk, m, rfl, q, k⟩ := hr₂
    repeat (any_goals (first | assumption | wp_step))
    exact h _ _ _ q k
end
end Mine
end C28

section C29
open PySem PySem.W PyProof.Rows Builtin Builtin.ObjectAttr
set_option Elab.async false
set_option linter.unusedVariables false
set_option maxRecDepth 100000
namespace Mine
namespace G
theorem slot_set_ga : Slot "set" "__getattribute__" "set.__getattribute__" :=
  .of (owner := "set") (n := "__getattribute__") (by rw [typeLookup_type, builtinLookup_eq_fast]; kernel_rfl) (by decide +kernel) (by decide +kernel) (by decide +kernel)
    (by first | exact .inl (by decide +kernel) | exact .inr (by decide +kernel)) (by rw [isSubtype_type]; kernel_rfl)
theorem slot_md_get : Slot "method_descriptor" "__get__" "method_descriptor.__get__" :=
  .of (owner := "method_descriptor") (n := "__get__") (by rw [typeLookup_type, builtinLookup_eq_fast]; kernel_rfl) (by decide +kernel) (by decide +kernel) (by decide +kernel)
    (by first | exact .inl (by decide +kernel) | exact .inr (by decide +kernel)) (by rw [isSubtype_type]; kernel_rfl)
theorem lk_md_set : typeLookup (.type "method_descriptor") "__set__" = pure none := by rw [typeLookup_type, builtinLookup_eq_fast]; kernel_rfl
theorem lk_md_del : typeLookup (.type "method_descriptor") "__delete__" = pure none := by rw [typeLookup_type, builtinLookup_eq_fast]; kernel_rfl
theorem entry_sga : entryFor table "set.__getattribute__" = some Builtin.«object.__getattribute__» := entryFor_alias (id' := "object.__getattribute__") (by kernel_rfl) rfl (by decide +kernel) (by kernel_rfl)
theorem entry_mdget : entryFor table "method_descriptor.__get__" = some Builtin.«method_descriptor.__get__» := entryFor_of_tree (by kernel_rfl)
theorem args_sga (a b : Value) : argsOk "set.__getattribute__" ⟨[a, b], []⟩ := by unfold argsOk; kernel_rfl
theorem args_mdget (a b c : Value) : argsOk "method_descriptor.__get__" ⟨[a, b, c], []⟩ := by unfold argsOk; kernel_rfl
theorem told : Manifest.toldItsClass.contains "set.__contains__" = false := by decide +kernel
theorem own : ".".intercalate ("set.__contains__".cutAt '.').dropLast = "set" := by decide +kernel
end G
noncomputable def boundC (a : Addr) : Obj := { cls := .type "builtin_function_or_method", data := .fields #[.builtin "set.__contains__", .ref a] }
section
variable {prog : Program} {w : World} {A : Around} {E : Value → Shared → Prop} {s : Shared} {a : Addr}
theorem run_mdget {o : Obj} {P : Fin → Shared → Prop} (ho : s.heap.get? a = some o) (hc : o.cls = .type "set") (h : P (.done (.ret (.ref s.heap.objs.size))) { s with heap := s.heap.push (boundC a) }) :
    wpAny (model prog w) A (Builtin.«method_descriptor.__get__» ⟨[.builtin "set.__contains__", .ref a, .type "set"], []⟩) P E s := by
  unfold Builtin.«method_descriptor.__get__»
  refine wpAny_bind (wpAny_of_eq (a := (.builtin "set.__contains__", some (.ref a), some (.type "set"))) (by first | rfl | kernel_rfl) ?_)
  have ht : s.TypeIs (.ref a) "set" := ⟨o, ho, hc⟩
  have hsub : isSubtype (.type "set") (.type "set") = pure true := by rw [isSubtype_type]; kernel_rfl
  simp only [G.told]
  repeat wp_step
  rw [G.own]
  repeat wp_step
  exact h
theorem run_sga {es : Array (Int × Value)} {n : Nat} {tb : SetTable} {osl : Array (Option Value)} {tk : Tok} {P : Fin → Shared → Prop} (ho : s.heap.get? a = some { cls := .type "set", dict := none, data := .set es n tb, slots := osl }) (h : P (.done (.ret (.ref s.heap.objs.size))) { s with heap := s.heap.push (boundC a) }) :
    wpAny (model prog w) A (Builtin.«object.__getattribute__» ⟨[.ref a, .str (Str.ofString "__contains__") tk], []⟩) P E s := by
  have ht : s.TypeIs (.ref a) "set" := ⟨_, ho, rfl⟩
  have l2 := F.slot_set_contains.lookup
  have l3 := F.type_set_contains
  have l4 := G.slot_md_get.lookup
  have l5 := G.lk_md_set
  have l6 := G.lk_md_del
  unfold Builtin.«object.__getattribute__»
  have hf : ∀ {Q : Found → Shared → Prop}, Q (.bind (.builtin "method_descriptor.__get__") (.builtin "set.__contains__")) s → wpAny (model prog w) A (find (.ref a) (.type "set") (Str.ofString "__contains__")) Q E s := fun hq => by
    repeat wp_step
    exact hq
  refine wpAny_bind (wpAny_of_eq (a := (.ref a, [.str (Str.ofString "__contains__") tk])) (by rfl) ?_)
  refine wpAny_bind (wpAny_of_eq (a := Str.ofString "__contains__") (by rfl) ?_)
  refine wpAny_bind (wpAny_typeOf ht ?_)
  refine wpAny_bind (hf ?_)
  show wpAny _ _ (bindTo _ _ _ _) _ _ _
  unfold bindTo
  refine wpAny_bind (wpAny_holding (wpAny_call (codeAny_call_builtin G.slot_md_get.plain G.entry_mdget (G.slot_md_get.check _ _ _ _ _ _ _ _ (by exact F.type_set_contains) (G.args_mdget _ _ _) ?_))))
  exact run_mdget ho rfl (wpAny_pure h)
theorem set_bound {es : Array (Int × Value)} {n : Nat} {tb : SetTable} {osl : Array (Option Value)} {Q : Value → Shared → Prop} (ho : s.heap.get? a = some { cls := .type "set", dict := none, data := .set es n tb, slots := osl }) (h : Q (.ref s.heap.objs.size) { s with heap := s.heap.push (boundC a), toks := s.toks + 1 }) :
    wpAny (model prog w) A (getAttr (.ref a) "__contains__" true) Q E s := by
  have ht : s.TypeIs (.ref a) "set" := ⟨_, ho, rfl⟩
  have l1 := G.slot_set_ga.lookup
  have b1 := G.slot_set_ga.bind (.ref a)
  unfold getAttr getAttrBy
  repeat wp_step
  refine codeAny_call_builtin G.slot_set_ga.plain G.entry_sga (G.slot_set_ga.check _ _ _ _ _ _ _ _ ht (G.args_sga _ _) ?_)
  refine run_sga (s := { s with toks := s.toks + 1 }) ho ?_
  exact wpAny_pure h
theorem bm_kind : builtinKind "set.__contains__" = some .method := by decide +kernel
theorem bm_sig : Manifest.signature? "set.__contains__" = some ⟨.oneArg, "set.__contains__", "__contains__", .self, [⟨"object", .posOnly, true⟩]⟩ := by
  rw [PySem.F.owner_set |> signature?_of (id := "set.__contains__") (n := ['_', '_', 's', 'n', 'i', 'a', 't', 'n', 'o', 'c', '_', '_']) (o := ['t', 'e', 's']) (by kernel_rfl)]; kernel_rfl
theorem bm_va : Manifest.varargsMethods.contains "set.__contains__" = false := by decide +kernel
theorem set_mod : isSubtype (.type "set") (.type "module") = pure false := by rw [isSubtype_type]; kernel_rfl
theorem check_bound {es : Array (Int × Value)} {n : Nat} {tb : SetTable} {osl : Array (Option Value)} {v : Value} {Q : Unit → Shared → Prop} (ho : s.heap.get? a = some { cls := .type "set", dict := none, data := .set es n tb, slots := osl }) (hQ : Q () s) : wpAny (model prog w) A (checkBoundCall "set.__contains__" ⟨[.ref a, v], []⟩) Q E s := by
  have ht : s.TypeIs (.ref a) "set" := ⟨_, ho, rfl⟩
  have k3 := bm_va
  have k4 := set_mod
  unfold checkBoundCall
  rw [bm_kind, bm_sig]
  repeat wp_step
  exact hQ
theorem call_bound {b : Addr} {S : Str → Bool} {m : Nat} {x : Str} {t : Tok} {Q : Value → Shared → Prop} (hb : s.heap.get? b = some (boundC a)) (hS : s.heap.SetOf (strKind prog w) a S m) (h : Q (.bool (S x)) { s with toks := s.toks + 1 }) :
    wpAny (model prog w) A (call (.ref b) [.str x t]) Q E s := by
  obtain ⟨o, es, ep, tb, ho, hex, hd, r⟩ := id hS
  obtain ⟨oc, od, odata, osl⟩ := o
  obtain ⟨h1, h2, h3⟩ := hex
  simp only at h1 h2 hd
  subst h1; subst h2; subst hd
  refine wpAny_call (codeAny_of_tree ?_)
  show wpAny _ _ (callAny (.ref b) _) _ _ _
  unfold callAny
  refine wpAny_bind (wpAny_load hb ?_)
  show wpAny _ _ (checkBoundCall "set.__contains__" ⟨[.ref a, .str x t], []⟩ >>= fun _ => _) _ _ _
  refine wpAny_bind (check_bound ho ?_)
  refine wpAny_pure ⟨Code.quiet_builtin _ (by decide +kernel), codeAny_builtin entry_set_contains ?_⟩
  unfold Builtin.«frozenset.__contains__» Builtin.Frozenset.oneOther
  simp only [List.isEmpty_nil, bind_assoc]
  unfold Builtin.Frozenset.addrOf Builtin.Frozenset.withSetAsKey setContains
  refine wpAny_bind (wpAny_pure ?_)
  try dsimp only
  refine wpAny_bind (wpAny_pure ?_)
  try dsimp only
  refine wpAny_bind (wpAny_tryCatch ?_)
  refine wpAny_holding ?_
  refine wpAny_bind ((strKind prog w).pyHash (k := x) (strKind_is _ _ _ _) ?_)
  refine wpAny_bind (wpAny_setFind_of (s := { s with toks := s.toks + 1 }) (strKind_is _ _ _ _) rfl hS fun r hr => ?_)
  refine wpAny_pure ?_
  show wpAny _ _ (ret (Value.bool r.isSome)) _ _ _
  rw [hr]
  exact wpAny_pure h
end
end Mine
end C29

section C30
open PySem PySem.W PyProof.Rows Builtin
set_option Elab.async false
set_option linter.unusedVariables false
set_option maxRecDepth 100000
namespace Mine
namespace G
theorem slot_filter_init : Slot "filter" "__init__" "object.__init__" :=
  .of (owner := "object") (n := "__init__") (by rw [typeLookup_type, builtinLookup_eq_fast]; kernel_rfl) (by decide +kernel) (by decide +kernel) (by decide +kernel)
    (by first | exact .inl (by decide +kernel) | exact .inr (by decide +kernel)) (by rw [isSubtype_type]; kernel_rfl)
theorem slot_filter_iter : Slot "filter" "__iter__" "filter.__iter__" :=
  .of (owner := "filter") (n := "__iter__") (by rw [typeLookup_type, builtinLookup_eq_fast]; kernel_rfl) (by decide +kernel) (by decide +kernel) (by decide +kernel)
    (by first | exact .inl (by decide +kernel) | exact .inr (by decide +kernel)) (by rw [isSubtype_type]; kernel_rfl)
theorem slot_filter_next : Slot "filter" "__next__" "filter.__next__" :=
  .of (owner := "filter") (n := "__next__") (by rw [typeLookup_type, builtinLookup_eq_fast]; kernel_rfl) (by decide +kernel) (by decide +kernel) (by decide +kernel)
    (by first | exact .inl (by decide +kernel) | exact .inr (by decide +kernel)) (by rw [isSubtype_type]; kernel_rfl)
theorem entry_filter_next : entryFor table "filter.__next__" = some Builtin.«filter.__next__» := entryFor_of_tree (by kernel_rfl)
theorem entry_filter_iter : entryFor table "filter.__iter__" = some Builtin.«dict_keyiterator.__iter__» :=
  entryFor_alias (id' := "dict_keyiterator.__iter__") (by kernel_rfl) (by first | rfl | decide +kernel) (by decide +kernel) (by kernel_rfl)
theorem args_filter_next (a : Value) : argsOk "filter.__next__" ⟨[a], []⟩ := by unfold argsOk; kernel_rfl
theorem args_filter_iter (a : Value) : argsOk "filter.__iter__" ⟨[a], []⟩ := by unfold argsOk; kernel_rfl
theorem plain_filter_next : plainId "filter.__next__" = true := by decide +kernel
theorem mro_filter : mroOf (.type "filter") = pure [.type "filter", .type "object"] := by rw [mroOf_type]; kernel_rfl
theorem lookup_filter_new : typeLookup (.type "filter") "__new__" = pure (some (.builtin "filter.__new__")) := by rw [typeLookup_type, builtinLookup_eq_fast]; kernel_rfl
theorem sub_filter : isSubtype (.type "filter") (.type "filter") = pure true := by rw [isSubtype_type]; kernel_rfl
theorem called_filter : TypeCalled "filter" "filter.__new__" "object.__init__" :=
  ⟨by decide +kernel, by decide +kernel, ⟨_, _, mro_filter⟩, madeBy_type mro_filter lookup_filter_new (by decide +kernel), by decide +kernel, sub_filter, slot_filter_init⟩
theorem typeCall_filter (a b : Value) : checkTypeCall "filter" ⟨[a, b], []⟩ = pure () := by kernel_rfl
theorem newCall_filter (a b : Value) : checkBuiltinCall "filter.__new__" ⟨[.type "filter", a, b], []⟩ = pure () := by kernel_rfl
theorem entry_filter_new : entryFor table "filter.__new__" = some Builtin.«filter.__new__» := entryFor_of_tree (by kernel_rfl)
theorem no_len : typeLookup (.type "filter") "__len__" = pure none := by rw [typeLookup_type, builtinLookup_eq_fast]; kernel_rfl
theorem no_hint : typeLookup (.type "filter") "__length_hint__" = pure none := by rw [typeLookup_type, builtinLookup_eq_fast]; kernel_rfl
end G
end Mine
end C30

section C31
open PySem PySem.W PyProof.Rows Builtin
set_option Elab.async false
set_option linter.unusedVariables false
set_option maxRecDepth 100000
namespace Mine
section
variable {prog : Program} {w : World} {A : Around} {E : Value → Shared → Prop} {s : Shared} {it l : Addr} {j : Nat} {items : Array Value}
theorem iter_item {x : Value} {Q : Option Value → Shared → Prop} (hit : s.heap.IsListIter it l j) (hl : s.heap.IsList l items) (hx : items[j]? = some x)
    (hQ : ∀ h', h'.IsListIter it l (j + 1) → (∀ c o, c ≠ it → s.heap.get? c = some o → h'.get? c = some o) → Q (some x) { s with heap := h' }) : wpAny (model prog w) A (callSpecial? (.ref it) "__next__") Q E s := by
  obtain ⟨o, ho, hc, hd⟩ := id hit
  obtain ⟨ol, hol, _, nl, hdl⟩ := hl
  have hneq : ¬ ((Value.ref l == Value.none) = true) := Bool.false_ne_true
  refine wpAny_callSpecial?_slot hit.typeIs slot_listiter_next (wpAny_call_entry slot_listiter_next hit.typeIs entry_listiter_next ?_ (args_listiter_next _))
  refine wpAny_bind (m := field (.ref it) 0) (wpAny_field ho hd (x := .ref l) rfl ?_)
  dsimp only
  rw [if_neg hneq]
  refine wpAny_bind (m := field (.ref it) 1) (wpAny_field ho hd (x := .int j 0) rfl (wpAny_bind (m := seqItems? (.ref l)) (wpAny_seqItems hol hdl ?_)))
  simp only [Int.toNat_natCast, hx]
  refine wpAny_bind (wpAny_setField ho hd (by simp) (wpAny_pure ⟨x, rfl, hQ _ ⟨_, Heap.get?_update_self _ ho (Obj.isFreed_of_fields (Obj.data_mapFields hd _)), (Obj.cls_mapFields ..).trans hc, ?_⟩ fun c o hcn e => (Heap.SameBut.update ..).extBut c o hcn e⟩))
  rw [Obj.data_mapFields hd]; simp [rawInt]
theorem iter_end {Q : Option Value → Shared → Prop} (hh : A.handled = none) (hit : s.heap.IsListIter it l j) (hl : s.heap.IsList l items) (hx : items[j]? = none)
    (hE : ∀ h' e, (∀ c o, c ≠ it → s.heap.get? c = some o → h'.get? c = some o) → (∃ o, h'.get? e = some o ∧ o.cls = .type "StopIteration") → E (.ref e) { s with heap := h' }) : wpAny (model prog w) A (callSpecial? (.ref it) "__next__") Q E s := by
  obtain ⟨o, ho, hc, hd⟩ := id hit
  obtain ⟨ol, hol, _, nl, hdl⟩ := hl
  have hneq : ¬ ((Value.ref l == Value.none) = true) := Bool.false_ne_true
  refine wpAny_callSpecial?_slot hit.typeIs slot_listiter_next (wpAny_call_entry slot_listiter_next hit.typeIs entry_listiter_next ?_ (args_listiter_next _))
  refine wpAny_bind (m := field (.ref it) 0) (wpAny_field ho hd (x := .ref l) rfl ?_)
  dsimp only
  rw [if_neg hneq]
  refine wpAny_bind (m := field (.ref it) 1) (wpAny_field ho hd (x := .int j 0) rfl (wpAny_bind (m := seqItems? (.ref l)) (wpAny_seqItems hol hdl ?_)))
  simp only [Int.toNat_natCast, hx]
  refine wpAny_bind (wpAny_rule (wpAny_bind (wpAny_setField ho hd (by simp) ?_)))
  refine wpAny_bind (m := newExc (.type "StopIteration") []) ?_
  simp only [newExc, newTuple]
  refine wpAny_bind (wpAny_newObj_type ?_ (by size_fits))
  refine wpAny_bind (m := firstArgMember _ _) (wpAny_of_eq (a := Value.none) (by first | rfl | (simp only [firstArgMember]; rfl)) ?_)
  refine wpAny_newObj_type ?_ (by size_fits)
  simp only [raiseNew]
  refine wpAny_bind (wpAny_handled ?_)
  first | rw [show A.in1.handled = none from hh] | rw [hh]
  exact wpAny_bind (wpAny_pure (wpAny_throw (hE _ _ (fun c o hcn e => (((Heap.SameBut.update ..).extBut.push _).push _) c o hcn e) ⟨_, Heap.get?_push_size _ rfl, rfl⟩)))
end
noncomputable abbrev filtO (b it : Addr) : Obj := { cls := .type "filter", data := .fields #[.ref b, .ref it] }
noncomputable abbrev litO (l : Addr) : Obj := { cls := .type "list_iterator", data := .fields #[.ref l, .int 0 0] }
/-- a filter object of a set's __contains__, over a list of texts, j items on -/
structure FiltAt (prog : Program) (w : World) (F it l b D : Addr) (items : Array Value) (S : Str → Bool) (m : Nat) (h : Heap) (j : Nat) : Prop where
  f : h.get? F = some (filtO b it)
  i : h.IsListIter it l j
  l : h.IsList l items
  b : h.get? b = some (boundC D)
  s : h.SetOf (strKind prog w) D S m
structure FiltApart (F it l b D : Addr) : Prop where
  f : it ≠ F
  l : it ≠ l
  b : it ≠ b
  d : it ≠ D
theorem FiltAt.keep {prog : Program} {w : World} {F it l b D : Addr} {items : Array Value} {S : Str → Bool} {m : Nat} {h h' : Heap} {j j' : Nat} (Z : FiltApart F it l b D) (q : FiltAt prog w F it l b D items S m h j) (hi : h'.IsListIter it l j')
    (k : ∀ c o, c ≠ it → h.get? c = some o → h'.get? c = some o) : FiltAt prog w F it l b D items S m h' j' :=
  ⟨k _ _ Z.f.symm q.f, hi, q.l.at fun o e => k _ _ Z.l.symm e, k _ _ Z.b.symm q.b, by obtain ⟨o, es, ep, t, ho, rest⟩ := q.s; exact ⟨o, es, ep, t, k _ _ Z.d.symm ho, rest⟩⟩
section
variable {prog : Program} {w : World} {A : Around} {E : Value → Shared → Prop} {s : Shared} {F it l b D : Addr} {items : Array Value} {ys : List Str} {S : Str → Bool} {m : Nat}
theorem filt_body {R : PySem.Result → Shared → Prop} (hh : A.handled = none) (Z : FiltApart F it l b D) (hi : ∀ (i : Nat) (v : Value), items[i]? = some v → ∃ y t, ys[i]? = some y ∧ v = .str y t) (hz : items.size = ys.length) : ∀ (todo j : Nat) (s : Shared), j + todo = ys.length → FiltAt prog w F it l b D items S m s.heap j →
    (∀ j' y t h' tk, j ≤ j' → ys[j']? = some y → S y = true → (∀ i x, j ≤ i → i < j' → ys[i]? = some x → S x = false) → h'.IsListIter it l (j' + 1) → (∀ c o, c ≠ it → s.heap.get? c = some o → h'.get? c = some o) → s.toks ≤ tk → R (.ok (.ret (Value.str y t))) { s with heap := h', toks := tk }) →
    ((∀ i x, j ≤ i → ys[i]? = some x → S x = false) → ∀ h' e tk, (∀ c o, c ≠ it → s.heap.get? c = some o → h'.get? c = some o) → s.toks ≤ tk → (∃ o, h'.get? e = some o ∧ o.cls = .type "StopIteration") → R (.error (.ref e)) { s with heap := h', toks := tk }) →
    wpAny (model prog w) A.in1 (Builtin.«filter.__next__» ⟨[.ref F], []⟩) (fun fin s' => match fin with | .done f => R (.ok f) s' | .again c' => c'.quiet = true ∧ codeAny (model prog w) A c' R s') (fun e s' => R (.error e) s') s := by
  intro todo
  induction todo with
  | zero =>
    intro j s hj Q hit miss
    unfold Builtin.«filter.__next__»
    refine wpAny_bind (wpAny_of_eq (a := (.ref F, [])) (by rfl) ?_)
    refine wpAny_bind (wpAny_field Q.f rfl (x := .ref b) rfl ?_)
    refine wpAny_bind (wpAny_field Q.f rfl (x := .ref it) rfl ?_)
    have hx : items[j]? = none := by rw [Array.getElem?_eq_none_iff]; lia
    refine wpAny_bind (iter_end (A := A.in1) hh Q.i Q.l hx fun h' e k he => miss (fun i x h1 h2 => ?_) h' e s.toks k (Nat.le_refl _) he)
    have := (List.getElem?_eq_some_iff.mp h2).1
    lia
  | succ todo ih =>
    intro j s hj Q hit miss
    have hlt : j < items.size := by lia
    obtain ⟨y, t, hy, hv⟩ := hi j _ (Array.getElem?_eq_getElem hlt)
    unfold Builtin.«filter.__next__»
    refine wpAny_bind (wpAny_of_eq (a := (.ref F, [])) (by rfl) ?_)
    refine wpAny_bind (wpAny_field Q.f rfl (x := .ref b) rfl ?_)
    refine wpAny_bind (wpAny_field Q.f rfl (x := .ref it) rfl ?_)
    refine wpAny_bind (iter_item Q.i Q.l (Array.getElem?_eq_getElem hlt) fun h' hi' k => ?_)
    rw [hv]
    have Q' := Q.keep Z hi' k
    dsimp only
    refine wpAny_bind (wpAny_holding ?_)
    rw [if_neg (by simp)]
    refine wpAny_bind (call_bound (s := { s with heap := h' }) Q'.b Q'.s ?_)
    refine wpAny_holding (wpAny_truthy_bool ?_)
    cases hS : S y with
    | true =>
      exact wpAny_pure (hit j y t h' (s.toks + 1) (Nat.le_refl _) hy hS (fun i x h1 h2 _ => absurd h1 (Nat.not_le.mpr h2)) hi' k (Nat.le_succ _))
    | false =>
      refine wpAny_pure ⟨plainId_quiet G.plain_filter_next _, codeAny_builtin G.entry_filter_next ?_⟩
      rw [Around.under_plainId G.plain_filter_next _]
      have less : ∀ i x, j ≤ i → (∀ i x, j + 1 ≤ i → ys[i]? = some x → S x = false) → ys[i]? = some x → S x = false := fun i x h1 h2 h3 => by
        rcases Nat.eq_or_lt_of_le h1 with rfl | h1
        · rw [hy] at h3; cases h3; exact hS
        · exact h2 i x h1 h3
      refine ih (j + 1) _ (by lia) Q' (fun j' y' t' h'' tk h1 h2 h3 h4 h5 h6 h7 => ?_) (fun h1 h'' e tk h2 h3 h4 => ?_)
      · refine hit j' y' t' h'' tk (by lia) h2 h3 (fun i x q1 q2 q3 => ?_) h5 (fun c o hc e => h6 c o hc (k c o hc e)) (Nat.le_trans (Nat.le_succ _) h7)
        rcases Nat.eq_or_lt_of_le q1 with rfl | q1
        · rw [hy] at q3; cases q3; exact hS
        · exact h4 i x q1 q2 q3
      · exact miss (fun i x q1 q2 => less i x q1 h1 q2) h'' e tk (fun c o hc e => h2 c o hc (k c o hc e)) (Nat.le_trans (Nat.le_succ _) h3) h4
end
end Mine
end C31

section C32
open PySem PySem.W PyProof.Rows Builtin
set_option Elab.async false
set_option linter.unusedVariables false
set_option maxRecDepth 100000
namespace Mine
theorem filter_at {ys : List Str} {S : Str → Bool} {j j' i : Nat} {y : Str} (hj : j ≤ j') (hy : ys[j']? = some y) (hS : S y = true) (hno : ∀ i x, j ≤ i → i < j' → ys[i]? = some x → S x = false) (hi : ((ys.take j).filter S).length = i) :
    (ys.filter S)[i]? = some y ∧ ((ys.take (j' + 1)).filter S).length = i + 1 := by
  have hlt := (List.getElem?_eq_some_iff.mp hy).1
  have h1 : (ys.take j').filter S = (ys.take j).filter S := by
    have e : ys.take j' = ys.take j ++ (ys.drop j).take (j' - j) := by
      rw [← List.take_append_drop j (ys.take j'), List.take_take, Nat.min_eq_left hj, List.drop_take]
    rw [e, List.filter_append]
    have : ((ys.drop j).take (j' - j)).filter S = [] := by
      rw [List.filter_eq_nil_iff]
      intro x hx
      obtain ⟨n, hn, rfl⟩ := List.getElem_of_mem hx
      simp only [List.length_take, List.length_drop] at hn
      have := hno (j + n) _ (by lia) (by lia) (List.getElem?_eq_getElem (by lia))
      simp only [List.getElem_take, List.getElem_drop]
      rw [this]; exact Bool.false_ne_true
    rw [this, List.append_nil]
  have h2 : ys.take (j' + 1) = ys.take j' ++ [y] := by rw [List.take_add_one, hy]; rfl
  have h3 : ys = ys.take (j' + 1) ++ ys.drop (j' + 1) := (List.take_append_drop _ _).symm
  refine ⟨?_, by rw [h2, List.filter_append, h1, List.length_append, hi]; simp [hS]⟩
  rw [h3, List.filter_append, h2, List.filter_append, h1]
  have : [y].filter S = [y] := by simp [hS]
  rw [this, List.getElem?_append_left (by rw [List.length_append, hi]; simp), List.getElem?_append_right (by lia), hi, Nat.sub_self]
  rfl
theorem filter_none {ys : List Str} {S : Str → Bool} {j i : Nat} (hno : ∀ i x, j ≤ i → ys[i]? = some x → S x = false) (hi : ((ys.take j).filter S).length = i) : (ys.filter S).length = i := by
  have h3 : ys = ys.take j ++ ys.drop j := (List.take_append_drop _ _).symm
  rw [h3, List.filter_append, List.length_append, hi]
  have : (ys.drop j).filter S = [] := by
    rw [List.filter_eq_nil_iff]
    intro x hx
    obtain ⟨n, hn, rfl⟩ := List.getElem_of_mem hx
    simp only [List.length_drop] at hn
    have := hno (j + n) _ (by lia) (List.getElem?_eq_getElem (by lia))
    simp only [List.getElem_drop]
    rw [this]; exact Bool.false_ne_true
  rw [this]; rfl
section
variable {prog : Program} {w : World} {A : Around} {E : Value → Shared → Prop} {s : Shared} {F it l b D : Addr} {items : Array Value} {ys : List Str} {S : Str → Bool} {m : Nat}
/-- the i-th text that is kept -/
noncomputable def Kept (ys : List Str) (S : Str → Bool) (i : Nat) (v : Value) : Prop := ∃ y t, (ys.filter S)[i]? = some y ∧ v = Value.str y t
noncomputable def FSt (prog : Program) (w : World) (F it l b D : Addr) (items : Array Value) (ys : List Str) (S : Str → Bool) (m : Nat) (i : Nat) (s : Shared) : Prop := ∃ j, j ≤ ys.length ∧ FiltAt prog w F it l b D items S m s.heap j ∧ ((ys.take j).filter S).length = i
theorem FiltAt.type {j : Nat} (q : FiltAt prog w F it l b D items S m s.heap j) : s.TypeIs (.ref F) "filter" := ⟨_, q.f, rfl⟩
theorem filt_next {Q : Option Value → Shared → Prop} (hh : A.handled = none) (Z : FiltApart F it l b D) (hi : ∀ (i : Nat) (v : Value), items[i]? = some v → ∃ y t, ys[i]? = some y ∧ v = .str y t) (hz : items.size = ys.length) {j : Nat} (hj : j ≤ ys.length) (q : FiltAt prog w F it l b D items S m s.heap j)
    (hit : ∀ j' y t h' tk, j ≤ j' → ys[j']? = some y → S y = true → (∀ i x, j ≤ i → i < j' → ys[i]? = some x → S x = false) → h'.IsListIter it l (j' + 1) → (∀ c o, c ≠ it → s.heap.get? c = some o → h'.get? c = some o) → s.toks ≤ tk → Q (some (Value.str y t)) { s with heap := h', toks := tk })
    (miss : (∀ i x, j ≤ i → ys[i]? = some x → S x = false) → ∀ h' tk, (∀ c o, c ≠ it → s.heap.get? c = some o → h'.get? c = some o) → s.toks ≤ tk → Q none { s with heap := h', toks := tk }) : wpAny (model prog w) A (pyNext (.ref F)) Q E s := by
  unfold pyNext
  refine wpAny_bind (wpAny_attempt (wpAny_callSpecial?_slot (name := Str.ofString "__next__") q.type G.slot_filter_next ?_))
  refine wpAny_mono (Q := fun v s' => Q (some v) s') (E := fun e s' => ∃ o, ∃ a, e = .ref a ∧ s'.heap.get? a = some o ∧ o.cls = .type "StopIteration" ∧ Q none s') ?_ (fun v s' h => wpAny_pure h) fun e s' ⟨o, a, he, ho, hc, h⟩ => ?_
  · refine wpAny_call (codeAny_call_builtin G.slot_filter_next.plain G.entry_filter_next (G.slot_filter_next.check _ _ _ _ _ _ _ _ q.type (G.args_filter_next _) ?_))
    refine filt_body (R := wants (fun v s' => Q (some v) s') fun e s' => ∃ o, ∃ a, e = .ref a ∧ s'.heap.get? a = some o ∧ o.cls = .type "StopIteration" ∧ Q none s') (ys := ys) hh Z hi hz (ys.length - j) j s (by lia) q hit fun hno h' e' tk h2 h3 ⟨o, ho, hc⟩ => ?_
    exact ⟨o, e', rfl, ho, hc, miss hno h' tk h2 h3⟩
  · subst he
    exact wpAny_bind (wpAny_isInstance (T := "StopIteration") (b := true) ⟨o, ho, hc⟩ isSubtype_stop (wpAny_pure h))
theorem filt_walks (hh : A.handled = none) (Z : FiltApart F it l b D) (hi : ∀ (i : Nat) (v : Value), items[i]? = some v → ∃ y t, ys[i]? = some y ∧ v = .str y t) (hz : items.size = ys.length) :
    WalksS prog w A F [F, it, l, b, D] [it] (fun a b => b = a) (ys.filter S).length (Kept ys S) (FSt prog w F it l b D items ys S m) where
  sub := fun c hc => by simp at hc; simp [hc]
  grefl := fun _ => rfl
  gtrans := fun _ _ _ h1 h2 => h2.trans h1
  frame := fun i s h' tk ⟨j, hj, q, e⟩ _ k => ⟨j, hj, ⟨k F (by simp) _ q.f, q.i.at fun o e => k it (by simp) o e, q.l.at fun o e => k l (by simp) o e, k b (by simp) _ q.b, by obtain ⟨o, es, ep, t, ho, rest⟩ := q.s; exact ⟨o, es, ep, t, k D (by simp) _ ho, rest⟩⟩, e⟩
  item := fun i s Q E hlt ⟨j, hj, q, e⟩ hQ => by
    refine filt_next (ys := ys) hh Z hi hz hj q (fun j' y t h' tk h1 h2 h3 h4 h5 h6 h7 => ?_) fun hno h' tk h2 h3 => ?_
    · obtain ⟨p1, p2⟩ := filter_at h1 h2 h3 h4 e
      have hlt' := (List.getElem?_eq_some_iff.mp h2).1
      exact hQ _ _ ⟨y, t, p1, rfl⟩ ⟨j' + 1, hlt', q.keep Z h5 h6, p2⟩ ⟨fun c o hc ec => h6 c o (fun z => hc (by simp [z])) ec, rfl, rfl, rfl, h7⟩
    · have := filter_none hno e
      lia
  done := fun s Q E ⟨j, hj, q, e⟩ hQ => by
    refine filt_next (ys := ys) hh Z hi hz hj q (fun j' y t h' tk h1 h2 h3 h4 h5 h6 h7 => ?_) fun hno h' tk h2 h3 => ?_
    · obtain ⟨p1, p2⟩ := filter_at h1 h2 h3 h4 e
      have := (List.getElem?_eq_some_iff.mp p1).1
      lia
    · exact hQ _ ⟨fun c o hc ec => h2 c o (fun z => hc (by simp [z])) ec, rfl, rfl, rfl, h3⟩
  self := fun i s Q E ⟨j, hj, q, e⟩ hQ => by
    refine wpAny_pyIter_slot q.type G.slot_filter_iter (wpAny_call_entry G.slot_filter_iter q.type G.entry_filter_iter ?_ (G.args_filter_iter _))
    show wpAny _ _ (ret (.ref F)) _ _ s
    exact wpAny_pure ⟨_, rfl, "filter", _, q.type, G.slot_filter_next.lookup, hQ⟩
theorem meets_filter_new (b l : Addr) (xs : Array Value) :
    Meets (Builtin.«filter.__new__» ⟨[.type "filter", .ref b, .ref l], []⟩) (fun _ R s => s.heap.IsList l xs ∧ R (.ok (.ret (.ref (s.heap.push (litO l)).objs.size))) { s with heap := (s.heap.push (litO l)).push (filtO b s.heap.objs.size) }) :=
  .of_wp fun prog w A R s h => by
    obtain ⟨hp, g, d, tk, os⟩ := s; obtain ⟨hl1, h⟩ := h
    have hsub := G.sub_filter
    have hL1 : Heap.IsList (Shared.heap ⟨hp, g, d, tk, os⟩) l xs := hl1
    wp_walk using wpAny_pyIter_list hL1
    exact ⟨_, rfl, h⟩
theorem call_filter {Q : Value → Shared → Prop} (hl : s.heap.IsList l items) (h : Q (.ref (s.heap.objs.size + 1)) { s with heap := (s.heap.push (litO l)).push (filtO b s.heap.objs.size) }) : wpAny (model prog w) A (call (.type "filter") [.ref b, .ref l]) Q E s := by
  refine callType_new G.called_filter (by decide) (G.typeCall_filter _ _) (G.newCall_filter _ _) (fun obj => F.args_object_init_3 obj _ _) G.entry_filter_new (meets_filter_new b l items) ⟨hl, ?_⟩
  have z : (s.heap.push (litO l)).objs.size = s.heap.objs.size + 1 := Heap.size_push ..
  show _ ∧ _
  refine ⟨⟨_, Heap.get?_push_size _ rfl, rfl⟩, ?_⟩
  rw [z]; exact h
end
end Mine
end C32

section C33
open PySem PySem.W PyProof.Rows Builtin
set_option Elab.async false
set_option linter.unusedVariables false
set_option maxRecDepth 100000
namespace Mine
section
variable {prog : Program} {w : World} {A : Around} {E : Value → Shared → Prop} {s : Shared} {R : PySem.Result → Shared → Prop}
variable {I : Addr} {fp wr : List Addr} {Gn : Array GenState → Array GenState → Prop} {n : Nat} {P : Nat → Value → Prop} {St : Nat → Shared → Prop}
theorem extend_filt (W : WalksS prog w A.in1 I fp wr Gn n P St) (hT : ∀ i s, St i s → s.TypeIs (.ref I) "filter") (D : Addr) (st : St 0 s) (hD : D ∉ fp) (hI : I ∈ fp) {c₀ : Nat} (hS : s.heap.get? D = some { cls := .type "list", data := .seq #[] c₀ })
    (hR : ∀ s' acc' c', Moved (D :: wr) Gn s s' → s'.heap.get? D = some { cls := .type "list", dict := none, data := .seq acc' c', slots := #[] } → ItemsOf P acc' n → R (.ok (.ret .none)) s') (hn : n ≤ sizeLine) :
    wpAny (model prog w) A.in1 (Builtin.List.listExtendWith (.ref D) (.ref I) .none)
      (fun fin s' => match fin with | .done f => R (.ok f) s' | .again c' => c'.quiet = true ∧ codeAny (model prog w) A c' R s') (fun e s' => R (.error e) s') s := by
  have hne : D ≠ I := fun e => hD (e ▸ hI)
  have T0 := hT 0 _ st
  unfold Builtin.List.listExtendWith
  refine wpAny_bind (wpAny_typeOf T0 ?_)
  have h1 : Builtin.List.listSameRef (.ref D) (.ref I) = false := by simp [Builtin.List.listSameRef, hne]
  have h2 : (Value.type "filter" == Value.type "list") = false := by decide
  have h3 : (Value.type "filter" == Value.type "tuple") = false := by decide
  simp only [h1, h2, h3, Bool.or_false, Bool.false_eq_true, if_false]
  refine wpAny_bind (W.self 0 _ _ _ st (wpAny_bind (wpAny_holding ?_)))
  unfold Builtin.List.listLengthHint
  refine wpAny_bind (wpAny_specialOf T0 G.no_len ?_)
  show wpAny _ A.in1 (specialOf (Value.ref I) (Str.ofString "__length_hint__") >>= _) _ _ _
  refine wpAny_bind (wpAny_specialOf T0 G.no_hint (wpAny_pure ?_))
  show wpAny _ A.in1 (rule "list.extend.makes-room" >>= fun _ => Builtin.List.listTouch (.ref D) >>= fun _ =>
    again (.builtin "list.extend.loop" ⟨[.ref D, .ref I, .none], []⟩)) _ _ _
  refine wpAny_bind (wpAny_rule (wpAny_bind ?_))
  show wpAny _ A.in1 (updateSeq D (·.push .none) >>= fun _ => updateSeq D (·.pop)) _ _ _
  refine wpAny_bind (wpAny_updateSeq hS rfl ?_)
  have e₂ := Heap.get?_update_self (Obj.mapSeq (·.push Value.none)) hS rfl
  refine wpAny_updateSeq (hz := by seq_fits) e₂ rfl ?_
  have e₃ := Heap.get?_update_self (Obj.mapSeq (·.pop)) e₂ rfl
  have oth : ∀ b o, b ≠ D → s.heap.get? b = some o → ((s.heap.update D (Obj.mapSeq (·.push Value.none))).update D (Obj.mapSeq (·.pop))).get? b = some o :=
    fun b o hb e => (Heap.get?_update_other _ _ (Ne.symm hb)).trans ((Heap.get?_update_other _ _ (Ne.symm hb)).trans e)
  refine wpAny_pure ⟨plainId_quiet F.plain_extend_loop _, codeAny_extend_loopS W hn _ hD _ n 0 _ _ _ rfl (Nat.zero_le _)
    (W.frame 0 s _ s.toks st (Nat.le_refl _) fun b hb o e => oth b o (fun h => hD (h ▸ hb)) e) e₃ (ItemsOf.nil P) fun s' acc' c' mv hS' hacc => ?_⟩
  exact hR s' acc' c' (Moved.trans W.gtrans ((Moved.refl W.grefl).then_heap (Nat.le_refl _) fun b o hb e => oth b o (fun h => hb (h ▸ List.mem_cons_self)) e) mv) hS' hacc
theorem list_of_filt {Q : Value → Shared → Prop} (W : WalksS prog w A.in1.in1 I fp wr Gn n P St) (hT : ∀ i s, St i s → s.TypeIs (.ref I) "filter") (st : St 0 s) (hfp : ∀ b ∈ fp, b < s.heap.objs.size) (hI : I ∈ fp)
    (hQ : ∀ s' acc' c', Moved (s.heap.objs.size :: wr) Gn { s with heap := s.heap.push { cls := .type "list", data := .seq #[] } } s' →
      s'.heap.get? s.heap.objs.size = some { cls := .type "list", dict := none, data := .seq acc' c', slots := #[] } → ItemsOf P acc' n → Q (.ref s.heap.objs.size) s') (hn : n ≤ sizeLine) :
    wpAny (model prog w) A (call (.type "list") [.ref I]) Q E s := by
  have hD : s.heap.objs.size ∉ fp := fun hm => Nat.lt_irrefl _ (hfp _ hm)
  refine callType_codes (Q₁ := fun obj s₁ => obj = .ref s.heap.objs.size ∧ s₁ = { s with heap := s.heap.push { cls := .type "list", data := .seq #[] } }) F.called_list (F.typeCall_list_1 _) F.entry_list_init
    (code_list_new _ ⟨rfl, rfl⟩) fun obj s₁ h₁ => ?_
  obtain ⟨rfl, rfl⟩ := h₁
  have hS : (s.heap.push { cls := .type "list", data := .seq #[] }).get? s.heap.objs.size = some { cls := .type "list", data := .seq #[] } := Heap.get?_push_size _ rfl
  refine ⟨⟨_, hS, rfl⟩, F.args_list_init_2 _ _, ?_⟩
  have st₁ := W.frame 0 s (s.heap.push { cls := .type "list", data := .seq #[] }) s.toks st (Nat.le_refl _) fun b _ o e => Heap.get?_push_of_some _ e
  show wpAny _ A.in1.in1 (do let old ← Builtin.List.listItems (.ref s.heap.objs.size); Builtin.List.listUpdate (.ref s.heap.objs.size) (fun _ => #[]); letGo old.toList.reverse; Builtin.List.listExtendWith (.ref s.heap.objs.size) (.ref I) .none) _ _ _
  refine wpAny_bind ?_
  unfold Builtin.List.listItems
  refine wpAny_bind (wpAny_seqItems hS rfl (wpAny_pure ?_))
  show wpAny _ A.in1.in1 (updateSeq s.heap.objs.size (fun _ => #[]) >>= fun _ => letGo (#[] : Array Value).toList.reverse >>= fun _ => Builtin.List.listExtendWith (.ref s.heap.objs.size) (.ref I) .none) _ _ _
  refine wpAny_bind (wpAny_updateSeq hS rfl ?_)
  have e₂ := Heap.get?_update_self (Obj.mapSeq (fun _ => (#[] : Array Value))) hS rfl
  have oth : ∀ b o, b ≠ s.heap.objs.size → (s.heap.push { cls := .type "list", data := .seq #[] }).get? b = some o → ((s.heap.push { cls := .type "list", data := .seq #[] }).update s.heap.objs.size (Obj.mapSeq (fun _ => (#[] : Array Value)))).get? b = some o :=
    fun b o hb e => (Heap.get?_update_other _ _ (Ne.symm hb)).trans e
  refine wpAny_bind (wpAny_letGo ?_)
  refine extend_filt (s := { s with heap := (s.heap.push { cls := .type "list", data := .seq #[] }).update s.heap.objs.size (Obj.mapSeq (fun _ => (#[] : Array Value))) }) W hT _ (W.frame 0 { s with heap := s.heap.push { cls := .type "list", data := .seq #[] } } _ s.toks st₁ (Nat.le_refl _) fun b hb o e => oth b o (fun h => hD (h ▸ hb)) e) hD hI e₂ (fun s' acc' c' mv hS' hacc => ?_) hn
  exact ⟨rfl, hQ s' acc' c' (Moved.trans W.gtrans ((Moved.refl W.grefl).then_heap (Nat.le_refl _) fun b o hb e => oth b o (fun h => hb (h ▸ List.mem_cons_self)) e) mv) hS' hacc⟩
end
end Mine
end C33

section C34
open PySem PySem.W PyProof.Rows
set_option Elab.async false
set_option linter.unusedVariables false
set_option maxRecDepth 100000
namespace Mine
/-- sets of texts, and what their __contains__ is as a value -/
noncomputable def strIn (ys : List (List Nat)) (y : Str) : Bool := decide (y ∈ ys.map strL)
noncomputable def setX (prog : Program) (w : World) (ys : List (List Nat)) (P : Addr → Prop) (h : Heap) (v : Value) : Prop := ∃ a m, v = .ref a ∧ ¬ P a ∧ h.SetOf (strKind prog w) a (strIn ys) m
noncomputable def conX (prog : Program) (w : World) (ys : List (List Nat)) (P : Addr → Prop) (h : Heap) (v : Value) : Prop := ∃ b a m, v = .ref b ∧ ¬ P b ∧ ¬ P a ∧ h.get? b = some (boundC a) ∧ h.SetOf (strKind prog w) a (strIn ys) m
theorem setOf_pass {prog : Program} {w : World} {P P' : Addr → Prop} {h h' : Heap} {a : Addr} {S : Str → Bool} {m : Nat} (g : Pass P h P' h') (na : ¬ P a) (q : h.SetOf (strKind prog w) a S m) : h'.SetOf (strKind prog w) a S m ∧ ¬ P' a := by
  obtain ⟨o, es, ep, t, ho, rest⟩ := q
  exact ⟨⟨o, es, ep, t, (g a o na ho).1, rest⟩, (g a o na ho).2⟩
/-- kinds 2 and 3 of the extra values -/
noncomputable def extX (prog : Program) (w : World) (X : Ext) : Ext := fun t x P h v => match t with
  | 2 => setX prog w x P h v
  | 3 => conX prog w x P h v
  | t => X t x P h v
theorem extX_ok {prog : Program} {w : World} {X : Ext} (hX : ExtOk X) : ExtOk (extX prog w X) := fun t x P h P' h' v q g => by
  unfold extX at q ⊢
  split at q
  · obtain ⟨a, m, rfl, na, q⟩ := q
    have r := setOf_pass g na q
    exact ⟨a, m, rfl, r.2, r.1⟩
  · obtain ⟨b, a, m, rfl, nb, na, e, q⟩ := q
    have r := setOf_pass g na q
    exact ⟨b, a, m, rfl, (g b _ nb e).2, r.2, (g b _ nb e).1, r.1⟩
  · exact hX _ _ _ _ _ _ _ q g
noncomputable def SetsX (C : Cx) : Prop := ∀ x P h v, (C.X 2 x P h v ↔ setX C.prog C.w x P h v) ∧ (C.X 3 x P h v ↔ conX C.prog C.w x P h v)
theorem strs_are' {X : Ext} {P h} {xs : List (List Nat)} {vs : List Value} (r : RdL X P h vs (xs.map .str)) : StrsAre vs (xs.map strL) := by
  obtain ⟨ys, h1, h2⟩ := strs_are r
  have : xs.map strL = ys := by
    rw [← h2, List.map_map]
    conv => rhs; rw [← List.map_id ys]
    exact List.map_congr_left fun y _ => strL_toList y
  rw [this]; exact h1
section
variable {C : Cx} {k : Nat} {σ : Sto} {K : PV → Sto → Prop}
theorem OpL.setNew {a : PV} {ys : List (List Nat)} (X : SetsX C) (ha : LRead C σ a (ys.map .str)) (hb : ys.length + 1 < 4096) (h : K (.ext 2 ys) σ) : OpL C k σ [a] (fun vs => PySem.call (.type "set") vs) K := fun A P s vs hr H r => by
  obtain ⟨v, rfl, r₁⟩ := r.one
  obtain ⟨l, vs, n, rfl, e, rl⟩ := ha P s v H r₁
  refine with_size (set_of_strs hr.handled (isList_of e) (strs_are' rl) (by rw [List.length_map]; exact hb) fun h' tk m hS k hz => ?_)
  exact ⟨_, σ, h, After.kept H k hz, .ext ((X _ _ _ _).1.mpr ⟨_, m, rfl, H.fresh, hS⟩)⟩
theorem Op1.contains {ys : List (List Nat)} (X : SetsX C) (h : K (.ext 3 ys) σ) : Op1 C k σ (.ext 2 ys) (fun v => getAttr v "__contains__" true) K := fun A P s v hr H r => by
  have q := r.extE
  obtain ⟨a, m, rfl, na, hS⟩ := (X _ _ _ _).1.mp q
  obtain ⟨o, es, ep, tb, ho, hex, hd, rest⟩ := id hS
  obtain ⟨oc, od, odata, osl⟩ := o
  obtain ⟨h1, h2, h3⟩ := id hex
  simp only at h1 h2 hd
  subst h1; subst h2; subst hd
  refine set_bound ho ?_
  have A' := After.push (o := boundC a) (n := s.toks + 1) H
  refine ⟨_, σ, h, A', .ext ((X _ _ _ _).2.mpr ⟨_, a, m, rfl, H.fresh, fun q => ?_, Heap.get?_push_size _ rfl, ⟨_, es, ep, tb, Heap.get?_push_of_some _ ho, hex, rfl, rest⟩⟩)⟩
  exact q.elim na fun q => na (H.pdom a q).1
end
theorem kept_rd {X : Ext} {P h} {ys xs : List (List Nat)} {acc : Array Value} (hi : ItemsOf (Kept (xs.map strL) (strIn ys)) acc ((xs.map strL).filter (strIn ys)).length) : RdL X P h acc.toList ((xs.filter fun x => decide (x ∈ ys)).map .str) := by
  have e0 : (xs.map strL).filter (strIn ys) = (xs.filter fun x => decide (x ∈ ys)).map strL := by
    rw [List.filter_map]
    congr 1
    apply List.filter_congr
    intro x _
    show strIn ys (strL x) = decide (x ∈ ys)
    unfold strIn
    have : strL x ∈ ys.map strL ↔ x ∈ ys := by
      constructor
      · intro q
        obtain ⟨z, hz, e⟩ := List.mem_map.mp q
        have := congrArg (fun s : Str => s.cps.toList) e
        simp [strL] at this
        exact this ▸ hz
      · exact fun q => List.mem_map_of_mem q
    simp [this]
  rw [e0, List.length_map] at hi
  unfold Kept at hi
  rw [e0] at hi
  generalize (xs.filter fun x => decide (x ∈ ys)) = zs at hi
  obtain ⟨hz, hi⟩ := hi
  obtain ⟨acc⟩ := acc
  simp only [List.size_toArray] at hz
  have hi' : ∀ (j : Nat) (v : Value), acc[j]? = some v → ∃ y t, (zs.map strL)[j]? = some y ∧ v = Value.str y t := fun j v e => hi j v (by simpa using e)
  clear hi e0
  show RdL X P h acc _
  induction acc generalizing zs with
  | nil =>
    cases zs with
    | nil => exact .nil
    | cons z zs => cases hz
  | cons v acc ih =>
    cases zs with
    | nil => cases hz
    | cons z zs =>
      obtain ⟨y, t, hy, rfl⟩ := hi' 0 v rfl
      simp at hy
      subst hy
      have : Rd X P h (Value.str (strL z) t) (.str (strL z).cps.toList) := .str _ _
      rw [show (strL z).cps.toList = z by simp [strL]] at this
      exact .cons this (ih zs (by simpa using hz) fun j v e => by simpa using hi' (j + 1) v (by simpa using e))
theorem Ev.listFilter {C : Cx} {k : Nat} {sc ρ σ K fe xe p1 p2 pos1 pos2} {ys xs : List (List Nat)} (X : SetsX C) (bl : C.mg "list" = Option.none ∧ C.mb "list" = some (.type "list")) (bf : C.mg "filter" = Option.none ∧ C.mb "filter" = some (.type "filter"))
    (hk1 : sc.names.lookup (Str.ofString "list") = some NameKind.globalImplicit) (hk2 : sc.names.lookup (Str.ofString "filter") = some NameKind.globalImplicit) (hp : [fe, xe].all plainE = true)
    (h : Ev C k sc ρ σ fe fun f σ₁ => f = .ext 3 ys ∧ Ev C k sc ρ σ₁ xe fun d σ₂ => LRead C σ₂ d (xs.map .str) ∧ xs.length ≤ 10000 ∧ K (.list ((xs.filter fun x => decide (x ∈ ys)).map .str)) σ₂) :
    Ev C k sc ρ σ (.Call (.Name "list" p1) [.Call (.Name "filter" p2) [fe, xe] [] pos2] [] pos1) K := fun A P env s he hr I => by
  have E1 : Ev C k sc ρ σ (.Name "list" p1) fun d σ' => d = .raw (.type "list") ∧ σ' = σ := Ev.builtin hk1 bl.1 bl.2 ⟨rfl, rfl⟩
  have E2 : Ev C k sc ρ σ (.Name "filter" p2) fun d σ' => d = .raw (.type "filter") ∧ σ' = σ := Ev.builtin hk2 bf.1 bf.2 ⟨rfl, rfl⟩
  refine Call_ (ev_one E1 he hr I fun v d σ₁ s₁ hK A₁ r => ?_) rfl
  obtain ⟨rfl, rfl⟩ := hK
  obtain rfl := r.rawE
  have I₁ := I.after A₁
  refine wp_seq A₁ I.hp ?_
  refine callWith_of (P := C.gi) rfl (fun h' g => let ⟨k, a, b⟩ := (Callable.type (C := C) (T := "list")) h' g; ⟨k, a, b _⟩) (evalArgs_of rfl ?_)
  refine Calls.spliced_cons ?_
  refine Call_ (ev_one E2 he hr I₁ fun v₂ d₂ σ₂ s₂ hK₂ A₂ r₂ => ?_) rfl
  obtain ⟨rfl, rfl⟩ := hK₂
  obtain rfl := r₂.rawE
  have A12 := A₂
  have I₂ := I₁.after A₂
  refine callWith_of (P := C.gi) (by rw [plain_trees hp]; rfl) (fun h' g => let ⟨k, a, b⟩ := (Callable.type (C := C) (T := "filter")) h' g; ⟨k, a, b _⟩) (evalArgs_of (plain_trees hp) ?_)
  have hL : EvL C k sc ρ σ₂ [fe, xe] fun ds σ₃ => ∃ d, ds = [.ext 3 ys, d] ∧ LRead C σ₃ d (xs.map .str) ∧ xs.length ≤ 10000 ∧ K (.list ((xs.filter fun x => decide (x ∈ ys)).map .str)) σ₃ :=
    Ev.mono h fun f σ₁ ⟨e, q⟩ => Ev.mono q fun d σ₂ q => ⟨d, by rw [e], q⟩
  refine wpAny_mono (evL_spliced he hr hL hp I₂) (fun vs s₃ o => ?_) fun _ _ x => x
  obtain ⟨ds, σ₃, ⟨d, rfl, hl, hn, hK⟩, A₃, r₃⟩ := o
  obtain ⟨vf, vx, rfl, rf, rx⟩ := r₃.two
  have q := rf.extE
  obtain ⟨b, D, m, rfl, nb, nD, hb, hS⟩ := (X _ _ _ _).2.mp q
  obtain ⟨l, vs, n, rfl, e, rl⟩ := hl _ s₃ vx A₃.hp rx
  refine ⟨A₃.hp.gi, ?_⟩
  refine call_filter (isList_of e) ?_
  have hlt : ∀ {c o}, s₃.heap.get? c = some o → c < s₃.heap.objs.size := fun e => Heap.lt_size e
  have hDlt : D < s₃.heap.objs.size := by obtain ⟨o, es, ep, t, ho, _⟩ := hS; exact hlt ho
  have k2 : ∀ c o, s₃.heap.get? c = some o → ((s₃.heap.push (litO l)).push (filtO b s₃.heap.objs.size)).get? c = some o := fun c o e => Heap.get?_push_of_some _ (Heap.get?_push_of_some _ e)
  have z2 : ((s₃.heap.push (litO l)).push (filtO b s₃.heap.objs.size)).objs.size = s₃.heap.objs.size + 2 := by rw [Heap.size_push, Heap.size_push]
  have e1 : (s₃.heap.push (litO l)).objs.size = s₃.heap.objs.size + 1 := Heap.size_push ..
  refine Calls.spliced_nil ?_
  have A₄ : After C (PP (PP P σ₂) σ₂) σ₂ s₂ σ₃ { s₃ with heap := (s₃.heap.push (litO l)).push (filtO b s₃.heap.objs.size) } := A₃.trans I₂.hp (After.kept A₃.hp k2 (by show s₃.heap.objs.size ≤ _; rw [z2]; lia))
  refine ⟨A₄.hp.gi, ?_⟩
  have Z : FiltApart (s₃.heap.objs.size + 1) s₃.heap.objs.size l b D := ⟨by unfold Addr at *; lia, (Nat.ne_of_gt (hlt e)), (Nat.ne_of_gt (hlt hb)), Nat.ne_of_gt hDlt⟩
  have hi := strs_are' rl
  have hz : vs.size = (xs.map strL).length := by rw [← hi.length, Array.length_toList]
  have hval : ∀ (i : Nat) (v : Value), vs[i]? = some v → ∃ y t, (xs.map strL)[i]? = some y ∧ v = .str y t := fun i v hv => by
    have : vs.toList[i]? = some v := by simpa using hv
    clear hz hv rl e hl
    generalize vs.toList = us at hi this
    generalize xs.map strL = zs at hi
    induction hi generalizing i with
    | nil => cases this
    | cons y t r ih =>
      cases i with
      | zero => exact ⟨y, t, rfl, by simpa using this.symm⟩
      | succ i => exact ih i (by simpa using this)
  have W := filt_walks (prog := C.prog) (w := C.w) (A := A.in1.in1) (F := s₃.heap.objs.size + 1) (it := s₃.heap.objs.size) (l := l) (b := b) (D := D) (items := vs) (ys := xs.map strL) (S := strIn ys) (m := m) hr.handled Z hval hz
  have st : FSt C.prog C.w (s₃.heap.objs.size + 1) s₃.heap.objs.size l b D vs (xs.map strL) (strIn ys) m 0 { s₃ with heap := (s₃.heap.push (litO l)).push (filtO b s₃.heap.objs.size) } := by
    refine ⟨0, Nat.zero_le _, ⟨?_, ⟨_, Heap.get?_push_of_some _ (Heap.get?_push_size _ rfl), rfl, rfl⟩, (isList_of (k2 _ _ e)), k2 _ _ hb, ?_⟩, by simp⟩
    · have : ((s₃.heap.push (litO l)).push (filtO b s₃.heap.objs.size)).get? (s₃.heap.push (litO l)).objs.size = some (filtO b s₃.heap.objs.size) := Heap.get?_push_size _ rfl
      rw [e1] at this; exact this
    · obtain ⟨o, es, ep, t, ho, rest⟩ := hS; exact ⟨o, es, ep, t, k2 _ _ ho, rest⟩
  have hfl : ((xs.map strL).filter (strIn ys)).length ≤ sizeLine := by
    have := List.length_filter_le (strIn ys) (xs.map strL)
    rw [List.length_map] at this
    simp [sizeLine]; lia
  refine with_size (list_of_filt W (fun i s ⟨j, _, q, _⟩ => q.type) st (fun c hc => ?_) (by simp) (fun s' acc c' mv hl' hit hzz => ?_) hfl)
  · show c < ((s₃.heap.push (litO l)).push (filtO b s₃.heap.objs.size)).objs.size
    rw [z2]
    have := hlt e; have := hlt hb
    simp only [List.mem_cons, List.not_mem_nil, or_false] at hc
    unfold Addr at *
    rcases hc with rfl | rfl | rfl | rfl | rfl <;> lia
  · obtain ⟨h', g', d', tk', os'⟩ := s'
    have eg : g' = s₃.gens := mv.gens
    have ed : d' = s₃.drawn := mv.drawn
    have eo : os' = s₃.os := mv.os
    subst eg; subst ed; subst eo
    have kk : ∀ c o, s₃.heap.get? c = some o → h'.get? c = some o := fun c o ec => mv.heap c o (by
      have := hlt ec
      simp only [List.mem_cons, List.not_mem_nil, or_false, not_or]
      show ¬ c = ((s₃.heap.push (litO l)).push (filtO b s₃.heap.objs.size)).objs.size ∧ _
      rw [z2]; unfold Addr at *; lia) (Heap.get?_push_of_some _ (k2 c o ec))
    have hszz : hsz s₃ ≤ h'.objs.size := by
      refine Nat.le_trans ?_ hzz
      show s₃.heap.objs.size ≤ ((s₃.heap.push (litO l)).push (filtO b s₃.heap.objs.size)).objs.size
      rw [z2]; lia
    have A₅ : After C (PP (PP P σ₂) σ₂) σ₂ s₂ σ₃ { s₃ with heap := h', toks := tk' } := A₃.trans I₂.hp (After.kept A₃.hp kk hszz)
    refine Out.seq A₂ I₁.hp ⟨_, σ₃, hK, A₅, .list (fun q => ?_) hl' (kept_rd hit)⟩
    have : ¬ PP (PP (PP P σ₂) σ₂) σ₃ s₃.heap.objs.size := fun q => Nat.lt_irrefl _ (A₃.hp.plt _ q)
    have lt2 := A₃.hp.plt _ q
    have : s₃.heap.objs.size + 2 < s₃.heap.objs.size := z2 ▸ lt2
    lia
end Mine
end C34

section P2
open PySem PySem.W PyProof.Rows
set_option Elab.async false
set_option linter.unusedVariables false
set_option maxRecDepth 100000
namespace Mine
noncomputable abbrev PR : Program := PySem.Challenge.pw_rs0172_02
noncomputable def stAt (i : Nat) : Stmt := PR.main.body.getD i (.Pass default)
noncomputable def fArgs : Stmt → Arguments | .FunctionDef _ a .. => a | _ => ⟨[], [], none, [], [], none, []⟩
noncomputable def fBody : Stmt → List Stmt | .FunctionDef _ _ b .. => b | _ => []
noncomputable def fScope : Stmt → Scope | .FunctionDef _ _ _ _ _ _ s .. => s | _ => default
noncomputable def inCls : Stmt → Nat → Stmt | .ClassDef _ _ _ b .., i => b.getD i (.Pass default) | s, _ => s
noncomputable abbrev sInit : Stmt := inCls (stAt 1) 0
noncomputable abbrev sApplies : Stmt := inCls (stAt 1) 2
noncomputable abbrev sAllow : Stmt := inCls (stAt 1) 3
noncomputable abbrev sMerge : Stmt := stAt 2
noncomputable abbrev sB1 : Stmt := stAt 5
noncomputable abbrev sB3 : Stmt := stAt 7
end Mine
end P2

section H2
open PySem PySem.W PyProof.Rows
set_option Elab.async false
set_option maxRecDepth 1000000
namespace Mine
noncomputable section

/-! # the head of rs0172_02 -/
noncomputable def o11a (P : Params) : Obj := ⟨(.type "tuple"), none, (.seq ⟨[]⟩ 0), ⟨[]⟩⟩
noncomputable def o12a (P : Params) : Obj := ⟨.none, none, (.fields ⟨[]⟩), ⟨[]⟩⟩
noncomputable def o13a (P : Params) : Obj := ⟨(.type "code"), none, (.fields ⟨[(.str (Str.ofString "<module>") 182), (.str (Str.ofString "<module>") 183), (.str (Str.ofString "/claim/cut.py") 184), (.int (1) 0), (.int (0) 0), (.int (0) 0), (.int (0) 0), (.int (0) 0), (.ref 11), (.bool false), (.int (181) 0), (.ref 12), .none, .none, .none, .none, (.int (185) 0), (.int (1) 0), (.str (Str.ofString "/claim/cut.py") 186)]⟩), ⟨[]⟩⟩
noncomputable def o14a (P : Params) : Obj := ⟨(.type "frame"), none, .plain, ⟨[(some (.ref 13)), (some (.ref 3)), (some (.ref 3)), none, (some (.str (Str.ofString "__main__") 164)), none, (some (.ref 0))]⟩⟩
noncomputable def hpPre (P : Params) : Heap := ⟨⟨[boot_o_0 P, boot_o_1 P, boot_o_2 P, boot_o_3 P, boot_o_4 P, boot_o_5 P, boot_o_6 P, boot_o_7 P, boot_o_8 P, boot_o_9 P, boot_o_10 P, o11a P, o12a P, o13a P, o14a P]⟩, {}⟩
noncomputable def o3b (P : Params) : Obj := ⟨(.type "dict"), none, (.dict ⟨[⟨(PyData.keyHash P (Str.ofString "__name__")), (.str (Str.ofString "__name__") 165), (.str (Str.ofString "cpy313.stringprep") 260)⟩, ⟨(PyData.keyHash P (Str.ofString "__doc__")), (.str (Str.ofString "__doc__") 166), .none⟩, ⟨(PyData.keyHash P (Str.ofString "__package__")), (.str (Str.ofString "__package__") 167), .none⟩, ⟨(PyData.keyHash P (Str.ofString "__loader__")), (.str (Str.ofString "__loader__") 168), (.builtin "__main__.__loader__#opaque")⟩, ⟨(PyData.keyHash P (Str.ofString "__spec__")), (.str (Str.ofString "__spec__") 169), .none⟩, ⟨(PyData.keyHash P (Str.ofString "__annotations__")), (.str (Str.ofString "__annotations__") 170), (.ref 6)⟩, ⟨(PyData.keyHash P (Str.ofString "__builtins__")), (.str (Str.ofString "__builtins__") 171), (.ref 4)⟩, ⟨(PyData.keyHash P (Str.ofString "__file__")), (.str (Str.ofString "__file__") 173), (.str (Str.ofString "/claim/cut.py") 172)⟩, ⟨(PyData.keyHash P (Str.ofString "__cached__")), (.str (Str.ofString "__cached__") 174), .none⟩, ⟨(PyData.keyHash P (Str.ofString "Entry")), (.str (Str.ofString "Entry") 250), (.ref 52)⟩, ⟨(PyData.keyHash P (Str.ofString "merge_entries")), (.str (Str.ofString "merge_entries") 259), (.ref 63)⟩]⟩ 11), ⟨[]⟩⟩
noncomputable def o12b (P : Params) : Obj := ⟨.none, none, (.fields ⟨[(.int (2) 0), (.int (0) 0), (.ref 20), (.int (50) 0), (.int (0) 0), (.ref 62)]⟩), ⟨[]⟩⟩
noncomputable def o15b (P : Params) : Obj := ⟨(.type "tuple"), none, (.seq ⟨[]⟩ 0), ⟨[]⟩⟩
noncomputable def o16b (P : Params) : Obj := ⟨(.type "builtin_function_or_method"), none, (.fields ⟨[(.builtin "type.__prepare__"), (.type "type")]⟩), ⟨[]⟩⟩
noncomputable def o17b (P : Params) : Obj := ⟨(.type "dict"), none, (.dict ⟨[⟨(PyData.keyHash P (Str.ofString "__module__")), (.str (Str.ofString "__module__") 196), (.str (Str.ofString "cpy313.urllib.robotparser") 187)⟩, ⟨(PyData.keyHash P (Str.ofString "__qualname__")), (.str (Str.ofString "__qualname__") 198), (.str (Str.ofString "Entry") 197)⟩, ⟨(PyData.keyHash P (Str.ofString "__firstlineno__")), (.str (Str.ofString "__firstlineno__") 200), (.int (2) 199)⟩, ⟨(PyData.keyHash P (Str.ofString "__init__")), (.str (Str.ofString "__init__") 207), (.ref 28)⟩, ⟨(PyData.keyHash P (Str.ofString "__str__")), (.str (Str.ofString "__str__") 217), (.ref 35)⟩, ⟨(PyData.keyHash P (Str.ofString "applies_to")), (.str (Str.ofString "applies_to") 226), (.ref 42)⟩, ⟨(PyData.keyHash P (Str.ofString "allowance")), (.str (Str.ofString "allowance") 238), (.ref 49)⟩, ⟨(PyData.keyHash P (Str.ofString "__static_attributes__")), (.str (Str.ofString "__static_attributes__") 243), (.ref 50)⟩]⟩ 8), ⟨[]⟩⟩
noncomputable def o18b (P : Params) : Obj := ⟨(.type "tuple"), none, (.seq ⟨[]⟩ 0), ⟨[]⟩⟩
noncomputable def o19b (P : Params) : Obj := ⟨.none, none, (.fields ⟨[(.int (4) 0), (.int (4) 0), (.ref 27), (.int (10) 0), (.int (4) 0), (.ref 34), (.int (27) 0), (.int (4) 0), (.ref 41), (.int (38) 0), (.int (4) 0), (.ref 48)]⟩), ⟨[]⟩⟩
noncomputable def o20b (P : Params) : Obj := ⟨(.type "code"), none, (.fields ⟨[(.str (Str.ofString "Entry") 191), (.str (Str.ofString "Entry") 192), (.str (Str.ofString "/claim/cut.py") 193), (.int (2) 0), (.int (0) 0), (.int (0) 0), (.int (0) 0), (.int (0) 0), (.ref 18), (.bool false), (.int (181) 0), (.ref 19), .none, .none, .none, .none, (.int (194) 0), (.int (2) 0), (.str (Str.ofString "/claim/cut.py") 195)]⟩), ⟨[]⟩⟩
noncomputable def o21b (P : Params) : Obj := ⟨(.type "frame"), none, .plain, ⟨[(some (.ref 20)), (some (.ref 3)), (some (.ref 17)), none, (some (.str (Str.ofString "cpy313.urllib.robotparser") 187)), none, (some (.ref 0))]⟩⟩
noncomputable def o22b (P : Params) : Obj := ⟨(.type "tuple"), none, (.seq ⟨[]⟩ 0), ⟨[]⟩⟩
noncomputable def o23b (P : Params) : Obj := ⟨.none, none, (.fields ⟨[]⟩), ⟨[]⟩⟩
noncomputable def o24b (P : Params) : Obj := ⟨(.type "tuple"), none, (.seq ⟨[(.str (Str.ofString "self") 204)]⟩ 0), ⟨[]⟩⟩
noncomputable def o25b (P : Params) : Obj := ⟨(.type "tuple"), none, (.seq ⟨[]⟩ 0), ⟨[]⟩⟩
noncomputable def o26b (P : Params) : Obj := ⟨.none, none, (.func { name := (Str.ofString "__init__"), qualname := (Str.ofString "Entry.__init__"), params := fArgs (inCls (stAt 1) 0), body := .stmts (fBody (inCls (stAt 1) 0)), scope := fScope (inCls (stAt 1) 0), globals := 0, closure := [], defaults := .none, kwdefaults := .none, doc := .none, pyModule := .none, annotations := none, code := .none, closureTuple := .none, builtins := 0 }), ⟨[]⟩⟩
noncomputable def o27b (P : Params) : Obj := ⟨(.type "code"), none, (.fields ⟨[(.str (Str.ofString "__init__") 201), (.str (Str.ofString "Entry.__init__") 202), (.str (Str.ofString "/claim/cut.py") 203), (.int (4) 0), (.int (1) 0), (.int (0) 0), (.int (0) 0), (.int (3) 0), (.ref 22), (.bool true), (.int (181) 0), (.ref 23), .none, (.ref 24), (.ref 25), (.ref 26), (.int (205) 0), (.int (4) 0), (.str (Str.ofString "/claim/cut.py") 206)]⟩), ⟨[]⟩⟩
noncomputable def o28b (P : Params) : Obj := ⟨(.type "function"), none, (.func { name := (Str.ofString "__init__"), qualname := (Str.ofString "Entry.__init__"), params := fArgs (inCls (stAt 1) 0), body := .stmts (fBody (inCls (stAt 1) 0)), scope := fScope (inCls (stAt 1) 0), globals := 3, closure := [], defaults := .none, kwdefaults := .none, doc := .none, pyModule := (.str (Str.ofString "cpy313.urllib.robotparser") 187), annotations := none, code := (.ref 27), closureTuple := .none, builtins := 0 }), ⟨[]⟩⟩
noncomputable def o29b (P : Params) : Obj := ⟨(.type "tuple"), none, (.seq ⟨[]⟩ 0), ⟨[]⟩⟩
noncomputable def o30b (P : Params) : Obj := ⟨.none, none, (.fields ⟨[]⟩), ⟨[]⟩⟩
noncomputable def o31b (P : Params) : Obj := ⟨(.type "tuple"), none, (.seq ⟨[(.str (Str.ofString "self") 211), (.str (Str.ofString "ret") 212), (.str (Str.ofString "agent") 213), (.str (Str.ofString "rate") 214)]⟩ 0), ⟨[]⟩⟩
noncomputable def o32b (P : Params) : Obj := ⟨(.type "tuple"), none, (.seq ⟨[]⟩ 0), ⟨[]⟩⟩
noncomputable def o33b (P : Params) : Obj := ⟨.none, none, (.func { name := (Str.ofString "__str__"), qualname := (Str.ofString "Entry.__str__"), params := fArgs (inCls (stAt 1) 1), body := .stmts (fBody (inCls (stAt 1) 1)), scope := fScope (inCls (stAt 1) 1), globals := 0, closure := [], defaults := .none, kwdefaults := .none, doc := .none, pyModule := .none, annotations := none, code := .none, closureTuple := .none, builtins := 0 }), ⟨[]⟩⟩
noncomputable def o34b (P : Params) : Obj := ⟨(.type "code"), none, (.fields ⟨[(.str (Str.ofString "__str__") 208), (.str (Str.ofString "Entry.__str__") 209), (.str (Str.ofString "/claim/cut.py") 210), (.int (10) 0), (.int (1) 0), (.int (0) 0), (.int (0) 0), (.int (3) 0), (.ref 29), (.bool true), (.int (181) 0), (.ref 30), .none, (.ref 31), (.ref 32), (.ref 33), (.int (215) 0), (.int (10) 0), (.str (Str.ofString "/claim/cut.py") 216)]⟩), ⟨[]⟩⟩
noncomputable def o35b (P : Params) : Obj := ⟨(.type "function"), none, (.func { name := (Str.ofString "__str__"), qualname := (Str.ofString "Entry.__str__"), params := fArgs (inCls (stAt 1) 1), body := .stmts (fBody (inCls (stAt 1) 1)), scope := fScope (inCls (stAt 1) 1), globals := 3, closure := [], defaults := .none, kwdefaults := .none, doc := .none, pyModule := (.str (Str.ofString "cpy313.urllib.robotparser") 187), annotations := none, code := (.ref 34), closureTuple := .none, builtins := 0 }), ⟨[]⟩⟩
noncomputable def o36b (P : Params) : Obj := ⟨(.type "tuple"), none, (.seq ⟨[]⟩ 0), ⟨[]⟩⟩
noncomputable def o37b (P : Params) : Obj := ⟨.none, none, (.fields ⟨[]⟩), ⟨[]⟩⟩
noncomputable def o38b (P : Params) : Obj := ⟨(.type "tuple"), none, (.seq ⟨[(.str (Str.ofString "self") 221), (.str (Str.ofString "useragent") 222), (.str (Str.ofString "agent") 223)]⟩ 0), ⟨[]⟩⟩
noncomputable def o39b (P : Params) : Obj := ⟨(.type "tuple"), none, (.seq ⟨[]⟩ 0), ⟨[]⟩⟩
noncomputable def o40b (P : Params) : Obj := ⟨.none, none, (.func { name := (Str.ofString "applies_to"), qualname := (Str.ofString "Entry.applies_to"), params := fArgs (inCls (stAt 1) 2), body := .stmts (fBody (inCls (stAt 1) 2)), scope := fScope (inCls (stAt 1) 2), globals := 0, closure := [], defaults := .none, kwdefaults := .none, doc := .none, pyModule := .none, annotations := none, code := .none, closureTuple := .none, builtins := 0 }), ⟨[]⟩⟩
noncomputable def o41b (P : Params) : Obj := ⟨(.type "code"), none, (.fields ⟨[(.str (Str.ofString "applies_to") 218), (.str (Str.ofString "Entry.applies_to") 219), (.str (Str.ofString "/claim/cut.py") 220), (.int (27) 0), (.int (2) 0), (.int (0) 0), (.int (0) 0), (.int (3) 0), (.ref 36), (.bool true), (.int (181) 0), (.ref 37), .none, (.ref 38), (.ref 39), (.ref 40), (.int (224) 0), (.int (27) 0), (.str (Str.ofString "/claim/cut.py") 225)]⟩), ⟨[]⟩⟩
noncomputable def o42b (P : Params) : Obj := ⟨(.type "function"), none, (.func { name := (Str.ofString "applies_to"), qualname := (Str.ofString "Entry.applies_to"), params := fArgs (inCls (stAt 1) 2), body := .stmts (fBody (inCls (stAt 1) 2)), scope := fScope (inCls (stAt 1) 2), globals := 3, closure := [], defaults := .none, kwdefaults := .none, doc := .none, pyModule := (.str (Str.ofString "cpy313.urllib.robotparser") 187), annotations := none, code := (.ref 41), closureTuple := .none, builtins := 0 }), ⟨[]⟩⟩
noncomputable def o43b (P : Params) : Obj := ⟨(.type "tuple"), none, (.seq ⟨[]⟩ 0), ⟨[]⟩⟩
noncomputable def o44b (P : Params) : Obj := ⟨.none, none, (.fields ⟨[]⟩), ⟨[]⟩⟩
noncomputable def o45b (P : Params) : Obj := ⟨(.type "tuple"), none, (.seq ⟨[(.str (Str.ofString "self") 230), (.str (Str.ofString "filename") 231), (.str (Str.ofString "best_match") 232), (.str (Str.ofString "allowance") 233), (.str (Str.ofString "line") 234), (.str (Str.ofString "m") 235)]⟩ 0), ⟨[]⟩⟩
noncomputable def o46b (P : Params) : Obj := ⟨(.type "tuple"), none, (.seq ⟨[]⟩ 0), ⟨[]⟩⟩
noncomputable def o47b (P : Params) : Obj := ⟨.none, none, (.func { name := (Str.ofString "allowance"), qualname := (Str.ofString "Entry.allowance"), params := fArgs (inCls (stAt 1) 3), body := .stmts (fBody (inCls (stAt 1) 3)), scope := fScope (inCls (stAt 1) 3), globals := 0, closure := [], defaults := .none, kwdefaults := .none, doc := .none, pyModule := .none, annotations := none, code := .none, closureTuple := .none, builtins := 0 }), ⟨[]⟩⟩
noncomputable def o48b (P : Params) : Obj := ⟨(.type "code"), none, (.fields ⟨[(.str (Str.ofString "allowance") 227), (.str (Str.ofString "Entry.allowance") 228), (.str (Str.ofString "/claim/cut.py") 229), (.int (38) 0), (.int (2) 0), (.int (0) 0), (.int (0) 0), (.int (3) 0), (.ref 43), (.bool true), (.int (181) 0), (.ref 44), .none, (.ref 45), (.ref 46), (.ref 47), (.int (236) 0), (.int (38) 0), (.str (Str.ofString "/claim/cut.py") 237)]⟩), ⟨[]⟩⟩
noncomputable def o49b (P : Params) : Obj := ⟨(.type "function"), none, (.func { name := (Str.ofString "allowance"), qualname := (Str.ofString "Entry.allowance"), params := fArgs (inCls (stAt 1) 3), body := .stmts (fBody (inCls (stAt 1) 3)), scope := fScope (inCls (stAt 1) 3), globals := 3, closure := [], defaults := .none, kwdefaults := .none, doc := .none, pyModule := (.str (Str.ofString "cpy313.urllib.robotparser") 187), annotations := none, code := (.ref 48), closureTuple := .none, builtins := 0 }), ⟨[]⟩⟩
noncomputable def o50b (P : Params) : Obj := ⟨(.type "tuple"), none, (.seq ⟨[(.str (Str.ofString "delay") 239), (.str (Str.ofString "req_rate") 240), (.str (Str.ofString "rulelines") 241), (.str (Str.ofString "useragents") 242)]⟩ 0), ⟨[]⟩⟩
noncomputable def o51b (P : Params) : Obj := ⟨(.type "dict"), none, (.dict ⟨[⟨(PyData.keyHash P (Str.ofString "__module__")), (.str (Str.ofString "__module__") 196), (.str (Str.ofString "cpy313.urllib.robotparser") 187)⟩, ⟨(PyData.keyHash P (Str.ofString "__firstlineno__")), (.str (Str.ofString "__firstlineno__") 200), (.int (2) 199)⟩, ⟨(PyData.keyHash P (Str.ofString "__init__")), (.str (Str.ofString "__init__") 207), (.ref 28)⟩, ⟨(PyData.keyHash P (Str.ofString "__str__")), (.str (Str.ofString "__str__") 217), (.ref 35)⟩, ⟨(PyData.keyHash P (Str.ofString "applies_to")), (.str (Str.ofString "applies_to") 226), (.ref 42)⟩, ⟨(PyData.keyHash P (Str.ofString "allowance")), (.str (Str.ofString "allowance") 238), (.ref 49)⟩, ⟨(PyData.keyHash P (Str.ofString "__static_attributes__")), (.str (Str.ofString "__static_attributes__") 243), (.ref 50)⟩, ⟨(PyData.keyHash P (Str.ofString "__dict__")), (.str (Str.ofString "__dict__") 245), (.ref 53)⟩, ⟨(PyData.keyHash P (Str.ofString "__weakref__")), (.str (Str.ofString "__weakref__") 247), (.ref 54)⟩, ⟨(PyData.keyHash P (Str.ofString "__doc__")), (.str (Str.ofString "__doc__") 248), .none⟩]⟩ 4), ⟨[]⟩⟩
noncomputable def o52b (P : Params) : Obj := ⟨(.type "type"), none, (.cls { name := (Str.ofString "Entry"), bases := [(.type "object")], mro := [(.ref 52), (.type "object")], ns := 51, qualname := (Str.ofString "Entry"), hasDict := true, slotNames := [], subclasses := [], abstract := false, collection := none, hasDel := false }), ⟨[none, none, (some (.str (Str.ofString "Entry") 189)), (some (.str (Str.ofString "Entry") 197)), (some (.builtin "object.__new__")), (some (.bool true))]⟩⟩
noncomputable def o53b (P : Params) : Obj := ⟨(.type "getset_descriptor"), none, (.fields ⟨[(.str (Str.ofString "__dict__") 244), (.ref 52), (.builtin "function.__dict__"), (.builtin "function.__dict__#set")]⟩), ⟨[]⟩⟩
noncomputable def o54b (P : Params) : Obj := ⟨(.type "getset_descriptor"), none, (.fields ⟨[(.str (Str.ofString "__weakref__") 246), (.ref 52), (.builtin "ExceptionGroup.__weakref__"), .none]⟩), ⟨[]⟩⟩
noncomputable def o55b (P : Params) : Obj := ⟨(.type "super"), none, (.fields ⟨[(.ref 52), (.ref 52), (.ref 52)]⟩), ⟨[]⟩⟩
noncomputable def o56b (P : Params) : Obj := ⟨(.type "builtin_function_or_method"), none, (.fields ⟨[(.builtin "object.__init_subclass__"), (.ref 52)]⟩), ⟨[]⟩⟩
noncomputable def o57b (P : Params) : Obj := ⟨(.type "tuple"), none, (.seq ⟨[]⟩ 0), ⟨[]⟩⟩
noncomputable def o58b (P : Params) : Obj := ⟨.none, none, (.fields ⟨[]⟩), ⟨[]⟩⟩
noncomputable def o59b (P : Params) : Obj := ⟨(.type "tuple"), none, (.seq ⟨[(.str (Str.ofString "e1") 254), (.str (Str.ofString "e2") 255), (.str (Str.ofString "entry") 256)]⟩ 0), ⟨[]⟩⟩
noncomputable def o60b (P : Params) : Obj := ⟨(.type "tuple"), none, (.seq ⟨[]⟩ 0), ⟨[]⟩⟩
noncomputable def o61b (P : Params) : Obj := ⟨.none, none, (.func { name := (Str.ofString "merge_entries"), qualname := (Str.ofString "merge_entries"), params := fArgs (stAt 2), body := .stmts (fBody (stAt 2)), scope := fScope (stAt 2), globals := 0, closure := [], defaults := .none, kwdefaults := .none, doc := .none, pyModule := .none, annotations := none, code := .none, closureTuple := .none, builtins := 0 }), ⟨[]⟩⟩
noncomputable def o62b (P : Params) : Obj := ⟨(.type "code"), none, (.fields ⟨[(.str (Str.ofString "merge_entries") 251), (.str (Str.ofString "merge_entries") 252), (.str (Str.ofString "/claim/cut.py") 253), (.int (50) 0), (.int (2) 0), (.int (0) 0), (.int (0) 0), (.int (3) 0), (.ref 57), (.bool true), (.int (181) 0), (.ref 58), .none, (.ref 59), (.ref 60), (.ref 61), (.int (257) 0), (.int (50) 0), (.str (Str.ofString "/claim/cut.py") 258)]⟩), ⟨[]⟩⟩
noncomputable def o63b (P : Params) : Obj := ⟨(.type "function"), none, (.func { name := (Str.ofString "merge_entries"), qualname := (Str.ofString "merge_entries"), params := fArgs (stAt 2), body := .stmts (fBody (stAt 2)), scope := fScope (stAt 2), globals := 3, closure := [], defaults := .none, kwdefaults := .none, doc := .none, pyModule := (.str (Str.ofString "cpy313.urllib.robotparser") 187), annotations := none, code := (.ref 62), closureTuple := .none, builtins := 0 }), ⟨[]⟩⟩
noncomputable def hpB (P : Params) : Heap := ⟨⟨[boot_o_0 P, boot_o_1 P, boot_o_2 P, o3b P, boot_o_4 P, boot_o_5 P, boot_o_6 P, boot_o_7 P, boot_o_8 P, boot_o_9 P, boot_o_10 P, o11a P, o12b P, o13a P, o14a P, o15b P, o16b P, o17b P, o18b P, o19b P, o20b P, o21b P, o22b P, o23b P, o24b P, o25b P, o26b P, o27b P, o28b P, o29b P, o30b P, o31b P, o32b P, o33b P, o34b P, o35b P, o36b P, o37b P, o38b P, o39b P, o40b P, o41b P, o42b P, o43b P, o44b P, o45b P, o46b P, o47b P, o48b P, o49b P, o50b P, o51b P, o52b P, o53b P, o54b P, o55b P, o56b P, o57b P, o58b P, o59b P, o60b P, o61b P, o62b P, o63b P]⟩, {}⟩
noncomputable def o3c (P : Params) : Obj := ⟨(.type "dict"), none, (.dict ⟨[⟨(PyData.keyHash P (Str.ofString "__name__")), (.str (Str.ofString "__name__") 165), (.str (Str.ofString "cpy313.stringprep") 260)⟩, ⟨(PyData.keyHash P (Str.ofString "__doc__")), (.str (Str.ofString "__doc__") 166), .none⟩, ⟨(PyData.keyHash P (Str.ofString "__package__")), (.str (Str.ofString "__package__") 167), .none⟩, ⟨(PyData.keyHash P (Str.ofString "__loader__")), (.str (Str.ofString "__loader__") 168), (.builtin "__main__.__loader__#opaque")⟩, ⟨(PyData.keyHash P (Str.ofString "__spec__")), (.str (Str.ofString "__spec__") 169), .none⟩, ⟨(PyData.keyHash P (Str.ofString "__annotations__")), (.str (Str.ofString "__annotations__") 170), (.ref 6)⟩, ⟨(PyData.keyHash P (Str.ofString "__builtins__")), (.str (Str.ofString "__builtins__") 171), (.ref 4)⟩, ⟨(PyData.keyHash P (Str.ofString "__file__")), (.str (Str.ofString "__file__") 173), (.str (Str.ofString "/claim/cut.py") 172)⟩, ⟨(PyData.keyHash P (Str.ofString "__cached__")), (.str (Str.ofString "__cached__") 174), .none⟩, ⟨(PyData.keyHash P (Str.ofString "Entry")), (.str (Str.ofString "Entry") 250), (.ref 52)⟩, ⟨(PyData.keyHash P (Str.ofString "merge_entries")), (.str (Str.ofString "merge_entries") 259), (.ref 63)⟩, ⟨(PyData.keyHash P (Str.ofString "b1_set")), (.str (Str.ofString "b1_set") 321), (.ref 71)⟩]⟩ 12), ⟨[]⟩⟩
noncomputable def o64c (P : Params) : Obj := ⟨(.type "list"), none, (.seq ⟨[(.int (173) 262), (.int (847) 263), (.int (6150) 264), (.int (6155) 265), (.int (6156) 266), (.int (6157) 267), (.int (8203) 268), (.int (8204) 269), (.int (8205) 270), (.int (8288) 271), (.int (65279) 272)]⟩ 0), ⟨[]⟩⟩
noncomputable def o65c (P : Params) : Obj := ⟨(.type "range"), none, (.fields ⟨[(.int (65024) 273), (.int (65040) 274), (.int (1) 275)]⟩), ⟨[]⟩⟩
noncomputable def o66c (P : Params) : Obj := ⟨(.type "list"), none, (.seq ⟨[(.int (65024) 278), (.int (65025) 279), (.int (65026) 280), (.int (65027) 281), (.int (65028) 282), (.int (65029) 283), (.int (65030) 284), (.int (65031) 285), (.int (65032) 286), (.int (65033) 287), (.int (65034) 288), (.int (65035) 289), (.int (65036) 290), (.int (65037) 291), (.int (65038) 292), (.int (65039) 293)]⟩ 18), ⟨[]⟩⟩
noncomputable def o67c (P : Params) : Obj := ⟨(.type "range_iterator"), none, (.fields ⟨[(.int (65040) 0), (.int (0) 0), (.int (1) 0)]⟩), ⟨[]⟩⟩
noncomputable def o68c (P : Params) : Obj := ⟨(.type "tuple"), none, (.seq ⟨[]⟩ 0), ⟨[]⟩⟩
noncomputable def o69c (P : Params) : Obj := ⟨(.type "StopIteration"), none, (.fields ⟨[(.ref 68), .none, .none, .none, (.bool false), .none]⟩), ⟨[]⟩⟩
noncomputable def o70c (P : Params) : Obj := ⟨(.type "list"), none, (.seq ⟨[(.int (173) 262), (.int (847) 263), (.int (6150) 264), (.int (6155) 265), (.int (6156) 266), (.int (6157) 267), (.int (8203) 268), (.int (8204) 269), (.int (8205) 270), (.int (8288) 271), (.int (65279) 272), (.int (65024) 278), (.int (65025) 279), (.int (65026) 280), (.int (65027) 281), (.int (65028) 282), (.int (65029) 283), (.int (65030) 284), (.int (65031) 285), (.int (65032) 286), (.int (65033) 287), (.int (65034) 288), (.int (65035) 289), (.int (65036) 290), (.int (65037) 291), (.int (65038) 292), (.int (65039) 293)]⟩ 0), ⟨[]⟩⟩
noncomputable def o71c (P : Params) : Obj := ⟨(.type "set"), none, (.set ⟨[((65024), (.int (65024) 278)), ((65025), (.int (65025) 279)), ((65026), (.int (65026) 280)), ((65027), (.int (65027) 281)), ((65028), (.int (65028) 282)), ((65029), (.int (65029) 283)), ((6150), (.int (6150) 264)), ((65030), (.int (65030) 284)), ((65031), (.int (65031) 285)), ((65032), (.int (65032) 286)), ((65033), (.int (65033) 287)), ((6155), (.int (6155) 265)), ((6156), (.int (6156) 266)), ((6157), (.int (6157) 267)), ((8203), (.int (8203) 268)), ((8204), (.int (8204) 269)), ((8205), (.int (8205) 270)), ((65034), (.int (65034) 288)), ((65035), (.int (65035) 289)), ((65036), (.int (65036) 290)), ((65037), (.int (65037) 291)), ((65038), (.int (65038) 292)), ((65039), (.int (65039) 293)), ((173), (.int (173) 262)), ((847), (.int (847) 263)), ((8288), (.int (8288) 271)), ((65279), (.int (65279) 272))]⟩ 29 { mask := 127, place := ⟨[0, 1, 2, 3, 4, 5, 6, 7, 8, 9, 10, 11, 12, 13, 14, 15, 16, 17, 18, 19, 20, 21, 22, 45, 79, 96, 127]⟩, dummies := ⟨[]⟩, finger := 0, led := (!P.followText "set-order"), moves := 2, plain := true }), ⟨[]⟩⟩
noncomputable def o72c (P : Params) : Obj := ⟨(.type "list_iterator"), none, (.fields ⟨[.none, (.int (27) 0)]⟩), ⟨[]⟩⟩
noncomputable def o73c (P : Params) : Obj := ⟨(.type "tuple"), none, (.seq ⟨[]⟩ 0), ⟨[]⟩⟩
noncomputable def o74c (P : Params) : Obj := ⟨(.type "StopIteration"), none, (.fields ⟨[(.ref 73), .none, .none, .none, (.bool false), .none]⟩), ⟨[]⟩⟩
noncomputable def hpC (P : Params) : Heap := ⟨⟨[boot_o_0 P, boot_o_1 P, boot_o_2 P, o3c P, boot_o_4 P, boot_o_5 P, boot_o_6 P, boot_o_7 P, boot_o_8 P, boot_o_9 P, boot_o_10 P, o11a P, o12b P, o13a P, o14a P, o15b P, o16b P, o17b P, o18b P, o19b P, o20b P, o21b P, o22b P, o23b P, o24b P, o25b P, o26b P, o27b P, o28b P, o29b P, o30b P, o31b P, o32b P, o33b P, o34b P, o35b P, o36b P, o37b P, o38b P, o39b P, o40b P, o41b P, o42b P, o43b P, o44b P, o45b P, o46b P, o47b P, o48b P, o49b P, o50b P, o51b P, o52b P, o53b P, o54b P, o55b P, o56b P, o57b P, o58b P, o59b P, o60b P, o61b P, o62b P, o63b P, o64c P, o65c P, o66c P, o67c P, o68c P, o69c P, o70c P, o71c P, o72c P, o73c P, o74c P]⟩, {}⟩
noncomputable def o3d (P : Params) : Obj := ⟨(.type "dict"), none, (.dict ⟨[⟨(PyData.keyHash P (Str.ofString "__name__")), (.str (Str.ofString "__name__") 165), (.str (Str.ofString "cpy313.stringprep") 260)⟩, ⟨(PyData.keyHash P (Str.ofString "__doc__")), (.str (Str.ofString "__doc__") 166), .none⟩, ⟨(PyData.keyHash P (Str.ofString "__package__")), (.str (Str.ofString "__package__") 167), .none⟩, ⟨(PyData.keyHash P (Str.ofString "__loader__")), (.str (Str.ofString "__loader__") 168), (.builtin "__main__.__loader__#opaque")⟩, ⟨(PyData.keyHash P (Str.ofString "__spec__")), (.str (Str.ofString "__spec__") 169), .none⟩, ⟨(PyData.keyHash P (Str.ofString "__annotations__")), (.str (Str.ofString "__annotations__") 170), (.ref 6)⟩, ⟨(PyData.keyHash P (Str.ofString "__builtins__")), (.str (Str.ofString "__builtins__") 171), (.ref 4)⟩, ⟨(PyData.keyHash P (Str.ofString "__file__")), (.str (Str.ofString "__file__") 173), (.str (Str.ofString "/claim/cut.py") 172)⟩, ⟨(PyData.keyHash P (Str.ofString "__cached__")), (.str (Str.ofString "__cached__") 174), .none⟩, ⟨(PyData.keyHash P (Str.ofString "Entry")), (.str (Str.ofString "Entry") 250), (.ref 52)⟩, ⟨(PyData.keyHash P (Str.ofString "merge_entries")), (.str (Str.ofString "merge_entries") 259), (.ref 63)⟩, ⟨(PyData.keyHash P (Str.ofString "b1_set")), (.str (Str.ofString "b1_set") 321), (.ref 71)⟩, ⟨(PyData.keyHash P (Str.ofString "in_table_b1")), (.str (Str.ofString "in_table_b1") 328), (.ref 81)⟩]⟩ 13), ⟨[]⟩⟩
noncomputable def o12d (P : Params) : Obj := ⟨.none, none, (.fields ⟨[(.int (2) 0), (.int (0) 0), (.ref 20), (.int (50) 0), (.int (0) 0), (.ref 62), (.int (59) 0), (.int (0) 0), (.ref 80)]⟩), ⟨[]⟩⟩
noncomputable def o75d (P : Params) : Obj := ⟨(.type "tuple"), none, (.seq ⟨[]⟩ 0), ⟨[]⟩⟩
noncomputable def o76d (P : Params) : Obj := ⟨.none, none, (.fields ⟨[]⟩), ⟨[]⟩⟩
noncomputable def o77d (P : Params) : Obj := ⟨(.type "tuple"), none, (.seq ⟨[(.str (Str.ofString "code") 325)]⟩ 0), ⟨[]⟩⟩
noncomputable def o78d (P : Params) : Obj := ⟨(.type "tuple"), none, (.seq ⟨[]⟩ 0), ⟨[]⟩⟩
noncomputable def o79d (P : Params) : Obj := ⟨.none, none, (.func { name := (Str.ofString "in_table_b1"), qualname := (Str.ofString "in_table_b1"), params := fArgs (stAt 5), body := .stmts (fBody (stAt 5)), scope := fScope (stAt 5), globals := 0, closure := [], defaults := .none, kwdefaults := .none, doc := .none, pyModule := .none, annotations := none, code := .none, closureTuple := .none, builtins := 0 }), ⟨[]⟩⟩
noncomputable def o80d (P : Params) : Obj := ⟨(.type "code"), none, (.fields ⟨[(.str (Str.ofString "in_table_b1") 322), (.str (Str.ofString "in_table_b1") 323), (.str (Str.ofString "/claim/cut.py") 324), (.int (59) 0), (.int (1) 0), (.int (0) 0), (.int (0) 0), (.int (3) 0), (.ref 75), (.bool true), (.int (181) 0), (.ref 76), .none, (.ref 77), (.ref 78), (.ref 79), (.int (326) 0), (.int (59) 0), (.str (Str.ofString "/claim/cut.py") 327)]⟩), ⟨[]⟩⟩
noncomputable def o81d (P : Params) : Obj := ⟨(.type "function"), none, (.func { name := (Str.ofString "in_table_b1"), qualname := (Str.ofString "in_table_b1"), params := fArgs (stAt 5), body := .stmts (fBody (stAt 5)), scope := fScope (stAt 5), globals := 3, closure := [], defaults := .none, kwdefaults := .none, doc := .none, pyModule := (.str (Str.ofString "cpy313.stringprep") 260), annotations := none, code := (.ref 80), closureTuple := .none, builtins := 0 }), ⟨[]⟩⟩
noncomputable def hpD (P : Params) : Heap := ⟨⟨[boot_o_0 P, boot_o_1 P, boot_o_2 P, o3d P, boot_o_4 P, boot_o_5 P, boot_o_6 P, boot_o_7 P, boot_o_8 P, boot_o_9 P, boot_o_10 P, o11a P, o12d P, o13a P, o14a P, o15b P, o16b P, o17b P, o18b P, o19b P, o20b P, o21b P, o22b P, o23b P, o24b P, o25b P, o26b P, o27b P, o28b P, o29b P, o30b P, o31b P, o32b P, o33b P, o34b P, o35b P, o36b P, o37b P, o38b P, o39b P, o40b P, o41b P, o42b P, o43b P, o44b P, o45b P, o46b P, o47b P, o48b P, o49b P, o50b P, o51b P, o52b P, o53b P, o54b P, o55b P, o56b P, o57b P, o58b P, o59b P, o60b P, o61b P, o62b P, o63b P, o64c P, o65c P, o66c P, o67c P, o68c P, o69c P, o70c P, o71c P, o72c P, o73c P, o74c P, o75d P, o76d P, o77d P, o78d P, o79d P, o80d P, o81d P]⟩, {}⟩

noncomputable def dKeys : List (Option Expr) := match stAt 6 with | .Assign _ (.Dict ks _ _) _ => ks | _ => []
noncomputable def dVals : List Expr := match stAt 6 with | .Assign _ (.Dict _ vs _) _ => vs | _ => []
noncomputable def dTgt : List Expr := match stAt 6 with | .Assign ts _ _ => ts | _ => []
noncomputable def dPosD : Pos := match stAt 6 with | .Assign _ (.Dict _ _ q) _ => q | _ => default
noncomputable def dPosS : Pos := match stAt 6 with | .Assign _ _ q => q | _ => default
noncomputable def dPE : List PE := (dKeys.zip dVals).map peOf
noncomputable def mdict : Obj := dObj (ents 3 329 (dPE.take 17 ++ (chop 37 (dPE.drop 17)).flatten) ++ ents 2 (329 + 3 * 646) (dPE.drop 646)) 650
noncomputable def sdicts : List Obj := subsOf (329 + 51) (chop 37 (dPE.drop 17)) ++ [dObj (ents 2 (329 + 3 * 646) (dPE.drop 646)) 4]
noncomputable def sdict (i : Nat) : Obj := sdicts.getD i default
noncomputable def hpD2 (P : Params) : Heap := ⟨⟨[boot_o_0 P, boot_o_1 P, boot_o_2 P, o3d P, boot_o_4 P, boot_o_5 P, boot_o_6 P, boot_o_7 P, boot_o_8 P, boot_o_9 P, boot_o_10 P, o11a P, o12d P, o13a P, o14a P, o15b P, o16b P, o17b P, o18b P, o19b P, o20b P, o21b P, o22b P, o23b P, o24b P, o25b P, o26b P, o27b P, o28b P, o29b P, o30b P, o31b P, o32b P, o33b P, o34b P, o35b P, o36b P, o37b P, o38b P, o39b P, o40b P, o41b P, o42b P, o43b P, o44b P, o45b P, o46b P, o47b P, o48b P, o49b P, o50b P, o51b P, o52b P, o53b P, o54b P, o55b P, o56b P, o57b P, o58b P, o59b P, o60b P, o61b P, o62b P, o63b P, o64c P, o65c P, o66c P, o67c P, o68c P, o69c P, o70c P, o71c P, o72c P, o73c P, o74c P, o75d P, o76d P, o77d P, o78d P, o79d P, o80d P, o81d P, mdict, sdict 0, sdict 1, sdict 2, sdict 3, sdict 4, sdict 5, sdict 6, sdict 7, sdict 8, sdict 9, sdict 10, sdict 11, sdict 12, sdict 13, sdict 14, sdict 15, sdict 16, sdict 17, sdict 18, sdict 19, sdict 20, sdict 21, sdict 22, sdict 23, sdict 24, sdict 25, sdict 26, sdict 27, sdict 28, sdict 29, sdict 30, sdict 31, sdict 32, sdict 33, sdict 34, sdict 35, sdict 36, sdict 37]⟩, {}⟩
noncomputable def o3e (P : Params) : Obj := ⟨(.type "dict"), none, (.dict ⟨[⟨(PyData.keyHash P (Str.ofString "__name__")), (.str (Str.ofString "__name__") 165), (.str (Str.ofString "cpy313.stringprep") 260)⟩, ⟨(PyData.keyHash P (Str.ofString "__doc__")), (.str (Str.ofString "__doc__") 166), .none⟩, ⟨(PyData.keyHash P (Str.ofString "__package__")), (.str (Str.ofString "__package__") 167), .none⟩, ⟨(PyData.keyHash P (Str.ofString "__loader__")), (.str (Str.ofString "__loader__") 168), (.builtin "__main__.__loader__#opaque")⟩, ⟨(PyData.keyHash P (Str.ofString "__spec__")), (.str (Str.ofString "__spec__") 169), .none⟩, ⟨(PyData.keyHash P (Str.ofString "__annotations__")), (.str (Str.ofString "__annotations__") 170), (.ref 6)⟩, ⟨(PyData.keyHash P (Str.ofString "__builtins__")), (.str (Str.ofString "__builtins__") 171), (.ref 4)⟩, ⟨(PyData.keyHash P (Str.ofString "__file__")), (.str (Str.ofString "__file__") 173), (.str (Str.ofString "/claim/cut.py") 172)⟩, ⟨(PyData.keyHash P (Str.ofString "__cached__")), (.str (Str.ofString "__cached__") 174), .none⟩, ⟨(PyData.keyHash P (Str.ofString "Entry")), (.str (Str.ofString "Entry") 250), (.ref 52)⟩, ⟨(PyData.keyHash P (Str.ofString "merge_entries")), (.str (Str.ofString "merge_entries") 259), (.ref 63)⟩, ⟨(PyData.keyHash P (Str.ofString "b1_set")), (.str (Str.ofString "b1_set") 321), (.ref 71)⟩, ⟨(PyData.keyHash P (Str.ofString "in_table_b1")), (.str (Str.ofString "in_table_b1") 328), (.ref 81)⟩, ⟨(PyData.keyHash P (Str.ofString "b3_exceptions")), (.str (Str.ofString "b3_exceptions") 2279), (.ref 82)⟩]⟩ 14), ⟨[]⟩⟩
noncomputable def hpE (P : Params) : Heap := ⟨⟨[boot_o_0 P, boot_o_1 P, boot_o_2 P, o3e P, boot_o_4 P, boot_o_5 P, boot_o_6 P, boot_o_7 P, boot_o_8 P, boot_o_9 P, boot_o_10 P, o11a P, o12d P, o13a P, o14a P, o15b P, o16b P, o17b P, o18b P, o19b P, o20b P, o21b P, o22b P, o23b P, o24b P, o25b P, o26b P, o27b P, o28b P, o29b P, o30b P, o31b P, o32b P, o33b P, o34b P, o35b P, o36b P, o37b P, o38b P, o39b P, o40b P, o41b P, o42b P, o43b P, o44b P, o45b P, o46b P, o47b P, o48b P, o49b P, o50b P, o51b P, o52b P, o53b P, o54b P, o55b P, o56b P, o57b P, o58b P, o59b P, o60b P, o61b P, o62b P, o63b P, o64c P, o65c P, o66c P, o67c P, o68c P, o69c P, o70c P, o71c P, o72c P, o73c P, o74c P, o75d P, o76d P, o77d P, o78d P, o79d P, o80d P, o81d P, mdict, (sdict 0), (sdict 1), (sdict 2), (sdict 3), (sdict 4), (sdict 5), (sdict 6), (sdict 7), (sdict 8), (sdict 9), (sdict 10), (sdict 11), (sdict 12), (sdict 13), (sdict 14), (sdict 15), (sdict 16), (sdict 17), (sdict 18), (sdict 19), (sdict 20), (sdict 21), (sdict 22), (sdict 23), (sdict 24), (sdict 25), (sdict 26), (sdict 27), (sdict 28), (sdict 29), (sdict 30), (sdict 31), (sdict 32), (sdict 33), (sdict 34), (sdict 35), (sdict 36), (sdict 37)]⟩, {}⟩
noncomputable def o3f (P : Params) : Obj := ⟨(.type "dict"), none, (.dict ⟨[⟨(PyData.keyHash P (Str.ofString "__name__")), (.str (Str.ofString "__name__") 165), (.str (Str.ofString "law_rs0172_02") 2288)⟩, ⟨(PyData.keyHash P (Str.ofString "__doc__")), (.str (Str.ofString "__doc__") 166), .none⟩, ⟨(PyData.keyHash P (Str.ofString "__package__")), (.str (Str.ofString "__package__") 167), .none⟩, ⟨(PyData.keyHash P (Str.ofString "__loader__")), (.str (Str.ofString "__loader__") 168), (.builtin "__main__.__loader__#opaque")⟩, ⟨(PyData.keyHash P (Str.ofString "__spec__")), (.str (Str.ofString "__spec__") 169), .none⟩, ⟨(PyData.keyHash P (Str.ofString "__annotations__")), (.str (Str.ofString "__annotations__") 170), (.ref 6)⟩, ⟨(PyData.keyHash P (Str.ofString "__builtins__")), (.str (Str.ofString "__builtins__") 171), (.ref 4)⟩, ⟨(PyData.keyHash P (Str.ofString "__file__")), (.str (Str.ofString "__file__") 173), (.str (Str.ofString "/claim/cut.py") 172)⟩, ⟨(PyData.keyHash P (Str.ofString "__cached__")), (.str (Str.ofString "__cached__") 174), .none⟩, ⟨(PyData.keyHash P (Str.ofString "Entry")), (.str (Str.ofString "Entry") 250), (.ref 52)⟩, ⟨(PyData.keyHash P (Str.ofString "merge_entries")), (.str (Str.ofString "merge_entries") 259), (.ref 63)⟩, ⟨(PyData.keyHash P (Str.ofString "b1_set")), (.str (Str.ofString "b1_set") 321), (.ref 71)⟩, ⟨(PyData.keyHash P (Str.ofString "in_table_b1")), (.str (Str.ofString "in_table_b1") 328), (.ref 81)⟩, ⟨(PyData.keyHash P (Str.ofString "b3_exceptions")), (.str (Str.ofString "b3_exceptions") 2279), (.ref 82)⟩, ⟨(PyData.keyHash P (Str.ofString "map_table_b3")), (.str (Str.ofString "map_table_b3") 2287), (.ref 127)⟩, ⟨(PyData.keyHash P (Str.ofString "_law_cells")), (.str (Str.ofString "_law_cells") 2298), (.ref 134)⟩, ⟨(PyData.keyHash P (Str.ofString "_law_sign")), (.str (Str.ofString "_law_sign") 2310), (.ref 141)⟩, ⟨(PyData.keyHash P (Str.ofString "_law_word")), (.str (Str.ofString "_law_word") 2316), (.ref 146)⟩, ⟨(PyData.keyHash P (Str.ofString "_law_prepared")), (.str (Str.ofString "_law_prepared") 2322), (.ref 151)⟩, ⟨(PyData.keyHash P (Str.ofString "_law_rule")), (.str (Str.ofString "_law_rule") 2332), (.ref 158)⟩, ⟨(PyData.keyHash P (Str.ofString "_law_first")), (.str (Str.ofString "_law_first") 2338), (.ref 163)⟩, ⟨(PyData.keyHash P (Str.ofString "_law_cut")), (.str (Str.ofString "_law_cut") 2348), (.ref 170)⟩, ⟨(PyData.keyHash P (Str.ofString "_law_guesses")), (.str (Str.ofString "_law_guesses") 2354), (.ref 175)⟩, ⟨(PyData.keyHash P (Str.ofString "law")), (.str (Str.ofString "law") 2360), (.ref 180)⟩]⟩ 24), ⟨[]⟩⟩
noncomputable def o12f (P : Params) : Obj := ⟨.none, none, (.fields ⟨[(.int (2) 0), (.int (0) 0), (.ref 20), (.int (50) 0), (.int (0) 0), (.ref 62), (.int (59) 0), (.int (0) 0), (.ref 80), (.int (62) 0), (.int (0) 0), (.ref 126), (.int (68) 0), (.int (0) 0), (.ref 133), (.int (73) 0), (.int (0) 0), (.ref 140), (.int (88) 0), (.int (0) 0), (.ref 145), (.int (91) 0), (.int (0) 0), (.ref 150), (.int (93) 0), (.int (0) 0), (.ref 157), (.int (98) 0), (.int (0) 0), (.ref 162), (.int (100) 0), (.int (0) 0), (.ref 169), (.int (106) 0), (.int (0) 0), (.ref 174), (.int (116) 0), (.int (0) 0), (.ref 179)]⟩), ⟨[]⟩⟩
noncomputable def o121f (P : Params) : Obj := ⟨(.type "tuple"), none, (.seq ⟨[]⟩ 0), ⟨[]⟩⟩
noncomputable def o122f (P : Params) : Obj := ⟨.none, none, (.fields ⟨[]⟩), ⟨[]⟩⟩
noncomputable def o123f (P : Params) : Obj := ⟨(.type "tuple"), none, (.seq ⟨[(.str (Str.ofString "code") 2283), (.str (Str.ofString "r") 2284)]⟩ 0), ⟨[]⟩⟩
noncomputable def o124f (P : Params) : Obj := ⟨(.type "tuple"), none, (.seq ⟨[]⟩ 0), ⟨[]⟩⟩
noncomputable def o125f (P : Params) : Obj := ⟨.none, none, (.func { name := (Str.ofString "map_table_b3"), qualname := (Str.ofString "map_table_b3"), params := fArgs (stAt 7), body := .stmts (fBody (stAt 7)), scope := fScope (stAt 7), globals := 0, closure := [], defaults := .none, kwdefaults := .none, doc := .none, pyModule := .none, annotations := none, code := .none, closureTuple := .none, builtins := 0 }), ⟨[]⟩⟩
noncomputable def o126f (P : Params) : Obj := ⟨(.type "code"), none, (.fields ⟨[(.str (Str.ofString "map_table_b3") 2280), (.str (Str.ofString "map_table_b3") 2281), (.str (Str.ofString "/claim/cut.py") 2282), (.int (62) 0), (.int (1) 0), (.int (0) 0), (.int (0) 0), (.int (3) 0), (.ref 121), (.bool true), (.int (181) 0), (.ref 122), .none, (.ref 123), (.ref 124), (.ref 125), (.int (2285) 0), (.int (62) 0), (.str (Str.ofString "/claim/cut.py") 2286)]⟩), ⟨[]⟩⟩
noncomputable def o127f (P : Params) : Obj := ⟨(.type "function"), none, (.func { name := (Str.ofString "map_table_b3"), qualname := (Str.ofString "map_table_b3"), params := fArgs (stAt 7), body := .stmts (fBody (stAt 7)), scope := fScope (stAt 7), globals := 3, closure := [], defaults := .none, kwdefaults := .none, doc := .none, pyModule := (.str (Str.ofString "cpy313.stringprep") 260), annotations := none, code := (.ref 126), closureTuple := .none, builtins := 0 }), ⟨[]⟩⟩
noncomputable def o128f (P : Params) : Obj := ⟨(.type "tuple"), none, (.seq ⟨[]⟩ 0), ⟨[]⟩⟩
noncomputable def o129f (P : Params) : Obj := ⟨.none, none, (.fields ⟨[]⟩), ⟨[]⟩⟩
noncomputable def o130f (P : Params) : Obj := ⟨(.type "tuple"), none, (.seq ⟨[(.str (Str.ofString "script") 2293), (.str (Str.ofString "cells") 2294), (.str (Str.ofString "place") 2295)]⟩ 0), ⟨[]⟩⟩
noncomputable def o131f (P : Params) : Obj := ⟨(.type "tuple"), none, (.seq ⟨[]⟩ 0), ⟨[]⟩⟩
noncomputable def o132f (P : Params) : Obj := ⟨.none, none, (.func { name := (Str.ofString "_law_cells"), qualname := (Str.ofString "_law_cells"), params := fArgs (stAt 9), body := .stmts (fBody (stAt 9)), scope := fScope (stAt 9), globals := 0, closure := [], defaults := .none, kwdefaults := .none, doc := .none, pyModule := .none, annotations := none, code := .none, closureTuple := .none, builtins := 0 }), ⟨[]⟩⟩
noncomputable def o133f (P : Params) : Obj := ⟨(.type "code"), none, (.fields ⟨[(.str (Str.ofString "_law_cells") 2290), (.str (Str.ofString "_law_cells") 2291), (.str (Str.ofString "/claim/cut.py") 2292), (.int (68) 0), (.int (1) 0), (.int (0) 0), (.int (0) 0), (.int (3) 0), (.ref 128), (.bool true), (.int (181) 0), (.ref 129), .none, (.ref 130), (.ref 131), (.ref 132), (.int (2296) 0), (.int (68) 0), (.str (Str.ofString "/claim/cut.py") 2297)]⟩), ⟨[]⟩⟩
noncomputable def o134f (P : Params) : Obj := ⟨(.type "function"), none, (.func { name := (Str.ofString "_law_cells"), qualname := (Str.ofString "_law_cells"), params := fArgs (stAt 9), body := .stmts (fBody (stAt 9)), scope := fScope (stAt 9), globals := 3, closure := [], defaults := .none, kwdefaults := .none, doc := .none, pyModule := (.str (Str.ofString "law_rs0172_02") 2288), annotations := none, code := (.ref 133), closureTuple := .none, builtins := 0 }), ⟨[]⟩⟩
noncomputable def o135f (P : Params) : Obj := ⟨(.type "tuple"), none, (.seq ⟨[]⟩ 0), ⟨[]⟩⟩
noncomputable def o136f (P : Params) : Obj := ⟨.none, none, (.fields ⟨[]⟩), ⟨[]⟩⟩
noncomputable def o137f (P : Params) : Obj := ⟨(.type "tuple"), none, (.seq ⟨[(.str (Str.ofString "letter") 2302), (.str (Str.ofString "figure") 2303), (.str (Str.ofString "pick") 2304), (.str (Str.ofString "fonts") 2305), (.str (Str.ofString "lone") 2306), (.str (Str.ofString "code") 2307)]⟩ 0), ⟨[]⟩⟩
noncomputable def o138f (P : Params) : Obj := ⟨(.type "tuple"), none, (.seq ⟨[]⟩ 0), ⟨[]⟩⟩
noncomputable def o139f (P : Params) : Obj := ⟨.none, none, (.func { name := (Str.ofString "_law_sign"), qualname := (Str.ofString "_law_sign"), params := fArgs (stAt 10), body := .stmts (fBody (stAt 10)), scope := fScope (stAt 10), globals := 0, closure := [], defaults := .none, kwdefaults := .none, doc := .none, pyModule := .none, annotations := none, code := .none, closureTuple := .none, builtins := 0 }), ⟨[]⟩⟩
noncomputable def o140f (P : Params) : Obj := ⟨(.type "code"), none, (.fields ⟨[(.str (Str.ofString "_law_sign") 2299), (.str (Str.ofString "_law_sign") 2300), (.str (Str.ofString "/claim/cut.py") 2301), (.int (73) 0), (.int (3) 0), (.int (0) 0), (.int (0) 0), (.int (3) 0), (.ref 135), (.bool true), (.int (181) 0), (.ref 136), .none, (.ref 137), (.ref 138), (.ref 139), (.int (2308) 0), (.int (73) 0), (.str (Str.ofString "/claim/cut.py") 2309)]⟩), ⟨[]⟩⟩
noncomputable def o141f (P : Params) : Obj := ⟨(.type "function"), none, (.func { name := (Str.ofString "_law_sign"), qualname := (Str.ofString "_law_sign"), params := fArgs (stAt 10), body := .stmts (fBody (stAt 10)), scope := fScope (stAt 10), globals := 3, closure := [], defaults := .none, kwdefaults := .none, doc := .none, pyModule := (.str (Str.ofString "law_rs0172_02") 2288), annotations := none, code := (.ref 140), closureTuple := .none, builtins := 0 }), ⟨[]⟩⟩
noncomputable def o142f (P : Params) : Obj := ⟨(.type "tuple"), none, (.seq ⟨[]⟩ 0), ⟨[]⟩⟩
noncomputable def o143f (P : Params) : Obj := ⟨.none, none, (.fields ⟨[]⟩), ⟨[]⟩⟩
noncomputable def o144f (P : Params) : Obj := ⟨.none, none, (.func { name := (Str.ofString "_law_word"), qualname := (Str.ofString "_law_word"), params := fArgs (stAt 11), body := .stmts (fBody (stAt 11)), scope := fScope (stAt 11), globals := 0, closure := [], defaults := .none, kwdefaults := .none, doc := .none, pyModule := .none, annotations := none, code := .none, closureTuple := .none, builtins := 0 }), ⟨[]⟩⟩
noncomputable def o145f (P : Params) : Obj := ⟨(.type "code"), none, (.fields ⟨[(.str (Str.ofString "_law_word") 2311), (.str (Str.ofString "_law_word") 2312), (.str (Str.ofString "/claim/cut.py") 2313), (.int (88) 0), (.int (2) 0), (.int (0) 0), (.int (0) 0), (.int (3) 0), (.ref 142), (.bool true), (.int (181) 0), (.ref 143), .none, .none, .none, (.ref 144), (.int (2314) 0), (.int (88) 0), (.str (Str.ofString "/claim/cut.py") 2315)]⟩), ⟨[]⟩⟩
noncomputable def o146f (P : Params) : Obj := ⟨(.type "function"), none, (.func { name := (Str.ofString "_law_word"), qualname := (Str.ofString "_law_word"), params := fArgs (stAt 11), body := .stmts (fBody (stAt 11)), scope := fScope (stAt 11), globals := 3, closure := [], defaults := .none, kwdefaults := .none, doc := .none, pyModule := (.str (Str.ofString "law_rs0172_02") 2288), annotations := none, code := (.ref 145), closureTuple := .none, builtins := 0 }), ⟨[]⟩⟩
noncomputable def o147f (P : Params) : Obj := ⟨(.type "tuple"), none, (.seq ⟨[]⟩ 0), ⟨[]⟩⟩
noncomputable def o148f (P : Params) : Obj := ⟨.none, none, (.fields ⟨[]⟩), ⟨[]⟩⟩
noncomputable def o149f (P : Params) : Obj := ⟨.none, none, (.func { name := (Str.ofString "_law_prepared"), qualname := (Str.ofString "_law_prepared"), params := fArgs (stAt 12), body := .stmts (fBody (stAt 12)), scope := fScope (stAt 12), globals := 0, closure := [], defaults := .none, kwdefaults := .none, doc := .none, pyModule := .none, annotations := none, code := .none, closureTuple := .none, builtins := 0 }), ⟨[]⟩⟩
noncomputable def o150f (P : Params) : Obj := ⟨(.type "code"), none, (.fields ⟨[(.str (Str.ofString "_law_prepared") 2317), (.str (Str.ofString "_law_prepared") 2318), (.str (Str.ofString "/claim/cut.py") 2319), (.int (91) 0), (.int (1) 0), (.int (0) 0), (.int (0) 0), (.int (3) 0), (.ref 147), (.bool true), (.int (181) 0), (.ref 148), .none, .none, .none, (.ref 149), (.int (2320) 0), (.int (91) 0), (.str (Str.ofString "/claim/cut.py") 2321)]⟩), ⟨[]⟩⟩
noncomputable def o151f (P : Params) : Obj := ⟨(.type "function"), none, (.func { name := (Str.ofString "_law_prepared"), qualname := (Str.ofString "_law_prepared"), params := fArgs (stAt 12), body := .stmts (fBody (stAt 12)), scope := fScope (stAt 12), globals := 3, closure := [], defaults := .none, kwdefaults := .none, doc := .none, pyModule := (.str (Str.ofString "law_rs0172_02") 2288), annotations := none, code := (.ref 150), closureTuple := .none, builtins := 0 }), ⟨[]⟩⟩
noncomputable def o152f (P : Params) : Obj := ⟨(.type "tuple"), none, (.seq ⟨[]⟩ 0), ⟨[]⟩⟩
noncomputable def o153f (P : Params) : Obj := ⟨.none, none, (.fields ⟨[]⟩), ⟨[]⟩⟩
noncomputable def o154f (P : Params) : Obj := ⟨(.type "tuple"), none, (.seq ⟨[(.str (Str.ofString "front") 2326), (.str (Str.ofString "verdict") 2327), (.str (Str.ofString "rule") 2328)]⟩ 0), ⟨[]⟩⟩
noncomputable def o155f (P : Params) : Obj := ⟨(.type "tuple"), none, (.seq ⟨[(.str (Str.ofString "front") 2329)]⟩ 0), ⟨[]⟩⟩
noncomputable def o156f (P : Params) : Obj := ⟨.none, none, (.func { name := (Str.ofString "_law_rule"), qualname := (Str.ofString "_law_rule"), params := fArgs (stAt 13), body := .stmts (fBody (stAt 13)), scope := fScope (stAt 13), globals := 0, closure := [], defaults := .none, kwdefaults := .none, doc := .none, pyModule := .none, annotations := none, code := .none, closureTuple := .none, builtins := 0 }), ⟨[]⟩⟩
noncomputable def o157f (P : Params) : Obj := ⟨(.type "code"), none, (.fields ⟨[(.str (Str.ofString "_law_rule") 2323), (.str (Str.ofString "_law_rule") 2324), (.str (Str.ofString "/claim/cut.py") 2325), (.int (93) 0), (.int (2) 0), (.int (0) 0), (.int (0) 0), (.int (3) 0), (.ref 152), (.bool true), (.int (181) 0), (.ref 153), .none, (.ref 154), (.ref 155), (.ref 156), (.int (2330) 0), (.int (93) 0), (.str (Str.ofString "/claim/cut.py") 2331)]⟩), ⟨[]⟩⟩
noncomputable def o158f (P : Params) : Obj := ⟨(.type "function"), none, (.func { name := (Str.ofString "_law_rule"), qualname := (Str.ofString "_law_rule"), params := fArgs (stAt 13), body := .stmts (fBody (stAt 13)), scope := fScope (stAt 13), globals := 3, closure := [], defaults := .none, kwdefaults := .none, doc := .none, pyModule := (.str (Str.ofString "law_rs0172_02") 2288), annotations := none, code := (.ref 157), closureTuple := .none, builtins := 0 }), ⟨[]⟩⟩
noncomputable def o159f (P : Params) : Obj := ⟨(.type "tuple"), none, (.seq ⟨[]⟩ 0), ⟨[]⟩⟩
noncomputable def o160f (P : Params) : Obj := ⟨.none, none, (.fields ⟨[]⟩), ⟨[]⟩⟩
noncomputable def o161f (P : Params) : Obj := ⟨.none, none, (.func { name := (Str.ofString "_law_first"), qualname := (Str.ofString "_law_first"), params := fArgs (stAt 14), body := .stmts (fBody (stAt 14)), scope := fScope (stAt 14), globals := 0, closure := [], defaults := .none, kwdefaults := .none, doc := .none, pyModule := .none, annotations := none, code := .none, closureTuple := .none, builtins := 0 }), ⟨[]⟩⟩
noncomputable def o162f (P : Params) : Obj := ⟨(.type "code"), none, (.fields ⟨[(.str (Str.ofString "_law_first") 2333), (.str (Str.ofString "_law_first") 2334), (.str (Str.ofString "/claim/cut.py") 2335), (.int (98) 0), (.int (1) 0), (.int (0) 0), (.int (0) 0), (.int (3) 0), (.ref 159), (.bool true), (.int (181) 0), (.ref 160), .none, .none, .none, (.ref 161), (.int (2336) 0), (.int (98) 0), (.str (Str.ofString "/claim/cut.py") 2337)]⟩), ⟨[]⟩⟩
noncomputable def o163f (P : Params) : Obj := ⟨(.type "function"), none, (.func { name := (Str.ofString "_law_first"), qualname := (Str.ofString "_law_first"), params := fArgs (stAt 14), body := .stmts (fBody (stAt 14)), scope := fScope (stAt 14), globals := 3, closure := [], defaults := .none, kwdefaults := .none, doc := .none, pyModule := (.str (Str.ofString "law_rs0172_02") 2288), annotations := none, code := (.ref 162), closureTuple := .none, builtins := 0 }), ⟨[]⟩⟩
noncomputable def o164f (P : Params) : Obj := ⟨(.type "tuple"), none, (.seq ⟨[]⟩ 0), ⟨[]⟩⟩
noncomputable def o165f (P : Params) : Obj := ⟨.none, none, (.fields ⟨[]⟩), ⟨[]⟩⟩
noncomputable def o166f (P : Params) : Obj := ⟨(.type "tuple"), none, (.seq ⟨[(.str (Str.ofString "coins") 2342), (.str (Str.ofString "size") 2343), (.str (Str.ofString "counts") 2344), (.str (Str.ofString "coin") 2345)]⟩ 0), ⟨[]⟩⟩
noncomputable def o167f (P : Params) : Obj := ⟨(.type "tuple"), none, (.seq ⟨[]⟩ 0), ⟨[]⟩⟩
noncomputable def o168f (P : Params) : Obj := ⟨.none, none, (.func { name := (Str.ofString "_law_cut"), qualname := (Str.ofString "_law_cut"), params := fArgs (stAt 15), body := .stmts (fBody (stAt 15)), scope := fScope (stAt 15), globals := 0, closure := [], defaults := .none, kwdefaults := .none, doc := .none, pyModule := .none, annotations := none, code := .none, closureTuple := .none, builtins := 0 }), ⟨[]⟩⟩
noncomputable def o169f (P : Params) : Obj := ⟨(.type "code"), none, (.fields ⟨[(.str (Str.ofString "_law_cut") 2339), (.str (Str.ofString "_law_cut") 2340), (.str (Str.ofString "/claim/cut.py") 2341), (.int (100) 0), (.int (2) 0), (.int (0) 0), (.int (0) 0), (.int (3) 0), (.ref 164), (.bool true), (.int (181) 0), (.ref 165), .none, (.ref 166), (.ref 167), (.ref 168), (.int (2346) 0), (.int (100) 0), (.str (Str.ofString "/claim/cut.py") 2347)]⟩), ⟨[]⟩⟩
noncomputable def o170f (P : Params) : Obj := ⟨(.type "function"), none, (.func { name := (Str.ofString "_law_cut"), qualname := (Str.ofString "_law_cut"), params := fArgs (stAt 15), body := .stmts (fBody (stAt 15)), scope := fScope (stAt 15), globals := 3, closure := [], defaults := .none, kwdefaults := .none, doc := .none, pyModule := (.str (Str.ofString "law_rs0172_02") 2288), annotations := none, code := (.ref 169), closureTuple := .none, builtins := 0 }), ⟨[]⟩⟩
noncomputable def o171f (P : Params) : Obj := ⟨(.type "tuple"), none, (.seq ⟨[]⟩ 0), ⟨[]⟩⟩
noncomputable def o172f (P : Params) : Obj := ⟨.none, none, (.fields ⟨[]⟩), ⟨[]⟩⟩
noncomputable def o173f (P : Params) : Obj := ⟨.none, none, (.func { name := (Str.ofString "_law_guesses"), qualname := (Str.ofString "_law_guesses"), params := fArgs (stAt 16), body := .stmts (fBody (stAt 16)), scope := fScope (stAt 16), globals := 0, closure := [], defaults := .none, kwdefaults := .none, doc := .none, pyModule := .none, annotations := none, code := .none, closureTuple := .none, builtins := 0 }), ⟨[]⟩⟩
noncomputable def o174f (P : Params) : Obj := ⟨(.type "code"), none, (.fields ⟨[(.str (Str.ofString "_law_guesses") 2349), (.str (Str.ofString "_law_guesses") 2350), (.str (Str.ofString "/claim/cut.py") 2351), (.int (106) 0), (.int (1) 0), (.int (0) 0), (.int (0) 0), (.int (3) 0), (.ref 171), (.bool true), (.int (181) 0), (.ref 172), .none, .none, .none, (.ref 173), (.int (2352) 0), (.int (106) 0), (.str (Str.ofString "/claim/cut.py") 2353)]⟩), ⟨[]⟩⟩
noncomputable def o175f (P : Params) : Obj := ⟨(.type "function"), none, (.func { name := (Str.ofString "_law_guesses"), qualname := (Str.ofString "_law_guesses"), params := fArgs (stAt 16), body := .stmts (fBody (stAt 16)), scope := fScope (stAt 16), globals := 3, closure := [], defaults := .none, kwdefaults := .none, doc := .none, pyModule := (.str (Str.ofString "law_rs0172_02") 2288), annotations := none, code := (.ref 174), closureTuple := .none, builtins := 0 }), ⟨[]⟩⟩
noncomputable def o176f (P : Params) : Obj := ⟨(.type "tuple"), none, (.seq ⟨[]⟩ 0), ⟨[]⟩⟩
noncomputable def o177f (P : Params) : Obj := ⟨.none, none, (.fields ⟨[]⟩), ⟨[]⟩⟩
noncomputable def o178f (P : Params) : Obj := ⟨.none, none, (.func { name := (Str.ofString "law"), qualname := (Str.ofString "law"), params := fArgs (stAt 17), body := .stmts (fBody (stAt 17)), scope := fScope (stAt 17), globals := 0, closure := [], defaults := .none, kwdefaults := .none, doc := .none, pyModule := .none, annotations := none, code := .none, closureTuple := .none, builtins := 0 }), ⟨[]⟩⟩
noncomputable def o179f (P : Params) : Obj := ⟨(.type "code"), none, (.fields ⟨[(.str (Str.ofString "law") 2355), (.str (Str.ofString "law") 2356), (.str (Str.ofString "/claim/cut.py") 2357), (.int (116) 0), (.int (1) 0), (.int (0) 0), (.int (0) 0), (.int (3) 0), (.ref 176), (.bool true), (.int (181) 0), (.ref 177), .none, .none, .none, (.ref 178), (.int (2358) 0), (.int (116) 0), (.str (Str.ofString "/claim/cut.py") 2359)]⟩), ⟨[]⟩⟩
noncomputable def o180f (P : Params) : Obj := ⟨(.type "function"), none, (.func { name := (Str.ofString "law"), qualname := (Str.ofString "law"), params := fArgs (stAt 17), body := .stmts (fBody (stAt 17)), scope := fScope (stAt 17), globals := 3, closure := [], defaults := .none, kwdefaults := .none, doc := .none, pyModule := (.str (Str.ofString "law_rs0172_02") 2288), annotations := none, code := (.ref 179), closureTuple := .none, builtins := 0 }), ⟨[]⟩⟩
noncomputable def hpF (P : Params) : Heap := ⟨⟨[boot_o_0 P, boot_o_1 P, boot_o_2 P, o3f P, boot_o_4 P, boot_o_5 P, boot_o_6 P, boot_o_7 P, boot_o_8 P, boot_o_9 P, boot_o_10 P, o11a P, o12f P, o13a P, o14a P, o15b P, o16b P, o17b P, o18b P, o19b P, o20b P, o21b P, o22b P, o23b P, o24b P, o25b P, o26b P, o27b P, o28b P, o29b P, o30b P, o31b P, o32b P, o33b P, o34b P, o35b P, o36b P, o37b P, o38b P, o39b P, o40b P, o41b P, o42b P, o43b P, o44b P, o45b P, o46b P, o47b P, o48b P, o49b P, o50b P, o51b P, o52b P, o53b P, o54b P, o55b P, o56b P, o57b P, o58b P, o59b P, o60b P, o61b P, o62b P, o63b P, o64c P, o65c P, o66c P, o67c P, o68c P, o69c P, o70c P, o71c P, o72c P, o73c P, o74c P, o75d P, o76d P, o77d P, o78d P, o79d P, o80d P, o81d P, mdict, (sdict 0), (sdict 1), (sdict 2), (sdict 3), (sdict 4), (sdict 5), (sdict 6), (sdict 7), (sdict 8), (sdict 9), (sdict 10), (sdict 11), (sdict 12), (sdict 13), (sdict 14), (sdict 15), (sdict 16), (sdict 17), (sdict 18), (sdict 19), (sdict 20), (sdict 21), (sdict 22), (sdict 23), (sdict 24), (sdict 25), (sdict 26), (sdict 27), (sdict 28), (sdict 29), (sdict 30), (sdict 31), (sdict 32), (sdict 33), (sdict 34), (sdict 35), (sdict 36), (sdict 37), o121f P, o122f P, o123f P, o124f P, o125f P, o126f P, o127f P, o128f P, o129f P, o130f P, o131f P, o132f P, o133f P, o134f P, o135f P, o136f P, o137f P, o138f P, o139f P, o140f P, o141f P, o142f P, o143f P, o144f P, o145f P, o146f P, o147f P, o148f P, o149f P, o150f P, o151f P, o152f P, o153f P, o154f P, o155f P, o156f P, o157f P, o158f P, o159f P, o160f P, o161f P, o162f P, o163f P, o164f P, o165f P, o166f P, o167f P, o168f P, o169f P, o170f P, o171f P, o172f P, o173f P, o174f P, o175f P, o176f P, o177f P, o178f P, o179f P, o180f P]⟩, {}⟩

noncomputable def tenv : Env := { scope := PR.main.scope, locals := mainNs, globals := mainNs, cells := [], code := .ref 13, frame := some 14 }
noncomputable def tcode : Code := .body (behindTheImports PR) tenv
noncomputable abbrev tB : List Frame := [topFrame ⟨0, 0, 0, 0⟩]
noncomputable abbrev tann : Option Value := some (.ref 6)
noncomputable def gA : List Stmt := PR.main.body.take 4
noncomputable def gB : List Stmt := [stAt 4]
noncomputable def gC : List Stmt := (PR.main.body.drop 5).take 1
noncomputable def gD : List Stmt := [stAt 6]
noncomputable def gE : List Stmt := PR.main.body.drop 7
theorem body_is : behindTheImports PR = gA ++ (gB ++ (gC ++ (gD ++ (gE ++ [])))) := by kernel_rfl
theorem pc_pre (w : World) (os : OsState) : topGo treeTable PR w 11 tann 12 ⟨boot_heap w.params, Array.mk [], boot_drawn, boot_toks, os⟩ (topStub PR) = some (⟨hpPre w.params, Array.mk [], boot_drawn, 187, os⟩, ⟨denote treeTable tcode, tcode, ⟨0, 0, 0, 0⟩, tB⟩) := by kernel_rfl
theorem pc_blk (w : World) (os : OsState) : segRun treeTable PR w 11 tann 1 1 ⟨hpPre w.params, Array.mk [], boot_drawn, 187, os⟩ (blockOf (behindTheImports PR) tenv tcode ⟨0, 0, 0, 0⟩ tB) = some (.next, ⟨hpPre w.params, Array.mk [], boot_drawn, 187, os⟩, tcode, ⟨0, 0, 0, 0⟩) := by kernel_rfl
theorem pc_A (w : World) (os : OsState) : segRun treeTable PR w 11 tann 1 377 ⟨hpPre w.params, Array.mk [], boot_drawn, 187, os⟩ (piecesOf gA tenv tcode ⟨0, 0, 0, 0⟩ tB) = some (.next, ⟨hpB w.params, Array.mk [], boot_drawn, 262, os⟩, tcode, ⟨57, 0, 57, 8⟩) := by
  rw [PySem.W.Fast.te14374325043358763698, PySem.W.Fast.te14364793385576792824]
  kernel_rfl
noncomputable def okB (w : World) : Prop := ∀ os : OsState, segRun treeTable PR w 11 tann 1 999 ⟨hpB w.params, Array.mk [], boot_drawn, 262, os⟩ (piecesOf gB tenv tcode ⟨57, 0, 57, 8⟩ tB) = some (.next, ⟨hpC w.params, Array.mk [], boot_drawn, 322, os⟩, tcode, ⟨58, 0, 58, 6⟩)
theorem pc_B_false_false (w : World) : okB ((w.withFollow "set-order" false).withFollow "special-get-raises" false) := by
  intro os
  rw [PySem.W.Fast.te14374325043358763698, PySem.W.Fast.te14364793385576792824]
  kernel_rfl
theorem pc_B_false_true (w : World) : okB ((w.withFollow "set-order" false).withFollow "special-get-raises" true) := by
  intro os
  rw [PySem.W.Fast.te14374325043358763698, PySem.W.Fast.te14364793385576792824]
  kernel_rfl
theorem pc_B_true_false (w : World) : okB ((w.withFollow "set-order" true).withFollow "special-get-raises" false) := by
  intro os
  rw [PySem.W.Fast.te14374325043358763698, PySem.W.Fast.te14364793385576792824]
  kernel_rfl
theorem pc_B_true_true (w : World) : okB ((w.withFollow "set-order" true).withFollow "special-get-raises" true) := by
  intro os
  rw [PySem.W.Fast.te14374325043358763698, PySem.W.Fast.te14364793385576792824]
  kernel_rfl
theorem pc_B : ∀ w : World, okB w := by
  intro w
  refine byRow2 "set-order" (fun w => ?_) (fun w => ?_) w
  · have : ∀ v : World, okB ((w.withFollow "set-order" false).withFollow "special-get-raises" (v.params.followText "special-get-raises")) := fun v => by
      cases v.params.followText "special-get-raises"
      · exact pc_B_false_false w
      · exact pc_B_false_true w
    have h := this (w.withFollow "set-order" false)
    rwa [World.withFollow_self] at h
  · have : ∀ v : World, okB ((w.withFollow "set-order" true).withFollow "special-get-raises" (v.params.followText "special-get-raises")) := fun v => by
      cases v.params.followText "special-get-raises"
      · exact pc_B_true_false w
      · exact pc_B_true_true w
    have h := this (w.withFollow "set-order" true)
    rwa [World.withFollow_self] at h
theorem pc_C (w : World) (os : OsState) : segRun treeTable PR w 11 tann 1 30 ⟨hpC w.params, Array.mk [], boot_drawn, 322, os⟩ (piecesOf gC tenv tcode ⟨58, 0, 58, 6⟩ tB) = some (.next, ⟨hpD w.params, Array.mk [], boot_drawn, 329, os⟩, tcode, ⟨59, 0, 60, 30⟩) := by
  rw [PySem.W.Fast.te14374325043358763698, PySem.W.Fast.te14364793385576792824]
  kernel_rfl
theorem d_stmt : stAt 6 = .Assign dTgt (.Dict (dPE.map fun a => some a.key) (dPE.map PE.val) dPosD) dPosS := by kernel_rfl
theorem d_len : dPE.length = 650 := by kernel_rfl
theorem d_incr : incrB 0 dPE = true := by kernel_rfl
theorem d_swaps (a : List (Option Expr)) (b : List Expr) (c : Pos) (l : Nat) : swapsWithSole dTgt (.Dict a b c) l tenv = pure false := by kernel_rfl
theorem d_swapped (a : List (Option Expr)) (b : List Expr) (c : Pos) : swappedStores dTgt (.Dict a b c) tenv = pure none := by kernel_rfl
theorem pc_tail (w : World) (os : OsState) (K : Flow → Sem PySem.Fin) (H : Value → Sem PySem.Fin) (gd : Bool → Bool) (lv : List Value → List Value) (code : Code) (f : Frame) (rest : List Frame) (pos : Pos) :
    topGo treeTable PR w 11 tann 7 ⟨hpD2 w.params, Array.mk [], boot_drawn, 2279, os⟩ ⟨(assignStores tenv (.ref 82) none ((assignEach dTgt tenv).map (·.2))).wrap K H gd lv, code, pos, f :: rest⟩ =
      some (⟨hpE w.params, Array.mk [], boot_drawn, 2280, os⟩, ⟨K .next, code, ⟨61, 0, 61, 13⟩, f :: rest⟩) := by
  rw [PySem.W.Fast.te15667345088766844465, PySem.W.Fast.te14364793385576792824]
  kernel_rfl
theorem sdicts_is : sdicts = [sdict 0, sdict 1, sdict 2, sdict 3, sdict 4, sdict 5, sdict 6, sdict 7, sdict 8, sdict 9, sdict 10, sdict 11, sdict 12, sdict 13, sdict 14, sdict 15, sdict 16, sdict 17, sdict 18, sdict 19, sdict 20, sdict 21, sdict 22, sdict 23, sdict 24, sdict 25, sdict 26, sdict 27, sdict 28, sdict 29, sdict 30, sdict 31, sdict 32, sdict 33, sdict 34, sdict 35, sdict 36, sdict 37] := by
  have h : sdicts.length = 38 := by
    show (subsOf (329 + 51) (chop 37 (dPE.drop 17)) ++ [_]).length = 38
    rw [List.length_append, subsOf_length, chop_length]; rfl
  exact list38 default sdicts h
theorem hN_list (xs l : List Obj) (life : Life) : hN ⟨⟨xs⟩, life⟩ l = ⟨⟨xs ++ l⟩, life⟩ := by simp [hN]
theorem hpD_size (P : Params) : (hpD P).objs.size = 82 := rfl
theorem d_heap (P : Params) : hN (hpD P) (mdict :: sdicts) = hpD2 P := by
  rw [sdicts_is]
  exact hN_list _ _ _
theorem d_heap0 (P : Params) : hN (hpD P) [] = hpD P := hN_list _ _ _
theorem tgx_D (w : World) (os : OsState) (pos : Pos) : TGx PR w 11 tann 40010 (exec (stAt 6) tenv) pos ⟨hpD w.params, Array.mk [], boot_drawn, 329, os⟩ .next ⟨61, 0, 61, 13⟩ ⟨hpE w.params, Array.mk [], boot_drawn, 2280, os⟩ := by
  rw [d_stmt, arm_exec_Assign]
  refine TGx.at (n := 40009) (k := fun u => (Sem.pure u).bind fun _ => _) ?_
  refine TGx.bind' (n := 0) (m := 40009) TGx.pure ?_
  rw [d_swaps]
  refine TGx.bindE (n := 0) (m := 40009) TGx.pure ?_ (by omega)
  rw [if_neg Bool.false_ne_true]
  obtain ⟨pos', k⟩ := tgx_650 (p := PR) (w := w) (ann := tann) (env := tenv) (q := dPosD) (pos := dPosD) (h := hpD w.params) (gens := Array.mk []) (drawn := boot_drawn) (toks := 329) (os := os) (L := dPE) d_len d_incr (by rw [hpD_size]; omega)
  rw [d_heap0, hpD_size] at k
  have k2 : hN (hpD w.params) (dObj (ents 3 329 (dPE.take 17 ++ (chop 37 (dPE.drop 17)).flatten) ++ ents 2 (329 + 3 * 646) (dPE.drop 646)) 650 :: (subsOf (329 + 51) (chop 37 (dPE.drop 17)) ++ [dObj (ents 2 (329 + 3 * 646) (dPE.drop 646)) 4])) = hpD2 w.params := d_heap w.params
  rw [k2] at k
  refine TGx.bindE (n := 40001) (m := 7) (a := .ref 82) (pos₁ := pos') (s₁ := ⟨hpD2 w.params, Array.mk [], boot_drawn, 2279, os⟩) ?_ ?_ (by omega)
  · rw [arm_eval_Dict]
    refine TGx.at (n := 40000) (k := fun u => (Sem.pure u).bind fun _ => _) ?_
    refine TGx.bind' (n := 0) (m := 40000) TGx.pure ?_
    have z := items_zip tenv dPosD dPE

    rw [z]
    exact k
  · rw [d_swapped]
    refine TGx.bindE (n := 0) (m := 7) TGx.pure ?_ (by omega)
    intro K H gd lv code f rest
    exact TG.ofGo (pc_tail w os K H gd lv code f rest pos')
theorem rest_D (w : World) (os : OsState) (pos : Pos) (rest : List Stmt) : TG PR w 11 tann 40010 ⟨hpD w.params, Array.mk [], boot_drawn, 329, os⟩ (restOf (gD ++ rest) tenv tcode pos tB) ⟨hpE w.params, Array.mk [], boot_drawn, 2280, os⟩ (restOf rest tenv tcode ⟨61, 0, 61, 13⟩ tB) := by
  have h := tgx_D w os pos (fun f => match f with | .next => (execs rest tenv).wrap doneF (leaveH tenv) id id | f => doneF f) (leaveH tenv) id id tcode (topFrame ⟨0, 0, 0, 0⟩) []
  unfold restOf
  show TG PR w 11 tann _ _ ⟨(execs (stAt 6 :: rest) tenv).wrap doneF (leaveH tenv) id id, _, _, _⟩ _ _
  rw [execs_cons_wrap]
  exact h
theorem pc_E (w : World) (os : OsState) : segRun treeTable PR w 11 tann 1 299 ⟨hpE w.params, Array.mk [], boot_drawn, 2280, os⟩ (piecesOf gE tenv tcode ⟨61, 0, 61, 13⟩ tB) = some (.next, ⟨hpF w.params, Array.mk [], boot_drawn, 2361, os⟩, tcode, ⟨116, 0, 154, 106⟩) := by
  rw [PySem.W.Fast.te14374325043358763698, PySem.W.Fast.te14364793385576792824]
  kernel_rfl
theorem pc_fin (w : World) (os : OsState) : topRun treeTable PR w 11 tann 2 ⟨hpF w.params, Array.mk [], boot_drawn, 2361, os⟩ ⟨doneF .next, tcode, ⟨116, 0, 154, 106⟩, tB⟩ = some ⟨hpF w.params, Array.mk [], boot_drawn, 2361, os⟩ := by kernel_rfl
theorem run_all (w : World) (os : OsState) : topRun treeTable PR w 11 tann (12 + (1 + (377 + (999 + (30 + (40010 + (299 + 2))))))) ⟨boot_heap w.params, Array.mk [], boot_drawn, boot_toks, os⟩ (topStub PR) = some ⟨hpF w.params, Array.mk [], boot_drawn, 2361, os⟩ := by
  refine go_top (pc_pre w os) ?_
  refine piece_block (pc_blk w os) ?_
  rw [body_is]
  refine piece_app (pc_A w os) (piece_app (pc_B w os) (piece_app (pc_C w os) ?_))
  refine rest_D w os _ _ _ _ ?_
  exact piece_app (pc_E w os) (piece_nil (pc_fin w os))

noncomputable def kAs : List Addr := [0, 1, 2, 3, 4, 5, 6, 7, 8, 9, 10, 11, 12, 13, 14, 15, 16, 17, 18, 19, 20, 21, 22, 23, 24, 25, 26, 27, 28, 29, 30, 31, 32, 33, 34, 35, 36, 37, 38, 39, 40, 41, 42, 43, 44, 45, 46, 47, 48, 49, 50, 51, 52, 53, 54, 55, 56, 57, 58, 59, 60, 61, 62, 63, 64, 65, 66, 67, 68, 69, 70, 71, 72, 73, 74, 75, 76, 77, 78, 79, 80, 81, 82, 121, 122, 123, 124, 125, 126, 127, 128, 129, 130, 131, 132, 133, 134, 135, 136, 137, 138, 139, 140, 141, 142, 143, 144, 145, 146, 147, 148, 149, 150, 151, 152, 153, 154, 155, 156, 157, 158, 159, 160, 161, 162, 163, 164, 165, 166, 167, 168, 169, 170, 171, 172, 173, 174, 175, 176, 177, 178, 179, 180]
noncomputable def KF (P : Params) : Frag := [(0, boot_o_0 P), (1, boot_o_1 P), (2, boot_o_2 P), (3, o3f P), (4, boot_o_4 P), (5, boot_o_5 P), (6, boot_o_6 P), (7, boot_o_7 P), (8, boot_o_8 P), (9, boot_o_9 P), (10, boot_o_10 P), (11, o11a P), (12, o12f P), (13, o13a P), (14, o14a P), (15, o15b P), (16, o16b P), (17, o17b P), (18, o18b P), (19, o19b P), (20, o20b P), (21, o21b P), (22, o22b P), (23, o23b P), (24, o24b P), (25, o25b P), (26, o26b P), (27, o27b P), (28, o28b P), (29, o29b P), (30, o30b P), (31, o31b P), (32, o32b P), (33, o33b P), (34, o34b P), (35, o35b P), (36, o36b P), (37, o37b P), (38, o38b P), (39, o39b P), (40, o40b P), (41, o41b P), (42, o42b P), (43, o43b P), (44, o44b P), (45, o45b P), (46, o46b P), (47, o47b P), (48, o48b P), (49, o49b P), (50, o50b P), (51, o51b P), (52, o52b P), (53, o53b P), (54, o54b P), (55, o55b P), (56, o56b P), (57, o57b P), (58, o58b P), (59, o59b P), (60, o60b P), (61, o61b P), (62, o62b P), (63, o63b P), (64, o64c P), (65, o65c P), (66, o66c P), (67, o67c P), (68, o68c P), (69, o69c P), (70, o70c P), (71, o71c P), (72, o72c P), (73, o73c P), (74, o74c P), (75, o75d P), (76, o76d P), (77, o77d P), (78, o78d P), (79, o79d P), (80, o80d P), (81, o81d P), (82, mdict), (121, o121f P), (122, o122f P), (123, o123f P), (124, o124f P), (125, o125f P), (126, o126f P), (127, o127f P), (128, o128f P), (129, o129f P), (130, o130f P), (131, o131f P), (132, o132f P), (133, o133f P), (134, o134f P), (135, o135f P), (136, o136f P), (137, o137f P), (138, o138f P), (139, o139f P), (140, o140f P), (141, o141f P), (142, o142f P), (143, o143f P), (144, o144f P), (145, o145f P), (146, o146f P), (147, o147f P), (148, o148f P), (149, o149f P), (150, o150f P), (151, o151f P), (152, o152f P), (153, o153f P), (154, o154f P), (155, o155f P), (156, o156f P), (157, o157f P), (158, o158f P), (159, o159f P), (160, o160f P), (161, o161f P), (162, o162f P), (163, o163f P), (164, o164f P), (165, o165f P), (166, o166f P), (167, o167f P), (168, o168f P), (169, o169f P), (170, o170f P), (171, o171f P), (172, o172f P), (173, o173f P), (174, o174f P), (175, o175f P), (176, o176f P), (177, o177f P), (178, o178f P), (179, o179f P), (180, o180f P)]
theorem kf_addrs (P : Params) : kAs = (KF P).map (·.1) := by kernel_rfl
noncomputable def qV : Program := { PR with main := { PR.main with body := [stAt 17] } }
noncomputable def looseV : List Str := [Str.ofString "Entry", Str.ofString "merge_entries", Str.ofString "b1_set", Str.ofString "in_table_b1", Str.ofString "b3_exceptions", Str.ofString "map_table_b3", Str.ofString "_law_cells", Str.ofString "_law_sign", Str.ofString "_law_word", Str.ofString "_law_prepared", Str.ofString "_law_rule", Str.ofString "_law_first", Str.ofString "_law_cut", Str.ofString "_law_guesses"]
noncomputable abbrev kYf : Shared → List (Option Obj) := fun s => kAs.map s.heap.get?
noncomputable abbrev kYa : World → List (Option Obj) := fun w => (KF w.params).map fun p => some p.2
theorem size_ok (w : World) : ((boot_heap w.params).isNs mainGlobals && (Array.mk [] : Array GenState).size == 0, (boot_heap w.params).objs.size, (boot_heap w.params).nsMap mainGlobals "__annotations__") = (true, 11, tann) := by kernel_rfl
theorem open_ok : ∀ w : World, (fencedOpening treeTable PR w 100000).map (fun s => (s.heap, s.gens, s.drawn, s.toks)) = some (boot_heap w.params, Array.mk [], boot_drawn, boot_toks) :=
  boot_open (by kernel_rfl) (by kernel_rfl) fun s => (by kernel_rfl)
theorem looks_ok (w : World) : (fun os : OsState => ((staticsOk (importedModules PR.main.body) (boot_heap w.params) (hpF w.params) && namesBound PR (hpF w.params) && gensDone ⟨hpF w.params, Array.mk [], boot_drawn, 2361, os⟩ && laidKept (boot_heap w.params) (hpF w.params)),
        openSeen qV looseV (importedModules PR.main.body) (fun _ => true) true ⟨hpF w.params, Array.mk [], boot_drawn, 2361, os⟩, kYf ⟨hpF w.params, Array.mk [], boot_drawn, 2361, os⟩)) = fun _ => (true, openGood qV looseV, kYa w) := by
  kernel_rfl
theorem left_ok : LeftO PR qV looseV (fun _ => true) kYf kYa 100000 :=
  LeftO.of_pieces (H₀ := boot_heap) (H₁ := hpF) (k₁ := 2361) (m₀ := 11) (ann := tann) open_ok size_ok run_all (by kernel_rfl) looks_ok

end
end Mine
end H2

section C35
open PySem PySem.W PyProof.Rows
set_option Elab.async false
set_option linter.unusedVariables false
set_option maxRecDepth 100000
namespace Mine
theorem strL_cps (x : List Nat) : (strL x).cps.toList = x := by simp [strL]
theorem lower_ok {x : List Nat} (h : ∀ c ∈ x, c < 128) : lowerL x = x.map lo1 := by
  unfold lowerL
  rw [lower_ascii (by rw [strL_cps]; exact h)]
  simp [strL]
section
variable {C : Cx} {k : Nat} {σ : Sto} {K : PV → Sto → Prop}
end
end Mine
end C35

section C36
open PySem PySem.W PyProof.Rows
set_option Elab.async false
set_option linter.unusedVariables false
set_option maxRecDepth 100000
namespace Mine
end Mine
end C36

section C37
open PySem PySem.W PyProof.Rows
set_option Elab.async false
set_option linter.unusedVariables false
set_option maxRecDepth 100000
namespace Mine
theorem ite_dec {p : Prop} [Decidable p] {A B : Prop} (h1 : p → A) (h2 : ¬ p → B) : if decide p = true then A else B := by
  by_cases h : p
  · rw [if_pos (decide_eq_true h)]; exact h1 h
  · rw [if_neg (by simpa using h)]; exact h2 h
theorem ite_bool {b : Bool} {A B : Prop} (h1 : b = true → A) (h2 : b = false → B) : if b = true then A else B := by
  cases b
  · exact h2 rfl
  · exact h1 rfl
section
variable {C : Cx} {k : Nat} {σ : Sto} {a b : Nat} {K : PV → Sto → Prop}
theorem Op2.modN (hb : 0 < b) (h : K (.int ((a % b : Nat) : Int)) σ) : Op2 C k σ (.int (a : Nat)) (.int (b : Nat)) (binaryOp .Mod) K :=
  Op2.mod (by lia) (by rw [Int.natCast_emod] at h; exact h)
theorem Op2.divN (hb : 0 < b) (h : K (.int ((a / b : Nat) : Int)) σ) (hs : b < 2 ^ 30 := by decide) : Op2 C k σ (.int (a : Nat)) (.int (b : Nat)) (binaryOp .FloorDiv) K :=
  Op2.div (by lia) (by rw [Int.natCast_ediv] at h; exact h) (PyProof.noPylong_small (by lia))
theorem Op2.addN (h : K (.int ((a + b : Nat) : Int)) σ) : Op2 C k σ (.int (a : Nat)) (.int (b : Nat)) (binaryOp .Add) K :=
  Op2.add (by rw [Int.natCast_add] at h; exact h)
theorem Op2.ltN (h : K (.bool (decide (a < b))) σ) : Op2 C k σ (.int (a : Nat)) (.int (b : Nat)) (compareOp .Lt) K :=
  Op2.lt (by have e : decide ((a : Int) < (b : Int)) = decide (a < b) := by simp
             rw [e]; exact h)
theorem Op2.leN (h : K (.bool (decide (a ≤ b))) σ) : Op2 C k σ (.int (a : Nat)) (.int (b : Nat)) (compareOp .LtE) K :=
  Op2.le (by have e : decide ((a : Int) ≤ (b : Int)) = decide (a ≤ b) := by simp
             rw [e]; exact h)
theorem Op2.eqN (h : K (.bool (decide (a = b))) σ) : Op2 C k σ (.int (a : Nat)) (.int (b : Nat)) (compareOp .Eq) K :=
  Op2.eqi (by have e : ((a : Int) == (b : Int)) = decide (a = b) := by
                by_cases h : a = b
                · simp [h]
                · have : (a : Int) ≠ b := by lia
                  simp [h, this]
              rw [e]; exact h)
theorem OpL.chrN (h0 : a ≤ 0x10FFFF) (h : K (.str [a]) σ) : OpL C k σ [.int (a : Nat)] (fun vs => PySem.call (.builtin "chr") vs) K :=
  OpL.chr (by lia) (by lia) (by simpa using h)
/-- an item of a list, by its place -/
theorem Op2.itemN {value slice : Expr} {d : PV} {l : PV} {xs : List PV} {i : Nat} (hl : LRead C σ l xs) (hx : xs[i]? = some d) (h : K d σ) (hs : xs.length < 2 ^ 60 := by decide) : Op2 C k σ l (.int (i : Nat)) (subscriptTail value slice) K := by
  have hi := (List.getElem?_eq_some_iff.mp hx).1
  exact Op2.item hl (by lia) (by lia) (by simpa using hx) h
noncomputable abbrev nums (l : List Nat) : List PV := (l.map fun (n : Nat) => (n : Int)).map .int
theorem nums_get {l : List Nat} {i : Nat} (hi : i < l.length) : (nums l)[i]? = some (.int ((l.getD i 0 : Nat) : Int)) := by
  simp [nums, List.getElem?_eq_getElem hi]
/-- an item of a written list of ints -/
theorem Op2.pick {value slice : Expr} {l : List Nat} {i : Nat} (hi : i < l.length) (h : K (.int ((l.getD i 0 : Nat) : Int)) σ) (hs : l.length < 2 ^ 60 := by decide) : Op2 C k σ (.list (nums l)) (.int (i : Nat)) (subscriptTail value slice) K :=
  Op2.itemN .list (nums_get hi) h (by simpa using hs)
end
theorem Ev.nats {C k sc ρ σ es pos K} (ns : List Nat) (h : constInts es = some (ns.map fun (n : Nat) => (n : Int))) (hl : ns.length ≤ 1000) (hK : K (.list (nums ns)) σ) : Ev C k sc ρ σ (.List es pos) K :=
  Ev.ints _ h (by simpa using hl) hK
theorem Ev.tuple2 {C k sc ρ σ e₁ e₂ x pos K} (h : Ev C k sc ρ σ e₁ fun a σ₁ => Ev C k sc ρ σ₁ e₂ fun b σ₂ => K (.tuple [a, b]) σ₂) (hp : [e₁, e₂].all plainE = true) : Ev C k sc ρ σ (.Tuple [e₁, e₂] x pos) K :=
  Ev.tuple (Ev.mono h fun a σ₁ q => Ev.mono q fun b σ₂ q => ⟨by simp [sizeLine], q⟩) hp
theorem Ev.list1 {C k sc ρ σ e₁ pos K} (h : Ev C k sc ρ σ e₁ fun a σ₁ => K (.list [a]) σ₁) (hp : [e₁].all plainE = true) : Ev C k sc ρ σ (.List [e₁] pos) K :=
  Ev.list (Ev.mono h fun a σ₁ q => ⟨by simp [sizeLine], q⟩) hp
/-- a built-in function's call with one argument -/
theorem Ev.call1 {C k sc ρ σ x p e₁ pos id_ K} (b : C.mg x = Option.none ∧ C.mb x = some (.builtin id_)) (hk : sc.names.lookup x = some NameKind.globalImplicit) (h : Ev C k sc ρ σ e₁ fun a σ₁ => OpL C k σ₁ [a] (fun vs => PySem.call (.builtin id_) vs) K) (hp : [e₁].all plainE = true)
    (hd : (x == ("__debug__" : Str)) = false := by decide) : Ev C k sc ρ σ (.Call (.Name x p) [e₁] [] pos) K :=
  Ev.call (Ev.builtin hk b.1 b.2 ⟨_, rfl, Callable.builtin, h⟩ hd) hp fun _ => rfl
theorem Ev.call1t {C k sc ρ σ x p e₁ pos id_ K} (b : C.mg x = Option.none ∧ C.mb x = some (.type id_)) (hk : sc.names.lookup x = some NameKind.globalImplicit) (h : Ev C k sc ρ σ e₁ fun a σ₁ => OpL C k σ₁ [a] (fun vs => PySem.call (.type id_) vs) K) (hp : [e₁].all plainE = true)
    (hd : (x == ("__debug__" : Str)) = false := by decide) : Ev C k sc ρ σ (.Call (.Name x p) [e₁] [] pos) K :=
  Ev.call (Ev.builtin hk b.1 b.2 ⟨_, rfl, Callable.type, h⟩ hd) hp fun _ => rfl
theorem Ev.call2t {C k sc ρ σ x p e₁ e₂ pos id_ K} (b : C.mg x = Option.none ∧ C.mb x = some (.type id_)) (hk : sc.names.lookup x = some NameKind.globalImplicit) (h : Ev C k sc ρ σ e₁ fun a σ₁ => Ev C k sc ρ σ₁ e₂ fun c σ₂ => OpL C k σ₂ [a, c] (fun vs => PySem.call (.type id_) vs) K) (hp : [e₁, e₂].all plainE = true)
    (hd : (x == ("__debug__" : Str)) = false := by decide) : Ev C k sc ρ σ (.Call (.Name x p) [e₁, e₂] [] pos) K :=
  Ev.call (Ev.builtin hk b.1 b.2 ⟨_, rfl, Callable.type, h⟩ hd) hp fun _ => rfl
/-- two names at once -/
theorem Ex1.swap2 {C k sc ρ σ ts x1 p e₁ e₂ x2 p2 pos K} (x y : String) (h : Ev C k sc ρ σ e₁ fun a σ₁ => Ev C k sc ρ σ₁ e₂ fun b σ₂ => K .next ((x, a) :: (y, b) :: ρ) σ₂) (hp : [e₁, e₂].all plainE = true)
    (hn : ∀ n ∈ [x, y], sc.names.lookup (Str.ofString n) = some .local)
    (hw : ∀ env, env.scope = sc → swappedStores [.Tuple ts x1 p] (.Tuple [e₁, e₂] x2 p2) env = pure (some ([x, y].map Str.ofString))) (hl : [x, y].length = ts.length) : Ex1 C k sc ρ σ (.Assign [.Tuple ts x1 p] (.Tuple [e₁, e₂] x2 p2) pos) K :=
  Ex1.swap (names := [x, y]) (Ev.tuple2 (Ev.mono h fun a σ₁ q => Ev.mono q fun b σ₂ q => ⟨_, rfl, rfl, q⟩) hp) hn (fun env _ => rfl) hw hl
/-- x = a written list of ints; use it with holes alone: with an argument written out the elaborator runs the list -/
theorem Ex1.asgNats {ns : List Nat} {C k sc ρ σ x p es pos pos2 K} (hc : constInts es = some (ns.map fun (n : Nat) => (n : Int))) (hl : ns.length ≤ 1000 ∧ sc.names.lookup (Str.ofString x) = some .local) (h : K .next ((x, .list (nums ns)) :: ρ) σ) : Ex1 C k sc ρ σ (.Assign [.Name (Str.ofString x) p] (.List es pos) pos2) K :=
  Ex1.assign (Ev.nats ns hc hl.1 h) (.inl hl.2) fun _ => rfl
end Mine
end C37

section SB2
open PySem PySem.W PyProof.Rows
set_option Elab.async false
set_option linter.unusedVariables false
set_option maxRecDepth 100000
namespace Mine
/-- a built-in function's name, as the text sees it -/
noncomputable def Blt (C : Cx) (x : Str) (v : Value) : Prop := C.mg x = Option.none ∧ C.mb x = some v
theorem Ev.blt {C k sc ρ σ x pos v K} (b : Blt C x v) (h : K (.raw v) σ) (hk : sc.names.lookup x = some .globalImplicit) (hd : (x == ("__debug__" : Str)) = false := by decide) : Ev C k sc ρ σ (.Name x pos) K := Ev.builtin hk b.1 b.2 h hd
/-- a def of the text -/
noncomputable def Fun (C : Cx) (x : Str) (names : List String) (st : Stmt) : Prop := ∃ a, C.mg x = some (.ref a) ∧ FnAt C a names (fScope st) (fBody st)
theorem Ev.callF {C k sc ρ σ x p es pos names st K} (F : Fun C x names st) (hk : sc.names.lookup x = some .globalImplicit)
    (h : EvL C (k + 1) sc ρ σ es fun ds σ₁ => ds.length = names.length ∧ (∀ a, FnAt C a names (fScope st) (fBody st) → OpL C (k + 1) σ₁ ds (fun vs => PySem.call (.ref a) vs) K)) (hp : es.all plainE = true)
    (hd : (x == ("__debug__" : Str)) = false := by decide) : Ev C (k + 1) sc ρ σ (.Call (.Name x p) es [] pos) K := by
  obtain ⟨a, ha, hf⟩ := F
  refine Ev.call (Ev.global hk ha ⟨_, rfl, hf.callable, EvL.mono h fun ds σ₁ q => q.2 a hf⟩ hd) hp fun env => rfl

theorem PvOf.inv {e d} (p : PvOf e d) : d = .none ∨ ∃ x, d = .str x := by cases p; exact .inl rfl; exact .inr ⟨_, rfl⟩
theorem w_b1 {C k σ} {c : Nat} {K : PV → Sto → Prop} {S : Int → Bool} {n : Nat} {bA : Addr} (o : Blt C "ord" (.builtin "ord")) (hb : C.mg "b1_set" = some (.ref bA)) (T : SetAt C bA S n) (h : K (.bool (S (c : Nat))) σ) :
    Ex C k (fScope sB1) [("code", .str [c])] σ (fBody sB1) (fun g _ σ' => match g with | .ret d => K d σ' | .next => K .none σ' | _ => False) := by
  refine Ex.cons (Ex1.ret (Ev.cmp (Ev.call (Ev.blt o ⟨_, rfl, Callable.builtin, ?_⟩ rfl) rfl fun _ => rfl) rfl))
  exact Ev.name (x := "code") rfl (OpL.ord (Ev.global rfl hb (Op2.inSet T h)))
noncomputable def b3res (d : PV) (c : Nat) : PV := match d with | .none => .str (lowerL [c]) | d => d
theorem w_b3 {C k σ} {c : Nat} {K : PV → Sto → Prop} {D : List (PyData × PyData)} {bA : Addr} {d : PV} (o : Blt C "ord" (.builtin "ord")) (hb : C.mg "b3_exceptions" = some (.ref bA)) (T : DictAt C bA D) (p : PvOf ((PySem.Spec.lookup (.int (c : Nat)) D).getD .none) d)
    (hl : (lowerL [c]).length ≤ sizeLine) (h : K (b3res d c) σ) :
    Ex C k (fScope sB3) [("code", .str [c])] σ (fBody sB3) (fun g _ σ' => match g with | .ret d => K d σ' | .next => K .none σ' | _ => False) := by
  refine Ex.cons (Ex1.assign (x := "r") (Ev.method (T := "dict") (id_ := "dict.get") (Ev.global rfl hb ⟨OfType.dictAt T, ?_⟩) F.plainAttrs_dict F.slot_dict_get F.type_dict_get rfl (by decide) rfl fun _ => rfl) (.inl rfl) fun _ => rfl)
  refine Ev.call (Ev.blt o ⟨_, rfl, Callable.builtin, Ev.name (x := "code") rfl (OpL.ord ?_)⟩ rfl) rfl fun _ => rfl
  refine OpL.dget T p ?_
  rcases p.inv with rfl | ⟨x, rfl⟩
  · refine Ex.cons (Ex1.if (Tr.cmp (Ev.name (x := "r") rfl (Ev.none (Op2.isNot rfl rfl (OpB.bool ?_)))) rfl))
    show Ex C k _ _ σ [] _
    refine Ex.nil ?_
    exact Ex.cons (Ex1.ret (Ev.method (T := "str") (id_ := "str.lower") (Ev.name (x := "code") rfl ⟨OfType.str, OpL.lower hl h⟩) F.plainAttrs_str F.slot_str_lower F.type_str_lower rfl (by decide) rfl fun _ => rfl))
  · refine Ex.cons (Ex1.if (Tr.cmp (Ev.name (x := "r") rfl (Ev.none (Op2.isNot rfl rfl (OpB.bool ?_)))) rfl))
    exact Ex.cons (Ex1.ret (Ev.name (x := "r") rfl h))
/-- what the top holds, as the walks of this text want it -/
structure TopB (C : Cx) (S : Int → Bool) (D : List (PyData × PyData)) : Prop where
  ord : Blt C "ord" (.builtin "ord")
  b1s : ∃ a n, C.mg "b1_set" = some (.ref a) ∧ SetAt C a S n
  b3s : ∃ a, C.mg "b3_exceptions" = some (.ref a) ∧ DictAt C a D
  b1 : Fun C "in_table_b1" ["code"] sB1
  b3 : Fun C "map_table_b3" ["code"] sB3
/-- what map_table_b3 gives -/
noncomputable def b3of (D : List (PyData × PyData)) (c : Nat) : List Nat := match (PySem.Spec.lookup (.int (c : Nat)) D).getD .none with
  | .str x => x.cps.toList
  | _ => lowerL [c]
noncomputable def b3ok (D : List (PyData × PyData)) (c : Nat) : Bool := (match (PySem.Spec.lookup (.int (c : Nat)) D).getD .none with
  | .str _ | .none => true
  | _ => false) && decide ((lowerL [c]).length ≤ 3) && decide ((b3of D c).length ≤ 3)
section
variable {C : Cx} {S : Int → Bool} {D : List (PyData × PyData)} (T : TopB C S D)
include T
theorem op_b1 {k σ} {c : Nat} {K : PV → Sto → Prop} (h : K (.bool (S (c : Nat))) σ) : ∀ a, FnAt C a ["code"] (fScope sB1) (fBody sB1) → OpL C (k + 1) σ [.str [c]] (fun vs => PySem.call (.ref a) vs) K := fun a F => by
  obtain ⟨b, n, hb, hs⟩ := T.b1s
  exact Fn.call F (by decide +kernel) rfl (w_b1 T.ord hb hs h)
theorem op_b3 {k σ} {c : Nat} {K : PV → Sto → Prop} (ok : b3ok D c = true) (h : K (.str (b3of D c)) σ) : ∀ a, FnAt C a ["code"] (fScope sB3) (fBody sB3) → OpL C (k + 1) σ [.str [c]] (fun vs => PySem.call (.ref a) vs) K := fun a F => by
  obtain ⟨b, hb, hd⟩ := T.b3s
  unfold b3ok b3of at ok
  unfold b3of at h
  simp only [Bool.and_eq_true, decide_eq_true_eq] at ok
  have hl : (lowerL [c]).length ≤ sizeLine := by have := ok.1.2; simp [sizeLine]; omega
  have ok1 := ok.1.1
  cases hq : (PySem.Spec.lookup (.int (c : Nat)) D).getD .none with
  | none =>
    rw [hq] at h
    exact Fn.call F (by decide +kernel) rfl (w_b3 (d := .none) T.ord hb hd (by rw [hq]; exact .none) hl h)
  | str x =>
    rw [hq] at h
    exact Fn.call F (by decide +kernel) rfl (w_b3 (d := .str x.cps.toList) T.ord hb hd (by rw [hq]; exact .str x) hl h)
  | _ => rw [hq] at ok1; simp at ok1
end
end Mine
end SB2

section SE2
open PySem PySem.W PyProof.Rows
set_option Elab.async false
set_option linter.unusedVariables false
set_option maxRecDepth 100000
namespace Mine
noncomputable def IsFld (mN : Str → Option Value) (f : String) : Prop := mN (Str.ofString f) = none ∧ typeLookup (.type "object") (Str.ofString f) = pure none
/-- a method of the class -/
noncomputable def IsMeth (C : Cx) (mN : Str → Option Value) (x : String) (names : List String) (st : Stmt) : Prop :=
  ∃ f, mN (Str.ofString x) = some (.ref f) ∧ (∀ h, C.gi h → ∃ ob fd, h.get? f = some ob ∧ ob.cls = .type "function" ∧ ob.data = .func fd) ∧ FnAt C f names (fScope st) (fBody st)
/-- the class Entry, as the top left it -/
structure TopE (C : Cx) (N : Addr) (mN : Str → Option Value) : Prop where
  ok : ClsOk C N mN
  name : C.mg "Entry" = some (.ref C.cls)
  low : C.cls < C.base
  noGa : mN "__getattribute__" = none
  noGh : mN "__getattr__" = none
  noSa : mN "__setattr__" = none
  ua : IsFld mN "useragents"
  rl : IsFld mN "rulelines"
  dl : IsFld mN "delay"
  rr : IsFld mN "req_rate"
  init : ∃ f, mN "__init__" = some (.ref f) ∧ (∀ h, C.gi h → ∃ o, h.get? f = some o ∧ o.cls = .type "function") ∧ FnAt C f ["self"] (fScope sInit) (fBody sInit)
  appl : IsMeth C mN "applies_to" ["self", "useragent"] sApplies
  allow : IsMeth C mN "allowance" ["self", "filename"] sAllow
  setsX : SetsX C
  set : Blt C "set" (.type "set")
  list : Blt C "list" (.type "list")
  filter : Blt C "filter" (.type "filter")
  merge : Fun C "merge_entries" ["e1", "e2"] sMerge
theorem m3 {α : Type} {x p q r : α} {σ : List α} (h : x ∈ σ) : x ∈ p :: q :: r :: σ := List.mem_cons_of_mem _ (List.mem_cons_of_mem _ (List.mem_cons_of_mem _ h))
section
variable {C : Cx} {N : Addr} {mN : Str → Option Value} (T : TopE C N mN) {k : Nat} {sc : Scope} {ρ : Lo} {σ : Sto}
include T
theorem Ev.fld {x f : String} {p p2} {a d : Addr} {fs : List (String × PV)} {dv : PV} {K : PV → Sto → Prop} (hF : IsFld mN f) (hx : ρ.lookup x = some (.raw (.ref a))) (hm : (a, AO.inst d fs) ∈ σ) (hf : fs.lookup f = some dv) (h : K dv σ) (hh : handed dv = true := by rfl)
    (hd : (Str.ofString x == ("__debug__" : Str)) = false := by decide) (hn : (Str.ofString x == ("__classdict__" : Str)) = false := by decide) : Ev C k sc ρ σ (.Attribute (.Name (Str.ofString x) p) (Str.ofString f) p2) K :=
  Ev.attr (Ev.name hx (Op1.field T.ok hm hf hh h T.noGa hF.1 hF.2) hd hn) fun _ => rfl
theorem Ex1.setFld {x f : String} {p p2 e pos} {K : Fl → Lo → Sto → Prop} (hF : IsFld mN f) (h : Ev C k sc ρ σ e fun dv σ₁ => ∃ a d fs σ₂, ρ.lookup x = some (.raw (.ref a)) ∧ Upd σ₁ a (.inst d fs) (.inst d (setF fs f dv)) σ₂ ∧ fs.length ≤ 1000 ∧ K .next ρ σ₂)
    (hs : ∀ env, swapsWith e (some (Expr.Attribute (.Name (Str.ofString x) p) (Str.ofString f) p2)) pos.line env = pure false) (hw : ∀ env, swappedStores [Expr.Attribute (.Name (Str.ofString x) p) (Str.ofString f) p2] e env = pure none)
    (hd : (Str.ofString x == ("__debug__" : Str)) = false := by decide) (hn : (Str.ofString x == ("__classdict__" : Str)) = false := by decide) : Ex1 C k sc ρ σ (.Assign [.Attribute (.Name (Str.ofString x) p) (Str.ofString f) p2] e pos) K :=
  Ex1.setAttr T.ok (Ev.mono h fun dv σ₁ ⟨a, d, fs, σ₂, hx, u, hl, q⟩ => Ev.name hx ⟨a, d, fs, σ₂, rfl, u, by simp [sizeLine]; lia, q⟩ hd hn) T.low T.noSa hF.1 hF.2 hs hw
noncomputable abbrev fsNew (u r : Addr) : List (String × PV) := [("req_rate", .none), ("delay", .none), ("rulelines", .raw (.ref r)), ("useragents", .raw (.ref u))]
theorem w_init {a d : Addr} {K : PV → Sto → Prop} (h : ∀ u r, u ∉ dom ((a, .inst d []) :: σ) → r ∉ u :: dom ((a, .inst d []) :: σ) → K .none ((r, .mlist []) :: (u, .mlist []) :: (a, .inst d (fsNew u r)) :: σ)) :
    Ex C k (fScope sInit) [("self", .raw (.ref a))] ((a, .inst d []) :: σ) (fBody sInit) (fun g _ σ' => match g with | .ret d => K d σ' | .next => K .none σ' | _ => False) := by
  refine Ex.cons (Ex1.setFld T (x := "self") (f := "useragents") T.ua ?_ (fun _ => rfl) fun _ => rfl)
  refine Ev.mlist (es := []) ⟨by decide, fun u hu => ⟨a, d, _, _, rfl, .there .here, by decide, ?_⟩⟩ rfl
  refine Ex.cons (Ex1.setFld T (x := "self") (f := "rulelines") T.rl ?_ (fun _ => rfl) fun _ => rfl)
  refine Ev.mlist (es := []) ⟨by decide, fun r hr => ⟨a, d, _, _, rfl, .there (.there .here), by simp [setF], ?_⟩⟩ rfl
  refine Ex.cons (Ex1.setFld T (x := "self") (f := "delay") T.dl ?_ (fun _ => rfl) fun _ => rfl)
  refine Ev.none ⟨a, d, _, _, rfl, .there (.there .here), by simp [setF], ?_⟩
  refine Ex.cons (Ex1.setFld T (x := "self") (f := "req_rate") T.rr ?_ (fun _ => rfl) fun _ => rfl)
  refine Ev.none ⟨a, d, _, _, rfl, .there (.there .here), by simp [setF], ?_⟩
  exact Ex.nil (h u r hu hr)
/-- a call of a method with one argument -/
theorem Ev.meth {x m : String} {p p2 p3 names st} {a d : Addr} {fs : List (String × PV)} {e₁ : Expr} {K : PV → Sto → Prop} (M : IsMeth C mN m names st) (hB : typeLookup (.type "object") (Str.ofString m) = pure Option.none) (hx : ρ.lookup x = some (.raw (.ref a))) (hm : (a, AO.inst d fs) ∈ σ) (hf : fs.lookup m = Option.none)
    (h : Ev C k sc ρ σ e₁ fun d₁ σ₁ => ∀ f, FnAt C f names (fScope st) (fBody st) → OpL C k σ₁ [.raw (.ref a), d₁] (fun vs => PySem.call (.ref f) vs) K) (hp : [e₁].all plainE = true) (hline : (p2.endLine == p3.line) = true) (hbase : ∀ env, attributeBase (.Name (Str.ofString x) p) (Str.ofString m) env (eval (.Name (Str.ofString x) p) env) = eval (.Name (Str.ofString x) p) env)
    (hd : (Str.ofString x == ("__debug__" : Str)) = false := by decide) (hn : (Str.ofString x == ("__classdict__" : Str)) = false := by decide) : Ev C k sc ρ σ (.Call (.Attribute (.Name (Str.ofString x) p) (Str.ofString m) p2) [e₁] [] p3) K := by
  obtain ⟨f, h1, h2, h3⟩ := M
  exact Ev.methodI T.ok h2 (Ev.name hx ⟨a, d, fs, rfl, hm, hf, Ev.mono h fun d₁ σ₁ q => q f h3⟩ hd hn) h1 T.noGa T.noGh ⟨_, hB⟩ hp (by simp) hline hbase
/-- Entry() -/
theorem Ev.entry {p pos} {K : PV → Sto → Prop} (hk : sc.names.lookup (Str.ofString "Entry") = some NameKind.globalImplicit)
    (h : ∀ a d u r, a ∉ dom σ → d ∉ dom σ → u ∉ dom σ → r ∉ dom σ → [r, u, a, d].Nodup → K (.raw (.ref a)) ((r, .mlist []) :: (u, .mlist []) :: (a, .inst d (fsNew u r)) :: σ)) : Ev C (k + 2) sc ρ σ (.Call (.Name (Str.ofString "Entry") p) [] [] pos) K := by
  refine Ev.call (Ev.global hk T.name ⟨_, rfl, T.ok.callable, ?_⟩) rfl fun _ => rfl
  obtain ⟨f, h1, h2, h3⟩ := T.init
  refine OpL.make T.ok h1 h2 fun a d ha hd hne => ?_
  refine Fn.call h3 (by decide +kernel) rfl ?_
  refine w_init T fun u r hu hr => ⟨rfl, h a d u r ha hd ?_ ?_ ?_⟩
  · exact fun q => hu (List.mem_cons_of_mem _ (List.mem_append_right _ q))
  · exact fun q => hr (List.mem_cons_of_mem _ (List.mem_cons_of_mem _ (List.mem_append_right _ q)))
  · have hu1 : u ≠ a := fun q => hu (q ▸ List.mem_cons_self)
    have hu2 : u ≠ d := fun q => hu (q ▸ List.mem_cons_of_mem _ List.mem_cons_self)
    have hr0 : r ≠ u := fun q => hr (q ▸ List.mem_cons_self)
    have hr1 : r ≠ a := fun q => hr (q ▸ List.mem_cons_of_mem _ List.mem_cons_self)
    have hr2 : r ≠ d := fun q => hr (q ▸ List.mem_cons_of_mem _ (List.mem_cons_of_mem _ List.mem_cons_self))
    simp [hu1, hu2, hr0, hr1, hr2, hne]
/-- a record, as the store has it -/
noncomputable def EntAt (σ : Sto) (a : Addr) (us : List (List Nat)) (rs : List PV) (dl rr : PV) : Prop :=
  ∃ d fs, (a, AO.inst d fs) ∈ σ ∧ (∃ u, fs.lookup "useragents" = some (.raw (.ref u)) ∧ (u, AO.mlist (us.map .str)) ∈ σ) ∧ (∃ r, fs.lookup "rulelines" = some (.raw (.ref r)) ∧ (r, AO.mlist rs) ∈ σ) ∧ fs.lookup "delay" = some dl ∧ fs.lookup "req_rate" = some rr
omit T in
theorem EntAt.mono {σ σ' : Sto} {a us rs dl rr} (h : EntAt σ a us rs dl rr) (e : ∀ p ∈ σ, p ∈ σ') : EntAt σ' a us rs dl rr :=
  let ⟨d, fs, h1, ⟨u, h2, h3⟩, ⟨r, h4, h5⟩, h6, h7⟩ := h; ⟨d, fs, e _ h1, ⟨u, h2, e _ h3⟩, ⟨r, h4, e _ h5⟩, h6, h7⟩
/-- what merge_entries makes of two values: the second one, or the first one if there is none -/
noncomputable def orP (a b : PV) : PV := if pis b .none then a else b
noncomputable abbrev fsMer (us : List (List Nat)) (rs : List PV) (dl rr : PV) (tl : List (String × PV)) : List (String × PV) := ("req_rate", rr) :: ("delay", dl) :: ("rulelines", .list rs) :: ("useragents", .list (us.map .str)) :: tl
theorem ev_or {a₁ a₂ d₁ d₂ : Addr} {fs₁ fs₂ : List (String × PV)} {dl dl' : PV} {f : String} {K : PV → Sto → Prop} {p₁ p₂ p₃ p₄ p₅ p₆ p₇ p₈ p₉ pa} (hF : IsFld mN f) (h1 : ρ.lookup "e1" = some (.raw (.ref a₁))) (h2 : ρ.lookup "e2" = some (.raw (.ref a₂))) (e₁ : (a₁, AO.inst d₁ fs₁) ∈ σ) (e₂ : (a₂, AO.inst d₂ fs₂) ∈ σ)
    (f₁ : fs₁.lookup f = some dl) (f₂ : fs₂.lookup f = some dl') (n : notRaw dl' = true) (n₁ : handed dl = true) (n₂ : handed dl' = true) (hK : K (orP dl dl') σ) :
    Ev C k sc ρ σ (.IfExp (.Compare (.Attribute (.Name (Str.ofString "e2") p₁) (Str.ofString f) p₂) [.Is] [.Constant .none p₃ p₄] p₅) (.Attribute (.Name (Str.ofString "e1") p₆) (Str.ofString f) p₇) (.Attribute (.Name (Str.ofString "e2") p₈) (Str.ofString f) p₉) pa) K := by
  refine Ev.ifexp (Tr.cmp (Ev.fld T (x := "e2") hF h2 e₂ f₂ (Ev.none (Op2.is rfl n (OpB.bool ?_))) n₂) rfl)
  unfold orP at hK
  cases hp : pis dl' .none with
  | true => rw [if_pos rfl]; rw [hp, if_pos rfl] at hK; exact Ev.fld T (x := "e1") hF h1 e₁ f₁ hK n₁
  | false => rw [if_neg (by simp)]; rw [hp, if_neg (by simp)] at hK; exact Ev.fld T (x := "e2") hF h2 e₂ f₂ hK n₂
theorem w_merge {a₁ a₂ : Addr} {us₁ us₂ : List (List Nat)} {rs₁ rs₂ : List PV} {dl₁ dl₂ rr₁ rr₂ : PV} {K : PV → Sto → Prop} (h₁ : EntAt σ a₁ us₁ rs₁ dl₁ rr₁) (h₂ : EntAt σ a₂ us₂ rs₂ dl₂ rr₂)
    (l₁ : us₁.length ≤ 1000) (l₂ : us₂.length ≤ 1000) (l₃ : rs₁.length + rs₂.length ≤ 1000) (n₁ : notRaw dl₂ = true) (n₂ : notRaw rr₂ = true) (n₃ : handed dl₁ = true) (n₄ : handed rr₁ = true) (n₅ : handed dl₂ = true) (n₆ : handed rr₂ = true)
    (h : ∀ a d tl, (∃ u r, tl = fsNew u r) → a ∉ dom σ → d ∉ dom σ → a ≠ d → K (.raw (.ref a)) ((a, .inst d (fsMer (us₁.filter fun x => decide (x ∈ us₂)) (rs₁ ++ rs₂) (orP dl₁ dl₂) (orP rr₁ rr₂) tl)) :: σ)) :
    Ex C (k + 2) (fScope sMerge) [("e1", .raw (.ref a₁)), ("e2", .raw (.ref a₂))] σ (fBody sMerge) (fun g _ σ' => match g with | .ret d => ∃ σ'', σ''.Sublist σ' ∧ K d σ'' | _ => False) := by
  obtain ⟨d₁, fs₁, m₁, ⟨u₁, fu₁, mu₁⟩, ⟨r₁, fr₁, mr₁⟩, fd₁, fq₁⟩ := h₁
  obtain ⟨d₂, fs₂, m₂, ⟨u₂, fu₂, mu₂⟩, ⟨r₂, fr₂, mr₂⟩, fd₂, fq₂⟩ := h₂
  refine Ex.cons (Ex1.assign (x := "entry") (Ev.entry T rfl fun a d u r ha hd hu hr hn => ?_) (.inl rfl) fun _ => rfl)
  have hne : a ≠ d := by simp at hn; exact hn.2.2
  refine Ex.cons (Ex1.setFld T (x := "entry") (f := "useragents") T.ua ?_ (fun _ => rfl) fun _ => rfl)
  refine Ev.listFilter (ys := us₂) (xs := us₁) T.setsX T.list T.filter rfl rfl rfl ?_
  refine Ev.attr (Ev.call (Ev.blt T.set ⟨_, rfl, Callable.type, ?_⟩ rfl) rfl fun _ => rfl) fun _ => rfl
  refine Ev.fld T (x := "e2") (f := "useragents") T.ua rfl (m3 m₂) fu₂ ?_
  refine OpL.setNew T.setsX (LRead.mut (m3 mu₂)) (by lia) ?_
  refine Op1.contains T.setsX ⟨rfl, ?_⟩
  refine Ev.fld T (x := "e1") (f := "useragents") T.ua rfl (m3 m₁) fu₁ ?_
  refine ⟨LRead.mut (m3 mu₁), by lia, a, d, _, _, rfl, .there (.there .here), by simp, ?_⟩
  refine Ex.cons (Ex1.setFld T (x := "entry") (f := "rulelines") T.rl ?_ (fun _ => rfl) fun _ => rfl)
  refine Ev.binop (Ev.fld T (x := "e1") (f := "rulelines") T.rl rfl (m3 m₁) fr₁ (Ev.fld T (x := "e2") (f := "rulelines") T.rl rfl (m3 m₂) fr₂ ?_))
  refine Op2.addl (LRead.mut (m3 mr₁)) (LRead.mut (m3 mr₂)) (by simp [sizeLine]; lia) ?_
  refine ⟨a, d, _, _, rfl, .there (.there .here), by simp [setF], ?_⟩
  refine Ex.cons (Ex1.setFld T (x := "entry") (f := "delay") T.dl ?_ (fun _ => rfl) fun _ => rfl)
  refine ev_or T T.dl rfl rfl (m3 m₁) (m3 m₂) fd₁ fd₂ n₁ n₃ n₅ ⟨a, d, _, _, rfl, .there (.there .here), by simp [setF], ?_⟩
  refine Ex.cons (Ex1.setFld T (x := "entry") (f := "req_rate") T.rr ?_ (fun _ => rfl) fun _ => rfl)
  refine ev_or T T.rr rfl rfl (m3 m₁) (m3 m₂) fq₁ fq₂ n₂ n₄ n₆ ⟨a, d, _, _, rfl, .there (.there .here), by simp [setF], ?_⟩
  refine Ex.cons (Ex1.ret (Ev.name (x := "entry") rfl ⟨_, ?_, h a d (fsNew u r) ⟨u, r, rfl⟩ ha hd hne⟩))
  exact .cons _ (.cons _ (.refl _))
/-- merge_entries(e1, e2) -/
theorem op_merge {a₁ a₂ : Addr} {us₁ us₂ : List (List Nat)} {rs₁ rs₂ : List PV} {dl₁ dl₂ rr₁ rr₂ : PV} {K : PV → Sto → Prop} (h₁ : EntAt σ a₁ us₁ rs₁ dl₁ rr₁) (h₂ : EntAt σ a₂ us₂ rs₂ dl₂ rr₂)
    (l₁ : us₁.length ≤ 1000) (l₂ : us₂.length ≤ 1000) (l₃ : rs₁.length + rs₂.length ≤ 1000) (n₁ : notRaw dl₂ = true) (n₂ : notRaw rr₂ = true) (n₃ : handed dl₁ = true) (n₄ : handed rr₁ = true) (n₅ : handed dl₂ = true) (n₆ : handed rr₂ = true)
    (h : ∀ a d tl, (∃ u r, tl = fsNew u r) → a ∉ dom σ → d ∉ dom σ → a ≠ d → K (.raw (.ref a)) ((a, .inst d (fsMer (us₁.filter fun x => decide (x ∈ us₂)) (rs₁ ++ rs₂) (orP dl₁ dl₂) (orP rr₁ rr₂) tl)) :: σ)) :
    ∀ f, FnAt C f ["e1", "e2"] (fScope sMerge) (fBody sMerge) → OpL C (k + 3) σ [.raw (.ref a₁), .raw (.ref a₂)] (fun vs => PySem.call (.ref f) vs) K := fun f F =>
  OpL.drop (Fn.call F (by decide +kernel) rfl (Ex.mono (w_merge T h₁ h₂ l₁ l₂ l₃ n₁ n₂ n₃ n₄ n₅ n₆ h) fun g ρ' σ' q => by
    cases g with
    | ret d => exact q
    | next => exact q.elim
    | brk => exact q.elim
    | cont => exact q.elim))
end
end Mine
end SE2

section SC2
open PySem PySem.W PyProof.Rows
set_option Elab.async false
set_option linter.unusedVariables false
set_option maxRecDepth 100000
namespace Mine
/-- what a def's end is when it hands back its own list -/
noncomputable def Frz (σ : Sto) (K : PV → Sto → Prop) (d : PV) (σ' : Sto) : Prop := ∃ a xs σ'', d = .raw (.ref a) ∧ (a, AO.mlist xs) ∈ σ' ∧ σ''.Sublist σ' ∧ a ∉ dom σ'' ∧ a ∉ dom σ ∧ K (.list xs) σ''
noncomputable def cellStep (m : Nat) (cs : List Int) (p : Int × Nat) : List Int := cs.set (p.2 % m) (cs.getD (p.2 % m) 0 + p.1 % 10 ^ 9)
noncomputable def cellsOf (init : List Int) (m : Nat) (s : List Int) : List Int := s.zipIdx.foldl (cellStep m) init
theorem cellsOf_snoc (init : List Int) (m : Nat) (s : List Int) (x : Int) : cellsOf init m (s ++ [x]) = cellStep m (cellsOf init m s) (x, s.length) := by
  unfold cellsOf
  rw [List.zipIdx_append, List.foldl_append]
  simp
theorem cellsOf_length (init : List Int) (m : Nat) (s : List Int) : (cellsOf init m s).length = init.length := by
  unfold cellsOf
  generalize s.zipIdx = l
  induction l generalizing init with
  | nil => rfl
  | cons p r ih => rw [List.foldl_cons, ih]; simp [cellStep]
theorem cellsOf_bound {init : List Int} {m : Nat} {s : List Int} (hi : ∀ c ∈ init, 0 ≤ c) : ∀ c ∈ cellsOf init m s, 0 ≤ c := by
  unfold cellsOf
  generalize s.zipIdx = l
  induction l generalizing init with
  | nil => exact hi
  | cons p r ih =>
    rw [List.foldl_cons]
    refine ih fun c hc => ?_
    unfold cellStep at hc
    rcases List.mem_or_eq_of_mem_set hc with h | h
    · exact hi c h
    · rw [h]
      have h1 : 0 ≤ init.getD (p.2 % m) 0 := by
        rw [List.getD_eq_getElem?_getD]
        cases hg : init[p.2 % m]? with
        | none => simp
        | some v => simpa using hi v (List.mem_of_getElem? hg)
      have h2 := Int.emod_nonneg p.1 (show (10 ^ 9 : Int) ≠ 0 by decide)
      lia
theorem range_size (n : Nat) : Builtin.Range.rangeSize 0 (n : Int) 1 = n := by
  rw [PySem.rangeSize_one]; split <;> lia
theorem rangeL_nat (n : Nat) : rangeL 0 (n : Int) 1 = (List.range n).map fun (i : Nat) => PV.int (i : Int) := by
  unfold rangeL
  rw [range_size]
  simp
theorem w_cells {C k σ} {s : List Int} {K : PV → Sto → Prop} (len : Blt C "len" (.builtin "len")) (rng : Blt C "range" (.type "range")) (hs : s.length ≤ 1000) (h : K (.list ((cellsOf [6, 29, 1248, 35, 850, 7, 211] 7 (s.take 60)).map .int)) σ) :
    Ex C k (fScope (stAt 9)) [("script", .list (s.map .int))] σ (fBody (stAt 9)) (fun g _ σ' => match g with | .ret d => Frz σ K d σ' | _ => False) := by
  refine Ex.cons (Ex1.assign (x := "cells") (Ev.mlist (es := [_, _, _, _, _, _, _]) (Ev.int (Ev.int (Ev.int (Ev.int (Ev.int (Ev.int (Ev.int (⟨by simp [sizeLine], fun a ha => ?_⟩)))))))) rfl) (.inl rfl) fun _ => rfl)
  have hslc : slcL (s.map PV.int) none (some 60) none = (s.take 60).map PV.int := by
    rw [show (some (60 : Int)) = some ((60 : Nat) : Int) from rfl, slcL_to, List.map_take]
  refine Ex.cons (Ex1.for (J := fun rest ρ σ' => ∃ i : Nat, i ≤ (s.take 60).length ∧ rest = (((List.range (s.take 60).length).drop i).map fun (j : Nat) => PV.int (j : Int)) ∧ Has ρ [("cells", .raw (.ref a)), ("script", .list (s.map .int))] ∧
    σ' = (a, .mlist ((cellsOf [6, 29, 1248, 35, 850, 7, 211] 7 (s.take i)).map .int)) :: σ) ?_ ?_ ?_ fun _ _ => rfl)
  · refine Ev.call (Ev.blt rng ⟨_, rfl, Callable.type, ?_⟩ rfl) rfl fun _ => rfl
    refine Ev.call (Ev.blt len ⟨_, rfl, Callable.builtin, ?_⟩ rfl) rfl fun _ => rfl
    refine Ev.sub (Ev.name (x := "script") rfl (Ev.slice (Ev.int ⟨_, _, _, .none, .int 60, .none, Op2.slice .list (by decide) (by simp [sizeLine]; lia) ?_⟩)))
    rw [hslc]
    refine OpL.len_l .list (by simp; lia) ?_
    rw [List.length_map]
    refine OpL.range1 ⟨_, Iterable.range ?_, 0, Nat.zero_le _, ?_, ⟨rfl, rfl, trivial⟩, ?_⟩
    · have := List.length_take_le 60 s
      exact small_up (by lia) (by lia) (by lia) (by lia)
    · rw [rangeL_nat]; rfl
    · rfl
  · rintro x r ρ' σ' ⟨i, hi, he, hh, rfl⟩
    have hlt : i < (s.take 60).length := by
      have := congrArg List.length he
      simp at this hi ⊢
      lia
    have hd : (List.range (s.take 60).length).drop i = i :: (List.range (s.take 60).length).drop (i + 1) := by
      rw [List.drop_eq_getElem_cons (by simpa using hlt)]; simp
    rw [hd, List.map_cons] at he
    obtain ⟨rfl, rfl⟩ : x = PV.int (i : Int) ∧ r = ((List.range (s.take 60).length).drop (i + 1)).map fun (j : Nat) => PV.int (j : Int) := by simpa using he
    have his : i < s.length := by have := List.length_take_le' 60 s; lia
    have e7 : (i : Int) % 7 = ((i % 7 : Nat) : Int) := by lia
    have hcl : (cellsOf [6, 29, 1248, 35, 850, 7, 211] 7 (s.take i)).length = 7 := cellsOf_length _ _ _
    have hci : i % 7 < (cellsOf [6, 29, 1248, 35, 850, 7, 211] 7 (s.take i)).length := by rw [hcl]; lia
    have htk : s.take (i + 1) = s.take i ++ [s[i]] := by rw [List.take_add_one, List.getElem?_eq_getElem his]; rfl
    refine Bind.name (x := "place") (.inl rfl) ?_
    refine Ex.has (ρ' := [("place", .int (i : Int)), ("cells", .raw (.ref a)), ("script", .list (s.map .int))]) ⟨rfl, hh.1, hh.2.1, trivial⟩ ?_
    refine Ex.cons (Ex1.setSub ?_ fun _ => rfl)
    refine Ev.binop (Ev.sub (Ev.name (x := "cells") rfl (Ev.binop (Ev.name (x := "place") rfl (Ev.int (Op2.mod (by decide) ?_))))))
    rw [e7]
    refine Op2.item (d := .int ((cellsOf [6, 29, 1248, 35, 850, 7, 211] 7 (s.take i)).getD (i % 7) 0)) (LRead.mut List.mem_cons_self) (by lia) (by lia) (by rw [Int.toNat_natCast, List.getElem?_map, List.getElem?_eq_getElem hci, List.getD_eq_getElem?_getD, List.getElem?_eq_getElem hci]; rfl) ?_
    refine Ev.binop (Ev.sub (Ev.name (x := "script") rfl (Ev.name (x := "place") rfl (Op2.item (d := .int s[i]) .list (by lia) (by lia) (by rw [Int.toNat_natCast, List.getElem?_map, List.getElem?_eq_getElem his]; rfl) ?_))))
    refine Ev.binop (Ev.int (Ev.int (Op2.pow (by decide) (by decide) (Op2.mod (by decide) (Op2.add ?_)))))
    refine Ev.name (x := "cells") rfl (Ev.binop (Ev.name (x := "place") rfl (Ev.int (Op2.mod (by decide) ?_))))
    rw [e7]
    refine Op3u.setList .here (by rw [List.length_map]; exact hci) (by rw [List.length_map, hcl]; decide) ?_
    refine Ex.nil ⟨i + 1, hlt, rfl, ⟨rfl, rfl, trivial⟩, ?_⟩
    rw [htk, cellsOf_snoc, List.length_take, Nat.min_eq_left (Nat.le_of_lt his)]
    unfold cellStep
    rw [List.map_set]
    rfl
  · rintro ρ' σ' ⟨i, hi, he, hh, rfl⟩
    have : i = (s.take 60).length := by
      have := congrArg List.length he
      simp at this hi ⊢
      lia
    subst this
    refine Ex.has hh (Ex.cons (Ex1.ret (Ev.name (x := "cells") rfl ?_)))
    refine ⟨a, _, σ, rfl, List.mem_cons_self, List.sublist_cons_self _ _, ha, ha, ?_⟩
    have e : s.take (s.take 60).length = s.take 60 := by
      rw [List.length_take]
      by_cases h60 : 60 ≤ s.length
      · rw [Nat.min_eq_left h60]
      · rw [Nat.min_eq_right (by lia), List.take_of_length_le (Nat.le_refl _), List.take_of_length_le (by lia)]
    rw [e]; exact h
end Mine
end SC2

section C38
open PySem PySem.W PyProof.Rows
set_option Elab.async false
set_option linter.unusedVariables false
set_option maxRecDepth 100000
namespace Mine
/-- two clauses, two names, nothing stored, no tests -/
theorem Comp.pure2 {C k sc ρc elt t₁ t₂ p₁ p₂ iter₁ iter₂ scope xs σ} {K : List PV → Sto → Prop} (ys : PV → List PV) (f : PV → PV → PV)
    (h₁ : (rel scope sc).names.lookup (Str.ofString t₁) = some .local) (h₂ : (rel scope sc).names.lookup (Str.ofString t₂) = some .local) (n₁ : ρc.lookup t₁ = none) (n₂ : ρc.lookup t₂ = none) (hne : t₂ ≠ t₁)
    (hi : ∀ x ∈ xs, ∀ K' : PV → Sto → Prop, (∀ a, Iterable C k σ a (ys x) → K' a σ) → Ev C k (rel scope sc) ((t₁, x) :: ρc) σ iter₂ K')
    (he : ∀ x ∈ xs, ∀ y ∈ ys x, ∀ K' : PV → Sto → Prop, K' (f x y) σ → Ev C k (rel scope sc) ((t₂, y) :: (t₁, x) :: ρc) σ elt K')
    (hl : (xs.flatMap fun x => (ys x).map (f x)).length ≤ sizeLine) (h : K (xs.flatMap fun x => (ys x).map (f x)) σ) : Comp C k sc ρc elt ⟨.Name (Str.ofString t₁) p₁, iter₁, [], 0⟩ [⟨.Name (Str.ofString t₂) p₂, iter₂, [], 0⟩] scope xs σ K := by
  refine ⟨fun rest acc ρ σ' => σ' = σ ∧ LSub ρ ρc ∧ ∃ done, done ++ rest = xs ∧ acc = done.flatMap fun x => (ys x).map (f x), ⟨rfl, fun _ _ h => h, [], rfl, rfl⟩, ?_, ?_⟩
  · rintro x r acc ρ σ' ⟨rfl, hs, done, hd, rfl⟩
    have hm : x ∈ xs := hd ▸ List.mem_append_right _ List.mem_cons_self
    refine Bind.nameL h₁ ?_
    show CompOk C k _ elt _ _ _ _ _
    refine Ev.lsub (hs.cons n₁) (hi x hm _ fun a ha => ⟨_, ha, fun rest acc ρ σ' => σ' = _ ∧ LSub ρ ((t₁, x) :: ρc) ∧ ∃ d, d ++ rest = ys x ∧ acc = (done.flatMap fun x => (ys x).map (f x)) ++ d.map (f x), ⟨rfl, hs.cons n₁, [], rfl, by simp⟩, ?_, ?_⟩)
    · rintro y r₂ acc ρ σ' ⟨rfl, hs₂, d, hd₂, rfl⟩
      have hy : y ∈ ys x := hd₂ ▸ List.mem_append_right _ List.mem_cons_self
      have n₂' : ((t₁, x) :: ρc).lookup t₂ = none := by rw [List.lookup_cons, beq_false_of_ne hne]; exact n₂
      refine Bind.nameL h₂ ?_
      show Ev C k _ _ _ elt _
      refine Ev.lsub (hs₂.cons n₂') (he x hm y hy _ ⟨?_, rfl, hs₂.skip n₂', d ++ [y], by simpa using hd₂, by simp⟩)
      refine Nat.le_trans ?_ hl
      rw [← hd, List.flatMap_append, List.flatMap_cons, ← hd₂]
      simp only [List.length_append, List.length_map, List.length_cons]
      lia
    · rintro acc ρ σ' ⟨rfl, hs₂, d, hd₂, rfl⟩
      rw [List.append_nil] at hd₂
      subst hd₂
      refine ⟨rfl, fun z dz hz => hs₂ z dz ?_, done ++ [x], by simpa using hd, by simp⟩
      by_cases e : z = t₁
      · subst e; rw [n₁] at hz; cases hz
      · rw [List.lookup_cons, beq_false_of_ne e]; exact hz
  · rintro acc ρ σ' ⟨rfl, hs, done, hd, rfl⟩
    rw [List.append_nil] at hd
    rw [hd]; exact h

/-! ## lists that change, read where they stand in others -/
mutual
inductive Res (σ : Sto) : PV → PV → Prop
  | refl (d) : Res σ d d
  | list {xs ys} : ResL σ xs ys → Res σ (.list xs) (.list ys)
inductive ResL (σ : Sto) : List PV → List PV → Prop
  | nil : ResL σ [] []
  | cons {x y xs ys} : Res σ x y → ResL σ xs ys → ResL σ (x :: xs) (y :: ys)
end
theorem ResL.refl {σ} : ∀ xs, ResL σ xs xs
  | [] => .nil
  | x :: r => .cons (.refl x) (ResL.refl r)
section
variable {C : Cx} {k : Nat} {σ : Sto} {a b a' b' : PV} {K : PV → Sto → Prop}
end
mutual
theorem peq_refl : ∀ {n : Nat} {d : PV}, pl n d = true → peq d d = true
  | _, .none, _ => by simp [peq, toP, PyData.eqv]
  | _, .bool _, _ => by simp [peq, toP, PyData.eqv]
  | _, .int _, _ => by simp [peq, toP, PyData.eqv]
  | _, .str x, h => by simp [peq, toP, PyData.eqv]
  | n + 1, .list xs, h => by rw [pl] at h; rw [peq, toP, PyData.eqv]; exact peqL_refl h
  | n + 1, .tuple xs, h => by rw [pl] at h; rw [peq, toP, PyData.eqv]; exact peqL_refl h
  | 0, .list xs, h => by simp [pl] at h
  | 0, .tuple xs, h => by simp [pl] at h
  | _, .raw _, h => by simp [pl] at h
  | _, .ext _ _, h => by simp [pl] at h
  | _, .slice _ _ _, h => by simp [pl] at h
  | _, .range _ _ _, h => by simp [pl] at h
theorem peqL_refl : ∀ {n : Nat} {ds : List PV}, plL n ds = true → PyData.eqvAll (toPL ds) (toPL ds) = true
  | _, [], _ => by rw [toPL, PyData.eqvAll]
  | n, d :: r, h => by
    rw [plL, Bool.and_eq_true] at h
    rw [toPL, PyData.eqvAll, Bool.and_eq_true]
    exact ⟨peq_refl h.1, peqL_refl h.2⟩
end
theorem peq_str' (x y : List Nat) : peq (.str x) (.str y) = decide (x = y) := by
  unfold peq
  rw [toP, toP]
  show (strL x == strL y) = _
  by_cases h : x = y
  · subst h; simp
  · have : strL x ≠ strL y := fun q => h (by have := congrArg (fun s : Str => s.cps.toList) q; simpa [strL] using this)
    rw [beq_false_of_ne this]; simp [h]
theorem pl_str' {n : Nat} {x : List Nat} (h : ∀ c ∈ x, c < 0x110000) : pl n (.str x) = true := by rw [pl]; simpa using h
theorem peq_int (a b : Int) : peq (.int a) (.int b) = decide (a = b) := by
  unfold peq; rw [toP, toP, PyData.eqv]
  by_cases h : a = b <;> simp [h]
theorem peq_list (xs ys : List PV) : peq (.list xs) (.list ys) = PyData.eqvAll (toPL xs) (toPL ys) := by rw [peq, toP, toP, PyData.eqv]
theorem peq_cons (x y : PV) (xs ys : List PV) : peq (.list (x :: xs)) (.list (y :: ys)) = (peq x y && peq (.list xs) (.list ys)) := by
  rw [peq_list, peq_list, toPL, toPL, PyData.eqvAll]; rfl
theorem peq_nil : peq (.list []) (.list []) = true := by rw [peq_list]; rfl
theorem peq_nil_cons (y : PV) (ys : List PV) : peq (.list []) (.list (y :: ys)) = false := by rw [peq_list]; rfl
theorem peq_cons_nil (y : PV) (ys : List PV) : peq (.list (y :: ys)) (.list []) = false := by rw [peq_list]; rfl
theorem peq_map {α : Type} [DecidableEq α] {f : α → PV} (hf : ∀ a b, peq (f a) (f b) = decide (a = b)) : ∀ xs ys : List α, peq (.list (xs.map f)) (.list (ys.map f)) = decide (xs = ys)
  | [], [] => by rw [List.map_nil, peq_nil]; rfl
  | [], y :: ys => by rw [List.map_cons, List.map_nil, peq_nil_cons]; simp
  | x :: xs, [] => by rw [List.map_cons, List.map_nil, peq_cons_nil]; simp
  | x :: xs, y :: ys => by
    rw [List.map_cons, List.map_cons, peq_cons, hf, peq_map hf xs ys]
    by_cases h1 : x = y <;> by_cases h2 : xs = ys <;> simp [h1, h2]
theorem peq_strs (xs ys : List (List Nat)) : peq (.list (xs.map .str)) (.list (ys.map .str)) = decide (xs = ys) := peq_map peq_str' xs ys
theorem plL_map {α : Type} {f : α → PV} {n : Nat} : ∀ {xs : List α}, (∀ x ∈ xs, pl n (f x) = true) → plL n (xs.map f) = true
  | [], _ => by rw [List.map_nil, plL]
  | x :: r, h => by rw [List.map_cons, plL, Bool.and_eq_true]; exact ⟨h x List.mem_cons_self, plL_map fun y hy => h y (List.mem_cons_of_mem _ hy)⟩
theorem plL_strs {n : Nat} {xs : List (List Nat)} (h : ∀ x ∈ xs, ∀ c ∈ x, c < 0x110000) : plL n (xs.map .str) = true := plL_map fun x hx => pl_str' (h x hx)
theorem plL_nums {n : Nat} {xs : List Nat} : plL n (nums xs) = true := by
  unfold nums
  rw [List.map_map]
  exact plL_map fun x _ => by rw [Function.comp, pl]
/-! ## methods, ranges, in short -/
section
variable {C : Cx} {k : Nat} {sc : Scope} {ρ : Lo} {σ : Sto} {K : PV → Sto → Prop} {o : Expr} {e₁ : Expr} {apos pos : Pos}
theorem Ev.lower (h : Ev C k sc ρ σ o fun d σ₁ => ∃ x, d = .str x ∧ (lowerL x).length ≤ sizeLine ∧ K (.str (lowerL x)) σ₁) (hline : (apos.endLine == pos.line) = true) (hbase : ∀ env, attributeBase o (Str.ofString "lower") env (eval o env) = eval o env) :
    Ev C k sc ρ σ (.Call (.Attribute o (Str.ofString "lower") apos) [] [] pos) K :=
  Ev.method (T := "str") (id_ := "str.lower") (Ev.mono h fun d σ₁ ⟨x, e, hs, q⟩ => by subst e; exact ⟨OfType.str, OpL.lower hs q⟩) F.plainAttrs_str F.slot_str_lower F.type_str_lower rfl (by decide) hline hbase
theorem Ev.join (h : Ev C k sc ρ σ e₁ fun d σ₁ => ∃ xs : List (List Nat), LRead C σ₁ d (xs.map .str) ∧ (xs.map List.length).sum ≤ 16777216 ∧ K (.str xs.flatten) σ₁) (hp : [e₁].all plainE = true) {kk p2} (hline : (apos.endLine == pos.line) = true) (hbase : ∀ env, attributeBase (.Constant (.str (Str.ofString "")) kk p2) (Str.ofString "join") env (eval (.Constant (.str (Str.ofString "")) kk p2) env) = eval (.Constant (.str (Str.ofString "")) kk p2) env) :
    Ev C k sc ρ σ (.Call (.Attribute (.Constant (.str (Str.ofString "")) kk p2) (Str.ofString "join") apos) [e₁] [] pos) K :=
  Ev.method (T := "str") (id_ := "str.join") (Ev.str (l := []) rfl ⟨OfType.str, Ev.mono h fun d σ₁ ⟨xs, hl, hs, q⟩ => OpL.join0 hl hs q⟩) F.plainAttrs_str F.slot_str_join F.type_str_join hp (by simp) hline hbase
theorem Ev.append (h : Ev C k sc ρ σ o fun d σ₁ => ∃ a, d = .raw (.ref a) ∧ (∃ ys, (a, AO.mlist ys) ∈ σ₁) ∧ Ev C k sc ρ σ₁ e₁ fun d₂ σ₂ => ∃ xs σ₃, Upd σ₂ a (.mlist xs) (.mlist (xs ++ [d₂])) σ₃ ∧ xs.length ≤ 100000 ∧ K .none σ₃) (hp : [e₁].all plainE = true) (hline : (apos.endLine == pos.line) = true) (hbase : ∀ env, attributeBase o (Str.ofString "append") env (eval o env) = eval o env) :
    Ev C k sc ρ σ (.Call (.Attribute o (Str.ofString "append") apos) [e₁] [] pos) K :=
  Ev.method (T := "list") (id_ := "list.append") (Ev.mono h fun d σ₁ ⟨a, e, ⟨ys, hm⟩, q⟩ => by subst e; exact ⟨OfType.list (LRead.mut hm), Ev.mono q fun d₂ σ₂ ⟨xs, σ₃, u, hs, q⟩ => OpL.append u (by simp [sizeLine]; lia) q⟩) F.plainAttrs_list F.slot_list_append F.type_list_append hp (by simp) hline hbase
theorem Ev.extend (h : Ev C k sc ρ σ o fun d σ₁ => ∃ a, d = .raw (.ref a) ∧ (∃ ys, (a, AO.mlist ys) ∈ σ₁) ∧ Ev C k sc ρ σ₁ e₁ fun d₂ σ₂ => ∃ xs zs σ₃, LRead C σ₂ d₂ zs ∧ Upd σ₂ a (.mlist xs) (.mlist (xs ++ zs)) σ₃ ∧ xs.length + zs.length ≤ 100000 ∧ K .none σ₃) (hp : [e₁].all plainE = true) (hline : (apos.endLine == pos.line) = true) (hbase : ∀ env, attributeBase o (Str.ofString "extend") env (eval o env) = eval o env) :
    Ev C k sc ρ σ (.Call (.Attribute o (Str.ofString "extend") apos) [e₁] [] pos) K :=
  Ev.method (T := "list") (id_ := "list.extend") (Ev.mono h fun d σ₁ ⟨a, e, ⟨ys, hm⟩, q⟩ => by subst e; exact ⟨OfType.list (LRead.mut hm), Ev.mono q fun d₂ σ₂ ⟨xs, zs, σ₃, hl, u, hs, q⟩ => OpL.extend hl u (by lia) q⟩) F.plainAttrs_list F.slot_list_extend F.type_list_extend hp (by simp) hline hbase
theorem Iterable.rangeN {a n : Nat} (h1 : a ≤ 1000000) (h2 : n ≤ 1000000) : Iterable C k σ (.range (a : Nat) ((a + n : Nat) : Int) 1) ((List.range n).map fun i => PV.int ((a + i : Nat) : Int)) := by
  have h := Iterable.range (C := C) (k := k) (σ := σ) (small_up (a := (a : Int)) (b := ((a + n : Nat) : Int)) (by lia) (by lia) (by lia) (by lia))
  have e : rangeL (a : Int) ((a + n : Nat) : Int) 1 = (List.range n).map fun i => PV.int ((a + i : Nat) : Int) := by
    unfold rangeL
    have z : Builtin.Range.rangeSize (a : Int) ((a + n : Nat) : Int) 1 = (n : Int) := by rw [PySem.rangeSize_one]; split <;> lia
    rw [z, Int.toNat_natCast]
    exact List.map_congr_left fun i _ => by simp
  rwa [e] at h
theorem Iterable.range0 {n : Nat} (h2 : n ≤ 1000000) : Iterable C k σ (.range 0 (n : Int) 1) ((List.range n).map fun (i : Nat) => PV.int (i : Int)) := by
  have h := Iterable.rangeN (C := C) (k := k) (σ := σ) (a := 0) (n := n) (by lia) h2
  simpa using h
end
section
variable {α : Type} {p₀ p₁ p₂ p₃ p₄ p₅ p₆ : α} {r : List α}
theorem at0 : p₀ ∈ p₀ :: r := List.mem_cons_self
theorem at1 : p₁ ∈ p₀ :: p₁ :: r := List.mem_cons_of_mem _ at0
theorem at2 : p₂ ∈ p₀ :: p₁ :: p₂ :: r := List.mem_cons_of_mem _ at1
theorem at3 : p₃ ∈ p₀ :: p₁ :: p₂ :: p₃ :: r := List.mem_cons_of_mem _ at2
theorem at4 : p₄ ∈ p₀ :: p₁ :: p₂ :: p₃ :: p₄ :: r := List.mem_cons_of_mem _ at3
theorem at5 : p₅ ∈ p₀ :: p₁ :: p₂ :: p₃ :: p₄ :: p₅ :: r := List.mem_cons_of_mem _ at4
end
theorem Tr.and2 {C k sc ρ σ e₁ e₂ pos K} (h : Tr C k sc ρ σ e₁ fun b σ₁ => if b = true then Tr C k sc ρ σ₁ e₂ K else K false σ₁) : Tr C k sc ρ σ (.BoolOp .And [e₁, e₂] pos) K :=
  Tr.boolop (Tr.mono h fun b σ₁ q => by
    cases b with
    | true => exact Tr.mono q fun b σ₂ q => by cases b <;> exact q
    | false => exact q)
theorem Tr.or2 {C k sc ρ σ e₁ e₂ pos K} (h : Tr C k sc ρ σ e₁ fun b σ₁ => if b = true then K true σ₁ else Tr C k sc ρ σ₁ e₂ K) : Tr C k sc ρ σ (.BoolOp .Or [e₁, e₂] pos) K :=
  Tr.boolop (Tr.mono h fun b σ₁ q => by
    cases b with
    | true => exact q
    | false => exact Tr.mono q fun b σ₂ q => by cases b <;> exact q)
end Mine
end C38

section V20
open PySem PySem.W PyProof.Rows
set_option Elab.async false
set_option linter.unusedVariables false
set_option maxRecDepth 100000
namespace Mine
noncomputable def letterC (l : Nat) : Nat := [18, 5, 10].getD l 0
noncomputable def fonts : List Nat := [119808, 119860, 119912, 120016, 120172, 120224, 120276, 120328, 120380, 120432]
noncomputable def lone : List Nat := [173, 847, 6150, 6155, 6156, 6157, 8203, 8204, 8205, 8288, 65279]
/-- the sign's code -/
noncomputable def signC (l fig pick : Nat) : Nat :=
  if fig = 1 then 65 + letterC l
  else if fig = 2 then [383, 119813, 8490].getD l 0
  else if fig = 3 then fonts.getD (pick % 10) 0 + letterC l
  else if fig = 4 then [223, 64256, 13261].getD l 0
  else if fig = 5 then if pick % 27 < 11 then lone.getD (pick % 27) 0 else 65013 + pick % 27
  else 97 + letterC l
noncomputable def signN (fig : Nat) : Nat := [1, 1, 1, 1, 2, 0].getD fig 0
theorem getD_lt {l : List Nat} {i m : Nat} (h : l.all (· ≤ m) = true) : l.getD i 0 ≤ m := by
  rw [List.getD_eq_getElem?_getD]
  cases e : l[i]? with
  | none => simp
  | some v => simpa using List.all_eq_true.mp h v (List.mem_of_getElem? e)
theorem letterC_le (l : Nat) : letterC l ≤ 18 := getD_lt (by decide)
theorem Ev.pickL {C k sc σ es p1 p3 e K} {ρ : Lo} {ns : List Nat} (hc : constInts es = some (ns.map fun (n : Nat) => (n : Int))) (hl : ns.length ≤ 1000) (i : Nat) (he : ∀ {K' : PV → Sto → Prop}, K' (.int (i : Nat)) σ → Ev C k sc ρ σ e K') (hi : i < ns.length) (h : K (.int ((ns.getD i 0 : Nat) : Int)) σ) :
    Ev C k sc ρ σ (.Subscript (.List es p1) e p3) K :=
  Ev.sub (Ev.nats ns hc hl (he (Op2.pick hi h (by lia))))
theorem w_sign {C k σ} {l fig pick : Nat} {K : PV → Sto → Prop} (chr : Blt C "chr" (.builtin "chr")) (h1 : l < 3) (h2 : fig < 6) (h : K (.tuple [.str [signC l fig pick], .int (signN fig : Nat)]) σ) :
    Ex C k (fScope (stAt 10)) [("letter", .int l), ("figure", .int fig), ("pick", .int pick)] σ (fBody (stAt 10)) (fun g _ σ' => match g with | .ret d => K d σ' | .next => K .none σ' | _ => False) := by
  have hle := letterC_le l
  have hbig : signC l fig pick < 0x110000 := by
    unfold signC
    have a1 := getD_lt (l := [383, 119813, 8490]) (i := l) (m := 119813) (by decide)
    have a2 := getD_lt (l := fonts) (i := pick % 10) (m := 120432) (by decide)
    have a3 := getD_lt (l := [223, 64256, 13261]) (i := l) (m := 64256) (by decide)
    have a4 := getD_lt (l := lone) (i := pick % 27) (m := 65279) (by decide)
    have := Nat.mod_lt pick (show 27 > 0 by decide)
    repeat' split
    all_goals lia
  have fin : ∀ ρ' : Lo, ρ'.lookup "code" = some (.int (signC l fig pick : Nat)) → ρ'.lookup "figure" = some (.int fig) → Ex C k (fScope (stAt 10)) ρ' σ ((fBody (stAt 10)).drop 4) (fun g _ σ' => match g with | .ret d => K d σ' | .next => K .none σ' | _ => False) := fun ρ' e1 e2 => by
    refine Ex.cons (Ex1.ret (Ev.tuple2 (Ev.call1 chr rfl (Ev.name (x := "code") e1 (OpL.chrN (by lia) ?_)) rfl) rfl))
    refine Ev.pickL (ns := [1, 1, 1, 1, 2, 0]) ?_ (by decide) _ (fun h => Ev.name (x := "figure") e2 h) h2 h
    kernel_rfl
  unfold signC at fin
  refine Ex.cons ?_
  refine Ex1.asgNats (x := "fonts") (ns := fonts) ?_ ?_ ?_
  · kernel_rfl
  · decide +kernel
  refine Ex.cons ?_
  refine Ex1.asgNats (x := "lone") (ns := lone) ?_ ?_ ?_
  · kernel_rfl
  · decide +kernel
  refine Ex.cons (Ex1.assign (x := "code") (Ev.binop (Ev.int (Ev.pickL (ns := [18, 5, 10]) ?a1 ?a2 _ ?a3 h1 (Op2.addN (a := 97) ?_)))) (.inl rfl) fun _ => rfl)
  case a1 => kernel_rfl
  case a2 => decide
  case a3 => exact fun h => Ev.name (x := "letter") rfl h
  refine Ex.cons (Ex1.if (Tr.cmp (Ev.name (x := "figure") rfl (Ev.int (Op2.eqN (b := 1) (OpB.bool ?_)))) rfl))
  refine ite_dec (fun g1 => ?_) fun g1 => ?_
  · rw [if_pos g1] at fin
    refine Ex.cons (Ex1.assign (x := "code") (Ev.binop (Ev.int (Ev.pickL (ns := [18, 5, 10]) ?b1 ?b2 _ ?b3 h1 (Op2.addN (a := 65) ?_)))) (.inl rfl) fun _ => rfl)
    case b1 => kernel_rfl
    case b2 => decide
    case b3 => exact fun h => Ev.name (x := "letter") rfl h
    exact Ex.nil (fin _ rfl rfl)
  rw [if_neg g1] at fin
  refine Ex.cons (Ex1.if (Tr.cmp (Ev.name (x := "figure") rfl (Ev.int (Op2.eqN (b := 2) (OpB.bool ?_)))) rfl))
  refine ite_dec (fun g2 => ?_) fun g2 => ?_
  · rw [if_pos g2] at fin
    refine Ex.cons (Ex1.assign (x := "code") (Ev.pickL (ns := [383, 119813, 8490]) ?c1 ?c2 _ ?c3 h1 ?_) (.inl rfl) fun _ => rfl)
    case c1 => kernel_rfl
    case c2 => decide
    case c3 => exact fun h => Ev.name (x := "letter") rfl h
    exact Ex.nil (Ex.nil (fin _ rfl rfl))
  rw [if_neg g2] at fin
  refine Ex.cons (Ex1.if (Tr.cmp (Ev.name (x := "figure") rfl (Ev.int (Op2.eqN (b := 3) (OpB.bool ?_)))) rfl))
  refine ite_dec (fun g3 => ?_) fun g3 => ?_
  · rw [if_pos g3] at fin
    refine Ex.cons (Ex1.assign (x := "code") (Ev.binop (Ev.sub (Ev.name (x := "fonts") rfl (Ev.binop (Ev.name (x := "pick") rfl (Ev.int (Op2.modN (b := 10) (by decide) (Op2.pick (show pick % 10 < 10 from Nat.mod_lt _ (by decide)) ?_)))))))) (.inl rfl) fun _ => rfl)
    refine Ev.pickL (ns := [18, 5, 10]) ?d1 ?d2 _ ?d3 h1 (Op2.addN ?_)
    case d1 => kernel_rfl
    case d2 => decide
    case d3 => exact fun h => Ev.name (x := "letter") rfl h
    exact Ex.nil (Ex.nil (Ex.nil (fin _ rfl rfl)))
  rw [if_neg g3] at fin
  refine Ex.cons (Ex1.if (Tr.cmp (Ev.name (x := "figure") rfl (Ev.int (Op2.eqN (b := 4) (OpB.bool ?_)))) rfl))
  refine ite_dec (fun g4 => ?_) fun g4 => ?_
  · rw [if_pos g4] at fin
    refine Ex.cons (Ex1.assign (x := "code") (Ev.pickL (ns := [223, 64256, 13261]) ?f1 ?f2 _ ?f3 h1 ?_) (.inl rfl) fun _ => rfl)
    case f1 => kernel_rfl
    case f2 => decide
    case f3 => exact fun h => Ev.name (x := "letter") rfl h
    exact Ex.nil (Ex.nil (Ex.nil (Ex.nil (fin _ rfl rfl))))
  rw [if_neg g4] at fin
  refine Ex.cons (Ex1.if (Tr.cmp (Ev.name (x := "figure") rfl (Ev.int (Op2.eqN (b := 5) (OpB.bool ?_)))) rfl))
  refine ite_dec (fun g5 => ?_) fun g5 => ?_
  · rw [if_pos g5] at fin
    refine Ex.cons (Ex1.assign (x := "code") (Ev.ifexp (Tr.cmp (Ev.binop (Ev.name (x := "pick") rfl (Ev.int (Op2.modN (b := 27) (by decide) (Ev.int (Op2.ltN (b := 11) (OpB.bool ?_))))))) rfl)) (.inl rfl) fun _ => rfl)
    refine ite_dec (fun g6 => ?_) fun g6 => ?_
    · rw [if_pos g6] at fin
      refine Ev.sub (Ev.name (x := "lone") rfl (Ev.binop (Ev.name (x := "pick") rfl (Ev.int (Op2.modN (b := 27) (by decide) (Op2.pick g6 ?_))))))
      exact Ex.nil (Ex.nil (Ex.nil (Ex.nil (Ex.nil (fin _ rfl rfl)))))
    · rw [if_neg g6] at fin
      refine Ev.binop (Ev.int (Ev.binop (Ev.name (x := "pick") rfl (Ev.int (Op2.modN (b := 27) (by decide) (Op2.addN (a := 65013) ?_))))))
      exact Ex.nil (Ex.nil (Ex.nil (Ex.nil (Ex.nil (fin _ rfl rfl)))))
  rw [if_neg g5] at fin
  exact Ex.nil (Ex.nil (Ex.nil (Ex.nil (Ex.nil (fin _ rfl rfl)))))
end Mine
end V20

section C39
open PySem PySem.W PyProof.Rows
set_option Elab.async false
set_option linter.unusedVariables false
set_option maxRecDepth 100000
namespace Mine
theorem TrAll.one {C k sc ρ σ e} {K : Bool → Sto → Prop} (h : Tr C k sc ρ σ e K) : TrAll C k sc ρ .And σ [e] K :=
  Tr.mono h fun b σ₁ q => by
    cases b with
    | true => exact q
    | false => exact q
end Mine
end C39

section V21
open PySem PySem.W PyProof.Rows
set_option Elab.async false
set_option linter.unusedVariables false
set_option maxRecDepth 100000
namespace Mine
section
variable {C : Cx} {S : Int → Bool} {D : List (PyData × PyData)} (T : TopB C S D)
include T
noncomputable def prep (S : Int → Bool) (D : List (PyData × PyData)) (x : List Nat) : List Nat := ((x.filter fun c => !S (c : Nat)).map (b3of D)).flatten
theorem w_prep {k σ} {x : List Nat} {K : PV → Sto → Prop} (ok : ∀ c ∈ x, b3ok D c = true) (hl : x.length ≤ 10000) (h : K (.str (prep S D x)) σ) :
    Ex C (k + 1) (fScope (stAt 12)) [("text", .str x)] σ (fBody (stAt 12)) (fun g _ σ' => match g with | .ret d => K d σ' | .next => K .none σ' | _ => False) := by
  refine Ex.cons (Ex1.ret (Ev.method (T := "str") (id_ := "str.join") (Ev.str (l := []) rfl ⟨OfType.str, ?_⟩) F.plainAttrs_str F.slot_str_join F.type_str_join rfl (by decide) rfl fun _ => rfl))
  refine Ev.listComp [] trivial (by decide +kernel) rfl (fun g hg => by cases List.mem_singleton.mp hg; exact ⟨rfl, fun _ _ => rfl⟩) ?_
  refine Ev.name (x := "text") rfl ⟨_, Iterable.str, ?_⟩
  refine Comp.pure1 (t := "sign") (fun v => match v with | .str [c] => !S (c : Nat) | _ => false) (fun v => match v with | .str [c] => .str (b3of D c) | _ => .none) rfl rfl ?_ ?_ (by simp [sizeLine]; omega) ?_
  · intro v hv K' hK'
    obtain ⟨c, hc, rfl⟩ := List.mem_map.mp hv
    refine Tr.not (Tr.value (Ev.callF T.b1 rfl (Ev.name (x := "sign") rfl ⟨rfl, op_b1 T (OpB.bool ?_)⟩) rfl) fun _ _ => rfl)
    cases hS : S (c : Nat) <;> (simp only [hS] at hK' ⊢; exact hK')
  · intro v hv hk K' hK'
    obtain ⟨c, hc, rfl⟩ := List.mem_map.mp hv
    exact Ev.callF T.b3 rfl (Ev.name (x := "sign") rfl ⟨rfl, op_b3 T (ok c hc) hK'⟩) rfl
  · have e : (((x.map fun c => PV.str [c]).filter fun v => match v with | .str [c] => !S (c : Nat) | _ => false).map fun v => match v with | .str [c] => .str (b3of D c) | _ => .none) = ((x.filter fun c => !S (c : Nat)).map (b3of D)).map PV.str := by
      rw [List.filter_map, List.map_map, List.map_map]
      rfl
    rw [e]
    refine OpL.join0 .list ?_ h
    have hle : ∀ l : List Nat, (∀ c ∈ l, b3ok D c = true) → ((l.map (b3of D)).map List.length).sum ≤ 3 * l.length := by
      intro l
      induction l with
      | nil => intro _; simp
      | cons c t ih =>
        intro hh
        have h1 := hh c List.mem_cons_self
        unfold b3ok at h1
        simp only [Bool.and_eq_true, decide_eq_true_eq] at h1
        have h2 := ih fun c hc => hh c (List.mem_cons_of_mem _ hc)
        simp only [List.map_cons, List.sum_cons, List.length_cons]
        omega
    have h3 := hle (x.filter fun c => !S (c : Nat)) fun c hc => ok c (List.mem_filter.mp hc).1
    have h4 := List.length_filter_le (fun c => !S (c : Nat)) x
    omega
end
/-- the first that is not empty, else the first, else True -/
noncomputable def firstV (vs : List (List Nat)) : PV := (((vs.filter fun v : List Nat => !v.isEmpty) ++ vs).map PV.str ++ [PV.bool true]).headD PV.none
theorem w_first {C k σ} {vs : List (List Nat)} {K : PV → Sto → Prop} (hv : ∀ v ∈ vs, ∀ c ∈ v, c < 0x110000) (hl : vs.length ≤ 1000) (h : K (firstV vs) σ) :
    Ex C k (fScope (stAt 14)) [("verdicts", .list (vs.map .str))] σ (fBody (stAt 14)) (fun g _ σ' => match g with | .ret d => K d σ' | .next => K .none σ' | _ => False) := by
  refine Ex.cons (Ex1.ret (Ev.sub ?_))
  refine Ev.binop (Ev.binop ?_)
  refine Ev.listComp [] trivial (by decide +kernel) rfl (fun g hg => by cases List.mem_singleton.mp hg; exact ⟨rfl, fun _ _ => rfl⟩) ?_
  refine Ev.name (x := "verdicts") rfl ⟨_, Iterable.list, ?_⟩
  refine Comp.pure1 (t := "verdict") (fun v => match v with | .str x => !x.isEmpty | _ => false) id rfl rfl ?_ ?_ (by simp [sizeLine]; omega) ?_
  · intro v hm K' hK'
    obtain ⟨x, hx, rfl⟩ := List.mem_map.mp hm
    refine Tr.cmp (Ev.name (x := "verdict") rfl (Ev.str (l := []) rfl (Op2.ne (pl_str' (hv x hx)) (pl_str' (by simp)) (OpB.bool ?_)))) rfl
    rw [peq_str']
    have e : (!decide (x = [])) = !x.isEmpty := by cases x <;> simp
    rw [e]
    cases hS : x.isEmpty <;> (simp only [hS] at hK' ⊢; exact hK')
  · intro v hm hk K' hK'
    exact Ev.name (x := "verdict") rfl hK'
  · have e : ((vs.map PV.str).filter fun v : PV => match v with | .str x => !x.isEmpty | _ => false).map id = (vs.filter fun v : List Nat => !v.isEmpty).map PV.str := by
      rw [List.map_id, List.filter_map]; rfl
    rw [e]
    refine Ev.name (x := "verdicts") rfl ?_
    have hf := List.length_filter_le (fun v : List Nat => !v.isEmpty) vs
    refine Op2.addl .list .list (by simp [sizeLine] at *; omega) ?_
    refine Ev.list (es := [_]) (Ev.bool ⟨by decide, ?_⟩) rfl
    refine Op2.addl .list .list (by simp [sizeLine] at *; omega) ?_
    refine Ev.int ?_
    refine Op2.item (d := firstV vs) .list (by decide) (by decide) ?_ h
    unfold firstV
    rw [List.map_append]
    generalize ((vs.filter fun v : List Nat => !v.isEmpty).map PV.str) ++ vs.map PV.str = l
    cases l <;> rfl
noncomputable def cutL : List Int → Int → List Int
  | [], _ => []
  | c :: r, n => n / c :: cutL r (n % c)
theorem cutL_len : ∀ (cs : List Int) n, (cutL cs n).length = cs.length
  | [], _ => rfl
  | c :: r, n => by rw [cutL, List.length_cons, cutL_len r, List.length_cons]
theorem w_cut {C k size σ K} {coins : List Int} (hp : ∀ c ∈ coins, 0 < c ∧ c < 2 ^ 30) (hsz : coins.length ≤ 1000) (hK : K (.list ((cutL coins size).map .int)) σ) :
    Ex C k (fScope (stAt 15)) [("coins", .list (coins.map .int)), ("size", .int size)] σ (fBody (stAt 15)) (fun g _ σ' => match g with | .ret d => Frz σ K d σ' | _ => False) := by
  refine Ex.cons (Ex1.assign (Ev.mlist (es := []) ⟨by decide, fun a ha => ?_⟩ rfl) (.inl rfl) fun _ => rfl)
  refine Ex.cons (Ex1.for (J := fun rest ρ σ' => ∃ (todo : List Int) (done : List Int) (n : Int), rest = todo.map .int ∧ (∀ c ∈ todo, 0 < c ∧ c < 2 ^ 30) ∧ done.length + todo.length ≤ 1000 ∧ done ++ cutL todo n = cutL coins size ∧ Has ρ [("counts", .raw (.ref a)), ("size", .int n)] ∧ σ' = (a, .mlist (done.map .int)) :: σ) ?_ ?_ ?_ fun _ _ => rfl)
  · exact Ev.name (x := "coins") rfl ⟨_, Iterable.list, coins, [], size, rfl, hp, by simpa using hsz, rfl, ⟨rfl, rfl, trivial⟩, rfl⟩
  · rintro x r ρ' σ' ⟨todo, done, n, he, hp', hl, hd, hh, rfl⟩
    cases todo with
    | nil => cases he
    | cons c todo =>
    obtain ⟨rfl, rfl⟩ : x = .int c ∧ r = todo.map .int := by simpa using he
    have hc := hp' c List.mem_cons_self
    refine Bind.name (.inl rfl) ?_
    refine Ex.has (ρ' := [("coin", .int c), ("counts", .raw (.ref a)), ("size", .int n)]) ⟨rfl, hh.1, hh.2.1, trivial⟩ ?_
    refine Ex.cons (Ex1.expr (Ev.method (T := "list") (id_ := "list.append") (Ev.name (x := "counts") rfl ⟨OfType.list (LRead.mut List.mem_cons_self), ?_⟩) F.plainAttrs_list F.slot_list_append F.type_list_append rfl (by decide) rfl fun _ => rfl) fun _ => rfl)
    · refine Ev.binop (Ev.name (x := "size") rfl (Ev.name (x := "coin") rfl (Op2.div hc.1 ?_ (PyProof.noPylong_small (by omega)))))
      refine OpL.append (.here) (by simp [sizeLine] at *; omega) ?_
      refine Ex.cons (Ex1.assign (x := "size") (Ev.binop (Ev.name (x := "size") rfl (Ev.name (x := "coin") rfl (Op2.mod hc.1 ?_)))) (.inl rfl) fun _ => rfl)
      refine Ex.nil ?_
      refine ⟨todo, done ++ [n / c], n % c, rfl, fun y hy => hp' y (List.mem_cons_of_mem _ hy), by simp at hl ⊢; omega, by rw [← hd]; simp [cutL], ⟨rfl, rfl, trivial⟩, by simp⟩
  · rintro ρ' σ' ⟨todo, done, n, he, hp', hl, hd, hh, rfl⟩
    have : todo = [] := by simpa using he.symm
    subst this
    refine Ex.has hh ?_
    refine Ex.cons (Ex1.ret (Ev.name (x := "counts") rfl ?_))
    refine ⟨a, _, σ, rfl, List.mem_cons_self, List.sublist_cons_self _ _, ha, ha, ?_⟩
    rw [← hd] at hK
    simpa [cutL] using hK
theorem Op2.powN {C k σ K} {a b : Nat} (hsz : Builtin.Int.intBits (a : Nat) * b ≤ 2 ^ 27) (h : K (.int ((a ^ b : Nat) : Int)) σ) : Op2 C k σ (.int (a : Nat)) (.int (b : Nat)) (binaryOp .Pow) K :=
  Op2.pow (by omega) (by omega) (by rw [Int.toNat_natCast]; rw [Int.natCast_pow] at h; exact h)
theorem Ex1.assignS {C k sc ρ σ x p e pos K} (h : Ev C k sc ρ σ e fun d σ₁ => K .next ((x, d) :: ρ) σ₁) (hk : Storable sc x) (hs : ∀ env, env.scope = sc → swapsWith e (some (.Name (Str.ofString x) p)) pos.line env = pure false) : Ex1 C k sc ρ σ (.Assign [.Name (Str.ofString x) p] e pos) K := fun A P env s he hr I =>
  wpAny_Assign_Name (ev_one h he hr I fun v d σ₁ s₁ hK hA r => by
    have hF := AfterF.of I hA
    exact inv_store he hk hF.inv r fun s' hS I' => ⟨_, _, _, hK, ⟨hF.step.trans hS, I'⟩, .next⟩) (hs env he)
noncomputable def figuresOf (cell : Nat) : List Nat := (List.range (1 + cell % 7)).map fun p => cell / 7 / 6 ^ p % 6
/-- a sign with its size -/
noncomputable def sgn (l fig pick : Nat) : PV := .tuple [.str [signC l fig pick], .int (signN fig : Nat)]
/-- a word's signs -/
noncomputable def wordL (l cell : Nat) : List PV := (List.range (1 + cell % 7)).map fun p => sgn l (cell / 7 / 6 ^ p % 6) (cell / 1959552 + p)
theorem figures_get {cell p : Nat} (h : p < 1 + cell % 7) : (figuresOf cell).getD p 0 = cell / 7 / 6 ^ p % 6 := by
  unfold figuresOf
  rw [List.getD_eq_getElem?_getD, List.getElem?_map, List.getElem?_range h]; rfl
theorem op_sign {C k σ} {l fig pick : Nat} {K : PV → Sto → Prop} (chr : Blt C "chr" (.builtin "chr")) (h1 : l < 3) (h2 : fig < 6) (h : K (sgn l fig pick) σ) : ∀ f, FnAt C f ["letter", "figure", "pick"] (fScope (stAt 10)) (fBody (stAt 10)) → OpL C (k + 1) σ [.int l, .int fig, .int pick] (fun vs => PySem.call (.ref f) vs) K := fun f F => by
  refine Fn.call F ?_ ?_ ?_
  · decide +kernel
  · rfl
  · show Ex C k (fScope (stAt 10)) [("letter", .int l), ("figure", .int fig), ("pick", .int pick)] σ (fBody (stAt 10)) _
    exact @w_sign C k σ l fig pick K chr h1 h2 h
theorem w_word {C k σ} {l cell : Nat} {K : PV → Sto → Prop} (chr : Blt C "chr" (.builtin "chr")) (len : Blt C "len" (.builtin "len")) (range : Blt C "range" (.type "range")) (sign : Fun C "_law_sign" ["letter", "figure", "pick"] (stAt 10)) (h1 : l < 3) (h : K (.list (wordL l cell)) σ) :
    Ex C (k + 1) (fScope (stAt 11)) [("letter", .int l), ("cell", .int cell)] σ (fBody (stAt 11)) (fun g _ σ' => match g with | .ret d => K d σ' | .next => K .none σ' | _ => False) := by
  have h7 : cell % 7 < 7 := Nat.mod_lt _ (by decide)
  refine Ex.cons (Ex1.assignS (x := "figures") (Ev.listComp [("cell", .int cell)] ⟨⟨rfl, rfl⟩, trivial⟩ (by decide +kernel) rfl (fun g hg => by cases List.mem_singleton.mp hg; exact ⟨rfl, fun _ _ => rfl⟩) ?_) (.inr rfl) (fun env he => by cases env; dsimp only at he; subst he; rfl))
  refine Ev.call1t range rfl (Ev.binop (Ev.int (Ev.binop (Ev.name (x := "cell") rfl (Ev.int (Op2.modN (b := 7) (by decide) (Op2.addN (a := 1) (OpL.range1 ⟨_, Iterable.range0 (n := 1 + cell % 7) (by omega), ?_⟩)))))))) rfl
  refine Comp.pure1 (t := "place") (fun _ => true) (fun v => match v with | .int i => .int ((cell / 7 / 6 ^ i.toNat % 6 : Nat) : Int) | _ => .none) rfl rfl ?_ ?_ (by simp [sizeLine]; omega) ?_
  · intro v hv K' hK'; exact hK'
  · intro v hv _ K' hK'
    obtain ⟨p, hp, rfl⟩ := List.mem_map.mp hv
    have hpl := List.mem_range.mp hp
    simp only [Int.toNat_natCast] at hK'
    have hpw : 6 ^ p ≤ 6 ^ 6 := Nat.pow_le_pow_right (by decide) (by omega)
    have hp0 : 0 < 6 ^ p := Nat.pow_pos (by decide)
    refine Ev.binop (Ev.binop (Ev.binop (Ev.name (x := "cell") rfl (Ev.int (Op2.divN (b := 7) (by decide) (Ev.binop (Ev.int (Ev.name (x := "place") rfl (Op2.powN (a := 6) ?z1 (Op2.divN hp0 (Ev.int (Op2.modN (b := 6) (by decide) hK')) (by omega)))))))))))
    case z1 =>
      have : Builtin.Int.intBits ((6 : Nat) : Int) = 3 := by decide +kernel
      rw [this]; omega
  have e1 : (((List.range (1 + cell % 7)).map fun (i : Nat) => PV.int (i : Int)).filter fun _ => true).map (fun v => match v with | .int i => PV.int ((cell / 7 / 6 ^ i.toNat % 6 : Nat) : Int) | _ => .none) = nums (figuresOf cell) := by
    rw [List.filter_eq_self.mpr (fun _ _ => rfl)]
    unfold nums figuresOf
    rw [List.map_map, List.map_map, List.map_map]; rfl
  rw [e1]
  have hfl : (figuresOf cell).length = 1 + cell % 7 := by simp [figuresOf]
  refine Ex.cons (Ex1.ret ?_)
  refine Ev.listComp [("letter", .int l), ("figures", .list (nums (figuresOf cell))), ("cell", .int cell)] ⟨⟨rfl, rfl⟩, ⟨rfl, rfl⟩, ⟨rfl, rfl⟩, trivial⟩ (by decide +kernel) rfl (fun g hg => by cases List.mem_singleton.mp hg; exact ⟨rfl, fun _ _ => rfl⟩) ?_
  refine Ev.call1t range rfl (Ev.call1 len rfl (Ev.name (x := "figures") rfl (OpL.len_l .list (by simp [hfl]; omega) ?_)) rfl) rfl
  rw [show (nums (figuresOf cell)).length = 1 + cell % 7 by simp [hfl]]
  refine OpL.range1 ⟨_, Iterable.range0 (n := 1 + cell % 7) (by omega), ?_⟩
  refine Comp.pure1 (t := "place") (fun _ => true) (fun v => match v with | .int i => sgn l (cell / 7 / 6 ^ i.toNat % 6) (cell / 1959552 + i.toNat) | _ => .none) rfl rfl ?_ ?_ (by simp [sizeLine]; omega) ?_
  · intro v hv K' hK'; exact hK'
  · intro v hv _ K' hK'
    obtain ⟨p, hp, rfl⟩ := List.mem_map.mp hv
    have hpl := List.mem_range.mp hp
    simp only [Int.toNat_natCast] at hK'
    refine Ev.callF sign rfl (Ev.name (x := "letter") rfl (Ev.sub (Ev.name (x := "figures") rfl (Ev.name (x := "place") rfl (Op2.pick (by omega) ?_ (by omega)))))) rfl
    rw [figures_get hpl]
    have hf : cell / 7 / 6 ^ p % 6 < 6 := Nat.mod_lt _ (by decide)
    refine Ev.binop (Ev.binop (Ev.name (x := "cell") rfl (Ev.int (Op2.divN (b := 1959552) (by decide) (Ev.name (x := "place") rfl (Op2.addN ?_))))))
    generalize cell / 7 / 6 ^ p % 6 = fig at *
    generalize cell / 1959552 + p = q at *
    exact ⟨rfl, @op_sign C k σ l fig q K' chr h1 hf hK'⟩
  · rw [List.filter_eq_self.mpr (fun _ _ => rfl), List.map_map]
    exact h
end Mine
end V21

section V23
open PySem PySem.W PyProof.Rows
set_option Elab.async false
set_option linter.unusedVariables false
set_option maxRecDepth 100000
namespace Mine
noncomputable def guessAt (cs : List Int) (i j : Nat) : List Int := (cutL cs (cs.getD (i - 1) 0 - 1)).take j ++ [(cutL cs (cs.getD (i - 1) 0 - 1)).getD j 0 + 1]
noncomputable def sizeAt (cs : List Int) (i j : Nat) : Int := ((List.range (1 + j)).map fun k => (guessAt cs i j).getD k 0 * cs.getD k 0).sum
noncomputable def hitAt (cs : List Int) (i j : Nat) : Bool := decide ((guessAt cs i j).sum < (cutL cs (sizeAt cs i j)).sum)
noncomputable def rowOf (cs : List Int) (i : Nat) : List Int := (((List.range (cs.length - i)).map fun j => i + j).filter (hitAt cs i)).map (sizeAt cs i)
noncomputable def foundOf (cs : List Int) : List Int := ((List.range (cs.length - 1)).map fun i => 1 + i).flatMap (rowOf cs)
theorem Op2.itemI {C k σ value slice K} {cs : List Int} {i : Nat} (hi : i < cs.length) (hs : cs.length < 2 ^ 60) (h : K (.int (cs.getD i 0)) σ) : Op2 C k σ (.list (cs.map .int)) (.int (i : Nat)) (subscriptTail value slice) K :=
  Op2.itemN .list (by rw [List.getElem?_map, List.getElem?_eq_getElem hi, List.getD_eq_getElem?_getD, List.getElem?_eq_getElem hi]; rfl) h (by rw [List.length_map]; exact hs)
theorem op_cut {C k size σ K} {coins : List Int} (hp : ∀ c ∈ coins, 0 < c ∧ c < 2 ^ 30) (hsz : coins.length ≤ 1000) (hK : K (.list ((cutL coins size).map .int)) σ) : ∀ f, FnAt C f ["coins", "size"] (fScope (stAt 15)) (fBody (stAt 15)) → OpL C (k + 1) σ [.list (coins.map .int), .int size] (fun vs => PySem.call (.ref f) vs) K := fun f F =>
  OpL.freeze (Fn.call F (by decide +kernel) rfl (Ex.mono (@w_cut C k size σ K coins hp hsz hK) fun g ρ' σ' q => by
    cases g with
    | ret d => exact q
    | next => exact q.elim
    | brk => exact q.elim
    | cont => exact q.elim))
theorem row_len (cs : List Int) (i : Nat) : (rowOf cs i).length ≤ cs.length := by
  unfold rowOf
  rw [List.length_map]
  refine Nat.le_trans (List.length_filter_le _ _) ?_
  simp
theorem w_guess {C k σ} {cs : List Int} {K : PV → Sto → Prop} (len : Blt C "len" (.builtin "len")) (range : Blt C "range" (.type "range")) (sum : Blt C "sum" (.builtin "sum")) (srt : Blt C "sorted" (.builtin "sorted")) (cut : Fun C "_law_cut" ["coins", "size"] (stAt 15))
    (hp : ∀ c ∈ cs, 0 < c ∧ c < 2 ^ 30) (h0 : 1 ≤ cs.length) (h8 : cs.length ≤ 100) (h64 : (foundOf cs).length < 64) (hm : ∀ i j k, IntMulOk ((guessAt cs i j).getD k 0) (cs.getD k 0))
    (h : ∀ ns' : List Int, ns'.Perm (foundOf cs) → ns'.Pairwise (· ≤ ·) → K (.list (ns'.map .int)) σ) :
    Ex C (k + 1) (fScope (stAt 16)) [("coins", .list (cs.map .int))] σ (fBody (stAt 16)) (fun g _ σ' => match g with | .ret d => ∃ σ'', σ''.Sublist σ' ∧ K d σ'' | _ => False) := by
  refine Ex.cons (Ex1.assign (x := "found") (Ev.mlist (es := []) ⟨by decide, fun a ha => ?_⟩ rfl) (.inl rfl) fun _ => rfl)
  refine Ex.cons (Ex1.for (J := fun rest ρ σ' => ∃ (todo : List Nat) (fnd : List Int), rest = (todo.map fun i => PV.int (i : Nat)) ∧ (∀ i ∈ todo, 1 ≤ i ∧ i < cs.length) ∧ fnd ++ todo.flatMap (rowOf cs) = foundOf cs ∧ Has ρ [("found", .raw (.ref a)), ("coins", .list (cs.map .int))] ∧ σ' = (a, .mlist (fnd.map .int)) :: σ) ?_ ?_ ?_ fun _ _ => rfl)
  · refine Ev.call2t range rfl (Ev.int (Ev.call1 len rfl (Ev.name (x := "coins") rfl (OpL.len_l .list (by rw [List.length_map]; lia) ?_)) rfl)) rfl
    rw [List.length_map, show ((cs.length : Nat) : Int) = ((1 + (cs.length - 1) : Nat) : Int) by lia]
    refine OpL.range2 ⟨_, Iterable.rangeN (a := 1) (n := cs.length - 1) (by lia) (by lia), (List.range (cs.length - 1)).map fun i => 1 + i, [], ?_, ?_, rfl, ⟨rfl, rfl, trivial⟩, rfl⟩
    · rw [List.map_map]; rfl
    · intro i hi
      obtain ⟨j, hj, rfl⟩ := List.mem_map.mp hi
      have := List.mem_range.mp hj; lia
  · rintro x r ρ' σ' ⟨todo, fnd, he, hin, hf, hh, rfl⟩
    cases todo with
    | nil => cases he
    | cons i todo =>
    obtain ⟨rfl, rfl⟩ : x = .int (i : Nat) ∧ r = (todo.map fun i => PV.int (i : Nat)) := by simpa using he
    obtain ⟨i1, i2⟩ := hin i List.mem_cons_self
    have hfl : fnd.length + (rowOf cs i).length < 64 := by
      have := congrArg List.length hf
      rw [List.length_append, List.flatMap_cons, List.length_append] at this; lia
    refine Bind.name (x := "i") (.inl rfl) ?_
    refine Ex.has (ρ' := [("i", .int (i : Nat)), ("found", .raw (.ref a)), ("coins", .list (cs.map .int))]) ⟨rfl, hh.1, hh.2.1, trivial⟩ ?_
    have hcl : (cutL cs (cs.getD (i - 1) 0 - 1)).length = cs.length := cutL_len _ _
    refine Ex.cons (Ex1.assign (x := "counts") (Ev.callF cut rfl (Ev.name (x := "coins") rfl (Ev.binop (Ev.sub (Ev.name (x := "coins") rfl (Ev.binop (Ev.name (x := "i") rfl (Ev.int (Op2.sub ?_)))))))) rfl) (.inl rfl) fun _ => rfl)
    rw [show ((i : Nat) : Int) - 1 = ((i - 1 : Nat) : Int) by lia]
    refine Op2.itemI (by lia) (by lia) (Ev.int (Op2.sub ⟨rfl, op_cut hp (by lia) ?_⟩))
    refine Ex.cons (Ex1.for (J := fun rest ρ σ' => ∃ (todo : List Nat) (done : List Int), rest = (todo.map fun i => PV.int (i : Nat)) ∧ (∀ j ∈ todo, i ≤ j ∧ j < cs.length) ∧ done ++ (todo.filter (hitAt cs i)).map (sizeAt cs i) = rowOf cs i ∧ Has ρ [("counts", .list ((cutL cs (cs.getD (i - 1) 0 - 1)).map .int)), ("found", .raw (.ref a)), ("coins", .list (cs.map .int))] ∧ σ' = (a, .mlist ((fnd ++ done).map .int)) :: σ) ?_ ?_ ?_ fun _ _ => rfl)
    · refine Ev.call2t range rfl (Ev.name (x := "i") rfl (Ev.call1 len rfl (Ev.name (x := "coins") rfl (OpL.len_l .list (by rw [List.length_map]; lia) ?_)) rfl)) rfl
      rw [List.length_map, show ((cs.length : Nat) : Int) = ((i + (cs.length - i) : Nat) : Int) by lia]
      refine OpL.range2 ⟨_, Iterable.rangeN (a := i) (n := cs.length - i) (by lia) (by lia), (List.range (cs.length - i)).map fun j => i + j, [], ?_, ?_, rfl, ⟨rfl, rfl, rfl, trivial⟩, by rw [List.append_nil]⟩
      · rw [List.map_map]; rfl
      · intro j hj
        obtain ⟨t, ht, rfl⟩ := List.mem_map.mp hj
        have := List.mem_range.mp ht; lia
    · rintro x r ρ'' σ'' ⟨todo', done, he', hin', hf', hh', rfl⟩
      cases todo' with
      | nil => cases he'
      | cons j todo' =>
      obtain ⟨rfl, rfl⟩ : x = .int (j : Nat) ∧ r = (todo'.map fun i => PV.int (i : Nat)) := by simpa using he'
      obtain ⟨j1, j2⟩ := hin' j List.mem_cons_self
      have hdl : done.length ≤ (rowOf cs i).length := by
        have := congrArg List.length hf'
        rw [List.length_append] at this; lia
      refine Bind.name (x := "j") (.inl rfl) ?_
      refine Ex.has (ρ' := [("j", .int (j : Nat)), ("counts", .list ((cutL cs (cs.getD (i - 1) 0 - 1)).map .int)), ("found", .raw (.ref a)), ("coins", .list (cs.map .int))]) ⟨rfl, hh'.1, hh'.2.1, hh'.2.2.1, trivial⟩ ?_
      have hg : guessAt cs i j = (cutL cs (cs.getD (i - 1) 0 - 1)).take j ++ [(cutL cs (cs.getD (i - 1) 0 - 1)).getD j 0 + 1] := rfl
      generalize hcc : cutL cs (cs.getD (i - 1) 0 - 1) = cc at *
      have hgl : (guessAt cs i j).length = 1 + j := by rw [hg, List.length_append, List.length_take, List.length_singleton]; lia
      refine Ex.cons (Ex1.assign (x := "guess") (Ev.binop (Ev.sub (Ev.name (x := "counts") rfl (Ev.slice (Ev.name (x := "j") rfl ⟨_, _, _, .none, .int _, .none, Op2.slice .list (by decide) ?z1 ?_⟩))))) (.inr rfl) fun _ => rfl)
      case z1 => rw [List.length_map]; simp [sizeLine]; lia
      rw [slcL_to]
      refine Ev.list (es := [_]) (Ev.binop (Ev.sub (Ev.name (x := "counts") rfl (Ev.name (x := "j") rfl (Op2.itemI (by lia) (by lia) (Ev.int (Op2.add ⟨by simp [sizeLine], ?_⟩))))))) rfl
      refine Op2.addl .list .list (by simp [sizeLine]; lia) ?_
      have hgm : (cc.map PV.int).take j ++ [PV.int (cc.getD j 0 + 1)] = (guessAt cs i j).map .int := by rw [hg, List.map_append, List.map_take]; rfl
      rw [hgm]
      refine Ex.cons (Ex1.assign (x := "size") (Ev.call1 sum rfl (Ev.listComp [("guess", .list ((guessAt cs i j).map .int)), ("coins", .list (cs.map .int))] ⟨⟨rfl, rfl⟩, ⟨rfl, rfl⟩, trivial⟩ (by decide +kernel) rfl (fun g hg => by cases List.mem_singleton.mp hg; exact ⟨rfl, fun _ _ => rfl⟩) ?_) rfl) (.inl rfl) fun _ => rfl)
      refine Ev.call1t range rfl (Ev.binop (Ev.name (x := "j") rfl (Ev.int (Op2.addN (b := 1) (OpL.range1 ⟨_, Iterable.range0 (n := j + 1) (by lia), ?_⟩))))) rfl
      refine Comp.pure1 (t := "k") (fun _ => true) (fun v => match v with | .int t => .int ((guessAt cs i j).getD t.toNat 0 * cs.getD t.toNat 0) | _ => .none) rfl rfl ?_ ?_ (by simp [sizeLine]; lia) ?_
      · intro v hv K' hK'; exact hK'
      · intro v hv _ K' hK'
        obtain ⟨t, ht, rfl⟩ := List.mem_map.mp hv
        have htl := List.mem_range.mp ht
        simp only [Int.toNat_natCast] at hK'
        exact Ev.binop (Ev.sub (Ev.name (x := "guess") rfl (Ev.name (x := "k") rfl (Op2.itemI (by lia) (by lia) (Ev.sub (Ev.name (x := "coins") rfl (Ev.name (x := "k") rfl (Op2.itemI (by lia) (by lia) (Op2.mul hK' (hm i j t))))))))))
      have e1 : (((List.range (j + 1)).map fun (t : Nat) => PV.int (t : Int)).filter fun _ => true).map (fun v => match v with | .int t => PV.int ((guessAt cs i j).getD t.toNat 0 * cs.getD t.toNat 0) | _ => .none) = ((List.range (1 + j)).map fun k => (guessAt cs i j).getD k 0 * cs.getD k 0).map .int := by
        rw [List.filter_eq_self.mpr (fun _ _ => rfl), List.map_map, List.map_map, Nat.add_comm 1 j]; rfl
      rw [e1]
      refine OpL.sum .list ?_
      rw [show ((List.range (1 + j)).map fun k => (guessAt cs i j).getD k 0 * cs.getD k 0).sum = sizeAt cs i j from rfl]
      have hr := hf'
      rw [List.filter_cons] at hr
      refine Ex.cons (Ex1.if (Tr.cmp (Ev.call1 sum rfl (Ev.name (x := "guess") rfl (OpL.sum .list (Ev.call1 sum rfl (Ev.callF cut rfl (Ev.name (x := "coins") rfl (Ev.name (x := "size") rfl ⟨rfl, op_cut hp (by lia) (OpL.sum .list (Op2.lt (OpB.bool ?_)))⟩)) rfl) rfl))) rfl) rfl))
      refine ite_dec (fun hit => ?_) fun hit => ?_
      · have hh1 : hitAt cs i j = true := decide_eq_true hit
        rw [if_pos hh1, List.map_cons] at hr
        refine Ex.cons (Ex1.expr (Ev.append (Ev.name (x := "found") rfl ⟨a, rfl, ⟨_, List.mem_cons_self⟩, Ev.name (x := "size") rfl ⟨_, _, .here, ?z2, ?_⟩⟩) rfl rfl fun _ => rfl) fun _ => rfl)
        case z2 => rw [List.length_map, List.length_append]; lia
        refine Ex.nil (Ex.nil ⟨todo', done ++ [sizeAt cs i j], rfl, fun y hy => hin' y (List.mem_cons_of_mem _ hy), by rw [← hr]; simp, ⟨rfl, rfl, rfl, trivial⟩, by simp⟩)
      · have hh1 : ¬ hitAt cs i j = true := fun q => hit (of_decide_eq_true q)
        rw [if_neg hh1] at hr
        exact Ex.nil (Ex.nil ⟨todo', done, rfl, fun y hy => hin' y (List.mem_cons_of_mem _ hy), hr, ⟨rfl, rfl, rfl, trivial⟩, rfl⟩)
    · rintro ρ'' σ'' ⟨todo', done, he', hin', hf', hh', rfl⟩
      obtain rfl : todo' = [] := by simpa using he'.symm
      have hd : done = rowOf cs i := by simpa using hf'
      subst hd
      exact Ex.nil ⟨todo, fnd ++ rowOf cs i, rfl, fun y hy => hin y (List.mem_cons_of_mem _ hy), by rw [← hf]; simp, ⟨hh'.2.1, hh'.2.2.1, trivial⟩, rfl⟩
  · rintro ρ' σ' ⟨todo, fnd, he, hin, hf, hh, rfl⟩
    obtain rfl : todo = [] := by simpa using he.symm
    have hd : fnd = foundOf cs := by simpa using hf
    subst hd
    refine Ex.has hh ?_
    exact Ex.cons (Ex1.ret (Ev.call1 srt rfl (Ev.name (x := "found") rfl (OpL.sorted (LRead.mut List.mem_cons_self) h64 fun ns' h1 h2 => ⟨σ, List.sublist_cons_self _ _, h ns' h1 h2⟩)) rfl))
end Mine
end V23

section R1
open PySem PySem.W PyProof.Rows
set_option Elab.async false
set_option linter.unusedVariables false
set_option maxRecDepth 100000
namespace Mine

/-! ## attributes of a function object -/
theorem fn_getattr : typeLookup (.type "function") "__getattr__" = pure none := by rw [typeLookup_type, builtinLookup_eq_fast]; kernel_rfl
theorem fn_slot_ga : Slot "function" "__getattribute__" "object.__getattribute__" :=
  .of (owner := "object") (n := "__getattribute__") (by rw [typeLookup_type, builtinLookup_eq_fast]; kernel_rfl) (by decide +kernel) (by decide +kernel) (by decide +kernel)
    (by first | exact .inl (by decide +kernel) | exact .inr (by decide +kernel)) (by rw [isSubtype_type]; kernel_rfl)
theorem fn_slot_sa : Slot "function" "__setattr__" "object.__setattr__" :=
  .of (owner := "object") (n := "__setattr__") (by rw [typeLookup_type, builtinLookup_eq_fast]; kernel_rfl) (by decide +kernel) (by decide +kernel) (by decide +kernel)
    (by first | exact .inl (by decide +kernel) | exact .inr (by decide +kernel)) (by rw [isSubtype_type]; kernel_rfl)
theorem fn_args_ga (a b : Value) : argsOk "object.__getattribute__" ⟨[a, b], []⟩ := by unfold argsOk; kernel_rfl
theorem fn_args_sa (a b c : Value) : argsOk "object.__setattr__" ⟨[a, b, c], []⟩ := by unfold argsOk; kernel_rfl
theorem fn_static : isSubtype (.type "function") (.type "staticmethod") = pure false := by rw [isSubtype_type]; kernel_rfl
theorem fn_classm : isSubtype (.type "function") (.type "classmethod") = pure false := by rw [isSubtype_type]; kernel_rfl

section
variable {prog : Program} {w : World} {A : Around} {E : Value → Shared → Prop} {h : Heap} {g : Array GenState} {d : Drawn} {t : Nat} {os : OsState}
variable {f D : Addr} {o : Obj} {fd : FuncData} {md : Str → Option Value} {name : Str} {v : Value}
theorem fn_ga_entry {tk : Tok} {Q : Fin → Shared → Prop} (hf : h.get? f = some o) (hc : o.cls = .type "function") (hd : o.dict = some D) (hdt : o.data = .func fd) (hD : h.Ns D md)
    (hnm : typeLookup (.type "function") name = pure none) (hv : md name = some v) (hq : Q (.done (.ret v)) ⟨h, g, d, t, os⟩) :
    wpAny (model prog w) A (Builtin.«object.__getattribute__» ⟨[.ref f, .str name tk], []⟩) Q E ⟨h, g, d, t, os⟩ := by
  obtain ⟨oc, od, odt, osl⟩ := o
  subst hc hd hdt
  have hT : (⟨h, g, d, t, os⟩ : Shared).TypeIs (.ref f) "function" := ⟨_, hf, rfl⟩
  have f1 := fn_static
  have f2 := fn_classm
  repeat (any_goals (first | assumption | with_reducible apply PySem.Flt.wpAny_nsGet_known | with_reducible apply PySem.Flt.wpAny_loadPart_known | wp_step))
theorem fn_load {ex : Bool} {Q : Value → Shared → Prop} (hf : h.get? f = some o) (hc : o.cls = .type "function") (hd : o.dict = some D) (hdt : o.data = .func fd) (hD : h.Ns D md)
    (hnm : typeLookup (.type "function") name = pure none) (hv : md name = some v) (hh : handedOut v = pure v) (hq : Q v ⟨h, g, d, t + 1, os⟩) :
    wpAny (model prog w) A (getAttr (.ref f) name ex) Q E ⟨h, g, d, t, os⟩ := by
  have hT : (⟨h, g, d, t, os⟩ : Shared).TypeIs (.ref f) "function" := ⟨_, hf, hc⟩
  have hT1 : (⟨h, g, d, t + 1, os⟩ : Shared).TypeIs (.ref f) "function" := ⟨_, hf, hc⟩
  have f1 := fn_slot_ga.lookup
  have f2 := fn_getattr
  have f4 := fn_slot_ga.bind (.ref f)
  cases ex
  all_goals (
    repeat (any_goals (first | assumption | (rw [if_neg (show ¬ (true && onTheHeap (Value.builtin "object.__getattribute__")) = true by decide)]) | wp_step))
    refine codeAny_call_builtin fn_slot_ga.plain F.entry_object_getattribute (fn_slot_ga.check _ _ _ _ _ _ _ _ hT1 (fn_args_ga _ _) (fn_ga_entry hf hc hd hdt hD hnm hv ?_))
    repeat (any_goals (first | assumption | wp_step)))
theorem fn_mro : mroOf (.type "function") = pure [.type "function", .type "object"] := by kernel_rfl
theorem fn_passes (self : Value) : refuseLoop self "__setattr__" [.type "function", .type "object"] = pure () := by kernel_rfl
noncomputable def OwnDict (h : Heap) (f : Addr) (o : Obj) (mA : Str → Option Value) : Prop := (o.dict = none ∧ ∀ n, mA n = none) ∨ ∃ d, o.dict = some d ∧ d ≠ f ∧ h.Ns1 d mA
theorem fn_sa_entry {mA : Str → Option Value} {tk : Tok} {Q : Fin → Shared → Prop} {ns : List Str} (hf : h.get? f = some o) (hc : o.cls = .type "function") (hdt : o.data = .func fd) (hdict : OwnDict h f o mA)
    (hnm : typeLookup (.type "function") name = pure none)
    (hq : ∀ h' tk' D', h'.get? f = some { cls := o.cls, dict := some D', data := o.data, slots := o.slots } → D' ≠ f → (h.objs.size ≤ D' ∨ o.dict = some D') → h'.Ns1 D' (fun y => if y = name then some v else mA y) →
      (∀ b ob, b ≠ f → (∀ dx, o.dict = some dx → b ≠ dx) → h.get? b = some ob → h'.get? b = some ob) → h.objs.size ≤ h'.objs.size → Q (.done (.ret .none)) ⟨h', g, d, tk', os⟩)
    (hw : Within mA ns) (hsz : ns.length ≤ 100) :
    wpAny (model prog w) A (Builtin.«object.__setattr__» ⟨[.ref f, .str name tk, v], []⟩) Q E ⟨h, g, d, t, os⟩ := by
  have hT : (⟨h, g, d, t, os⟩ : Shared).TypeIs (.ref f) "function" := ⟨_, hf, hc⟩
  have hpass := fn_passes (.ref f)
  have hm := fn_mro
  unfold Builtin.«object.__setattr__»
  repeat (any_goals (first | assumption | rw [refuse_eq] | rw [hpass] | (with_reducible refine wpAny_loadPart_at hf ?_; rw [hc]) | wp_step))
  rcases hdict with ⟨hdn, hmA⟩ | ⟨dx, hdx, hne, hns⟩
  · rw [hdn, if_neg (by decide), hdt]
    have hx₁ : (h.push { cls := .type "dict", data := .dict #[] }).get? f = some o := Heap.get?_push_of_some _ hf
    have hxs : f ≠ h.objs.size := Nat.ne_of_lt (Heap.lt_size hf)
    refine wpAny_bind (wpAny_alloc' ?_)
    refine wpAny_bind (wpAny_update' hx₁ ?_)
    refine wpAny_pure ?_
    have hgd : ((h.push { cls := .type "dict", data := .dict #[] }).update f fun o => { cls := o.cls, dict := some h.objs.size, data := o.data, slots := o.slots }).get? h.objs.size
        = some { cls := .type "dict", data := .dict #[] } :=
      (Heap.get?_update_ne _ _ _ _ hxs.symm).trans (Heap.get?_push_at rfl rfl)
    have hnd : ((h.push { cls := .type "dict", data := .dict #[] }).update f fun o => { cls := o.cls, dict := some h.objs.size, data := o.data, slots := o.slots }).Ns h.objs.size (fun _ => none) :=
      ⟨_, #[], _, hgd, rfl, fun e he => absurd he (by simp), fun _ => rfl⟩
    show wpAny _ _ (Builtin.ObjectAttr.storeInDict h.objs.size (.str name tk) name v) _ _ _
    unfold Builtin.ObjectAttr.storeInDict Builtin.ObjectAttr.newKeyGuard
    refine wpAny_bind (wpAny_pure (wpAny_bind (wpAny_nsSet1 (Heap.Ns1.of_empty hnd) fun h' hn' hs => ?_)))
    obtain ⟨oD, esD, epD, hoD, hdD, hcD⟩ := hn'.count (Within.cons name v Within.nil)
    refine wpAny_bind (wpAny_lookBehind hoD (by rw [hdD]; exact pastItsLine_dict (Nat.le_trans hcD (by rw [List.length_cons, List.length_nil, sizeLine_eq]; omega))) ?_)
    wp_walk
    refine hq h' _ h.objs.size ?_ hxs.symm (.inl (Nat.le_refl _)) ?_ (fun b ob hbx _ hb => ?_) ?_
    · refine (hs.2 f hxs).trans (Heap.get?_update_self _ hx₁ ?_)
      have hfr := (Heap.get?_some_iff.mp hf).2
      obtain ⟨oc, od, odt, osl⟩ := o
      cases odt <;> first | rfl | exact hfr
    · obtain ⟨o', es, ep, e1, e2, e3, eu, e4⟩ := hn'
      exact ⟨o', es, ep, e1, e2, e3, eu, fun y => by rw [e4 y]; by_cases hy : y = name <;> simp [hy, hmA]⟩
    · exact (hs.2 b (Nat.ne_of_lt (Heap.lt_size hb))).trans ((Heap.get?_update_ne _ _ _ _ hbx).trans (Heap.get?_push_of_some _ hb))
    · rw [hs.1, Heap.size_update, Heap.size_push]; exact Nat.le_succ _
  · rw [hdx]
    refine wpAny_pure ?_
    show wpAny _ _ (Builtin.ObjectAttr.storeInDict dx (.str name tk) name v) _ _ _
    unfold Builtin.ObjectAttr.storeInDict Builtin.ObjectAttr.newKeyGuard
    refine wpAny_bind (wpAny_pure (wpAny_bind (wpAny_nsSet1 hns fun h' hn' hs => ?_)))
    obtain ⟨oD, esD, epD, hoD, hdD, hcD⟩ := hn'.count (Within.cons name v hw)
    refine wpAny_bind (wpAny_lookBehind hoD (by rw [hdD]; exact pastItsLine_dict (Nat.le_trans hcD (by rw [List.length_cons, sizeLine_eq]; omega))) ?_)
    wp_walk
    refine hq h' _ dx ?_ hne (.inr hdx) hn' (fun b ob _ hbd hb => ?_) (Nat.le_of_eq hs.1.symm)
    · rw [← hdx]; exact (hs.2 f hne.symm).trans hf
    · exact (hs.2 b (hbd dx hdx)).trans hb
theorem fn_store {mA : Str → Option Value} {Q : Unit → Shared → Prop} {ns : List Str} (hf : h.get? f = some o) (hc : o.cls = .type "function") (hdt : o.data = .func fd) (hdict : OwnDict h f o mA)
    (hnm : typeLookup (.type "function") name = pure none)
    (hq : ∀ h' tk' D', h'.get? f = some { cls := o.cls, dict := some D', data := o.data, slots := o.slots } → D' ≠ f → (h.objs.size ≤ D' ∨ o.dict = some D') → h'.Ns1 D' (fun y => if y = name then some v else mA y) →
      (∀ b ob, b ≠ f → (∀ dx, o.dict = some dx → b ≠ dx) → h.get? b = some ob → h'.get? b = some ob) → h.objs.size ≤ h'.objs.size → Q () ⟨h', g, d, tk', os⟩)
    (hw : Within mA ns) (hsz : ns.length ≤ 100) : wpAny (model prog w) A (setAttr (.ref f) name v) Q E ⟨h, g, d, t, os⟩ := by
  have hT : (⟨h, g, d, t, os⟩ : Shared).TypeIs (.ref f) "function" := ⟨_, hf, hc⟩
  have hT1 : (⟨h, g, d, t + 1, os⟩ : Shared).TypeIs (.ref f) "function" := ⟨_, hf, hc⟩
  have f1 := fn_slot_sa.lookup
  have f3 := fn_slot_sa.bind (.ref f)
  unfold setAttr callSpecial? specialOf
  repeat (any_goals (first | assumption | wp_step))
  refine codeAny_call_builtin fn_slot_sa.plain PySem.F.store_object.entry (fn_slot_sa.check _ _ _ _ _ _ _ _ hT1 (fn_args_sa _ _ _) (fn_sa_entry hf hc hdt hdict hnm (fun h' tk' D' a b c e k z => ?_) hw hsz))
  repeat (any_goals (first | assumption | wp_step))
  exact hq h' tk' D' a b c e k z
end
end Mine
end R1

section R2
open PySem PySem.W PyProof.Rows
set_option Elab.async false
set_option linter.unusedVariables false
set_option maxRecDepth 100000
namespace Mine

/-! ## a lambda that has one name of its own and keeps one of its maker's -/
noncomputable def okLam (x y : String) (sc : Scope) : Bool :=
  sc.names.all (fun p => p.2 != .cell && (p.2 != .free || p.1 == Str.ofString y)) && sc.names.lookup (Str.ofString x) == some .local && sc.names.lookup (Str.ofString y) == some .free && !sc.isCoroutine && !sc.isGenerator && sc.kind == .function
theorem lam_call {C : Cx} {k : Nat} {σ : Sto} {K : PV → Sto → Prop} {sc : Scope} {body : Expr} {x y : String} {a b : List Nat} {i : Int} {A : Around} {P : Addr → Prop} {s : Shared} {g c : Addr} {og : Obj} {gd : FuncData} {v vf : Value}
    (hr : Room A (k + 1)) (H : Hp C P σ s.heap) (htb : C.tb = []) (hg : s.heap.get? g = some og) (hd : og.data = .func gd) (hcd : s.heap.CodeRec gd.code gd.qualname) (hbody : gd.body = .expr body) (hsc : gd.scope = sc)
    (hcl : gd.closure = [(Str.ofString y, c)]) (hgl : gd.globals = mainGlobals) (hbl : gd.builtins = builtinsNs) (hbind : bindArgs gd ⟨[v], []⟩ = pure [(Str.ofString x, v)]) (ok : okLam x y sc = true)
    (hv : ∀ P h, Rd C.X P h v (.str a)) (hvf : ∀ P h, Rd C.X P h vf (.str b)) (hc : s.heap.IsCell c (some vf)) (hlow : C.base ≤ c)
    (h : Ev C k sc [(x, .str a), (y, .str b)] [] body fun d σ' => σ' = [] ∧ d = .int i) (hK : K (.int i) σ) :
    wpAny (model C.prog C.w) A (PySem.call (.ref g) [v]) (Out C P σ s K) NoE s := by
  simp only [okLam, Bool.and_eq_true] at ok
  obtain ⟨⟨⟨⟨⟨ok1, ok2⟩, ok3⟩, ok4⟩, ok5⟩, ok6⟩ := ok
  have ok2 := eq_of_beq ok2
  have ok3 := eq_of_beq ok3
  have ok6 : sc.kind = .function := eq_of_beq ok6
  subst hsc
  have hxy : Str.ofString x ≠ Str.ofString y := fun q => by rw [q, ok3] at ok2; cases ok2
  have hxy' : y ≠ x := fun q => hxy (by rw [q])
  refine wpAny_call (kla_callFunE hr.limit hg hd (by simpa using ok4) (by simpa using ok5) hbody hcd ?_)
  rw [hbind]
  refine wpAny_pure (wpAny_newFunctionEnv (fun p hp => ?_) (fun p hp => ?_) (fun h₁ hns hsb => ?_) ok6)
  · have := List.all_eq_true.mp ok1 p hp
    simp only [Bool.and_eq_true] at this
    exact bne_iff_ne.mp this.1
  · rw [List.mem_singleton.mp hp]; exact ok2
  have hk₁ : ∀ b o, s.heap.get? b = some o → h₁.get? b = some o := fun b o e => hsb.extBut b o (Nat.ne_of_lt (Heap.lt_size e)) (Heap.get?_push_of_some _ e)
  have hz₁ : h₁.objs.size = s.heap.objs.size + 1 := by rw [hsb.1, Heap.size_push]
  refine ⟨(C.nolimit H.gi).keeps hk₁, ?_⟩
  generalize henv : newEnv gd.scope s.heap.objs.size gd.globals gd.closure (gd.qualname ++ ".<locals>.") (some g) gd.code none gd.builtins = env
  have e1 : env.scope = gd.scope := by rw [← henv]; rfl
  have e2 : env.locals = s.heap.objs.size := by rw [← henv]; rfl
  have e3 : env.cells = [(Str.ofString y, c)] := by rw [← henv]; exact hcl
  have hkd : env.kindOf = fun n => gd.scope.names.lookup n := by funext n; unfold Env.kindOf; rw [e1]
  obtain ⟨oc, hoc, hdc⟩ := hc
  have hlt : c < s.heap.objs.size := Heap.lt_size hoc
  have hcell : h₁.IsCell c (some vf) := ⟨oc, hk₁ _ _ hoc, hdc⟩
  have look : ∀ z c', env.cells.lookup z = some c' → z = Str.ofString y ∧ c' = c := fun z c' hz => by
    rw [e3] at hz
    by_cases q : z = Str.ofString y
    · subst q; rw [List.lookup_cons_self] at hz; exact ⟨rfl, (Option.some.inj hz).symm⟩
    · rw [List.lookup_cons, beq_false_of_ne q] at hz; cases hz
  have lookY : env.cells.lookup (Str.ofString y) = some c := by rw [e3]; exact List.lookup_cons_self
  have ns : h₁.Ns env.locals (fun x' => [(Str.ofString x, v)].reverse.lookup x') := e2 ▸ hns
  have E : EnvOk env h₁ := by
    refine ⟨by rw [e1]; exact ok6, by rw [← henv]; exact hgl, by rw [← henv]; exact hbl, ⟨_, ns⟩, fun z c' hz => ?_, fun z z' c' hz hz' => (look z c' hz).1.trans (look z' c' hz').1.symm, fun z hz => ?_⟩
    · obtain ⟨_, rfl⟩ := look z c' hz
      exact ⟨by rw [e2]; exact Nat.ne_of_lt hlt, _, hcell⟩
    · rw [hkd] at hz
      rcases hz with hz | hz
      · have := List.all_eq_true.mp ok1 _ (Mine.mem_of_lookup hz)
        simp at this
      · have := List.all_eq_true.mp ok1 _ (Mine.mem_of_lookup hz)
        simp at this
        exact ⟨c, by rw [this]; exact lookY⟩
  have gi₁ : C.gi h₁ := C.keep H.gi (fun b o _ e => hk₁ b o e) (by rw [hz₁]; exact Nat.le_succ _)
  have lo : C.base ≤ s.heap.objs.size := C.low H.gi
  have I : Inv C (fun a => a < h₁.objs.size) env [(x, .str a), (y, .str b)] [] h₁ := by
    refine ⟨⟨gi₁, fun a ao hm => absurd hm List.not_mem_nil, (fun a ha => by rw [htb] at ha; cases ha), (fun a ha => by cases ha), List.nodup_nil, fun a q => q⟩, E, fun z d hz => ?_, fun a ha => ?_⟩
    · by_cases q : z = x
      · subst q
        rw [List.lookup_cons_self] at hz; cases hz
        exact ⟨v, .loc (by rw [hkd]; exact ok2) ns (by simp), hv _ _⟩
      · rw [List.lookup_cons, beq_false_of_ne q] at hz
        by_cases q : z = y
        · subst q
          rw [List.lookup_cons_self] at hz; cases hz
          exact ⟨vf, .cell (.inr (by rw [hkd]; exact ok3)) lookY hcell, hvf _ _⟩
        · rw [List.lookup_cons, beq_false_of_ne q] at hz; cases hz
    · rcases ha with ha | ⟨z, hz⟩
      · subst ha
        exact ⟨by rw [e2, hz₁]; exact Nat.lt_succ_self _, by rw [e2]; exact lo, fun q => by cases q⟩
      · obtain ⟨_, rfl⟩ := look z a hz
        exact ⟨by rw [hz₁]; exact Nat.lt_succ_of_lt hlt, hlow, fun q => by cases q⟩
  refine kla_codeExpr (wpAny_mono (h (A.deeper env) _ env _ e1 (hr.deeper env) I) (fun w s' o => ?_) fun _ _ x => x.elim)
  obtain ⟨d, σ', ⟨rfl, rfl⟩, hA, rw'⟩ := o
  have kk : ∀ b o, s.heap.get? b = some o → s'.heap.get? b = some o := fun b o e => hA.step.kept b o (fun q => by cases q) (fun q => by rw [htb] at q; cases q) (fun q => q) (hk₁ b o e)
  have zz : s.heap.objs.size ≤ s'.heap.objs.size := Nat.le_trans (by rw [hz₁]; exact Nat.le_succ _) hA.step.size
  obtain ⟨t, rfl⟩ := rw'.intE
  have AA := After.kept (n := s'.toks) H kk zz
  refine ⟨.int i, σ, hK, ⟨⟨fun b o _ _ _ e => kk b o e, zz, fun _ q => .inl q, hA.step.gens, hA.step.os⟩, AA.hp⟩, .int i t⟩
end Mine
end R2

section R3
open PySem PySem.W PyProof.Rows
set_option Elab.async false
set_option linter.unusedVariables false
set_option maxRecDepth 100000
namespace Mine

/-! ## the rule: a function object with attributes -/
noncomputable def IsS (w : Value) (l : List Nat) : Prop := ∃ x t, w = .str x t ∧ x.cps.toList = l
theorem IsS.rd {X P h w l} (q : IsS w l) : Rd X P h w (.str l) := by obtain ⟨x, t, rfl, rfl⟩ := q; exact .str x t
theorem Rd.isS {X P h w l} (r : Rd X P h w (.str l)) : IsS w l := by cases r with | str x t => exact ⟨x, t, rfl, rfl⟩
/-- the lambda's text -/
structure LamT where
  prm : Arguments
  bdy : Expr
  sc : Scope
structure RuleAt (base : Nat) (T : LamT) (fr vd : List Nat) (path : Option (List Nat)) (P : Addr → Prop) (h : Heap) (f D g c cc : Addr) : Prop where
  ap : ¬ P f ∧ ¬ P D ∧ ¬ P g ∧ ¬ P c ∧ ¬ P cc
  low : base ≤ c
  fo : ∃ o fd, h.get? f = some o ∧ o.cls = .type "function" ∧ o.dict = some D ∧ o.data = .func fd
  md : ∃ md, h.Ns D md ∧ md (Str.ofString "applies_to") = some (.ref g) ∧ (∃ w, md (Str.ofString "allowance") = some w ∧ IsS w vd) ∧ ∀ p, path = some p → ∃ w, md (Str.ofString "path") = some w ∧ IsS w p
  go : ∃ nm qual pm ctv, h.get? g = some (kla_obj nm qual T.prm T.bdy T.sc [(Str.ofString "front", c)] pm cc ctv) ∧ h.CodeRec (.ref cc) qual
  cell : ∃ w, h.IsCell c (some w) ∧ IsS w fr
noncomputable def RuleIs (base : Nat) (T : LamT) (x : List (List Nat)) (P : Addr → Prop) (h : Heap) (v : Value) : Prop :=
  ∃ fr vd rest f D g c cc, x = fr :: vd :: rest ∧ v = .ref f ∧ RuleAt base T fr vd rest.head? P h f D g c cc
theorem RuleAt.pass {base T fr vd path P h P' h' f D g c cc} (r : RuleAt base T fr vd path P h f D g c cc) (q : Pass P h P' h') : RuleAt base T fr vd path P' h' f D g c cc := by
  obtain ⟨⟨n1, n2, n3, n4, n5⟩, low, ⟨o, fd, ho, hc, hd, hdt⟩, ⟨md, hD, m1, m2, m3⟩, ⟨nm, qual, pm, ctv, hg, hcr⟩, ⟨w, ⟨ow, how, hdw⟩, hw⟩⟩ := r
  have hD' : h'.Ns D md := by obtain ⟨oD, es, ep, hoD, rest⟩ := hD; exact ⟨oD, es, ep, (q _ _ n2 hoD).1, rest⟩
  obtain ⟨oD, es, ep, hoD, rest⟩ := hD
  obtain ⟨cc', oc, vs, tq, e, hoc, hcd, hq⟩ := hcr
  have e' : cc = cc' := Value.ref.inj e
  subst e'
  exact ⟨⟨(q _ _ n1 ho).2, (q _ _ n2 hoD).2, (q _ _ n3 hg).2, (q _ _ n4 how).2, (q _ _ n5 hoc).2⟩, low, ⟨o, fd, (q _ _ n1 ho).1, hc, hd, hdt⟩, ⟨md, hD', m1, m2, m3⟩,
    ⟨nm, qual, pm, ctv, (q _ _ n3 hg).1, cc, oc, vs, tq, rfl, (q _ _ n5 hoc).1, hcd, hq⟩, ⟨w, ⟨ow, (q _ _ n4 how).1, hdw⟩, hw⟩⟩
theorem RuleIs.pass {base T x P h P' h' v} (r : RuleIs base T x P h v) (q : Pass P h P' h') : RuleIs base T x P' h' v :=
  let ⟨fr, vd, rest, f, D, g, c, cc, e1, e2, r⟩ := r; ⟨fr, vd, rest, f, D, g, c, cc, e1, e2, r.pass q⟩
/-- kind 0 of the context's extra values are the rules -/
noncomputable def RulesX (C : Cx) (T : LamT) : Prop := ∀ x P h v, C.X 0 x P h v ↔ RuleIs C.base T x P h v

section
variable {C : Cx} {T : LamT} {k : Nat} {σ : Sto} {K : PV → Sto → Prop} {fr vd : List Nat} {rest : List (List Nat)}
theorem Op1.allowance (X : RulesX C T) (hnm : typeLookup (.type "function") (Str.ofString "allowance") = pure none) (h : K (.str vd) σ) : Op1 C k σ (.ext 0 (fr :: vd :: rest)) (fun v => getAttr v (Str.ofString "allowance") true) K := fun A P s v hr H r => by
  have q := r.extE
  obtain ⟨fr', vd', rest', f, D, g, c, cc, e, rfl, R⟩ := (X _ _ _ _).mp q
  cases e
  obtain ⟨o, fd, ho, hc, hd, hdt⟩ := R.fo
  obtain ⟨md, hD, m1, ⟨w, hw, hs⟩, m3⟩ := R.md
  obtain ⟨hh, g', dd, t, os⟩ := s
  have hh2 : handedOut w = pure w := by obtain ⟨x, t, rfl, _⟩ := hs; rfl
  exact fn_load ho hc hd hdt hD hnm hw hh2 (Out.here (tk := t + 1) H hs.rd h)
end
theorem fn_no_allow : typeLookup (.type "function") (Str.ofString "allowance") = pure none := by rw [typeLookup_type, builtinLookup_eq_fast]; kernel_rfl
theorem fn_no_applies : typeLookup (.type "function") (Str.ofString "applies_to") = pure none := by rw [typeLookup_type, builtinLookup_eq_fast]; kernel_rfl
theorem fn_canon : (Manifest.canonical "object.__getattribute__" != "object.__getattribute__") = false := by decide +kernel

section
variable {prog : Program} {w : World} {A : Around} {E : Value → Shared → Prop} {h : Heap} {g : Array GenState} {d : Drawn} {t : Nat} {os : OsState}
variable {f D : Addr} {o : Obj} {fd : FuncData} {md : Str → Option Value} {name : Str} {v : Value}
theorem fn_method {pl : Sem Bool} {Q : Value × List Value → Shared → Prop} (hf : h.get? f = some o) (hc : o.cls = .type "function") (hd : o.dict = some D) (hdt : o.data = .func fd) (hD : h.Ns D md)
    (hnm : typeLookup (.type "function") name = pure none) (hv : md name = some v) (hh : handedOut v = pure v) (hq : Q (v, []) ⟨h, g, d, t + 1, os⟩) :
    wpAny (model prog w) A (getMethod (.ref f) name pl) Q E ⟨h, g, d, t, os⟩ := by
  have hT : (⟨h, g, d, t, os⟩ : Shared).TypeIs (.ref f) "function" := ⟨_, hf, hc⟩
  have f1 := fn_slot_ga.lookup
  have f2 := fn_getattr
  unfold getMethod
  refine wpAny_bind (wpAny_specialOf hT f1 ?_)
  show wpAny _ A (if (Manifest.canonical "object.__getattribute__" != "object.__getattribute__") = true then _ else _) Q E _
  rw [fn_canon, if_neg (by decide)]
  refine wpAny_bind (wpAny_specialOf hT f2 ?_)
  show wpAny _ A _ Q E _
  refine wpAny_bind (wpAny_specialOf hT hnm ?_)
  exact wpAny_bind (fn_load hf hc hd hdt hD hnm hv hh (wpAny_pure hq))
end
/-- what the lambda tells -/
noncomputable def applN (fr nm : List Nat) : Nat := if nm.take fr.length = fr then fr.length + 1 else 0
theorem Ev.applies {C : Cx} {T : LamT} {k : Nat} {sc : Scope} {ρ : Lo} {σ : Sto} {o : Expr} {apos pos : Pos} {e₁ : Expr} {K : PV → Sto → Prop} (X : RulesX C T) (htb : C.tb = [])
    (hlam : ∀ fr nm : List Nat, fr.length ≤ 10000 → (∀ c ∈ fr, c < 0x110000) → nm.length ≤ 10000 → (∀ c ∈ nm, c < 0x110000) → Ev C k T.sc [("name", .str nm), ("front", .str fr)] [] T.bdy fun d σ' => σ' = [] ∧ d = .int (applN fr nm : Nat))
    (ok : okLam "name" "front" T.sc = true) (hbind : ∀ nm qual cl pm cc ctv v, bindArgs (kla_fn nm qual T.prm T.bdy T.sc cl pm cc ctv) ⟨[v], []⟩ = pure [(Str.ofString "name", v)])
    (h : Ev C (k + 1) sc ρ σ o fun a σ₁ => ∃ fr vd rest, a = .ext 0 (fr :: vd :: rest) ∧ fr.length ≤ 10000 ∧ (∀ c ∈ fr, c < 0x110000) ∧ Ev C (k + 1) sc ρ σ₁ e₁ fun d σ₂ => ∃ nm, d = .str nm ∧ nm.length ≤ 10000 ∧ (∀ c ∈ nm, c < 0x110000) ∧ K (.int (applN fr nm : Nat)) σ₂)
    (hp : [e₁].all plainE = true) (hline : (apos.endLine == pos.line) = true) (hbase : ∀ env, attributeBase o (Str.ofString "applies_to") env (eval o env) = eval o env) :
    Ev C (k + 1) sc ρ σ (.Call (.Attribute o (Str.ofString "applies_to") apos) [e₁] [] pos) K := fun A P env s he hr I => by
  rw [arm_eval_Call, hbase env]
  refine wpAny_bind (ev_one h he hr I fun v d₁ σ₁ s₁ hK hA r => ?_)
  obtain ⟨fr, vd, rest, rfl, hfl, hfc, hK⟩ := hK
  have q := r.extE
  obtain ⟨fr', vd', rest', f, D, g, c, cc, e, rfl, R⟩ := (X _ _ _ _).mp q
  cases e
  refine wpAny_bind (wpAny_standAt ?_)
  have hform : methodCallForm ([e₁].length + ([] : List Keyword).length) (backTo pos (starEach [e₁] env)) (backToKw pos (keywordEach [] env)) = true := by
    unfold methodCallForm
    rw [plain_trees' hp]
    simp [keywordEach, backToKw]
  have hpos : methodCallPos true o env apos pos = pure pos := by unfold methodCallPos; simp [hline]
  unfold methodCall
  rw [hform]
  obtain ⟨of, fd, ho, hc, hd, hdt⟩ := R.fo
  obtain ⟨md, hD, m1, m2, m3⟩ := R.md
  have I₁ := I.after hA
  have hL : EvL C (k + 1) sc ρ σ₁ [e₁] fun ds σ₂ => ∃ nm, ds = [.str nm] ∧ nm.length ≤ 10000 ∧ (∀ c ∈ nm, c < 0x110000) ∧ K (.int (applN fr nm : Nat)) σ₂ :=
    Ev.mono hK fun d σ₂ ⟨nm, e, q⟩ => ⟨nm, by rw [e], q⟩
  have fin : ∀ tk, wpAny (model C.prog C.w) A (callWith pos (.ref g) [] (backTo pos (starEach [e₁] env)) []) (Out C P σ s K) NoE { s₁ with toks := tk } := fun tk => by
    refine callWith_of (P := fun h' => ∃ o fd, h'.get? g = some o ∧ o.data = .func fd) (by rw [plain_trees hp]; rfl) (fun h' ⟨og, gd, hog, hgd⟩ => ⟨.frame, .inl rfl, (Looks.ld (part := Option.none) hog).andThen (by rw [hgd]; exact Looks.now)⟩) (evalArgs_of (plain_trees hp) ?_)
    have hAt : After C P σ s σ₁ { s₁ with toks := tk } := hA.trans I.hp (After.toks hA.hp)
    refine wpAny_mono (evL_spliced he hr hL hp (I.after hAt)) (fun vs s₂ out => ?_) fun _ _ x => x
    obtain ⟨ds, σ₂, ⟨nm, rfl, hnl, hnc, hK₂⟩, hA₂, r₂⟩ := out
    have hA₃ := hAt.trans I.hp hA₂
    have R₂ := (R.pass (hA₂.pass hAt.hp)).pass (Pass.less PP_up)
    obtain ⟨nmm, qual, pm, ctv, hg, hcr⟩ := R₂.go
    obtain ⟨w, hcell, hw⟩ := R₂.cell
    refine ⟨⟨_, _, hg, rfl⟩, ?_⟩
    cases r₂ with | cons r₂ r₃ =>
    cases r₃
    refine wp_seq hA₃ I.hp ?_
    exact lam_call (i := (applN fr nm : Nat)) hr hA₃.hp htb hg rfl hcr rfl rfl rfl rfl rfl (hbind ..) ok (fun P h => r₂.isS.rd) (fun P h => hw.rd) hcell R₂.low (hlam fr nm hfl hfc hnl hnc) hK₂
  obtain ⟨hh, g', dd, t, os⟩ := s₁
  exact wpAny_bind (wpAny_holding (fn_method ho hc hd hdt hD fn_no_applies m1 rfl (wpAny_bind (wpAny_of_eq hpos (fin _)))))
end Mine
end R3

section R4
open PySem PySem.W PyProof.Rows
set_option Elab.async false
set_option linter.unusedVariables false
set_option maxRecDepth 100000
namespace Mine

/-! ## the table of a def's lambdas -/
noncomputable def TabAt (qual : Str) (P : Addr → Prop) (h : Heap) (T : Addr) : Prop :=
  ∃ ps, h.get? T = some (tabObj ps) ∧ TriplesOk ps.toList ∧ ∀ pos cv, codeAmong pos ps.toList = some cv → ∃ cc, cv = .ref cc ∧ ¬ P cc ∧ cc ≠ T ∧ h.CodeRec (.ref cc) qual
theorem codeRec_kept {h h' : Heap} {cc : Addr} {q : Str} (r : h.CodeRec (.ref cc) q) (k : ∀ o, h.get? cc = some o → h'.get? cc = some o) : h'.CodeRec (.ref cc) q := by
  obtain ⟨cc', oc, vs, tq, e, hoc, hcd, hq⟩ := r
  have e' : cc = cc' := Value.ref.inj e
  subst e'
  exact ⟨cc, oc, vs, tq, rfl, k _ hoc, hcd, hq⟩
theorem codeRec_lt {h : Heap} {cc : Addr} {q : Str} (r : h.CodeRec (.ref cc) q) : ∃ o, h.get? cc = some o := by
  obtain ⟨cc', oc, vs, tq, e, hoc, hcd, hq⟩ := r
  have e' : cc = cc' := Value.ref.inj e
  subst e'
  exact ⟨oc, hoc⟩
theorem TabAt.pass {q : Str} {P P' : Addr → Prop} {h h' : Heap} {T : Addr} (t : TabAt q P h T) (g : Pass P h P' h') (k : ∀ o, h.get? T = some o → h'.get? T = some o) : TabAt q P' h' T := by
  obtain ⟨ps, e, tr, c⟩ := t
  refine ⟨ps, k _ e, tr, fun pos cv hcv => ?_⟩
  obtain ⟨cc, rfl, n, nT, r⟩ := c pos cv hcv
  obtain ⟨o, ho⟩ := codeRec_lt r
  exact ⟨cc, rfl, (g _ _ n ho).2, nT, codeRec_kept r fun o ho => (g _ _ n ho).1⟩
theorem TabAt.lt {q : Str} {P : Addr → Prop} {h : Heap} {T : Addr} (t : TabAt q P h T) : T < h.objs.size := let ⟨_, e, _⟩ := t; Heap.lt_size e
theorem codeAmong_more {pos pos' : Pos} {c' cv : Value} (l : List Value) (h : TriplesOk l) (e : codeAmong pos (l ++ [rawInt pos'.line, rawInt pos'.col, c']) = some cv) : codeAmong pos l = some cv ∨ cv = c' := by
  fun_induction TriplesOk l with
  | case1 =>
    simp only [List.nil_append, codeAmong, rawInt] at e
    split at e
    · exact .inr (Option.some.inj e).symm
    · cases e
  | case2 a t b u x rest ih =>
    simp only [List.cons_append, codeAmong] at e ⊢
    split at e
    · rename_i hc; rw [if_pos hc]; exact .inl e
    · rename_i hc; rw [if_neg hc]; exact ih h e
  | case3 l h1 h2 => exact h.elim

section
variable {M : Model} {A : Around} {E : Value → Shared → Prop} {s : Shared} {qual : Str} {params : Arguments} {body : Expr} {scope : Scope} {env : Env} {c T : Addr} {pos : Pos} {mg : Str → Option Value} {clos : List (Str × Addr)} {Q : Value → Shared → Prop} {P : Addr → Prop}
theorem lam_make (hdef : defaultsOf params env = ([], [])) (hq : env.qual ++ "<lambda>" = qual) (hcl : closureFor scope env = pure clos) (hge0 : env.globals = mainGlobals) (hg : s.heap.Ns mainGlobals mg) (hcode : env.code = .ref c) (H : CodeHd s.heap c T)
    (tab : TabAt qual P s.heap T) (hgT : mainGlobals ≠ T) (hb : s.heap.BuiltinsAt mg T) (plt : ∀ a, P a → a < s.heap.objs.size)
    (h : ∀ h' tk cc ctv, (∀ b o, b ≠ T → s.heap.get? b = some o → h'.get? b = some o) → s.heap.objs.size ≤ h'.objs.size → TabAt qual P h' T → h'.CodeRec (.ref cc) qual → ¬ P cc → cc ≠ T →
      Q (.ref h'.objs.size) { s with heap := h'.push (kla_obj "<lambda>" qual params body scope clos ((mg "__name__").getD .none) cc ctv), toks := tk }) :
    wpAny M A (eval (.Lambda params body scope pos) env) Q E s := by
  refine kla_eval hdef ?_
  rw [hq]
  obtain ⟨ps, hP, ht, hc⟩ := id tab
  cases hca : codeAmong pos ps.toList with
  | none =>
    refine kla_makeFunction hcl hge0 hg hcode H hP ht hca hgT hb fun c' ctv h' tk hx hge hlt hrec htb => ?_
    have hcT : c' ≠ T := Nat.ne_of_gt (Nat.lt_of_lt_of_le (Heap.lt_size hP) hge)
    have hsz : s.heap.objs.size ≤ h'.objs.size := Nat.le_of_lt (Nat.lt_of_le_of_lt hge hlt)
    have nP : ¬ P c' := fun q => Nat.not_lt.mpr hge (plt c' q)
    refine h h' tk c' ctv (fun b o hb' e => hx b o hb' e) hsz ⟨_, htb, ?_, fun pos' cv hcv => ?_⟩ hrec nP hcT
    · have e : (ps ++ #[rawInt pos.line, rawInt pos.col, Value.ref c']).toList = ps.toList ++ [rawInt pos.line, rawInt pos.col, .ref c'] := by simp
      rw [e]; exact TriplesOk_snoc _ _ _ _ ht
    · have e : (ps ++ #[rawInt pos.line, rawInt pos.col, Value.ref c']).toList = ps.toList ++ [rawInt pos.line, rawInt pos.col, .ref c'] := by simp
      rw [e] at hcv
      rcases codeAmong_more _ ht hcv with q | q
      · obtain ⟨cc, rfl, n, nT, r⟩ := hc pos' cv q
        exact ⟨cc, rfl, n, nT, codeRec_kept r fun o ho => hx _ _ nT ho⟩
      · exact ⟨c', q, nP, hcT, hrec⟩
  | some cv =>
    obtain ⟨cc, rfl, n, nT, r⟩ := hc pos cv hca
    refine kla_makeFunctionHit hcl hge0 hg hcode H hP ht hca hb fun ctv h' tk hk hsz => ?_
    exact h h' tk cc ctv (fun b o _ e => hk b o e) hsz ⟨ps, hk _ _ hP, ht, fun pos' cv hcv => let ⟨cc, e, n, nT, r⟩ := hc pos' cv hcv; ⟨cc, e, n, nT, r.keeps hk⟩⟩ (r.keeps hk) n nT
end

/-! ## a step that changes the table alone -/
theorem mem_other : ∀ {σ : Sto} {a : Addr} {ao : AO}, (a, ao) ∈ σ → (dom σ).Nodup → ∀ b ao', (b, ao') ∈ σ → (b = a ∧ ao' = ao) ∨ ((b, ao') ∈ σ ∧ a ≠ b ∧ a ∉ ao'.more)
  | p :: r, a, ao, hm, hn, b, ao', hb => by
    have hn' : (Mine.dom r).Nodup := (List.nodup_append.mp (List.nodup_cons.mp hn).2).2.1
    rcases List.mem_cons.mp hm with e | hm2
    · subst e
      rcases List.mem_cons.mp hb with e | hb'
      · cases e; exact .inl ⟨rfl, rfl⟩
      · refine .inr ⟨hb, ?_⟩
        have h1 : a ∉ Mine.dom r := fun q => (List.nodup_cons.mp hn).1 (List.mem_append_right _ q)
        exact ⟨fun q => h1 (mem_dom hb' _ (.inl q)), fun q => h1 (mem_dom hb' _ (.inr q))⟩
    · rcases List.mem_cons.mp hb with e | hb'
      · refine .inr ⟨hb, ?_⟩
        subst e
        have ha : a ∈ Mine.dom r := mem_dom (σ := r) hm2 a (.inl rfl)
        refine ⟨fun q => (List.nodup_cons.mp hn).1 (List.mem_append_right _ (q ▸ ha)), fun q => ?_⟩
        exact (List.nodup_append.mp (List.nodup_cons.mp hn).2).2.2 _ q _ ha rfl
      · rcases mem_other hm2 hn' b ao' hb' with h | h
        · exact .inl h
        · exact .inr ⟨hb, h.2⟩
theorem After.tab {C : Cx} {P : Addr → Prop} {σ : Sto} {s s' : Shared} {T : Addr} (H : Hp C P σ s.heap) (hT : (T, AO.tab) ∈ σ) (htab : C.tab T) (k : ∀ b o, b ≠ T → s.heap.get? b = some o → s'.heap.get? b = some o) (hz : s.heap.objs.size ≤ s'.heap.objs.size)
    (t : C.T (PP P σ) s'.heap T) (hg : s'.gens = s.gens) (ho : s'.os = s.os) : After C P σ s σ s' := by
  have hd : T ∈ dom σ := mem_dom hT T (.inl rfl)
  have g : Pass P s.heap (PP P σ) s'.heap := fun a o na e => ⟨k a o (fun q => na (q ▸ (H.pdom T hd).1)) e, fun q => q.elim na fun q => na (H.pdom a q).1⟩
  refine ⟨⟨fun b o h1 _ _ e => k b o (fun q => h1 (q ▸ hd)) e, hz, fun a ha => .inl ha, hg, ho⟩, ?_⟩
  refine ⟨C.keep H.gi (fun b o hb e => k b o (fun q => hb.2 (q ▸ htab)) e) hz, fun a ao hm => ?_, fun a ha => .inl (H.ptb a ha), fun a ha => ⟨.inr ha, (H.pdom a ha).2⟩, H.nodup, fun a q => Nat.lt_of_lt_of_le (H.pplt a q) hz⟩
  rcases mem_other hT H.nodup a ao hm with ⟨rfl, rfl⟩ | ⟨_, h1, h2⟩
  · exact t
  · exact (H.st a ao hm).pass g fun b hb o e => k b o (fun q => by
      rcases hb with q' | q'
      · exact h1 (q ▸ q')
      · exact h2 (q ▸ q')) e
end Mine
end R4

section R5
open PySem PySem.W PyProof.Rows
set_option Elab.async false
set_option linter.unusedVariables false
set_option maxRecDepth 100000
namespace Mine

theorem TabAt.kept {q : Str} {P : Addr → Prop} {h h' : Heap} {T : Addr} (t : TabAt q P h T) (k : ∀ b o vs, o.data = .fields vs → h.get? b = some o → h'.get? b = some o) : TabAt q P h' T := by
  obtain ⟨ps, e, tr, c⟩ := t
  refine ⟨ps, k _ _ _ rfl e, tr, fun pos cv hcv => ?_⟩
  obtain ⟨cc, rfl, n, nT, r⟩ := c pos cv hcv
  obtain ⟨cc', oc, vs, tq, e, hoc, hcd, hq⟩ := id r
  have e' : cc = cc' := Value.ref.inj e
  subst e'
  exact ⟨cc, rfl, n, nT, codeRec_kept r fun o ho => k _ _ vs (by rw [← Option.some.inj (hoc.symm.trans ho)]; exact hcd) ho⟩
theorem codeRec_kept' {h h' : Heap} {cc : Addr} {q : Str} (r : h.CodeRec (.ref cc) q) (k : ∀ b o vs, o.data = .fields vs → h.get? b = some o → h'.get? b = some o) : h'.CodeRec (.ref cc) q := by
  obtain ⟨cc', oc, vs, tq, e, hoc, hcd, hq⟩ := r
  have e' : cc = cc' := Value.ref.inj e
  subst e'
  exact ⟨cc, oc, vs, tq, rfl, k _ _ vs hcd hoc, hcd, hq⟩
theorem ns_not_fields {h : Heap} {L : Addr} {m : Str → Option Value} (n : h.Ns L m) : ∀ b o vs, o.data = .fields vs → h.get? b = some o → b ≠ L := fun b o vs hd hb q => by
  obtain ⟨oL, es, ep, hL, hdL, _⟩ := n
  rw [q, hL] at hb; cases hb; rw [hdL] at hd; cases hd
/-- where the walk of the def stands -/
structure RS (T L c : Addr) (s₀ : Shared) (v1 : Value) (q : Str) (P : Addr → Prop) (m : Str → Option Value) (s : Shared) : Prop where
  keep : ∀ b o, b ≠ T → s₀.heap.get? b = some o → s.heap.get? b = some o
  size : L < s.heap.objs.size
  loc : s.heap.Ns L m
  cell : s.heap.IsCell c (some v1)
  tab : TabAt q P s.heap T
  gens : s.gens = s₀.gens
  os : s.os = s₀.os
/-- the function object under way -/
structure FS (L c : Addr) (s₀ : Shared) (f : Addr) (md : Str → Option Value) (s : Shared) : Prop where
  lo : L < f ∧ f ≠ c
  ob : ∃ o fd, s.heap.get? f = some o ∧ o.cls = .type "function" ∧ o.data = .func fd ∧ OwnDict s.heap f o md ∧ ∀ D, o.dict = some D → L < D ∧ D ≠ c
section
variable {C : Cx} {A : Around} {E : Value → Shared → Prop} {T L c f : Addr} {s₀ s : Shared} {v1 v : Value} {q : Str} {P : Addr → Prop} {m md : Str → Option Value} {x : String}
/-- an attribute is stored -/
theorem rs_store {Q : Unit → Shared → Prop} {ns : List Str} (R : RS T L c s₀ v1 q P m s) (F : FS L c s₀ f md s) (hL : s₀.heap.objs.size ≤ L) (hT : T < s₀.heap.objs.size) (hc : L < c ∧ c < s.heap.objs.size) (hnm : typeLookup (.type "function") (Str.ofString x) = pure none)
    (hw : Within md ns) (hsz : ns.length ≤ 100)
    (h : ∀ s', RS T L c s₀ v1 q P m s' → FS L c s₀ f (fun y => if y = Str.ofString x then some v else md y) s' → s.heap.objs.size ≤ s'.heap.objs.size →
      (∃ o D, s'.heap.get? f = some o ∧ o.dict = some D ∧ s'.heap.Ns1 D (fun y => if y = Str.ofString x then some v else md y)) →
      (∀ b o, b ≠ f → (∀ es ep, o.data ≠ .dict es ep) → s.heap.get? b = some o → s'.heap.get? b = some o) → Q () s') :
    wpAny (model C.prog C.w) A (setAttr (.ref f) (Str.ofString x) v) Q E s := by
  obtain ⟨o, fd, ho, hcl, hdt, hdict, hD⟩ := F.ob
  obtain ⟨hh, g, d, t, os⟩ := s
  refine fn_store ho hcl hdt hdict hnm (fun h' tk' D' hf' hne hlow hns hk hz => ?_) hw hsz
  have hDd : ∀ D, o.dict = some D → ∃ oD es ep, hh.get? D = some oD ∧ oD.data = .dict es ep := fun D e => by
    rcases hdict with ⟨n, _⟩ | ⟨d', e', _, n1⟩
    · rw [n] at e; cases e
    · rw [e'] at e; cases e
      obtain ⟨oD, es, ep, h1, h2, _⟩ := n1.ns
      exact ⟨oD, es, ep, h1, h2⟩
  have kk : ∀ b ob, b ≠ f → (∀ es ep, ob.data ≠ .dict es ep) → hh.get? b = some ob → h'.get? b = some ob := fun b ob hb hnd e => hk b ob hb (fun D eD q => by
    obtain ⟨oD, es, ep, h1, h2⟩ := hDd D eD
    subst q
    rw [e] at h1; cases h1
    exact hnd _ _ h2) e
  have kf : ∀ b ob vs, ob.data = .fields vs → hh.get? b = some ob → h'.get? b = some ob := fun b ob vs hd e => kk b ob (fun q => by subst q; rw [ho] at e; cases e; rw [hdt] at hd; cases hd) (fun es ep q => by rw [q] at hd; cases hd) e
  have kb : ∀ b ob, b ≠ f → (∀ D, o.dict = some D → b ≠ D) → hh.get? b = some ob → h'.get? b = some ob := hk
  have hLD : ∀ D, o.dict = some D → L ≠ D := fun D e => Nat.ne_of_lt (hD D e).1
  have hcD : ∀ D, o.dict = some D → c ≠ D := fun D e => (hD D e).2.symm
  obtain ⟨oc, hoc, hdc⟩ := R.cell
  have hsz' : hh.objs.size ≤ h'.objs.size := hz
  have hD' : L < D' ∧ D' ≠ c := by
    rcases hlow with q | q
    · exact ⟨Nat.lt_of_lt_of_le (Nat.lt_trans hc.1 hc.2) q, fun z => Nat.lt_irrefl _ (Nat.lt_of_lt_of_le (z ▸ hc.2) q)⟩
    · exact hD _ q
  refine h ⟨h', g, d, tk', os⟩ ⟨fun b ob hb e => ?_, Nat.lt_of_lt_of_le R.size hz, R.loc.at fun ob e => kb L ob (Nat.ne_of_lt F.lo.1) hLD e, ⟨oc, kb c oc F.lo.2.symm hcD hoc, hdc⟩, R.tab.kept kf, R.gens, R.os⟩
    ⟨F.lo, _, fd, hf', hcl, hdt, .inr ⟨D', rfl, hne, hns⟩, fun D e => by cases e; exact hD'⟩ hz ⟨_, D', hf', rfl, hns⟩ kk
  have hbl : b < s₀.heap.objs.size := Heap.lt_size e
  have hbL : b < L := Nat.lt_of_lt_of_le hbl hL
  exact kb b ob (Nat.ne_of_lt (Nat.lt_trans hbL F.lo.1)) (fun D eD => Nat.ne_of_lt (Nat.lt_trans hbL (hD D eD).1)) (R.keep b ob hb e)
end
end Mine
end R5

section R6
open PySem PySem.W PyProof.Rows
set_option Elab.async false
set_option linter.unusedVariables false
set_option maxRecDepth 100000
namespace Mine

noncomputable def qLam : Str := Str.ofString "_law_rule.<locals>.<lambda>"
/-- the def that makes rules -/
structure RuleFn (C : Cx) (LT : LamT) (T a : Addr) (names : List String) (scope : Scope) (body : List Stmt) : Prop where
  fn : ∀ h, C.gi h → ∃ o fd c, h.get? a = some o ∧ o.data = .func fd ∧ h.CodeRec fd.code fd.qualname ∧ fd.body = .stmts body ∧ fd.scope = scope ∧ fd.closure = [] ∧ fd.globals = mainGlobals ∧ fd.builtins = builtinsNs ∧ fd.qualname = Str.ofString "_law_rule" ∧ fd.code = .ref c ∧ CodeHd h c T ∧
    ∀ vals : List Value, vals.length = names.length → bindArgs fd ⟨vals, []⟩ = pure ((names.map Str.ofString).zip vals)
  tab : C.tab T
  tIs : ∀ P h, C.T P h T ↔ TabAt qLam P h T
  ne : mainGlobals ≠ T
  blt : ∀ h, C.gi h → h.BuiltinsAt C.mg T
  tb : C.tb = []
section
variable {C : Cx} {A : Around} {E : Value → Shared → Prop} {T c : Addr} {s₀ s : Shared} {v1 v : Value} {P : Addr → Prop} {m md : Str → Option Value} {x : String} {env : Env}
/-- a lambda is made -/
theorem rs_lam {Q : Value → Shared → Prop} {params : Arguments} {body : Expr} {scope : Scope} {pos : Pos} {clos : List (Str × Addr)} {c0 : Addr} {mg : Str → Option Value} (R : RS T env.locals c s₀ v1 qLam P m s) (hL : s₀.heap.objs.size ≤ env.locals) (hlt : T < s₀.heap.objs.size) (hc : c < s.heap.objs.size)
    (hcT : c ≠ T) (hdef : defaultsOf params env = ([], [])) (hq : env.qual ++ "<lambda>" = qLam) (hcl : closureFor scope env = pure clos) (hge0 : env.globals = mainGlobals) (hg : s.heap.Ns mainGlobals mg) (hcode : env.code = .ref c0) (H : CodeHd s.heap c0 T)
    (hgT : mainGlobals ≠ T) (hb : s.heap.BuiltinsAt mg T) (plt : ∀ a, P a → a < s.heap.objs.size)
    (h : ∀ s' f cc ctv, s.heap.objs.size ≤ f → f < s'.heap.objs.size → s'.heap.get? f = some (kla_obj "<lambda>" qLam params body scope clos ((mg "__name__").getD .none) cc ctv) → RS T env.locals c s₀ v1 qLam P m s' → s'.heap.CodeRec (.ref cc) qLam → ¬ P cc →
      (∀ b o, b ≠ T → s.heap.get? b = some o → s'.heap.get? b = some o) → Q (.ref f) s') :
    wpAny (model C.prog C.w) A (eval (.Lambda params body scope pos) env) Q E s := by
  refine lam_make hdef hq hcl hge0 hg hcode H R.tab hgT hb plt fun h' tk cc ctv hk hz htab hrec hn hT => ?_
  obtain ⟨hh, g, d, t, os⟩ := s
  have hLT : env.locals ≠ T := Nat.ne_of_gt (Nat.lt_of_lt_of_le hlt hL)
  have kk : ∀ b o, b ≠ T → hh.get? b = some o → (h'.push (kla_obj "<lambda>" qLam params body scope clos ((mg "__name__").getD .none) cc ctv)).get? b = some o := fun b o hb e => Heap.get?_push_of_some _ (hk b o hb e)
  obtain ⟨oc, hoc, hdc⟩ := R.cell
  refine h ⟨_, g, d, tk, os⟩ h'.objs.size cc ctv hz (by rw [Heap.size_push]; exact Nat.lt_succ_self _) (Heap.get?_push_size _ rfl) ⟨fun b o hb e => kk b o hb (R.keep b o hb e), ?_, R.loc.at fun o e => kk _ o hLT e, ⟨oc, kk _ _ hcT hoc, hdc⟩, htab.kept fun b o vs _ e => Heap.get?_push_of_some _ e, R.gens, R.os⟩ (hrec.push _) hn kk
  show _ < (h'.push _).objs.size
  rw [Heap.size_push]
  exact Nat.lt_succ_of_lt (Nat.lt_of_lt_of_le R.size hz)
/-- a name of the frame is read -/
theorem rs_name {Q : Value → Shared → Prop} {p : Pos} (R : RS T env.locals c s₀ v1 qLam P m s) (hk : env.scope.kind = .function) (hx : env.kindOf (Str.ofString x) = some .local) (hm : m (Str.ofString x) = some v) (hd : (Str.ofString x == ("__debug__" : Str)) = false) (h : Q v s) :
    wpAny (model C.prog C.w) A (eval (.Name (Str.ofString x) p) env) Q E s := wpAny_Name (wpAny_loadName_local hk hx R.loc hm h) hd
/-- a name of the frame is bound -/
theorem rs_bind {Q : Unit → Shared → Prop} (R : RS T env.locals c s₀ v1 qLam P m s) (hL : s₀.heap.objs.size ≤ env.locals) (hcL : c ≠ env.locals) (hk : env.scope.kind = .function) (hx : env.kindOf (Str.ofString x) = some .local)
    (h : ∀ s', RS T env.locals c s₀ v1 qLam P (fun y => if y = Str.ofString x then some v else m y) s' → (∀ b o, b ≠ env.locals → s.heap.get? b = some o → s'.heap.get? b = some o) → s'.heap.objs.size = s.heap.objs.size → Q () s') :
    wpAny (model C.prog C.w) A (storeName env (Str.ofString x) v) Q E s := by
  obtain ⟨hh, g, d, t, os⟩ := s
  refine wpAny_storeName_local hx R.loc (fun h' hn' hs => h _ ?_ (fun b o hb e => hs.extBut b o hb e) hs.1) (by rw [hk]; rfl)
  obtain ⟨oc, hoc, hdc⟩ := R.cell
  exact ⟨fun b o hb e => hs.extBut b o (Nat.ne_of_lt (Nat.lt_of_lt_of_le (Heap.lt_size e) hL)) (R.keep b o hb e), hn'.lt, hn', ⟨oc, hs.extBut _ _ hcL hoc, hdc⟩,
    R.tab.kept fun b o vs hd e => hs.extBut b o (ns_not_fields R.loc b o vs hd e) e, R.gens, R.os⟩
end
set_option maxHeartbeats 1000000 in
theorem op_rule {C : Cx} {LT : LamT} {T a : Addr} {nv : String} {scope : Scope} {k : Nat} {σ : Sto} {fr vd : List Nat} {K : PV → Sto → Prop} {p1 p2 p3 p4 q2 q3 q3' l0 l2 r1 r2 r3 r4 : Pos} {b0 : Expr} {sc0 : Scope}
    (F : RuleFn C LT T a ["front", nv] scope [.Assign [.Name (Str.ofString "rule") p1] (.Lambda ⟨[], [], none, [], [], none, []⟩ b0 sc0 l0) r1, .Assign [.Attribute (.Name (Str.ofString "rule") p2) (Str.ofString "applies_to") q2] (.Lambda LT.prm LT.bdy LT.sc l2) r2,
      .Assign [.Attribute (.Name (Str.ofString "rule") p3) (Str.ofString "allowance") q3] (.Name (Str.ofString nv) q3') r3, .Return (some (.Name (Str.ofString "rule") p4)) r4])
    (X : RulesX C LT) (hsc0 : sc0.names = []) (hdef : LT.prm.defaults = [] ∧ LT.prm.kw_defaults = []) (hcl : ∀ env c, env.cells.lookup (Str.ofString "front") = some c → closureFor LT.sc env = pure [(Str.ofString "front", c)])
    (hs1 : scope.names.lookup (Str.ofString "front") = some .cell) (hs2 : scope.names.lookup (Str.ofString nv) = some .local) (hs3 : scope.names.lookup (Str.ofString "rule") = some .local) (hs4 : scope.kind = .function) (hs5 : scope.isCoroutine = false) (hs6 : scope.isGenerator = false)
    (hnv : (Str.ofString nv == ("__debug__" : Str)) = false) (hnv2 : Str.ofString nv ≠ Str.ofString "rule") (hT : (T, AO.tab) ∈ σ) (h : K (.ext 0 [fr, vd]) σ) : OpL C (k + 1) σ [.str fr, .str vd] (fun vs => PySem.call (.ref a) vs) K := fun A P s vs hr H r => by
  obtain ⟨o, fd, c0, ho, hd, hcd, hbody, hsc, hclo, hgl, hbl, hqn, hcode, CH, hbind⟩ := F.fn s.heap H.gi
  cases r with | cons ra r =>
  cases r with | cons rb r =>
  cases r
  rename_i va vb
  subst hsc
  have hTt : TabAt qLam (PP P σ) s.heap T := (F.tIs _ _).mp (H.pp.st _ _ hT)
  have hTlt := hTt.lt
  refine wpAny_call (codeAny_call_cells hr.limit ho hd (C.nolimit H.gi) hcd hbody (hbind _ rfl) hclo (fun x hx => ?_) (fun s₁ x => ?_) hs5 hs6 hs4)
  · rcases List.mem_cons.mp hx with rfl | hx
    · refine .inr ⟨hs1, ?_⟩
      obtain ⟨c, hc⟩ := cellsFrom_has (n := s.heap.objs.size + 1) (acc := []) (Mine.mem_of_lookup hs1)
      obtain ⟨d, hd⟩ := Mine.lookup_of_mem hc
      rw [hd]; rfl
    · rw [List.mem_singleton.mp hx]; exact .inl hs2
  generalize henv : callEnvC fd s.heap.objs.size a = env at x ⊢
  have hloc : env.locals = s.heap.objs.size := by rw [← henv]; rfl
  have hscp : env.scope = fd.scope := by rw [← henv]; rfl
  have hcells : env.cells = cellsFrom (s.heap.objs.size + 1) fd.scope.names [] := by rw [← henv]; rfl
  have hkd : env.kindOf = fun n => fd.scope.names.lookup n := by funext n; unfold Env.kindOf; rw [hscp]
  have hge : env.globals = mainGlobals := by rw [← henv]; exact hgl
  have hco : env.code = .ref c0 := by rw [← henv]; exact hcode
  have hq : env.qual ++ "<lambda>" = qLam := by
    have : env.qual = fd.qualname ++ ".<locals>." := by rw [← henv]; rfl
    rw [this, hqn]; kernel_rfl
  have hkr : env.kindOf (Str.ofString "rule") = some .local := by rw [hkd]; exact hs3
  have hkv : env.kindOf (Str.ofString nv) = some .local := by rw [hkd]; exact hs2
  have hkf : env.kindOf (Str.ofString "front") = some .cell := by rw [hkd]; exact hs1
  have hfn : env.scope.kind = .function := by rw [hscp]; exact hs4
  obtain ⟨c, hc⟩ : ∃ c, env.cells.lookup (Str.ofString "front") = some c := by
    rw [hcells]
    obtain ⟨c, hc⟩ := cellsFrom_has (n := s.heap.objs.size + 1) (acc := []) (Mine.mem_of_lookup hs1)
    exact Mine.lookup_of_mem hc
  have hLc : env.locals < c := x.above _ c (Mine.mem_of_lookup hc)
  have hL : s.heap.objs.size ≤ env.locals := Nat.le_of_eq hloc.symm
  have nd : ((((List.map Str.ofString ["front", nv]).zip [va, vb])).map (·.1)).Nodup := by
    have : Str.ofString "front" ≠ Str.ofString nv := fun q => by rw [← q, hkf] at hkv; cases hkv
    simpa using this
  obtain ⟨h₁, tk, rfl, kp⟩ := x.done
  have cell₁ : h₁.IsCell c (some va) := (bindC_get (m := fun _ => none) nd List.mem_cons_self hkf) ▸ x.cell _ c hc
  have ns₁ := x.toInCall.ns
  generalize hm : bindL env.kindOf _ (fun _ => none) = m at ns₁
  have hmv : m (Str.ofString nv) = some vb := by rw [← hm]; exact bindL_get nd (List.mem_cons_of_mem _ List.mem_cons_self) hkv
  have R₁ : RS T env.locals c s va qLam (PP P σ) m { s with heap := h₁, toks := tk } := ⟨fun b o _ e => kp b o e, ns₁.lt, ns₁, cell₁, hTt.kept fun b o vs _ e => kp b o e, rfl, rfl⟩
  have hclt : c < h₁.objs.size := let ⟨_, e, _⟩ := cell₁; Heap.lt_size e
  have hcT : c ≠ T := Nat.ne_of_gt (Nat.lt_of_lt_of_le hTlt (Nat.le_trans hL (Nat.le_of_lt hLc)))
  have hbT := F.blt _ H.gi
  have keepB : ∀ h' : Heap, (∀ b o, b ≠ T → s.heap.get? b = some o → h'.get? b = some o) → h'.BuiltinsAt C.mg T := fun h' k => by
    obtain ⟨bm, ob, b1, b2, b3, b4, b5, b6⟩ := hbT
    exact ⟨bm, ob, b1, b2, b3, b4, k _ _ b4 b5, b6⟩
  have keepG : ∀ h' : Heap, (∀ b o, b ≠ T → s.heap.get? b = some o → h'.get? b = some o) → h'.Ns mainGlobals C.mg := fun h' k => (C.g H.gi).at fun o e => k _ o F.ne e
  have keepC : ∀ h' : Heap, (∀ b o, b ≠ T → s.heap.get? b = some o → h'.get? b = some o) → CodeHd h' c0 T := fun h' k => by
    obtain ⟨o, vs, file, tf, flags, tg, inF, text, tt, e, e1, e2, e3, e4, e5, e6, e7, e8, hne⟩ := CH
    exact ⟨o, vs, file, tf, flags, tg, inF, text, tt, k _ _ hne e, e1, e2, e3, e4, e5, e6, e7, e8, hne⟩
  have pl : ∀ n, s.heap.objs.size ≤ n → ∀ a, PP P σ a → a < n := fun n hn a q => Nat.lt_of_lt_of_le (H.pplt a q) hn
  -- rule = lambda: None
  refine wpAny_execs_cons (wpAny_Assign_Name (rs_lam (mg := C.mg) (clos := []) R₁ hL hTlt hclt hcT rfl hq ?_ hge (keepG _ R₁.keep) hco (keepC _ R₁.keep) F.ne (keepB _ R₁.keep) (pl _ (Nat.le_of_lt (Nat.lt_of_le_of_lt hL R₁.size))) fun s₂ f cc ctv hf hf' hfo R₂ hrec hncc k₂ => ?_) rfl)
  · unfold closureFor; rw [hsc0]; rfl
  have hcL : c ≠ env.locals := Nat.ne_of_gt hLc
  have hLT : env.locals ≠ T := Nat.ne_of_gt (Nat.lt_of_lt_of_le hTlt hL)
  have hfL : env.locals < f := Nat.lt_of_lt_of_le R₁.size hf
  have hfc : f ≠ c := Nat.ne_of_gt (Nat.lt_of_lt_of_le hclt hf)
  refine rs_bind R₂ hL hcL hfn hkr fun s₃ R₃ k₃ z₃ => ?_
  have hfo₃ := k₃ _ _ (Nat.ne_of_gt hfL) hfo
  have F₃ : FS env.locals c s f (fun _ => none) s₃ := ⟨⟨hfL, hfc⟩, _, _, hfo₃, rfl, rfl, .inl ⟨rfl, fun _ => rfl⟩, fun D e => by cases e⟩
  have hc₃ : c < s₃.heap.objs.size := let ⟨_, e, _⟩ := R₃.cell; Heap.lt_size e
  -- rule.applies_to = lambda name: ..
  refine wpAny_execs_cons (wpAny_Assign_stores (rs_lam (mg := C.mg) (clos := [(Str.ofString "front", c)]) R₃ hL hTlt hc₃ hcT ?_ hq (hcl env c hc) hge (keepG _ R₃.keep) hco (keepC _ R₃.keep) F.ne (keepB _ R₃.keep) (pl _ (Nat.le_of_lt (Nat.lt_of_le_of_lt hL R₃.size))) fun s₄ g cg ctg hg hg' hgo R₄ hrecg hncg k₄ => ?_) rfl rfl)
  · obtain ⟨prm, bdy, sc⟩ := LT
    obtain ⟨a1, a2, a3, a4, a5, a6, a7⟩ := prm
    obtain ⟨rfl, rfl⟩ := hdef
    rfl
  show wpAny _ _ (PySem.assign (Expr.Attribute _ (Str.ofString "applies_to") _) env _) _ _ _
  rw [arm_assign_Attribute]
  refine wpAny_bind (wpAny_holding (rs_name R₄ hfn hkr (by rw [if_pos rfl]) (by decide) ?_))
  have hfT : f ≠ T := Nat.ne_of_gt (Nat.lt_of_lt_of_le hTlt (Nat.le_trans hL (Nat.le_of_lt hfL)))
  have hfo₄ := k₄ _ _ hfT hfo₃
  have F₄ : FS env.locals c s f (fun _ => none) s₄ := ⟨⟨hfL, hfc⟩, _, _, hfo₄, rfl, rfl, .inl ⟨rfl, fun _ => rfl⟩, fun D e => by cases e⟩
  have hc₄ : c < s₄.heap.objs.size := let ⟨_, e, _⟩ := R₄.cell; Heap.lt_size e
  refine wpAny_bind (wpAny_standAt (wpAny_bind (wpAny_holding (rs_store (C := C) R₄ F₄ hL hTlt ⟨hLc, hc₄⟩ fn_no_applies Within.nil (by simp) fun s₅ R₅ F₅ z₅ _ k₅ => wpAny_release ?_))))
  have hgf : g ≠ f := Nat.ne_of_gt (Nat.lt_of_lt_of_le (Heap.lt_size hfo₃) hg)
  have hgo₅ := k₅ g _ hgf (fun es ep q => by cases q) hgo
  have hcr₅ := codeRec_kept' hrecg (fun b o vs hd e => k₅ b o (fun q => by subst q; rw [hfo₄] at e; cases e; cases hd) (fun es ep q => by rw [q] at hd; cases hd) e)
  have hc₅ : c < s₅.heap.objs.size := let ⟨_, e, _⟩ := R₅.cell; Heap.lt_size e
  -- rule.allowance = verdict
  refine wpAny_execs_cons (wpAny_Assign_stores (rs_name R₅ hfn hkv (by rw [if_neg hnv2]; exact hmv) hnv ?_) rfl rfl)
  show wpAny _ _ (PySem.assign (Expr.Attribute _ (Str.ofString "allowance") _) env _) _ _ _
  rw [arm_assign_Attribute]
  refine wpAny_bind (wpAny_holding (rs_name R₅ hfn hkr (by rw [if_pos rfl]) (by decide) ?_))
  refine wpAny_bind (wpAny_standAt (wpAny_bind (wpAny_holding (rs_store (C := C) R₅ F₅ hL hTlt ⟨hLc, hc₅⟩ fn_no_allow (Within.cons _ _ Within.nil) (by simp) fun s₆ R₆ F₆ z₆ ⟨o₆, D, hfo₆, hD₆, hns₆⟩ k₆ => wpAny_release ?_))))
  obtain ⟨o₅, fd₅, hfo₅, _, hdt₅, _⟩ := F₅.ob
  have hgo₆ := k₆ g _ hgf (fun es ep q => by cases q) hgo₅
  have hcr₆ := codeRec_kept' hcr₅ (fun b o vs hd e => k₆ b o (fun q => by subst q; rw [hfo₅] at e; cases e; rw [hdt₅] at hd; cases hd) (fun es ep q => by rw [q] at hd; cases hd) e)
  -- return rule
  refine wpAny_execs_cons (wpAny_Return_some (rs_name R₆ hfn hkr (by rw [if_pos rfl]) (by decide) ?_))
  have A₆ : After C P σ s σ s₆ := After.tab H hT F.tab R₆.keep (Nat.le_trans hL (Nat.le_of_lt R₆.size)) ((F.tIs _ _).mpr R₆.tab) R₆.gens R₆.os
  have nPP : ∀ b, s.heap.objs.size ≤ b → ¬ PP P σ b := fun b hb q => Nat.not_lt.mpr hb (H.pplt b q)
  obtain ⟨o₇, fd₇, hfo₇, hcl₇, hdt₇, hdict₇, hDlow⟩ := F₆.ob
  obtain rfl : o₆ = o₇ := Option.some.inj (hfo₆.symm.trans hfo₇)
  have hLs : ∀ b, env.locals < b → s.heap.objs.size ≤ b := fun b hb => Nat.le_trans hL (Nat.le_of_lt hb)
  refine ⟨.ext 0 [fr, vd], σ, h, A₆, .ext ((X _ _ _ _).mpr ⟨fr, vd, [], f, D, g, c, cg, rfl, rfl, ⟨⟨nPP f (hLs f hfL), nPP D (hLs D (hDlow D hD₆).1), nPP g (hLs g (Nat.lt_trans hfL (Nat.lt_of_lt_of_le (Heap.lt_size hfo₃) hg))), nPP c (hLs c hLc), hncg⟩, Nat.le_trans (C.low H.gi) (hLs c hLc), ⟨_, _, hfo₆, hcl₇, hD₆, hdt₇⟩,
    ⟨_, hns₆.ns, ?_, ⟨vb, ?_, rb.isS⟩, fun p e => by cases e⟩, ⟨_, _, _, _, hgo₆, hcr₆⟩, ⟨va, R₆.cell, ra.isS⟩⟩⟩)⟩
  · rw [if_neg (by decide), if_pos rfl]
  · rw [if_pos rfl]
end Mine
end R6

section V24
open PySem PySem.W PyProof.Rows
set_option Elab.async false
set_option linter.unusedVariables false
set_option maxRecDepth 100000
namespace Mine
/-- the lambda of _law_rule -/
noncomputable def lam2 : LamT := match fBody (stAt 13) with | _ :: .Assign _ (.Lambda p b s _) _ :: _ => ⟨p, b, s⟩ | _ => ⟨⟨[], [], none, [], [], none, []⟩, .Constant .none 0 default, default⟩
theorem lam2_eval {C : Cx} (len : Blt C "len" (.builtin "len")) {k : Nat} {fr nm : List Nat} (h1 : fr.length ≤ 10000) (h2 : ∀ c ∈ fr, c < 0x110000) (h3 : nm.length ≤ 10000) (h4 : ∀ c ∈ nm, c < 0x110000) :
    Ev C k lam2.sc [("name", .str nm), ("front", .str fr)] [] lam2.bdy fun d σ' => σ' = [] ∧ d = .int (applN fr nm : Nat) := by
  refine Ev.ifexp (Tr.cmp (Ev.sub (Ev.name (x := "name") rfl (Ev.slice (Ev.call1 len rfl (Ev.name (x := "front") rfl (OpL.len_s (by lia) ⟨_, _, _, .none, .int _, .none, Op2.slice_s (by decide) ?z1 ?_⟩)) rfl)))) rfl)
  case z1 => rw [slcS_eq, slcL_to]; simp [sizeLine]; lia
  rw [slcS_eq, slcL_to]
  refine Ev.name (x := "front") rfl (Op2.eq (pl_str' fun c hc => h4 c (List.mem_of_mem_take hc)) (pl_str' h2) (OpB.bool ?_))
  rw [peq_str']
  unfold applN
  refine ite_bool (fun h => ?_) fun h => ?_
  · rw [if_pos (of_decide_eq_true h)]
    exact Ev.binop (Ev.call1 len rfl (Ev.name (x := "front") rfl (OpL.len_s (by lia) (Ev.int (Op2.addN (b := 1) ⟨rfl, rfl⟩)))) rfl)
  · rw [if_neg (of_decide_eq_false h)]
    exact Ev.int ⟨rfl, rfl⟩
theorem lam2_ok : okLam "name" "front" lam2.sc = true := by decide +kernel
theorem lam2_bind (nm qual cl pm cc ctv v) : bindArgs (kla_fn nm qual lam2.prm lam2.bdy lam2.sc cl pm cc ctv) ⟨[v], []⟩ = pure [(Str.ofString "name", v)] := by rfl
theorem lam2_clos (env : Env) (c : Addr) (h : env.cells.lookup (Str.ofString "front") = some c) : closureFor lam2.sc env = pure [(Str.ofString "front", c)] := by
  have hc : cellOf env (Str.ofString "front") = pure c := by unfold cellOf; rw [h]
  have hn : lam2.sc.names = [(Str.ofString "name", .local), (Str.ofString "front", .free), (Str.ofString "len", .globalImplicit)] := rfl
  unfold closureFor
  rw [hn]
  simp only [List.forIn_cons, List.forIn_nil, hc, show (NameKind.local == NameKind.free) = false from rfl, show (NameKind.free == NameKind.free) = true from rfl, show (NameKind.globalImplicit == NameKind.free) = false from rfl, if_true, if_false, pure_bind, Bool.false_eq_true]
theorem op_rule2 {C : Cx} {T a : Addr} {k : Nat} {σ : Sto} {fr vd : List Nat} {K : PV → Sto → Prop} (F : RuleFn C lam2 T a ["front", "verdict"] (fScope (stAt 13)) (fBody (stAt 13))) (X : RulesX C lam2) (hT : (T, AO.tab) ∈ σ) (h : K (.ext 0 [fr, vd]) σ) :
    OpL C (k + 1) σ [.str fr, .str vd] (fun vs => PySem.call (.ref a) vs) K :=
  op_rule (nv := "verdict") F X rfl ⟨rfl, rfl⟩ lam2_clos rfl rfl rfl rfl rfl rfl (by decide) (by decide) hT h
end Mine
end V24

section SA2
open PySem PySem.W PyProof.Rows
set_option Elab.async false
set_option linter.unusedVariables false
set_option maxRecDepth 100000
namespace Mine
/-- a rule: its front, its verdict, what else it bears -/
noncomputable abbrev Rule := List Nat × List Nat × List (List Nat)
noncomputable def Rule.pv (r : Rule) : PV := .ext 0 (r.1 :: r.2.1 :: r.2.2)
noncomputable def Rule.ok (r : Rule) : Prop := r.1.length ≤ 10000 ∧ (∀ c ∈ r.1, c < 0x110000) ∧ r.2.1.length ≤ 10000
noncomputable def stepA (nm : List Nat) (st : Int × Option (List Nat)) (r : Rule) : Int × Option (List Nat) :=
  if applN r.1 nm = 0 then st else if st.1 < (applN r.1 nm : Nat) then ((applN r.1 nm : Nat), some r.2.1) else if ((applN r.1 nm : Nat) : Int) = st.1 ∧ st.2 = some [] then (st.1, some r.2.1) else st
noncomputable def allowF (nm : List Nat) (rs : List Rule) : Option (List Nat) := (rs.foldl (stepA nm) (-1, none)).2
noncomputable def alP : Option (List Nat) → PV
  | none => .bool true
  | some x => .str x
theorem tr_al {C : Cx} {k : Nat} {σ : Sto} {o : Option (List Nat)} (h : ∀ x, o = some x → x.length ≤ 10000) {K : Bool → Sto → Prop} (hK : K (!decide (o = some [])) σ) : OpB C k σ (alP o) truthy K := by
  cases o with
  | none => exact OpB.bool (by simpa using hK)
  | some x =>
    refine OpB.str (by have := h x rfl; lia) ?_
    cases x with
    | nil => simpa using hK
    | cons a r => simpa using hK
section
variable {C : Cx} {N : Addr} {mN : Str → Option Value} (T : TopE C N mN) (X : RulesX C lam2) (htb : C.tb = []) (len : Blt C "len" (.builtin "len")) {k : Nat} {σ : Sto}
include T X htb len
theorem w_allow {a d : Addr} {fs : List (String × PV)} {rs : List Rule} {nm : List Nat} {K : PV → Sto → Prop} (hm : (a, AO.inst d fs) ∈ σ) (hf : fs.lookup "rulelines" = some (.list (rs.map Rule.pv))) (hok : ∀ r ∈ rs, r.ok) (hnl : nm.length ≤ 10000) (hnc : ∀ c ∈ nm, c < 0x110000)
    (h : K (alP (allowF nm rs)) σ) :
    Ex C (k + 1) (fScope sAllow) [("self", .raw (.ref a)), ("filename", .str nm)] σ (fBody sAllow) (fun g _ σ' => match g with | .ret d => K d σ' | .next => K .none σ' | _ => False) := by
  refine Ex.cons (Ex1.assign (x := "best_match") (Ev.unary (Ev.int (Op1.neg ?_))) (.inl rfl) fun _ => rfl)
  refine Ex.cons (Ex1.assign (x := "allowance") (Ev.bool ?_) (.inl rfl) fun _ => rfl)
  refine Ex.cons (Ex1.for (J := fun rest ρ σ' => ∃ (todo : List Rule) (st : Int × Option (List Nat)), rest = todo.map Rule.pv ∧ (∀ r ∈ todo, r.ok) ∧ (∀ x, st.2 = some x → x.length ≤ 10000) ∧ allowF nm rs = (todo.foldl (stepA nm) st).2 ∧
      Has ρ [("allowance", alP st.2), ("best_match", .int st.1), ("filename", .str nm), ("self", .raw (.ref a))] ∧ σ' = σ) ?_ ?_ ?_ fun _ _ => rfl)
  · exact Ev.fld T (x := "self") (f := "rulelines") T.rl rfl hm hf ⟨_, Iterable.list, rs, (-1, none), rfl, hok, (fun x e => by cases e), rfl, ⟨rfl, rfl, rfl, rfl, trivial⟩, rfl⟩
  · rintro x r ρ' σ' ⟨todo, st, he, hin, hst, ha, hh, rfl⟩
    cases todo with
    | nil => cases he
    | cons z todo =>
    obtain ⟨rfl, rfl⟩ : x = z.pv ∧ r = todo.map Rule.pv := by simpa using he
    obtain ⟨z1, z2, z3⟩ := hin z List.mem_cons_self
    obtain ⟨fr, vd, more⟩ := z
    obtain ⟨best, al⟩ := st
    refine Bind.name (x := "line") (.inl rfl) ?_
    refine Ex.has (ρ' := [("line", Rule.pv (fr, vd, more)), ("allowance", alP al), ("best_match", .int best), ("filename", .str nm), ("self", .raw (.ref a))]) ⟨rfl, hh.1, hh.2.1, hh.2.2.1, hh.2.2.2.1, trivial⟩ ?_
    rw [List.foldl_cons] at ha
    have back : ∀ st' ρ'', stepA nm (best, al) (fr, vd, more) = st' → (∀ x, st'.2 = some x → x.length ≤ 10000) → Has ρ'' [("allowance", alP st'.2), ("best_match", .int st'.1), ("filename", .str nm), ("self", .raw (.ref a))] →
        ∃ (todo' : List Rule) (st : Int × Option (List Nat)), todo.map Rule.pv = todo'.map Rule.pv ∧ (∀ r ∈ todo', r.ok) ∧ (∀ x, st.2 = some x → x.length ≤ 10000) ∧ allowF nm rs = (todo'.foldl (stepA nm) st).2 ∧ Has ρ'' [("allowance", alP st.2), ("best_match", .int st.1), ("filename", .str nm), ("self", .raw (.ref a))] ∧ σ' = σ' :=
      fun st' ρ'' e hx hh' => ⟨todo, st', rfl, fun r hr => hin r (List.mem_cons_of_mem _ hr), hx, by rw [ha, e], hh', rfl⟩
    have hs1 : ∀ x, (some vd : Option (List Nat)) = some x → x.length ≤ 10000 := fun x e => by cases e; exact z3
    refine Ex.cons (Ex1.assign (x := "m") (Ev.applies X htb (fun fr nm h1 h2 h3 h4 => lam2_eval len h1 h2 h3 h4) lam2_ok lam2_bind (Ev.name (x := "line") rfl ⟨fr, vd, more, rfl, z1, z2, Ev.name (x := "filename") rfl ⟨nm, rfl, hnl, hnc, ?_⟩⟩) rfl rfl fun _ => rfl) (.inl rfl) fun _ => rfl)
    refine Ex.cons (Ex1.if (Tr.value (Ev.name (x := "m") rfl (OpB.int ?_)) fun _ _ => rfl))
    refine ite_bool (fun h1 => ?_) fun h1 => ?_
    · have h0 : applN fr nm ≠ 0 := by simpa using h1
      refine Ex.cons (Ex1.if (Tr.cmp (Ev.name (x := "m") rfl (Ev.name (x := "best_match") rfl (Op2.gt (OpB.bool ?_)))) rfl))
      refine ite_bool (fun h2 => ?_) fun h2 => ?_
      · have h2 := of_decide_eq_true h2
        refine Ex.cons (Ex1.assign (x := "best_match") (Ev.name (x := "m") rfl ?_) (.inl rfl) fun _ => rfl)
        refine Ex.cons (Ex1.assign (x := "allowance") (Ev.attr (Ev.name (x := "line") rfl (Op1.allowance X fn_no_allow ?_)) fun _ => rfl) (.inl rfl) fun _ => rfl)
        exact Ex.nil (Ex.nil (Ex.nil (back ((applN fr nm : Nat), some vd) _ (by unfold stepA; rw [if_neg h0, if_pos h2]) hs1 ⟨rfl, rfl, rfl, rfl, trivial⟩)))
      · have h2 := of_decide_eq_false h2
        refine Ex.cons (Ex1.if (Tr.and2 (Tr.cmp (Ev.name (x := "m") rfl (Ev.name (x := "best_match") rfl (Op2.eq rfl rfl (OpB.bool ?_)))) rfl)))
        rw [peq_int]
        refine ite_bool (fun h3 => ?_) fun h3 => ?_
        · have h3 := of_decide_eq_true h3
          refine Tr.not (Tr.value (Ev.name (x := "allowance") rfl (tr_al hst ?_)) fun _ _ => rfl)
          rw [Bool.not_not]
          refine ite_bool (fun h4 => ?_) fun h4 => ?_
          · have h4 := of_decide_eq_true h4
            refine Ex.cons (Ex1.assign (x := "allowance") (Ev.attr (Ev.name (x := "line") rfl (Op1.allowance X fn_no_allow ?_)) fun _ => rfl) (.inl rfl) fun _ => rfl)
            exact Ex.nil (Ex.nil (Ex.nil (Ex.nil (back (best, some vd) _ (by unfold stepA; rw [if_neg h0, if_neg h2, if_pos ⟨h3, h4⟩]) hs1 ⟨rfl, rfl, rfl, rfl, trivial⟩))))
          · have h4 := of_decide_eq_false h4
            exact Ex.nil (Ex.nil (Ex.nil (Ex.nil (back (best, al) _ (by unfold stepA; rw [if_neg h0, if_neg h2, if_neg fun q => h4 q.2]) hst ⟨rfl, rfl, rfl, rfl, trivial⟩))))
        · have h3 := of_decide_eq_false h3
          exact Ex.nil (Ex.nil (Ex.nil (Ex.nil (back (best, al) _ (by unfold stepA; rw [if_neg h0, if_neg h2, if_neg fun q => h3 q.1]) hst ⟨rfl, rfl, rfl, rfl, trivial⟩))))
    · have h0 : applN fr nm = 0 := by simpa using h1
      exact Ex.nil (Ex.nil (back (best, al) _ (by unfold stepA; rw [if_pos h0]) hst ⟨rfl, rfl, rfl, rfl, trivial⟩))
  · rintro ρ' σ' ⟨todo, st, he, hin, hst, ha, hh, rfl⟩
    have : todo = [] := by cases todo with | nil => rfl | cons c r => cases he
    subst this
    refine Ex.cons (Ex1.ret (Ev.name hh.1 ?_))
    rw [ha] at h; exact h
end
end Mine
end SA2

section V30
open PySem PySem.W PyProof.Rows
set_option Elab.async false
set_option linter.unusedVariables false
set_option maxRecDepth 100000
namespace Mine
/-- what the top of 02 holds -/
structure Top2 (C : Cx) (N : Addr) (mN : Str → Option Value) (S : Int → Bool) (D : List (PyData × PyData)) (tT tA : Addr) : Prop where
  B : TopB C S D
  E : TopE C N mN
  chr : Blt C "chr" (.builtin "chr")
  len : Blt C "len" (.builtin "len")
  range : Blt C "range" (.type "range")
  sum : Blt C "sum" (.builtin "sum")
  max : Blt C "max" (.builtin "max")
  min : Blt C "min" (.builtin "min")
  sorted : Blt C "sorted" (.builtin "sorted")
  cells : Fun C "_law_cells" ["script"] (stAt 9)
  sign : Fun C "_law_sign" ["letter", "figure", "pick"] (stAt 10)
  word : Fun C "_law_word" ["letter", "cell"] (stAt 11)
  prep : Fun C "_law_prepared" ["text"] (stAt 12)
  first : Fun C "_law_first" ["verdicts"] (stAt 14)
  cut : Fun C "_law_cut" ["coins", "size"] (stAt 15)
  guess : Fun C "_law_guesses" ["coins"] (stAt 16)
  rule : RuleFn C lam2 tT tA ["front", "verdict"] (fScope (stAt 13)) (fBody (stAt 13))
  ruleAt : C.mg "_law_rule" = some (.ref tA)
  X : RulesX C lam2
theorem RuleFn.callable {C LT T a names scope body} (F : RuleFn C LT T a names scope body) : Callable C (.ref a) := fun h g => by
  obtain ⟨o, fd, c, ho, hd, _⟩ := F.fn h g
  refine ⟨.frame, .inl rfl, fun M => (Looks.ld (part := Option.none) ho).andThen ?_⟩
  rw [hd]; exact Looks.now
/-- the cells as naturals -/
noncomputable def cellsN (s : List Int) : List Nat := (cellsOf [6, 29, 1248, 35, 850, 7, 211] 7 (s.take 60)).map Int.toNat
theorem cellsN_ok (s : List Int) : (cellsOf [6, 29, 1248, 35, 850, 7, 211] 7 (s.take 60)).map PV.int = nums (cellsN s) := by
  unfold nums cellsN
  rw [List.map_map, List.map_map]
  refine List.map_congr_left fun c hc => ?_
  have := cellsOf_bound (init := [6, 29, 1248, 35, 850, 7, 211]) (m := 7) (s := s.take 60) (by decide) c hc
  show PV.int c = PV.int ((c.toNat : Nat) : Int)
  rw [Int.toNat_of_nonneg this]
theorem cellsN_len (s : List Int) : (cellsN s).length = 7 := by unfold cellsN; rw [List.length_map, cellsOf_length]; rfl
/-- a sign with its size, as the walk has it -/
noncomputable def pairP (p : Nat × Nat) : PV := .tuple [.str [p.1], .int (p.2 : Nat)]
noncomputable def wordP (l cell : Nat) : List (Nat × Nat) := (List.range (1 + cell % 7)).map fun p => (signC l (cell / 7 / 6 ^ p % 6) (cell / 1959552 + p), signN (cell / 7 / 6 ^ p % 6))
theorem wordL_eq (l cell : Nat) : wordL l cell = (wordP l cell).map pairP := by
  unfold wordL wordP
  rw [List.map_map]; rfl
section
variable {C : Cx} {N : Addr} {mN : Str → Option Value} {S : Int → Bool} {D : List (PyData × PyData)} {tT tA : Addr} (T : Top2 C N mN S D tT tA) {k : Nat} {σ : Sto}
include T
theorem op_cells {s : List Int} {K : PV → Sto → Prop} (hs : s.length ≤ 1000) (h : K (.list (nums (cellsN s))) σ) : ∀ f, FnAt C f ["script"] (fScope (stAt 9)) (fBody (stAt 9)) → OpL C (k + 1) σ [.list (s.map .int)] (fun vs => PySem.call (.ref f) vs) K := fun f F =>
  OpL.freeze (Fn.call F (by decide +kernel) rfl (Ex.mono (w_cells T.len T.range hs (by rw [cellsN_ok]; exact h)) fun g ρ' σ' q => by
    cases g with
    | ret d => exact q
    | next => exact q.elim
    | brk => exact q.elim
    | cont => exact q.elim))
theorem op_word {l cell : Nat} {K : PV → Sto → Prop} (h1 : l < 3) (h : K (.list ((wordP l cell).map pairP)) σ) : ∀ f, FnAt C f ["letter", "cell"] (fScope (stAt 11)) (fBody (stAt 11)) → OpL C (k + 2) σ [.int l, .int cell] (fun vs => PySem.call (.ref f) vs) K := fun f F => by
  rw [← wordL_eq] at h
  refine Fn.call F ?_ ?_ ?_
  · decide +kernel
  · rfl
  · show Ex C (k + 1) (fScope (stAt 11)) [("letter", .int l), ("cell", .int cell)] σ (fBody (stAt 11)) _
    exact @w_word C k σ l cell K T.chr T.len T.range T.sign h1 h
theorem op_prep {x : List Nat} {K : PV → Sto → Prop} (ok : ∀ c ∈ x, b3ok D c = true) (hl : x.length ≤ 10000) (h : K (.str (prep S D x)) σ) : ∀ f, FnAt C f ["text"] (fScope (stAt 12)) (fBody (stAt 12)) → OpL C (k + 2) σ [.str x] (fun vs => PySem.call (.ref f) vs) K := fun f F => by
  refine Fn.call F ?_ ?_ ?_
  · decide +kernel
  · rfl
  · show Ex C (k + 1) (fScope (stAt 12)) [("text", .str x)] σ (fBody (stAt 12)) _
    exact @w_prep C S D T.B k σ x K ok hl h
theorem op_first {vs : List (List Nat)} {K : PV → Sto → Prop} (hv : ∀ v ∈ vs, ∀ c ∈ v, c < 0x110000) (hl : vs.length ≤ 1000) (h : K (firstV vs) σ) : ∀ f, FnAt C f ["verdicts"] (fScope (stAt 14)) (fBody (stAt 14)) → OpL C (k + 1) σ [.list (vs.map .str)] (fun vs => PySem.call (.ref f) vs) K := fun f F => by
  refine Fn.call F ?_ ?_ ?_
  · decide +kernel
  · rfl
  · show Ex C k (fScope (stAt 14)) [("verdicts", .list (vs.map .str))] σ (fBody (stAt 14)) _
    exact @w_first C k σ vs K hv hl h
theorem op_guess {cs : List Int} {K : PV → Sto → Prop} (hp : ∀ c ∈ cs, 0 < c ∧ c < 2 ^ 30) (h0 : 1 ≤ cs.length) (h8 : cs.length ≤ 100) (h64 : (foundOf cs).length < 64) (hm : ∀ i j k, IntMulOk ((guessAt cs i j).getD k 0) (cs.getD k 0))
    (h : ∀ ns' : List Int, ns'.Perm (foundOf cs) → ns'.Pairwise (· ≤ ·) → K (.list (ns'.map .int)) σ) : ∀ f, FnAt C f ["coins"] (fScope (stAt 16)) (fBody (stAt 16)) → OpL C (k + 2) σ [.list (cs.map .int)] (fun vs => PySem.call (.ref f) vs) K := fun f F =>
  OpL.drop (Fn.call F (by decide +kernel) rfl (Ex.mono (@w_guess C k σ cs K T.len T.range T.sum T.sorted T.cut hp h0 h8 h64 hm h) fun g ρ' σ' q => by
    cases g with
    | ret d => exact q
    | next => exact q.elim
    | brk => exact q.elim
    | cont => exact q.elim))
theorem op_allow {a d : Addr} {fs : List (String × PV)} {rs : List Rule} {nm : List Nat} {K : PV → Sto → Prop} (hm : (a, AO.inst d fs) ∈ σ) (hf : fs.lookup "rulelines" = some (.list (rs.map Rule.pv))) (hok : ∀ r ∈ rs, r.ok) (hnl : nm.length ≤ 10000) (hnc : ∀ c ∈ nm, c < 0x110000)
    (h : K (alP (allowF nm rs)) σ) : ∀ f, FnAt C f ["self", "filename"] (fScope sAllow) (fBody sAllow) → OpL C (k + 2) σ [.raw (.ref a), .str nm] (fun vs => PySem.call (.ref f) vs) K := fun f F => by
  refine Fn.call F ?_ ?_ ?_
  · decide +kernel
  · rfl
  · show Ex C (k + 1) (fScope sAllow) [("self", .raw (.ref a)), ("filename", .str nm)] σ (fBody sAllow) _
    exact @w_allow C N mN T.E T.X T.rule.tb T.len k σ a d fs rs nm K hm hf hok hnl hnc h
theorem ev_rule {sc : Scope} {ρ : Lo} {e₁ e₂ : Expr} {p pos : Pos} {K : PV → Sto → Prop} (hk : sc.names.lookup (Str.ofString "_law_rule") = some NameKind.globalImplicit)
    (h : Ev C (k + 1) sc ρ σ e₁ fun d₁ σ₁ => Ev C (k + 1) sc ρ σ₁ e₂ fun d₂ σ₂ => ∃ fr vd, d₁ = .str fr ∧ d₂ = .str vd ∧ (tT, AO.tab) ∈ σ₂ ∧ K (.ext 0 [fr, vd]) σ₂) (hp : [e₁, e₂].all plainE = true) :
    Ev C (k + 1) sc ρ σ (.Call (.Name (Str.ofString "_law_rule") p) [e₁, e₂] [] pos) K := by
  refine Ev.call (Ev.global hk T.ruleAt ⟨_, rfl, T.rule.callable, ?_⟩) hp fun _ => rfl
  refine Ev.mono h fun d₁ σ₁ q => Ev.mono q fun d₂ σ₂ q => ?_
  obtain ⟨fr, vd, rfl, rfl, hT, hK⟩ := q
  exact @op_rule2 C tT tA k σ₂ fr vd K T.rule T.X hT hK
end
end Mine
end V30

section C40
open PySem PySem.W PyProof.Rows
set_option Elab.async false
set_option linter.unusedVariables false
set_option maxRecDepth 100000
namespace Mine
/-- names take a tuple's items, one behind the other -/
theorem Ex1.tgt {C k sc ρ σ ts x1 p e pos K} (h : Ev C k sc ρ σ e fun d σ₁ => Bind C k sc ρ σ₁ (.Tuple ts x1 p) d own fun ρ' σ' => K .next ρ' σ')
    (hs : ∀ env, env.scope = sc → swapsWithSole [.Tuple ts x1 p] e pos.line env = pure false) (hw : ∀ env, env.scope = sc → swappedStores [.Tuple ts x1 p] e env = pure none) : Ex1 C k sc ρ σ (.Assign [.Tuple ts x1 p] e pos) K := fun A P env s he hr I => by
  refine wpAny_Assign_stores (ev_one h he hr I fun v d σ₁ s₁ hK hA r => ?_) (hs env he) (hw env he)
  show wpAny _ _ (PySem.assign (.Tuple ts x1 p) env v) _ _ _
  have hF := AfterF.of I hA
  refine wpAny_mono (hK A _ env s₁ v he hr hF.inv r) (fun _ s' o => ?_) fun _ _ x => x
  obtain ⟨ρ', σ', hK', hS, I'⟩ := o
  exact ⟨.next, ρ', σ', hK', ⟨hF.step.trans hS, I'.down I.hp.ptb fun a ha => (I.pown a ha).1⟩, .next⟩
theorem Bind.two {C k sc ρ σ t₁ t₂ p₁ p₂ x1 pos a b K} (h1 : Storable sc t₁) (h2 : Storable sc t₂) (h : K ((t₂, b) :: (t₁, a) :: ρ) σ) :
    Bind C k sc ρ σ (.Tuple [.Name (Str.ofString t₁) p₁, .Name (Str.ofString t₂) p₂] x1 pos) (.tuple [a, b]) own K :=
  Bind.pairF h1 h2 h
theorem Bind.three {C k sc ρ σ t₁ t₂ t₃ p₁ p₂ p₃ x1 pos a b c K} (h1 : Storable sc t₁) (h2 : Storable sc t₂) (h3 : Storable sc t₃) (h : K ((t₃, c) :: (t₂, b) :: (t₁, a) :: ρ) σ) :
    Bind C k sc ρ σ (.Tuple [.Name (Str.ofString t₁) p₁, .Name (Str.ofString t₂) p₂, .Name (Str.ofString t₃) p₃] x1 pos) (.tuple [a, b, c]) own K :=
  Bind.tuple (xs := [a, b, c]) Iterable.tuple Unpackable.tuple (Bind.name h1 (Bind.name h2 (Bind.name h3 h))) rfl rfl fun _ _ q => q
theorem Ev.tuple3 {C k sc ρ σ e₁ e₂ e₃ x pos K} (h : Ev C k sc ρ σ e₁ fun a σ₁ => Ev C k sc ρ σ₁ e₂ fun b σ₂ => Ev C k sc ρ σ₂ e₃ fun c σ₃ => K (.tuple [a, b, c]) σ₃) (hp : [e₁, e₂, e₃].all plainE = true) : Ev C k sc ρ σ (.Tuple [e₁, e₂, e₃] x pos) K :=
  Ev.tuple (Ev.mono h fun a σ₁ q => Ev.mono q fun b σ₂ q => Ev.mono q fun c σ₃ q => ⟨by simp [sizeLine], q⟩) hp
theorem Ev.call3t {C k sc ρ σ x p e₁ e₂ e₃ pos id_ K} (b : C.mg x = Option.none ∧ C.mb x = some (.type id_)) (hk : sc.names.lookup x = some NameKind.globalImplicit) (h : Ev C k sc ρ σ e₁ fun a σ₁ => Ev C k sc ρ σ₁ e₂ fun c σ₂ => Ev C k sc ρ σ₂ e₃ fun d σ₃ => OpL C k σ₃ [a, c, d] (fun vs => PySem.call (.type id_) vs) K) (hp : [e₁, e₂, e₃].all plainE = true)
    (hd : (x == ("__debug__" : Str)) = false := by decide) : Ev C k sc ρ σ (.Call (.Name x p) [e₁, e₂, e₃] [] pos) K :=
  Ev.call (Ev.builtin hk b.1 b.2 ⟨_, rfl, Callable.type, h⟩ hd) hp fun _ => rfl
/-- range(n, 0, -1) -/
theorem Iterable.rangeDown {C k σ} {n : Nat} (h : n ≤ 1000) : Iterable C k σ (.range (n : Nat) 0 (-1)) ((List.range n).map fun i => PV.int ((n - i : Nat) : Int)) := by
  have hsz : Builtin.Range.rangeSize (n : Int) 0 (-1) = (n : Int) := by
    unfold Builtin.Range.rangeSize
    rw [if_neg (by decide)]
    by_cases h0 : (n : Int) > 0
    · rw [if_pos h0]; simp
    · rw [if_neg h0]; lia
  have hI := Iterable.range (C := C) (k := k) (σ := σ) (a := (n : Nat)) (b := 0) (c := -1) (by
    unfold Builtin.Range.small Builtin.Range.rangeFitsLong
    rw [hsz]
    simp <;> lia)
  have e : rangeL (n : Int) 0 (-1) = (List.range n).map fun i => PV.int ((n - i : Nat) : Int) := by
    unfold rangeL
    rw [hsz, Int.toNat_natCast]
    refine List.map_congr_left fun i hi => ?_
    have := List.mem_range.mp hi
    congr 1
    lia
  rwa [e] at hI
end Mine
end C40

section V31
open PySem PySem.W PyProof.Rows
set_option Elab.async false
set_option linter.unusedVariables false
set_option maxRecDepth 100000
namespace Mine
noncomputable def smallOf (l : Nat) : Nat := [115, 102, 107].getD l 0
noncomputable def letterOf (s : List Int) : Nat := (cellsN s).getD 0 0 % 3
noncomputable def behindOf (s : List Int) : Nat := (cellsN s).getD 5 0 % 5
noncomputable def blankOf (s : List Int) : Nat := (cellsN s).getD 5 0 / 5 % 6
noncomputable def fourOf (s : List Int) : List (List (Nat × Nat)) := (((cellsN s).drop 1).take 4).map (wordP (letterOf s))
noncomputable def pairsOf (s : List Int) : List (List (Nat × Nat)) := (fourOf s).take (behindOf s) ++ [[(smallOf (letterOf s), 1)]] ++ (fourOf s).drop (behindOf s)
noncomputable def runOf (s : List Int) : List (Nat × Nat) := wordP (letterOf s) ((cellsN s).getD 6 0) ++ [(signC (letterOf s) 4 0, 2)]
noncomputable abbrev rowsP (W : List (List (Nat × Nat))) : List PV := W.map fun w => PV.list (w.map pairP)
theorem wordP_len (l c : Nat) : (wordP l c).length ≤ 7 := by unfold wordP; rw [List.length_map, List.length_range]; have := Nat.mod_lt c (show 7 > 0 by decide); lia
theorem fourOf_len (s : List Int) : (fourOf s).length = 4 := by unfold fourOf; rw [List.length_map, List.length_take, List.length_drop, cellsN_len]; rfl
theorem pairsOf_len (s : List Int) : (pairsOf s).length = 5 := by
  unfold pairsOf
  have := fourOf_len s
  rw [List.length_append, List.length_append, List.length_take, List.length_drop]; simp; lia
section
variable {C : Cx} {N : Addr} {mN : Str → Option Value} {S : Int → Bool} {D : List (PyData × PyData)} {tT tA : Addr} (T : Top2 C N mN S D tT tA) {k : Nat} {σ : Sto}
include T
theorem w_law_a {s : List Int} {K : Fl → Lo → Sto → Prop} (hs : s.length ≤ 63)
    (h : Ex C (k + 5) (fScope (stAt 17)) [("run", .list ((runOf s).map pairP)), ("signs", .list (rowsP (pairsOf s))), ("small", .str [smallOf (letterOf s)]), ("blank", .int (blankOf s)), ("cells", .list (nums (cellsN s)))] σ ((fBody (stAt 17)).drop 6) K) :
    Ex C (k + 5) (fScope (stAt 17)) [("script", .list (s.map .int))] σ (fBody (stAt 17)) K := by
  refine Ex.cons (Ex1.assign (x := "cells") (Ev.callF T.cells rfl (Ev.name (x := "script") rfl ⟨rfl, op_cells T (by lia) ?_⟩) rfl) (.inl rfl) fun _ => rfl)
  have h7 := cellsN_len s
  have hl3 : letterOf s < 3 := Nat.mod_lt _ (by decide)
  have hb5 : behindOf s < 5 := Nat.mod_lt _ (by decide)
  have h4 := fourOf_len s
  have hget : ∀ i, i < 7 → (nums (cellsN s))[i]? = some (.int (((cellsN s).getD i 0 : Nat) : Int)) := fun i hi => nums_get (by lia)
  have hnl : (nums (cellsN s)).length = 7 := by simp [nums, h7]
  refine Ex.cons (Ex1.tgt (Ev.tuple3 (Ev.binop (Ev.sub (Ev.name (x := "cells") rfl (Ev.int (Op2.itemN (i := 0) .list (hget 0 (by decide)) (Ev.int (Op2.modN (b := 3) (by decide) ?_)) (by lia)))))) rfl) (fun _ he => by rfl) (fun env he => by cases env; dsimp only at he; subst he; rfl))
  refine Ev.binop (Ev.sub (Ev.name (x := "cells") rfl (Ev.int (Op2.itemN (i := 5) .list (hget 5 (by decide)) (Ev.int (Op2.modN (b := 5) (by decide) ?_)) (by lia)))))
  refine Ev.binop (Ev.binop (Ev.sub (Ev.name (x := "cells") rfl (Ev.int (Op2.itemN (i := 5) .list (hget 5 (by decide)) (Ev.int (Op2.divN (b := 5) (by decide) (Ev.int (Op2.modN (b := 6) (by decide) ?_)))) (by lia))))))
  refine Bind.three (t₁ := "letter") (t₂ := "behind") (t₃ := "blank") (.inr rfl) (.inl rfl) (.inr rfl) ?_
  refine Ex.has (ρ' := [("blank", .int (blankOf s)), ("behind", .int (behindOf s)), ("letter", .int (letterOf s)), ("cells", .list (nums (cellsN s)))]) ⟨rfl, rfl, rfl, rfl, trivial⟩ ?_
  refine Ex.cons (Ex1.assign (x := "small") (Ev.sub (Ev.str (l := [115, 102, 107]) rfl (Ev.name (x := "letter") rfl (Op2.item_s (by lia) (c := smallOf (letterOf s)) ?_ ?_)))) (.inr rfl) fun _ => rfl)
  · unfold smallOf
    rw [List.getD_eq_getElem?_getD, List.getElem?_eq_getElem (by simpa using hl3)]; rfl
  refine Ex.cons (Ex1.assignComp (x := "signs") [("letter", .int (letterOf s))] ⟨⟨rfl, rfl⟩, trivial⟩ (by decide +kernel) rfl (fun g hg => by cases List.mem_singleton.mp hg; exact ⟨rfl, fun _ _ => rfl⟩) ?_ rfl (fun env he => by cases env; dsimp only at he; subst he; rfl))
  refine Ev.sub (Ev.name (x := "cells") rfl (Ev.slice (Ev.int (Ev.int ⟨_, _, _, .int 1, .int 5, .none, Op2.slice .list (by decide) (by rw [hnl]; simp [sizeLine]) ?_⟩))))
  rw [show slcL (nums (cellsN s)) (some (1 : Int)) (some 5) none = nums (((cellsN s).drop 1).take 4) by
    rw [show (5 : Int) = ((5 : Nat) : Int) from rfl, show (1 : Int) = ((1 : Nat) : Int) from rfl, slcL_mid _ 1 5 (by decide) (by lia)]
    simp [nums, List.map_drop, List.map_take]]
  refine ⟨_, Iterable.list, ?_⟩
  refine Comp.pure1 (t := "cell") (fun _ => true) (fun v => match v with | .int c => .list ((wordP (letterOf s) c.toNat).map pairP) | _ => .none) rfl rfl (fun v hv K' hK' => hK') ?_ (by simp [nums, sizeLine]; lia) ?_
  · intro v hv _ K' hK'
    obtain ⟨c', hc', rfl⟩ := List.mem_map.mp hv
    obtain ⟨c, hc, rfl⟩ := List.mem_map.mp hc'
    exact Ev.callF T.word rfl (Ev.name (x := "letter") rfl (Ev.name (x := "cell") rfl ⟨rfl, op_word T hl3 hK'⟩)) rfl
  rw [List.filter_eq_self.mpr (fun _ _ => rfl), show ((nums (((cellsN s).drop 1).take 4)).map fun v => match v with | .int c => PV.list ((wordP (letterOf s) c.toNat).map pairP) | _ => .none) = rowsP (fourOf s) by
    unfold fourOf nums rowsP; rw [List.map_map, List.map_map, List.map_map]; rfl]
  refine Ex.has (ρ' := [("signs", .list (rowsP (fourOf s))), ("small", .str [smallOf (letterOf s)]), ("blank", .int (blankOf s)), ("behind", .int (behindOf s)), ("letter", .int (letterOf s)), ("cells", .list (nums (cellsN s)))]) ⟨rfl, rfl, rfl, rfl, rfl, rfl, trivial⟩ ?_
  have hrl : (rowsP (fourOf s)).length = 4 := by rw [List.length_map, h4]
  refine Ex.cons (Ex1.assign (x := "signs") (Ev.binop (Ev.binop (Ev.sub (Ev.name (x := "signs") rfl (Ev.slice (Ev.name (x := "behind") rfl ⟨_, _, _, .none, .int _, .none, Op2.slice .list (by decide) (by rw [hrl]; simp [sizeLine]) ?_⟩)))))) (.inl rfl) fun _ => rfl)
  rw [slcL_to]
  refine Ev.list1 (Ev.list1 (Ev.tuple2 (Ev.name (x := "small") rfl (Ev.int ?_)) rfl) rfl) rfl
  refine Op2.addl .list .list (by rw [List.length_take, hrl]; simp [sizeLine]; lia) ?_
  refine Ev.sub (Ev.name (x := "signs") rfl (Ev.slice (Ev.name (x := "behind") rfl ⟨_, _, _, .int _, .none, .none, Op2.slice .list (by decide) (by rw [hrl]; simp [sizeLine]) ?_⟩)))
  rw [slcL_from]
  refine Op2.addl .list .list (by rw [List.length_append, List.length_take, List.length_drop, hrl]; simp [sizeLine]; lia) ?_
  rw [show (rowsP (fourOf s)).take (behindOf s) ++ [PV.list [PV.tuple [PV.str [smallOf (letterOf s)], PV.int 1]]] ++ (rowsP (fourOf s)).drop (behindOf s) = rowsP (pairsOf s) by
    unfold pairsOf rowsP; rw [List.map_append, List.map_append, List.map_take, List.map_drop]; rfl]
  refine Ex.cons (Ex1.assign (x := "run") (Ev.binop (Ev.callF T.word rfl (Ev.name (x := "letter") rfl (Ev.sub (Ev.name (x := "cells") rfl (Ev.int (Op2.itemN (i := 6) .list (hget 6 (by decide)) ⟨rfl, op_word T hl3 ?_⟩ (by lia)))))) rfl)) (.inl rfl) fun _ => rfl)
  refine Ev.list1 (Ev.callF T.sign rfl (Ev.name (x := "letter") rfl (Ev.int (Ev.int ⟨rfl, op_sign (fig := 4) (pick := 0) T.chr hl3 (by decide) ?_⟩))) rfl) rfl
  refine Op2.addl .list .list ?zz ?_
  case zz =>
    have h1 := wordP_len (letterOf s) ((cellsN s).getD 6 0)
    have h2 : (16777216 : Nat) ≤ sizeLine := by decide
    rw [List.length_map, List.length_cons, List.length_nil]
    lia
  rw [show (wordP (letterOf s) ((cellsN s).getD 6 0)).map pairP ++ [sgn (letterOf s) 4 0] = (runOf s).map pairP by unfold runOf; rw [List.map_append]; rfl]
  refine Ex.has ?_ h
  exact ⟨rfl, rfl, rfl, rfl, rfl, trivial⟩
end
end Mine
end V31

section V32
open PySem PySem.W PyProof.Rows
set_option Elab.async false
set_option linter.unusedVariables false
set_option maxRecDepth 100000
namespace Mine
/-! ## the plain objects of 02 -/
noncomputable abbrev Sgns := List (Nat × Nat)
noncomputable def txt (w : Sgns) : List Nat := w.map (·.1)
noncomputable def siz (w : Sgns) : Nat := (w.map (·.2)).sum
noncomputable def rep (sm n : Nat) : List Nat := List.replicate n sm
noncomputable def vdsOf (W : List Sgns) (bl : Nat) : List (List Nat) := (List.range 5).map fun p => if p = bl then [] else (W.map txt).getD p []
noncomputable def mxOf (z : List Nat) : Nat := z.foldr max 0
noncomputable def coinsOf (z : List Nat) : List Nat := ((List.range (mxOf z)).map fun i => mxOf z - i).filter fun n => decide (n ∈ z)
noncomputable def topOf (z : List Nat) (e : Nat) : Nat := ((coinsOf z).take 2).sum + e
noncomputable def timesOf (z : List Nat) (e : Nat) (R : Sgns) : Nat := topOf z e / siz R + 1
structure Good2 (S : Int → Bool) (D : List (PyData × PyData)) (sm : Nat) (W : List Sgns) (R : Sgns) : Prop where
  b1 : ∀ w ∈ R :: W, ∀ p ∈ w, S (p.1 : Nat) = decide (p.2 = 0)
  ok : ∀ w ∈ R :: W, ∀ p ∈ w, b3ok D p.1 = true
  b3 : ∀ w ∈ R :: W, ∀ p ∈ w, p.2 ≠ 0 → b3of D p.1 = rep sm p.2
  low : ∀ w ∈ R :: W, ∀ p ∈ w, p.1 < 0x110000 ∧ p.2 ≤ 2
  five : W.length = 5
  seven : ∀ w ∈ W, w.length ≤ 7
  eight : R.length ≤ 8
  two : 2 ≤ siz R
  one : 1 ∈ W.map siz
  smLow : sm < 128
theorem mx_le {z : List Nat} : ∀ n ∈ z, n ≤ mxOf z := by
  induction z with
  | nil => intro n h; cases h
  | cons a r ih =>
    intro n h
    unfold mxOf
    rw [List.foldr_cons]
    rcases List.mem_cons.mp h with rfl | h
    · exact Nat.le_max_left ..
    · exact Nat.le_trans (ih n h) (Nat.le_max_right ..)
theorem mx_bound {z : List Nat} {m : Nat} (h : ∀ n ∈ z, n ≤ m) : mxOf z ≤ m := by
  induction z with
  | nil => exact Nat.zero_le _
  | cons a r ih => exact Nat.max_le.mpr ⟨h a List.mem_cons_self, ih fun n hn => h n (List.mem_cons_of_mem _ hn)⟩
theorem nums_sum (l : List Nat) : (l.map fun (n : Nat) => (n : Int)).sum = ((l.sum : Nat) : Int) := by
  induction l with
  | nil => rfl
  | cons a r ih => rw [List.map_cons, List.sum_cons, List.sum_cons, ih, Int.natCast_add]
theorem siz_le {w : Sgns} {b n : Nat} (h : ∀ p ∈ w, p.2 ≤ b) (hn : w.length ≤ n) : siz w ≤ b * n := by
  have : siz w ≤ b * w.length := by
    unfold siz
    clear hn
    induction w with
    | nil => simp
    | cons p r ih =>
      have h1 := h p List.mem_cons_self
      have h2 := ih fun q hq => h q (List.mem_cons_of_mem _ hq)
      rw [List.map_cons, List.sum_cons, List.length_cons, Nat.mul_add]; lia
  exact Nat.le_trans this (Nat.mul_le_mul_left _ hn)
theorem take_sum_le : ∀ (l : List Nat) (n m : Nat), (∀ x ∈ l, x ≤ m) → (l.take n).sum ≤ n * m
  | _, 0, m, _ => by simp
  | [], n + 1, m, _ => by simp
  | a :: r, n + 1, m, h => by
    rw [List.take_succ_cons, List.sum_cons, Nat.add_mul, Nat.one_mul]
    have := take_sum_le r n m fun x hx => h x (List.mem_cons_of_mem _ hx)
    have := h a List.mem_cons_self
    lia
theorem coins_mem {z : List Nat} {n : Nat} : n ∈ coinsOf z ↔ n ∈ z ∧ 1 ≤ n := by
  unfold coinsOf
  rw [List.mem_filter, List.mem_map]
  constructor
  · rintro ⟨⟨i, hi, rfl⟩, h⟩
    have := List.mem_range.mp hi
    exact ⟨of_decide_eq_true h, by lia⟩
  · rintro ⟨h, h1⟩
    have := mx_le n h
    exact ⟨⟨mxOf z - n, List.mem_range.mpr (by lia), by lia⟩, decide_eq_true h⟩
section
variable {S : Int → Bool} {D : List (PyData × PyData)} {sm : Nat} {W : List Sgns} {R : Sgns} (G : Good2 S D sm W R)
include G
theorem Good2.sizes : ∀ n ∈ W.map siz, n ≤ 14 := fun n hn => by
  obtain ⟨w, hw, rfl⟩ := List.mem_map.mp hn
  exact siz_le (b := 2) (fun p hp => (G.low w (List.mem_cons_of_mem _ hw) p hp).2) (G.seven w hw)
theorem Good2.rs : siz R ≤ 16 := siz_le (b := 2) (fun p hp => (G.low R List.mem_cons_self p hp).2) G.eight
theorem Good2.top {e : Nat} (he : e < 8) : topOf (W.map siz) e ≤ 35 := by
  unfold topOf
  have := take_sum_le (coinsOf (W.map siz)) 2 14 fun x hx => G.sizes x (coins_mem.mp hx).1
  lia
theorem Good2.prepW : ∀ w ∈ R :: W, ∀ n, prep S D ((List.replicate n (txt w)).flatten) = rep sm (n * siz w) := by
  intro w hw n
  have key : prep S D (txt w) = rep sm (siz w) := by
    have h1 := G.b1 w hw
    have h2 := G.b3 w hw
    clear hw G
    induction w with
    | nil => rfl
    | cons p r ih =>
      have ih' := ih (fun q hq => h1 q (List.mem_cons_of_mem _ hq)) fun q hq => h2 q (List.mem_cons_of_mem _ hq)
      unfold prep at ih' ⊢
      have e1 : txt (p :: r) = p.1 :: txt r := rfl
      have e2 : siz (p :: r) = p.2 + siz r := rfl
      rw [e1, e2, List.filter_cons, h1 p List.mem_cons_self]
      unfold rep at *
      by_cases hp : p.2 = 0
      · simp only [hp, decide_true, Bool.not_true, Bool.false_eq_true, if_false, Nat.zero_add]; exact ih'
      · simp only [hp, decide_false, Bool.not_false, if_true, List.map_cons, List.flatten_cons]
        rw [ih', h2 p List.mem_cons_self hp, List.replicate_append_replicate]
  have app : ∀ x y, prep S D (x ++ y) = prep S D x ++ prep S D y := fun x y => by unfold prep; rw [List.filter_append, List.map_append, List.flatten_append]
  induction n with
  | zero => simp [prep, rep]
  | succ n ih =>
    rw [List.replicate_succ, List.flatten_cons, app, ih, key]
    unfold rep
    rw [List.replicate_append_replicate, Nat.succ_mul, Nat.add_comm]
theorem Good2.prep1 : ∀ w ∈ R :: W, prep S D (txt w) = rep sm (siz w) := fun w hw => by simpa using G.prepW w hw 1
end
/-! ## the walk's helpers -/
noncomputable def decP : PV → Nat × Nat
  | .tuple [.str [c], .int n] => (c, n.toNat)
  | _ => (0, 0)
noncomputable def decW : PV → Sgns
  | .list l => l.map decP
  | _ => []
theorem decP_pair (p : Nat × Nat) : decP (pairP p) = p := rfl
theorem decW_row (w : Sgns) : decW (.list (w.map pairP)) = w := by
  show (w.map pairP).map decP = w
  rw [List.map_map]
  have : decP ∘ pairP = id := by funext p; exact decP_pair p
  rw [this, List.map_id]
noncomputable def bsP : PV → Lo := fun v => match v with | .tuple [a, b] => [("size", b), ("sign", a)] | _ => []
section
variable {C : Cx} {k : Nat} {σ : Sto} {sc' : Scope} {w : Sgns} {p₀ p₁ p₂ p₃ : Pos} {x1 : Nat} {it : Expr} {scope : Scope} {K' : List PV → Sto → Prop}
theorem pairs_all : ∀ x ∈ w.map pairP, ∃ c, x = pairP c := fun x hx => let ⟨c, _, e⟩ := List.mem_map.mp hx; ⟨c, e.symm⟩
theorem bind_pair (h1 : (rel scope sc').names.lookup (Str.ofString "sign") = some .local) (h2 : (rel scope sc').names.lookup (Str.ofString "size") = some .local) : ∀ x ∈ w.map pairP, ∀ ρ (K' : Lo → Sto → Prop), K' (bsP x ++ ρ) σ → Bind C k (rel scope sc') ρ σ (.Tuple [.Name (Str.ofString "sign") p₁, .Name (Str.ofString "size") p₂] x1 p₃) x ownL K' := fun x hx ρ K' hK => by
  obtain ⟨c, rfl⟩ := pairs_all x hx
  exact Bind.pair h1 h2 hK
theorem comp_signs (h1 : (rel scope sc').names.lookup (Str.ofString "sign") = some .local) (h2 : (rel scope sc').names.lookup (Str.ofString "size") = some .local) (hl : w.length ≤ 1000) (hK : K' ((w.map fun p => [p.1]).map .str) σ) :
    Comp C k sc' [] (.Name (Str.ofString "sign") p₀) ⟨.Tuple [.Name (Str.ofString "sign") p₁, .Name (Str.ofString "size") p₂] x1 p₃, it, [], 0⟩ [] scope (w.map pairP) σ K' := by
  refine Comp.pure bsP (fun _ => true) (fun v => match v with | .tuple [a, _] => a | _ => .none) (bind_pair h1 h2) (fun x hx y d hy => by cases hy) (fun v hv K' hK' => hK') ?_ (by rw [List.length_map]; simp [sizeLine]; lia) ?_
  · intro v hv _ K' hK'
    obtain ⟨c, rfl⟩ := pairs_all v hv
    exact Ev.name (x := "sign") rfl hK'
  · rw [List.filter_eq_self.mpr (fun _ _ => rfl), List.map_map]
    rw [List.map_map] at hK
    exact hK
theorem comp_sizes (h1 : (rel scope sc').names.lookup (Str.ofString "sign") = some .local) (h2 : (rel scope sc').names.lookup (Str.ofString "size") = some .local) (hl : w.length ≤ 1000) (hK : K' (((w.map (·.2)).map fun (n : Nat) => (n : Int)).map .int) σ) :
    Comp C k sc' [] (.Name (Str.ofString "size") p₀) ⟨.Tuple [.Name (Str.ofString "sign") p₁, .Name (Str.ofString "size") p₂] x1 p₃, it, [], 0⟩ [] scope (w.map pairP) σ K' := by
  refine Comp.pure bsP (fun _ => true) (fun v => match v with | .tuple [_, b] => b | _ => .none) (bind_pair h1 h2) (fun x hx y d hy => by cases hy) (fun v hv K' hK' => hK') ?_ (by rw [List.length_map]; simp [sizeLine]; lia) ?_
  · intro v hv _ K' hK'
    obtain ⟨c, rfl⟩ := pairs_all v hv
    exact Ev.name (x := "size") rfl hK'
  · rw [List.filter_eq_self.mpr (fun _ _ => rfl), List.map_map]
    rw [List.map_map, List.map_map] at hK
    exact hK
end
theorem flat_txt (w : Sgns) : (w.map fun p => [p.1]).flatten = txt w := by
  unfold txt
  induction w with
  | nil => rfl
  | cons p r ih => rw [List.map_cons, List.flatten_cons, ih]; rfl
theorem flat_txt_len (w : Sgns) : ((w.map fun p => [p.1]).map List.length).sum = w.length := by
  induction w with
  | nil => rfl
  | cons p r ih => rw [List.map_cons, List.map_cons, List.sum_cons, ih]; simp; lia
end Mine
end V32

section V33
open PySem PySem.W PyProof.Rows
set_option Elab.async false
set_option linter.unusedVariables false
set_option maxRecDepth 100000
namespace Mine
noncomputable def fPrep (S : Int → Bool) (D : List (PyData × PyData)) : PV → PV
  | .str x => .str (prep S D x)
  | _ => .none
noncomputable def fVd (W : List Sgns) (bl : Nat) : PV → PV
  | .int i => .str (if i.toNat = bl then [] else (W.map txt).getD i.toNat [])
  | _ => .none
noncomputable def kCoin (z : List Nat) : PV → Bool
  | .int i => decide (i.toNat ∈ z)
  | _ => false
noncomputable def fRep (sm : Nat) : PV → PV
  | .int i => .str (rep sm i.toNat)
  | _ => .none
theorem any_nums (z : List Nat) (n : Nat) : ((nums z).any fun y => peq y (.int (n : Nat))) = decide (n ∈ z) := by
  unfold nums
  rw [List.any_map, List.any_map]
  induction z with
  | nil => rfl
  | cons a r ih =>
    rw [List.any_cons, ih]
    show (peq (.int (a : Nat)) (.int (n : Nat)) || _) = _
    rw [peq_int]
    by_cases h : a = n
    · subst h; simp
    · have h1 : ¬ ((a : Int) = (n : Int)) := by lia
      have h2 : ¬ n = a := fun q => h q.symm
      simp [h1, h2]
theorem rep_mul (sm n : Nat) : (List.replicate n [sm]).flatten = rep sm n := by
  unfold rep
  induction n with
  | zero => rfl
  | succ n ih => rw [List.replicate_succ, List.flatten_cons, ih, List.replicate_succ]; rfl
theorem rep_low {sm n : Nat} (h : sm < 128) : ∀ c ∈ rep sm n, c < 0x110000 := fun c hc => by
  have := (List.mem_replicate.mp hc).2; lia
section
variable {C : Cx} {N : Addr} {mN : Str → Option Value} {S : Int → Bool} {D : List (PyData × PyData)} {tT tA : Addr} (T : Top2 C N mN S D tT tA) {k : Nat} {σ : Sto}
include T
theorem w_law_b {sm : Nat} {W : List Sgns} {R : Sgns} (G : Good2 S D sm W R) {cs : List Nat} {bl : Nat} {K : Fl → Lo → Sto → Prop} (h7 : cs.length = 7)
    (h : Ex C (k + 5) (fScope (stAt 17)) [("whole", .str (rep sm (timesOf (W.map siz) (cs.getD 0 0 / 3 % 8) R * siz R))), ("top", .int (topOf (W.map siz) (cs.getD 0 0 / 3 % 8) : Nat)), ("coins", .list (nums (coinsOf (W.map siz)))),
      ("verdicts", .list ((vdsOf W bl).map .str)), ("fronts", .list (((W.map siz).map (rep sm)).map .str)), ("sizes", .list (nums (W.map siz)))] σ ((fBody (stAt 17)).drop 16) K) :
    Ex C (k + 5) (fScope (stAt 17)) [("run", .list (R.map pairP)), ("signs", .list (rowsP W)), ("small", .str [sm]), ("blank", .int bl), ("cells", .list (nums cs))] σ ((fBody (stAt 17)).drop 6) K := by
  have hline : (16777216 : Nat) ≤ sizeLine := by decide
  have h5 := G.five
  have hR8 := G.eight
  have hrow : (rowsP W).length = 5 := by rw [List.length_map, h5]
  -- for sign, size in ..
  refine Ex.cons (Ex1.for (J := fun rest ρ σ' => ∃ todo : Sgns, rest = todo.map pairP ∧ (∀ p ∈ todo, S (p.1 : Nat) = decide (p.2 = 0)) ∧ Has ρ [("run", .list (R.map pairP)), ("signs", .list (rowsP W)), ("small", .str [sm]), ("blank", .int bl), ("cells", .list (nums cs))] ∧ σ' = σ) ?_ ?_ ?_ fun _ _ => rfl)
  · refine Ev.binop (Ev.listComp [] trivial (by decide +kernel) rfl (fun g hg => by
      rcases List.mem_cons.mp hg with rfl | hg
      · exact ⟨rfl, fun _ _ => rfl⟩
      · cases List.mem_singleton.mp hg; exact ⟨rfl, fun _ _ => rfl⟩) ?_)
    refine Ev.name (x := "signs") rfl ⟨_, Iterable.list, ?_⟩
    have hlen : (W.flatMap fun w => w.map pairP).length ≤ 35 := by
      rw [List.length_flatMap]
      have : (W.map fun w => (w.map pairP).length).sum ≤ 7 * W.length := by
        have hs := G.seven
        clear hrow h G h5
        induction W with
        | nil => simp
        | cons w r ih =>
          have := hs w List.mem_cons_self
          have := ih fun x hx => hs x (List.mem_cons_of_mem _ hx)
          rw [List.map_cons, List.sum_cons, List.length_map, List.length_cons]; lia
      lia
    have e1 : ((rowsP W).flatMap fun v => (match v with | .list l => l | _ => []).map ((fun _ y => y) v)) = W.flatMap fun w => w.map pairP := by
      unfold rowsP
      rw [List.flatMap_map]
      have : ∀ w : Sgns, ((w.map pairP).map fun y => y) = w.map pairP := fun w => List.map_id' _
      exact congrArg (fun f => W.flatMap f) (funext fun w => this w)
    refine Comp.pure2 (t₁ := "word") (t₂ := "pair") (fun v => match v with | .list l => l | _ => []) (fun _ y => y) rfl rfl rfl rfl (by decide) ?_ ?_ ?_ ?_
    · intro v hv K' hK'
      obtain ⟨w, hw, rfl⟩ := List.mem_map.mp hv
      exact Ev.name (x := "word") rfl (hK' _ Iterable.list)
    · intro v hv y hy K' hK'
      exact Ev.name (x := "pair") rfl hK'
    · rw [e1]; lia
    rw [e1]
    refine Ev.name (x := "run") rfl (Op2.addl .list .list (by rw [List.length_map]; lia) ⟨_, Iterable.list, W.flatten ++ R, ?_, ?_, ⟨rfl, rfl, rfl, rfl, rfl, trivial⟩, rfl⟩)
    · rw [List.map_append, List.map_flatten, List.flatMap_def]
    · intro p hp
      rcases List.mem_append.mp hp with hp | hp
      · obtain ⟨w, hw, hpw⟩ := List.mem_flatten.mp hp
        exact G.b1 w (List.mem_cons_of_mem _ hw) p hpw
      · exact G.b1 R List.mem_cons_self p hp
  · rintro x r ρ' σ' ⟨todo, he, hin, hh, rfl⟩
    cases todo with
    | nil => cases he
    | cons c todo =>
    obtain ⟨rfl, rfl⟩ : x = pairP c ∧ r = todo.map pairP := by simpa using he
    refine Bind.pairF (t₁ := "sign") (t₂ := "size") (.inl rfl) (.inr rfl) ?_
    refine Ex.has (ρ' := [("size", .int (c.2 : Nat)), ("sign", .str [c.1]), ("run", .list (R.map pairP)), ("signs", .list (rowsP W)), ("small", .str [sm]), ("blank", .int bl), ("cells", .list (nums cs))]) ⟨rfl, rfl, hh.1, hh.2.1, hh.2.2.1, hh.2.2.2.1, hh.2.2.2.2.1, trivial⟩ ?_
    refine Ex.cons (Ex1.if (Tr.cmp (Ev.callF T.B.b1 rfl (Ev.name (x := "sign") rfl ⟨rfl, op_b1 T.B ?_⟩) rfl) rfl))
    refine Ev.cmp (Ev.name (x := "size") rfl (Ev.int (Op2.eqN (b := 0) ?_))) rfl
    rw [hin c List.mem_cons_self]
    refine Op2.isNot rfl rfl (OpB.bool ?_)
    rw [show (!pis (.bool (decide (c.2 = 0))) (.bool (decide (c.2 = 0)))) = false by simp [pis]]
    show Ex C (k + 5) _ _ _ [] _
    exact Ex.nil (Ex.nil ⟨todo, rfl, fun p hp => hin p (List.mem_cons_of_mem _ hp), ⟨rfl, rfl, rfl, rfl, rfl, trivial⟩, rfl⟩)
  rintro ρ' σ' ⟨todo, he, hin, hh, rfl⟩
  refine Ex.has hh ?_
  -- words
  refine Ex.cons (Ex1.assignS (x := "words") (Ev.listComp [] trivial (by decide +kernel) rfl (fun g hg => by cases List.mem_singleton.mp hg; exact ⟨rfl, fun _ _ => rfl⟩) ?_) (.inr rfl) (fun env he => by cases env; dsimp only at he; subst he; rfl))
  refine Ev.name (x := "signs") rfl ⟨_, Iterable.list, ?_⟩
  refine Comp.pure1 (t := "word") (fun _ => true) (fun v => .str (txt (decW v))) rfl rfl (fun v hv K' hK' => hK') ?_ (by lia) ?_
  · intro v hv _ K' hK'
    obtain ⟨w, hw, rfl⟩ := List.mem_map.mp hv
    have hw7 := G.seven w hw
    refine Ev.join (Ev.listComp [] trivial (by decide +kernel) rfl (fun g hg => by cases List.mem_singleton.mp hg; exact ⟨rfl, fun _ _ => rfl⟩) ?_) rfl rfl fun _ => rfl
    refine Ev.name (x := "word") rfl ⟨_, Iterable.list, comp_signs rfl rfl (by lia) ⟨_, .list, by rw [flat_txt_len]; lia, ?_⟩⟩
    rw [flat_txt]
    rw [decW_row] at hK'
    exact hK'
  rw [List.filter_eq_self.mpr (fun _ _ => rfl), show ((rowsP W).map fun v => PV.str (txt (decW v))) = (W.map txt).map .str by
    unfold rowsP; rw [List.map_map, List.map_map]; exact List.map_congr_left fun w _ => by show PV.str (txt (decW (.list (w.map pairP)))) = _; rw [decW_row]; rfl]
  -- sizes
  refine Ex.cons (Ex1.assignS (x := "sizes") (Ev.listComp [] trivial (by decide +kernel) rfl (fun g hg => by cases List.mem_singleton.mp hg; exact ⟨rfl, fun _ _ => rfl⟩) ?_) (.inr rfl) (fun env he => by cases env; dsimp only at he; subst he; rfl))
  refine Ev.name (x := "signs") rfl ⟨_, Iterable.list, ?_⟩
  refine Comp.pure1 (t := "word") (fun _ => true) (fun v => .int (siz (decW v) : Nat)) rfl rfl (fun v hv K' hK' => hK') ?_ (by lia) ?_
  · intro v hv _ K' hK'
    obtain ⟨w, hw, rfl⟩ := List.mem_map.mp hv
    have hw7 := G.seven w hw
    refine Ev.call1 T.sum rfl (Ev.listComp [] trivial (by decide +kernel) rfl (fun g hg => by cases List.mem_singleton.mp hg; exact ⟨rfl, fun _ _ => rfl⟩) ?_) rfl
    refine Ev.name (x := "word") rfl ⟨_, Iterable.list, comp_sizes rfl rfl (by lia) (OpL.sum .list ?_)⟩
    rw [nums_sum]
    rw [decW_row] at hK'
    exact hK'
  rw [List.filter_eq_self.mpr (fun _ _ => rfl), show ((rowsP W).map fun v => PV.int (siz (decW v) : Nat)) = nums (W.map siz) by
    unfold rowsP nums; rw [List.map_map, List.map_map, List.map_map]; exact List.map_congr_left fun w _ => by show PV.int (siz (decW (.list (w.map pairP))) : Nat) = _; rw [decW_row]; rfl]
  -- fronts
  have hwl : ((W.map txt).map PV.str).length = 5 := by rw [List.length_map, List.length_map, h5]
  refine Ex.cons (Ex1.assignS (x := "fronts") (Ev.listComp [] trivial (by decide +kernel) rfl (fun g hg => by cases List.mem_singleton.mp hg; exact ⟨rfl, fun _ _ => rfl⟩) ?_) (.inr rfl) (fun env he => by cases env; dsimp only at he; subst he; rfl))
  refine Ev.name (x := "words") rfl ⟨_, Iterable.list, ?_⟩
  refine Comp.pure1 (t := "word") (fun _ => true) (fPrep S D) rfl rfl (fun v hv K' hK' => hK') ?_ (by lia) ?_
  · intro v hv _ K' hK'
    obtain ⟨x, hx, rfl⟩ := List.mem_map.mp hv
    obtain ⟨w, hw, rfl⟩ := List.mem_map.mp hx
    have hw7 := G.seven w hw
    refine Ev.callF T.prep rfl (Ev.name (x := "word") rfl ⟨rfl, op_prep T (fun c hc => ?_) ?_ hK'⟩) rfl
    · obtain ⟨p, hp, rfl⟩ := List.mem_map.mp hc
      exact G.ok w (List.mem_cons_of_mem _ hw) p hp
    · unfold txt; rw [List.length_map]; lia
  rw [List.filter_eq_self.mpr (fun _ _ => rfl), show (((W.map txt).map PV.str).map (fPrep S D)) = ((W.map siz).map (rep sm)).map .str by
    rw [List.map_map, List.map_map, List.map_map, List.map_map]; exact List.map_congr_left fun w hw => by show PV.str (prep S D (txt w)) = PV.str (rep sm (siz w)); rw [G.prep1 w (List.mem_cons_of_mem _ hw)]]
  -- verdicts
  refine Ex.cons (Ex1.assignS (x := "verdicts") (Ev.listComp [("blank", .int bl), ("words", .list ((W.map txt).map .str))] ⟨⟨rfl, rfl⟩, ⟨rfl, rfl⟩, trivial⟩ (by decide +kernel) rfl (fun g hg => by cases List.mem_singleton.mp hg; exact ⟨rfl, fun _ _ => rfl⟩) ?_) (.inr rfl) (fun env he => by cases env; dsimp only at he; subst he; rfl))
  refine Ev.call1t T.range rfl (Ev.int (OpL.range1 ⟨_, Iterable.range0 (n := 5) (by decide), ?_⟩)) rfl
  refine Comp.pure1 (t := "place") (fun _ => true) (fVd W bl) rfl rfl (fun v hv K' hK' => hK') ?_ (by rw [List.length_map, List.length_range]; lia) ?_
  · intro v hv _ K' hK'
    obtain ⟨i, hi, rfl⟩ := List.mem_map.mp hv
    have hil := List.mem_range.mp hi
    refine Ev.ifexp (Tr.cmp (Ev.name (x := "place") rfl (Ev.name (x := "blank") rfl (Op2.eqN (OpB.bool ?_)))) rfl)
    unfold fVd at hK'
    simp only [Int.toNat_natCast] at hK'
    refine ite_dec (fun h1 => ?_) fun h1 => ?_
    · rw [if_pos h1] at hK'
      exact Ev.str (l := []) rfl hK'
    · rw [if_neg h1] at hK'
      refine Ev.sub (Ev.name (x := "words") rfl (Ev.name (x := "place") rfl (Op2.itemN .list ?_ hK' (by lia))))
      rw [List.getElem?_map, List.getD_eq_getElem?_getD, List.getElem?_eq_getElem (by rw [List.length_map]; lia)]; rfl
  rw [List.filter_eq_self.mpr (fun _ _ => rfl), show (((List.range 5).map fun (i : Nat) => PV.int (i : Int)).map (fVd W bl)) = (vdsOf W bl).map .str by
    unfold vdsOf; rw [List.map_map, List.map_map]; rfl]
  -- coins
  have hne : W.map siz ≠ [] := fun q => by have := congrArg List.length q; rw [List.length_map, h5] at this; cases this
  have hmx : mxOf (W.map siz) ≤ 14 := mx_bound G.sizes
  refine Ex.cons (Ex1.assignComp (x := "coins") [("sizes", .list (nums (W.map siz)))] ⟨⟨rfl, rfl⟩, trivial⟩ (by decide +kernel) rfl (fun g hg => by cases List.mem_singleton.mp hg; exact ⟨rfl, fun _ _ => rfl⟩) ?_ rfl (fun env he => by cases env; dsimp only at he; subst he; rfl))
  refine Ev.call3t T.range rfl (Ev.call1 T.max rfl (Ev.name (x := "sizes") rfl (OpL.max .list (by simpa using fun q : W = [] => hne (by rw [q]; rfl)) fun M hM hle => ?_)) rfl) rfl
  obtain ⟨m, hm, rfl⟩ := List.mem_map.mp hM
  have hmm : m = mxOf (W.map siz) := Nat.le_antisymm (mx_le m hm) (mx_bound fun n hn => by have := hle n (List.mem_map_of_mem hn); lia)
  subst hmm
  refine Ev.int (Ev.unary (Ev.int (Op1.neg (OpL.range3 (by decide) (PyProof.noPylong_small (by decide)) ⟨_, Iterable.rangeDown (by lia), ?_⟩))))
  refine Comp.pure1 (t := "size") (kCoin (W.map siz)) id rfl rfl ?_ (fun v hv _ K' hK' => ?_) (by rw [List.length_map, List.length_range]; lia) ?_
  · intro v hv K' hK'
    obtain ⟨i, hi, rfl⟩ := List.mem_map.mp hv
    refine TrAll.one (Tr.cmp (Ev.name (x := "size") rfl (Ev.name (x := "sizes") rfl (Op2.in .list plL_nums rfl (OpB.bool ?_)))) rfl)
    rw [any_nums]
    exact hK'
  · exact Ev.name (x := "size") rfl hK'
  rw [List.map_id, show (((List.range (mxOf (W.map siz))).map fun i => PV.int ((mxOf (W.map siz) - i : Nat) : Int)).filter (kCoin (W.map siz))) = nums (coinsOf (W.map siz)) by
    unfold coinsOf nums
    rw [List.filter_map, List.filter_map, List.map_map, List.map_map]; rfl]
  have hcl : (coinsOf (W.map siz)).length ≤ 14 := by
    unfold coinsOf
    refine Nat.le_trans (List.length_filter_le _ _) ?_
    rw [List.length_map, List.length_range]; exact hmx
  have hcn : (nums (coinsOf (W.map siz))).length ≤ 14 := by simpa [nums] using hcl
  have htop := G.top (e := cs.getD 0 0 / 3 % 8) (Nat.mod_lt _ (by decide))
  have hrs := G.rs
  have hrs2 := G.two
  -- top
  refine Ex.cons (Ex1.assign (x := "top") (Ev.binop (Ev.call1 T.sum rfl (Ev.sub (Ev.name (x := "coins") rfl (Ev.slice (Ev.int ⟨_, _, _, .none, .int 2, .none, Op2.slice .list (by decide) (by lia) ?_⟩)))) rfl)) (.inl rfl) fun _ => rfl)
  rw [show slcL (nums (coinsOf (W.map siz))) none (some (2 : Int)) none = nums ((coinsOf (W.map siz)).take 2) by
    rw [show (2 : Int) = ((2 : Nat) : Int) from rfl, slcL_to]; unfold nums; rw [← List.map_take, ← List.map_take]]
  refine OpL.sum .list ?_
  rw [nums_sum]
  have hnl : (nums cs).length = 7 := by simp [nums, h7]
  refine Ev.binop (Ev.binop (Ev.sub (Ev.name (x := "cells") rfl (Ev.int (Op2.itemN (i := 0) .list (nums_get (by lia)) (Ev.int (Op2.divN (b := 3) (by decide) (Ev.int (Op2.modN (b := 8) (by decide) (Op2.addN ?_))))) (by lia))))))
  refine Ex.has (ρ' := [("top", .int (topOf (W.map siz) (cs.getD 0 0 / 3 % 8) : Nat)), ("coins", .list (nums (coinsOf (W.map siz)))), ("verdicts", .list ((vdsOf W bl).map .str)), ("fronts", .list (((W.map siz).map (rep sm)).map .str)), ("sizes", .list (nums (W.map siz))), ("run", .list (R.map pairP)), ("small", .str [sm])]) ⟨rfl, rfl, rfl, rfl, rfl, rfl, rfl, trivial⟩ ?_
  generalize hz : W.map siz = z at *
  generalize he8 : cs.getD 0 0 / 3 % 8 = e8 at *
  have htm : timesOf z e8 R ≤ 36 := by
    unfold timesOf
    have := Nat.div_le_self (topOf z e8) (siz R)
    lia
  -- times
  refine Ex.cons (Ex1.assign (x := "times") (Ev.binop (Ev.binop (Ev.name (x := "top") rfl (Ev.call1 T.sum rfl (Ev.listComp [] trivial (by decide +kernel) rfl (fun g hg => by cases List.mem_singleton.mp hg; exact ⟨rfl, fun _ _ => rfl⟩) ?_) rfl)))) (.inl rfl) fun _ => rfl)
  refine Ev.name (x := "run") rfl ⟨_, Iterable.list, comp_sizes rfl rfl (by lia) (OpL.sum .list ?_)⟩
  rw [nums_sum]
  refine Op2.divN (b := siz R) (by lia) (Ev.int (Op2.addN (b := 1) ?_)) (by lia)
  show Ex C (k + 5) _ (("times", .int (timesOf z e8 R : Nat)) :: _) _ _ _
  -- whole
  refine Ex.cons (Ex1.assign (x := "whole") (Ev.callF T.prep rfl (Ev.binop (Ev.join (Ev.listComp [] trivial (by decide +kernel) rfl (fun g hg => by cases List.mem_singleton.mp hg; exact ⟨rfl, fun _ _ => rfl⟩) ?_) rfl rfl fun _ => rfl)) rfl) (.inl rfl) fun _ => rfl)
  refine Ev.name (x := "run") rfl ⟨_, Iterable.list, comp_signs rfl rfl (by lia) ⟨_, .list, by rw [flat_txt_len]; lia, ?_⟩⟩
  rw [flat_txt]
  refine Ev.name (x := "times") rfl (Op2.muls (by lia) (by lia) (by unfold txt; rw [List.length_map]; lia) ⟨rfl, op_prep T (fun c hc => ?_) ?_ ?_⟩)
  · obtain ⟨l, hl, hcl'⟩ := List.mem_flatten.mp hc
    rw [(List.mem_replicate.mp hl).2] at hcl'
    obtain ⟨p, hp, rfl⟩ := List.mem_map.mp hcl'
    exact G.ok R List.mem_cons_self p hp
  · rw [List.length_flatten, List.map_replicate, List.sum_replicate_nat]
    unfold txt
    rw [List.length_map, Int.toNat_natCast]
    have := Nat.mul_le_mul htm hR8
    lia
  rw [Int.toNat_natCast, G.prepW R List.mem_cons_self]
  -- if fronts != ..
  refine Ex.cons (Ex1.if (Tr.or2 (Tr.cmp (Ev.name (x := "fronts") rfl (Ev.listComp [("small", .str [sm])] ⟨⟨rfl, rfl⟩, trivial⟩ (by decide +kernel) rfl (fun g hg => by cases List.mem_singleton.mp hg; exact ⟨rfl, fun _ _ => rfl⟩) ?_)) rfl)))
  have hzs : ∀ n ∈ z, n ≤ 14 := hz ▸ G.sizes
  have hzl : z.length = 5 := by rw [← hz, List.length_map, h5]
  refine Ev.name (x := "sizes") rfl ⟨_, Iterable.list, ?_⟩
  refine Comp.pure1 (t := "size") (fun _ => true) (fRep sm) rfl rfl (fun v hv K' hK' => hK') ?_ (by simp [nums]; lia) ?_
  · intro v hv _ K' hK'
    obtain ⟨c', hc', rfl⟩ := List.mem_map.mp hv
    obtain ⟨n, hn, rfl⟩ := List.mem_map.mp hc'
    have := hzs n hn
    refine Ev.binop (Ev.name (x := "small") rfl (Ev.name (x := "size") rfl (Op2.muls (by lia) (by lia) (by simp) ?_)))
    rw [Int.toNat_natCast, rep_mul]
    exact hK'
  rw [List.filter_eq_self.mpr (fun _ _ => rfl), show ((nums z).map (fRep sm)) = (z.map (rep sm)).map .str by
    unfold nums; rw [List.map_map, List.map_map, List.map_map]; rfl]
  have plF : pl 60 (.list ((z.map (rep sm)).map .str)) = true := by
    rw [pl]
    refine plL_strs fun x hx => ?_
    obtain ⟨n, hn, rfl⟩ := List.mem_map.mp hx
    exact rep_low G.smLow
  refine Op2.ne plF plF (OpB.bool ?_)
  rw [peq_strs, decide_eq_true rfl]
  show Tr C (k + 5) _ _ _ _ _
  refine Tr.cmp (Ev.name (x := "whole") rfl (Ev.binop (Ev.name (x := "small") rfl (Ev.binop (Ev.name (x := "times") rfl (Ev.call1 T.sum rfl (Ev.listComp [] trivial (by decide +kernel) rfl (fun g hg => by cases List.mem_singleton.mp hg; exact ⟨rfl, fun _ _ => rfl⟩) ?_) rfl)))))) rfl
  refine Ev.name (x := "run") rfl ⟨_, Iterable.list, comp_sizes rfl rfl (by lia) (OpL.sum .list ?_)⟩
  rw [nums_sum]
  have htr : timesOf z e8 R * siz R ≤ 36 * 16 := Nat.mul_le_mul htm hrs
  refine Op2.mul ?_ (.of_left (intBits_le_64 (by lia) (by lia)))
  rw [← Int.natCast_mul]
  refine Op2.muls (by lia) (by show ((timesOf z e8 R * (R.map (·.2)).sum : Nat) : Int) ≤ _; have : timesOf z e8 R * (R.map (·.2)).sum ≤ 36 * 16 := htr; lia) (by simp) ?_
  rw [Int.toNat_natCast, rep_mul]
  refine Op2.ne (pl_str' (rep_low G.smLow)) (pl_str' (rep_low G.smLow)) (OpB.bool ?_)
  rw [peq_str', show (R.map (·.2)).sum = siz R from rfl, decide_eq_true rfl]
  show Ex C (k + 5) _ _ _ [] _
  refine Ex.nil ?_
  refine Ex.has ?_ h
  exact ⟨rfl, rfl, rfl, rfl, rfl, rfl, trivial⟩
end
end Mine
end V33

section V34
open PySem PySem.W PyProof.Rows
set_option Elab.async false
set_option linter.unusedVariables false
set_option maxRecDepth 100000
namespace Mine
noncomputable def ruleAt (sm : Nat) (z : List Nat) (vds : List (List Nat)) (p : Nat) : Rule := (rep sm (z.getD p 0), vds.getD p [], [])
noncomputable def rulesOf (sm : Nat) (z : List Nat) (vds : List (List Nat)) : List Rule := (List.range 5).map (ruleAt sm z vds)
noncomputable def tellN (sm : Nat) (z : List Nat) (vds : List (List Nat)) (n : Nat) : Option (List Nat) := allowF (rep sm n) (rulesOf sm z vds)
noncomputable def bigOf (coins : List Nat) (n : Nat) : Nat := (coins.find? fun c => decide (c ≤ n)).getD 0
noncomputable def atSize (z : List Nat) (vds : List (List Nat)) (t : Nat) : List (List Nat) := ((List.range 5).filter fun p => decide (z.getD p 0 = t)).map fun p => vds.getD p []
noncomputable def tookOf (z : List Nat) (vds : List (List Nat)) (n : Nat) (x : List Nat) : List Nat := ((List.range 5).filter fun p => decide (vds.getD p [] = x) && (decide (0 < z.getD p 0) && decide (z.getD p 0 ≤ n))).map fun p => z.getD p 0
noncomputable def mnOf : List Nat → Nat
  | [] => 0
  | a :: r => r.foldl min a
noncomputable def pieceL (coins : List Nat) : Nat → List Nat
  | 0 => [0]
  | n + 1 => pieceL coins n ++ [(pieceL coins n).getD (n + 1 - bigOf coins (n + 1)) 0 + 1]
noncomputable def leastL (coins : List Nat) : Nat → List Nat
  | 0 => [0]
  | n + 1 => leastL coins n ++ [1 + mnOf ((coins.filter fun c => decide (c ≤ n + 1)).map fun c => (leastL coins n).getD (n + 1 - c) 0)]
theorem pieceL_len (coins : List Nat) : ∀ n, (pieceL coins n).length = n + 1
  | 0 => rfl
  | n + 1 => by rw [pieceL, List.length_append, pieceL_len coins n]; rfl
theorem leastL_len (coins : List Nat) : ∀ n, (leastL coins n).length = n + 1
  | 0 => rfl
  | n + 1 => by rw [leastL, List.length_append, leastL_len coins n]; rfl
noncomputable def badL (coins : List Nat) (top : Nat) : List Nat := (List.range (top + 1)).filter fun n => !decide ((pieceL coins top).getD n 0 = (leastL coins top).getD n 0)
theorem foldl_min (r : List Nat) : ∀ a, r.foldl min a ≤ a ∧ (∀ x ∈ r, r.foldl min a ≤ x) ∧ (r.foldl min a = a ∨ r.foldl min a ∈ r) := by
  induction r with
  | nil => intro a; exact ⟨Nat.le_refl _, (fun x h => by cases h), .inl rfl⟩
  | cons b r ih =>
    intro a
    rw [List.foldl_cons]
    obtain ⟨h1, h2, h3⟩ := ih (min a b)
    refine ⟨Nat.le_trans h1 (Nat.min_le_left ..), fun x hx => ?_, ?_⟩
    · rcases List.mem_cons.mp hx with rfl | hx
      · exact Nat.le_trans h1 (Nat.min_le_right ..)
      · exact h2 x hx
    · rcases h3 with h3 | h3
      · rw [h3]
        by_cases hab : a ≤ b
        · exact .inl (Nat.min_eq_left hab)
        · exact .inr (by rw [Nat.min_eq_right (by lia)]; exact List.mem_cons_self)
      · exact .inr (List.mem_cons_of_mem _ h3)
theorem mn_unique {l : List Nat} {m : Nat} (h1 : m ∈ l) (h2 : ∀ a ∈ l, m ≤ a) : m = mnOf l := by
  cases l with
  | nil => cases h1
  | cons a r =>
    obtain ⟨q1, q2, q3⟩ := foldl_min r a
    refine Nat.le_antisymm ?_ ?_
    · rcases q3 with q3 | q3
      · show m ≤ r.foldl min a
        rw [q3]; exact h2 a List.mem_cons_self
      · exact h2 _ (List.mem_cons_of_mem _ q3)
    · rcases List.mem_cons.mp h1 with rfl | h1
      · exact q1
      · exact q2 m h1
/-- what allowance tells, plainly -/
structure Told2 (sm : Nat) (z : List Nat) (vds : List (List Nat)) : Prop where
  zero : alP (tellN sm z vds 0) = firstV (atSize z vds 0)
  zero' : atSize z vds 0 = [] → tellN sm z vds 0 = none
  pos : ∀ n, 1 ≤ n → ∃ x, tellN sm z vds n = some x ∧ x ∈ vds ∧ (∃ r, tookOf z vds n x = bigOf (coinsOf z) n :: r) ∧ firstV (atSize z vds (bigOf (coinsOf z) n)) = .str x ∧ 1 ≤ bigOf (coinsOf z) n ∧ bigOf (coinsOf z) n ≤ n
noncomputable abbrev intsN (l : List Nat) : List Int := l.map fun (n : Nat) => (n : Int)
/-- Pearson, for these sizes -/
structure Guess2 (coins : List Nat) (top : Nat) : Prop where
  hp : ∀ c ∈ intsN coins, 0 < c ∧ c < 2 ^ 30
  h64 : (foundOf (intsN coins)).length < 64
  hm : ∀ i j k, IntMulOk ((guessAt (intsN coins) i j).getD k 0) ((intsN coins).getD k 0)
  fin : ∀ ns' : List Int, ns'.Perm (foundOf (intsN coins)) → ns'.Pairwise (· ≤ ·) → (intsN (badL coins top)).take 1 = ns'.take 1
noncomputable def kAt (z : List Nat) (t : Nat) : PV → Bool
  | .int i => decide (z.getD i.toNat 0 = t)
  | _ => false
noncomputable def fVdAt (vds : List (List Nat)) : PV → PV
  | .int i => .str (vds.getD i.toNat [])
  | _ => .none
noncomputable def fRule (sm : Nat) (z : List Nat) (vds : List (List Nat)) : PV → PV
  | .int i => (ruleAt sm z vds i.toNat).pv
  | _ => .none
noncomputable def fVerd : PV → PV
  | .ext 0 (_ :: v :: _) => .str v
  | _ => .none
noncomputable abbrev places (ps : List Nat) : List PV := ps.map fun (i : Nat) => PV.int (i : Int)
theorem no_allow : typeLookup (.type "object") (Str.ofString "allowance") = pure none := by rw [typeLookup_type, builtinLookup_eq_fast]; kernel_rfl
theorem str_get {l : List (List Nat)} {i : Nat} (h : i < l.length) : (l.map PV.str)[i]? = some (.str (l.getD i [])) := by
  rw [List.getElem?_map, List.getD_eq_getElem?_getD, List.getElem?_eq_getElem h]; rfl
section
variable {C : Cx} {N : Addr} {mN : Str → Option Value} {S : Int → Bool} {D : List (PyData × PyData)} {tT tA : Addr} (T : Top2 C N mN S D tT tA) {k : Nat} {σ : Sto}
/-- [verdicts[place] for place in range(5) if sizes[place] == t] -/
theorem comp_at {sc' scope : Scope} {ρc : Lo} {z : List Nat} {vds : List (List Nat)} {t : Nat} {e : Expr} {it : Expr} {p1 p2 p3 p4 p5 p6 p7 p8 : Pos} {K' : List PV → Sto → Prop} (hz : z.length = 5) (hv : vds.length = 5)
    (h1 : (rel scope sc').names.lookup (Str.ofString "place") = some .local) (n1 : ρc.lookup "place" = none) (n2 : ρc.lookup "verdicts" = some (.list (vds.map .str))) (n3 : ρc.lookup "sizes" = some (.list (nums z)))
    (he : ∀ ρ (K : PV → Sto → Prop), (∀ x d, ρc.lookup x = some d → ρ.lookup x = some d) → K (.int (t : Nat)) σ → Ev C k (rel scope sc') ρ σ e K) (hb : behindInMarks .Eq e = false) (hK : K' ((atSize z vds t).map .str) σ) :
    Comp C k sc' ρc (.Subscript (.Name (Str.ofString "verdicts") p1) (.Name (Str.ofString "place") p2) p3) ⟨.Name (Str.ofString "place") p4, it, [.Compare (.Subscript (.Name (Str.ofString "sizes") p5) (.Name (Str.ofString "place") p6) p7) [.Eq] [e] p8], 0⟩ [] scope (places (List.range 5)) σ K' := by
  have nv : ∀ v, ((("place", v) :: ρc : Lo)).lookup "verdicts" = some (.list (vds.map .str)) := fun v => by rw [List.lookup_cons]; exact n2
  have ns : ∀ v, ((("place", v) :: ρc : Lo)).lookup "sizes" = some (.list (nums z)) := fun v => by rw [List.lookup_cons]; exact n3
  refine Comp.pure1 (t := "place") (kAt z t) (fVdAt vds) h1 n1 ?_ ?_ (by simp [sizeLine]) ?_
  · intro v hv' K'' hK''
    obtain ⟨i, hi, rfl⟩ := List.mem_map.mp hv'
    have hil := List.mem_range.mp hi
    refine TrAll.one (Tr.cmp (Ev.sub (Ev.name (x := "sizes") (ns _) (Ev.name (x := "place") rfl (Op2.itemN .list (nums_get (by lia)) (he _ _ ?_ (Op2.eqN (OpB.bool ?_))) (by simp [nums]; lia))))) hb)
    · intro x d hx
      rw [List.lookup_cons]
      by_cases q : x = "place"
      · subst q; rw [n1] at hx; cases hx
      · rw [beq_false_of_ne q]; exact hx
    · unfold kAt at hK''
      simp only [Int.toNat_natCast] at hK''
      exact hK''
  · intro v hv' _ K'' hK''
    obtain ⟨i, hi, rfl⟩ := List.mem_map.mp hv'
    have hil := List.mem_range.mp hi
    refine Ev.sub (Ev.name (x := "verdicts") (nv _) (Ev.name (x := "place") rfl (Op2.itemN .list (str_get (by lia)) ?_ (by rw [List.length_map]; lia))))
    unfold fVdAt at hK''
    simp only [Int.toNat_natCast] at hK''
    exact hK''
  · have e1 : ((places (List.range 5)).filter (kAt z t)).map (fVdAt vds) = (atSize z vds t).map .str := by
      unfold atSize places
      rw [List.filter_map, List.map_map, List.map_map]; rfl
    rw [e1]; exact hK
include T
theorem comp_rules {sc' scope : Scope} {sm : Nat} {z : List Nat} {vds : List (List Nat)} {it : Expr} {p1 p2 p3 p4 p5 p6 p7 p8 p9 : Pos} {K' : List PV → Sto → Prop} (hz : z.length = 5) (hv : vds.length = 5) {ps : List Nat} (hps : ∀ p ∈ ps, p < 5) (hpl : ps.length ≤ 5)
    (h1 : (rel scope sc').names.lookup (Str.ofString "place") = some .local) (h2 : (rel scope sc').names.lookup (Str.ofString "_law_rule") = some NameKind.globalImplicit) (hT : (tT, AO.tab) ∈ σ) (hK : K' ((ps.map (ruleAt sm z vds)).map Rule.pv) σ) :
    Comp C (k + 1) sc' [("fronts", .list ((z.map (rep sm)).map .str)), ("verdicts", .list (vds.map .str))] (.Call (.Name (Str.ofString "_law_rule") p1) [.Subscript (.Name (Str.ofString "fronts") p2) (.Name (Str.ofString "place") p3) p4, .Subscript (.Name (Str.ofString "verdicts") p5) (.Name (Str.ofString "place") p6) p7] [] p8)
      ⟨.Name (Str.ofString "place") p9, it, [], 0⟩ [] scope (places ps) σ K' := by
  refine Comp.pure1 (t := "place") (fun _ => true) (fRule sm z vds) h1 rfl (fun v hv K' hK' => hK') ?_ (by simp [sizeLine]; lia) ?_
  · intro v hv' _ K'' hK''
    obtain ⟨i, hi, rfl⟩ := List.mem_map.mp hv'
    have hil := hps i hi
    refine ev_rule T h2 (Ev.sub (Ev.name (x := "fronts") rfl (Ev.name (x := "place") rfl (Op2.itemN .list (str_get (by rw [List.length_map]; lia)) (Ev.sub (Ev.name (x := "verdicts") rfl (Ev.name (x := "place") rfl (Op2.itemN .list (str_get (by lia)) ⟨_, _, rfl, rfl, hT, ?_⟩ (by rw [List.length_map]; lia))))) (by rw [List.length_map, List.length_map]; lia))))) rfl
    unfold fRule ruleAt Rule.pv at hK''
    simp only [Int.toNat_natCast] at hK''
    have : (z.map (rep sm)).getD i [] = rep sm (z.getD i 0) := by
      rw [List.getD_eq_getElem?_getD, List.getD_eq_getElem?_getD, List.getElem?_map, List.getElem?_eq_getElem (by lia)]; rfl
    rw [this]
    exact hK''
  · rw [List.filter_eq_self.mpr (fun _ _ => rfl)]
    have : (places ps).map (fRule sm z vds) = (ps.map (ruleAt sm z vds)).map Rule.pv := by unfold places; rw [List.map_map, List.map_map]; rfl
    rw [this]; exact hK
end
end Mine
end V34

section V35
open PySem PySem.W PyProof.Rows
set_option Elab.async false
set_option linter.unusedVariables false
set_option maxRecDepth 100000
namespace Mine
theorem take_rep {sm L n : Nat} (h : n ≤ L) : (rep sm L).take n = rep sm n := by unfold rep; rw [List.take_replicate, Nat.min_eq_left h]
theorem alP_pl {n : Nat} {o : Option (List Nat)} (h : ∀ x, o = some x → ∀ c ∈ x, c < 0x110000) : pl (n + 1) (alP o) = true := by
  cases o with
  | none => rfl
  | some x => exact pl_str' (h x rfl)
theorem firstV_pl {n : Nat} {vs : List (List Nat)} (h : ∀ v ∈ vs, ∀ c ∈ v, c < 0x110000) : pl (n + 1) (firstV vs) = true := by
  have hd : ∀ l : List PV, (∀ v ∈ l, pl (n + 1) v = true) → l ≠ [] → pl (n + 1) (l.headD .none) = true := fun l hl hne => by
    cases l with
    | nil => exact absurd rfl hne
    | cons a r => exact hl a List.mem_cons_self
  unfold firstV
  refine hd _ (fun v hv => ?_) (by simp)
  rcases List.mem_append.mp hv with hv | hv
  · obtain ⟨x, hx, rfl⟩ := List.mem_map.mp hv
    refine pl_str' (h x ?_)
    rcases List.mem_append.mp hx with hx | hx
    · exact (List.mem_filter.mp hx).1
    · exact hx
  · rw [List.mem_singleton.mp hv]; rfl
noncomputable def kTook (z : List Nat) (vds : List (List Nat)) (n : Nat) (x : List Nat) : PV → Bool
  | .int i => decide (vds.getD i.toNat [] = x) && (decide (0 < z.getD i.toNat 0) && decide (z.getD i.toNat 0 ≤ n))
  | _ => false
noncomputable def fSz (z : List Nat) : PV → PV
  | .int i => .int (z.getD i.toNat 0 : Nat)
  | _ => .none
noncomputable def kLe (n : Nat) : PV → Bool
  | .int i => decide (i.toNat ≤ n)
  | _ => false
noncomputable def fLeast (l : List Nat) (n : Nat) : PV → PV
  | .int i => .int (l.getD (n - i.toNat) 0 : Nat)
  | _ => .none
noncomputable def kBad (p l : List Nat) : PV → Bool
  | .int i => !decide (p.getD i.toNat 0 = l.getD i.toNat 0)
  | _ => false
theorem nums_len (l : List Nat) : (nums l).length = l.length := by simp [nums]
theorem nums_append (l : List Nat) (n : Nat) : nums l ++ [PV.int (n : Nat)] = nums (l ++ [n]) := by simp [nums]
/-- the sizes and the verdicts of the five words -/
structure Five (sm : Nat) (z : List Nat) (vds : List (List Nat)) : Prop where
  sm : sm < 128
  z5 : z.length = 5
  zs : ∀ n ∈ z, n ≤ 14
  one : 1 ∈ z
  v5 : vds.length = 5
  vs : ∀ v ∈ vds, (∀ c ∈ v, c < 0x110000) ∧ v.length ≤ 7
section
variable {sm : Nat} {z : List Nat} {vds : List (List Nat)} (F : Five sm z vds)
include F
theorem Five.at_len (t : Nat) : (atSize z vds t).length ≤ 5 := by
  unfold atSize
  rw [List.length_map]
  refine Nat.le_trans (List.length_filter_le _ _) (by simp)
theorem Five.at_low (t : Nat) : ∀ v ∈ atSize z vds t, ∀ c ∈ v, c < 0x110000 := fun v hv' => by
  unfold atSize at hv'
  obtain ⟨i, hi, rfl⟩ := List.mem_map.mp hv'
  have hil := List.mem_range.mp (List.mem_filter.mp hi).1
  have := F.v5
  rw [List.getD_eq_getElem?_getD, List.getElem?_eq_getElem (by lia)]
  exact (F.vs _ (List.getElem_mem _)).1
theorem Five.vg (p : Nat) : (∀ c ∈ vds.getD p [], c < 0x110000) ∧ (vds.getD p []).length ≤ 7 := by
  rw [List.getD_eq_getElem?_getD]
  cases e : vds[p]? with
  | none => exact ⟨(fun c hc => by cases hc), by simp⟩
  | some v => exact F.vs v (List.mem_of_getElem? e)
theorem Five.zg (p : Nat) : z.getD p 0 ≤ 14 := by
  rw [List.getD_eq_getElem?_getD]
  cases e : z[p]? with
  | none => simp
  | some v => exact F.zs v (List.mem_of_getElem? e)
theorem Five.rok : ∀ r ∈ rulesOf sm z vds, r.ok := fun r hr => by
  unfold rulesOf at hr
  obtain ⟨p, hp, rfl⟩ := List.mem_map.mp hr
  refine ⟨?_, rep_low F.sm, ?_⟩
  · show (rep sm (z.getD p 0)).length ≤ _
    unfold rep; rw [List.length_replicate]; have := F.zg p; lia
  · have := (F.vg p).2
    show (vds.getD p []).length ≤ _
    lia
end
section
variable {C : Cx} {N : Addr} {mN : Str → Option Value} {S : Int → Bool} {D : List (PyData × PyData)} {tT tA : Addr} (T : Top2 C N mN S D tT tA) {k : Nat} {σ : Sto}
include T
theorem w_law_d {sm : Nat} {z : List Nat} {vds : List (List Nat)} {top L : Nat} (F : Five sm z vds) (htop : top ≤ 35) (hL : top ≤ L) (hL2 : L ≤ 600) (P2 : Told2 sm z vds) (G2 : Guess2 (coinsOf z) top) {K : Fl → Lo → Sto → Prop} (h : ∀ ρ' σ', (tT, AO.tab) ∈ σ' → K (.ret (.bool true)) ρ' σ')
    {a d a₁ d₁ r₁ u₁ a₂ d₂ r₂ u₂ : Addr} {fs : List (String × PV)} {q₁ q₂ : List PV} (hq : q₁ ++ q₂ = (rulesOf sm z vds).map Rule.pv) (M₁ : (a₁, AO.inst d₁ (fsNew u₁ r₁)) ∈ σ) (M₂ : (a₂, AO.inst d₂ (fsNew u₂ r₂)) ∈ σ) (R₁ : (r₁, AO.mlist q₁) ∈ σ) (R₂ : (r₂, AO.mlist q₂) ∈ σ)
    (Mb : (a, AO.inst d fs) ∈ σ) (hrl : fs.lookup "rulelines" = some (.list ((rulesOf sm z vds).map Rule.pv))) (hal : fs.lookup "allowance" = none) (hT : (tT, AO.tab) ∈ σ) :
    Ex C (k + 5) (fScope (stAt 17)) [("book", .raw (.ref a)), ("one", .raw (.ref a₁)), ("two", .raw (.ref a₂)), ("whole", .str (rep sm L)), ("top", .int (top : Nat)), ("coins", .list (nums (coinsOf z))), ("verdicts", .list (vds.map .str)), ("sizes", .list (nums z))] σ ((fBody (stAt 17)).drop 23) K := by
  have hline : (16777216 : Nat) ≤ sizeLine := by decide
  have hz := F.z5
  have hv := F.v5
  have hcl : (coinsOf z).length ≤ 14 := by
    unfold coinsOf
    refine Nat.le_trans (List.length_filter_le _ _) ?_
    rw [List.length_map, List.length_range]; exact mx_bound F.zs
  refine Ex.cons (Ex1.tgt (Ev.tuple2 (Ev.mlist (es := [_]) (Ev.int ⟨by simp [sizeLine], fun pa hpa => ?_⟩) rfl) rfl) (fun _ he => by rfl) (fun env he => by cases env; dsimp only at he; subst he; rfl))
  refine Ev.mlist (es := [_]) (Ev.int ⟨by simp [sizeLine], fun la hla => ?_⟩) rfl
  refine Bind.two (t₁ := "pieces") (t₂ := "least") (.inr rfl) (.inr rfl) ?_
  let ρ₀ : Lo := [("book", .raw (.ref a)), ("one", .raw (.ref a₁)), ("two", .raw (.ref a₂)), ("whole", .str (rep sm L)), ("top", .int (top : Nat)), ("coins", .list (nums (coinsOf z))), ("verdicts", .list (vds.map .str)), ("sizes", .list (nums z))]
  -- for size in range(1, top + 1)
  refine Ex.cons (Ex1.for (J := fun rest ρ σ' => ∃ n, n ≤ top ∧ rest = ((List.range top).drop n).map (fun i => PV.int ((1 + i : Nat) : Int)) ∧ Has ρ (("least", .raw (.ref la)) :: ("pieces", .raw (.ref pa)) :: ρ₀) ∧
      σ' = (la, .mlist (nums (leastL (coinsOf z) n))) :: (pa, .mlist (nums (pieceL (coinsOf z) n))) :: σ) ?_ ?_ ?_ fun _ _ => rfl)
  · refine Ev.call2t T.range rfl (Ev.int (Ev.binop (Ev.name (x := "top") rfl (Ev.int (Op2.addN (b := 1) (OpL.range2 ⟨(List.range top).map fun i => PV.int ((1 + i : Nat) : Int), ?it, 0, Nat.zero_le _, rfl, ⟨rfl, rfl, rfl, rfl, rfl, rfl, rfl, rfl, rfl, rfl, trivial⟩, rfl⟩)))))) rfl
    rw [Nat.add_comm top 1]; exact Iterable.rangeN (a := 1) (n := top) (by lia) (by lia)
  · rintro v r ρ' σ' ⟨n, hn, he, hh, rfl⟩
    have hlt : n < top := by
      have := congrArg List.length he
      simp at this; lia
    rw [List.drop_eq_getElem_cons (by simpa using hlt), List.getElem_range, List.map_cons] at he
    obtain ⟨rfl, rfl⟩ : v = PV.int ((1 + n : Nat) : Int) ∧ r = ((List.range top).drop (n + 1)).map (fun i => PV.int ((1 + i : Nat) : Int)) := by simpa using he
    rw [Nat.add_comm 1 n]
    generalize hσ : ((la, AO.mlist (nums (leastL (coinsOf z) n))) :: (pa, AO.mlist (nums (pieceL (coinsOf z) n))) :: σ : Sto) = σ₄
    have Mb₄ : (a, AO.inst d fs) ∈ σ₄ := by subst hσ; exact .tail _ (.tail _ Mb)
    have Ml₄ : (la, AO.mlist (nums (leastL (coinsOf z) n))) ∈ σ₄ := by subst hσ; exact at0
    have Mp₄ : (pa, AO.mlist (nums (pieceL (coinsOf z) n))) ∈ σ₄ := by subst hσ; exact at1
    obtain ⟨x, hx, hxv, ⟨tk, htk⟩, hfv, b1, b2⟩ := P2.pos (n + 1) (by lia)
    have hxl := (F.vs x hxv).1
    generalize hbg : bigOf (coinsOf z) (n + 1) = bg at *
    refine Bind.name (x := "size") (.inr rfl) ?_
    refine Ex.has (ρ' := ("size", .int ((n + 1 : Nat) : Int)) :: ("least", .raw (.ref la)) :: ("pieces", .raw (.ref pa)) :: ρ₀) ⟨rfl, hh.1, hh.2.1, hh.2.2.1, hh.2.2.2.1, hh.2.2.2.2.1, hh.2.2.2.2.2.1, hh.2.2.2.2.2.2.1, hh.2.2.2.2.2.2.2.1, hh.2.2.2.2.2.2.2.2.1, hh.2.2.2.2.2.2.2.2.2.1, trivial⟩ ?_
    -- told
    refine Ex.cons (Ex1.assign (x := "told") (Ev.meth T.E (x := "book") (m := "allowance") T.E.allow no_allow rfl Mb₄ hal (Ev.sub (Ev.name (x := "whole") rfl (Ev.slice (Ev.name (x := "size") rfl ⟨_, _, _, .none, .int _, .none, Op2.slice_s (by decide) ?z1 ?_⟩)))) rfl rfl fun _ => rfl) (.inr rfl) fun _ => rfl)
    case z1 => rw [slcS_eq, slcL_to, take_rep (by lia)]; unfold rep; rw [List.length_replicate]; lia
    rw [slcS_eq, slcL_to, take_rep (by lia)]
    refine fun f F' => op_allow T Mb₄ hrl F.rok (by unfold rep; rw [List.length_replicate]; lia) (rep_low F.sm) ?_ f F'
    show Ex C (k + 5) _ (("told", alP (tellN sm z vds (n + 1))) :: _) _ _ _
    rw [hx]
    show Ex C (k + 5) _ (("told", PV.str x) :: _) _ _ _
    -- took
    refine Ex.cons (Ex1.assignS (x := "took") (Ev.listComp [("sizes", .list (nums z)), ("verdicts", .list (vds.map .str)), ("told", .str x), ("size", .int ((n + 1 : Nat) : Int))] ⟨⟨rfl, rfl⟩, ⟨rfl, rfl⟩, ⟨rfl, rfl⟩, ⟨rfl, rfl⟩, trivial⟩ (by decide +kernel) rfl (fun g hg => by cases List.mem_singleton.mp hg; exact ⟨rfl, fun _ _ => rfl⟩) ?_) (.inr rfl) (fun env he => by cases env; dsimp only at he; subst he; rfl))
    refine Ev.call1t T.range rfl (Ev.int (OpL.range1 ⟨_, Iterable.range0 (n := 5) (by decide), ?_⟩)) rfl
    refine Comp.pure1 (t := "place") (kTook z vds (n + 1) x) (fSz z) rfl rfl ?_ ?_ (by rw [List.length_map, List.length_range]; lia) ?_
    · intro v hv' K' hK'
      obtain ⟨i, hi, rfl⟩ := List.mem_map.mp hv'
      have hil := List.mem_range.mp hi
      unfold kTook at hK'
      simp only [Int.toNat_natCast] at hK'
      refine TrAll.one (Tr.and2 (Tr.cmp (Ev.sub (Ev.name (x := "verdicts") rfl (Ev.name (x := "place") rfl (Op2.itemN .list (str_get (by lia)) (Ev.name (x := "told") rfl (Op2.eq (pl_str' (F.vg i).1) (pl_str' hxl) (OpB.bool ?_))) (by rw [List.length_map]; lia))))) rfl))
      rw [peq_str']
      refine ite_bool (fun h1 => ?_) fun h1 => ?_
      · rw [h1, Bool.true_and] at hK'
        refine Tr.chain2 (Ev.int (Ev.sub (Ev.name (x := "sizes") rfl (Ev.name (x := "place") rfl (Op2.itemN .list (nums_get (by lia)) (Op2.ltN (a := 0) (OpB.bool ?_)) (by rw [nums_len]; lia)))))) rfl
        refine ite_bool (fun h2 => ?_) fun h2 => ?_
        · rw [h2, Bool.true_and] at hK'
          exact Ev.name (x := "size") rfl (Op2.leN (OpB.bool hK'))
        · rw [h2, Bool.false_and] at hK'; exact hK'
      · rw [h1, Bool.false_and] at hK'; exact hK'
    · intro v hv' _ K' hK'
      obtain ⟨i, hi, rfl⟩ := List.mem_map.mp hv'
      have hil := List.mem_range.mp hi
      unfold fSz at hK'
      simp only [Int.toNat_natCast] at hK'
      exact Ev.sub (Ev.name (x := "sizes") rfl (Ev.name (x := "place") rfl (Op2.itemN .list (nums_get (by lia)) hK' (by rw [nums_len]; lia))))
    rw [show (((List.range 5).map fun (i : Nat) => PV.int (i : Int)).filter (kTook z vds (n + 1) x)).map (fSz z) = nums (tookOf z vds (n + 1) x) by
      unfold tookOf nums; rw [List.filter_map, List.map_map, List.map_map, List.map_map]; rfl, htk]
    have htl : tk.length ≤ 5 := by
      have h1 : (tookOf z vds (n + 1) x).length ≤ 5 := by
        unfold tookOf; rw [List.length_map]; exact Nat.le_trans (List.length_filter_le _ _) (by simp)
      rw [htk, List.length_cons] at h1; lia
    have hnb : (nums (bg :: tk)).length ≤ 6 := by rw [nums_len, List.length_cons]; lia
    -- if took == [] or ..
    refine Ex.cons (Ex1.if (Tr.or2 (Tr.cmp (Ev.name (x := "took") rfl (Ev.list (es := []) ⟨by simp [sizeLine], Op2.eq (by rw [pl]; exact plL_nums) (by simp [pl, plL]) (OpB.bool ?_)⟩ rfl)) rfl)))
    rw [show peq (.list (nums (bg :: tk))) (.list []) = false from peq_cons_nil _ _]
    show Tr C (k + 5) _ _ _ _ _
    refine Tr.cmp (Ev.name (x := "told") rfl (Ev.callF T.first rfl (Ev.listComp [("took", .list (nums (bg :: tk))), ("verdicts", .list (vds.map .str)), ("sizes", .list (nums z))] ⟨⟨rfl, rfl⟩, ⟨rfl, rfl⟩, ⟨rfl, rfl⟩, trivial⟩ (by decide +kernel) rfl (fun g hg => by cases List.mem_singleton.mp hg; exact ⟨rfl, fun _ _ => rfl⟩) ?_) rfl)) rfl
    refine Ev.call1t T.range rfl (Ev.int (OpL.range1 ⟨_, Iterable.range0 (n := 5) (by decide), ?_⟩)) rfl
    refine comp_at (t := bg) hz hv rfl rfl rfl rfl (fun ρ K hρ hK => Ev.sub (Ev.name (x := "took") (hρ _ _ rfl) (Ev.int (Op2.itemN (i := 0) .list (nums_get (by simp)) hK (by lia))))) rfl ?_
    refine ⟨rfl, op_first T (F.at_low bg) (by have := F.at_len bg; lia) ?_⟩
    rw [hfv]
    refine Op2.ne (pl_str' hxl) (pl_str' hxl) (OpB.bool ?_)
    rw [peq_str', decide_eq_true rfl]
    show Ex C (k + 5) _ _ _ [] _
    refine Ex.nil ?_
    -- pieces.append
    have hpl := pieceL_len (coinsOf z) n
    have hll := leastL_len (coinsOf z) n
    refine Ex.cons (Ex1.expr (Ev.append (Ev.name (x := "pieces") rfl ⟨pa, rfl, ⟨_, Mp₄⟩, Ev.binop (Ev.sub (Ev.name (x := "pieces") rfl (Ev.binop (Ev.name (x := "size") rfl (Ev.sub (Ev.name (x := "took") rfl (Ev.int (Op2.itemN (i := 0) .list (nums_get (by simp)) (Op2.sub ?_) (by lia)))))))))⟩) rfl rfl fun _ => rfl) fun _ => rfl)
    rw [show ((n + 1 : Nat) : Int) - (((bg :: tk).getD 0 0 : Nat) : Int) = ((n + 1 - bg : Nat) : Int) by show ((n + 1 : Nat) : Int) - (bg : Int) = _; lia]
    refine Op2.itemN (LRead.mut Mp₄) (nums_get (by lia)) (Ev.int (Op2.addN (b := 1) ?_)) (by rw [nums_len]; lia)
    subst hσ
    refine ⟨_, _, .there .here, by rw [nums_len]; lia, ?_⟩
    rw [nums_append, show pieceL (coinsOf z) n ++ [(pieceL (coinsOf z) n).getD (n + 1 - bg) 0 + 1] = pieceL (coinsOf z) (n + 1) by rw [pieceL, hbg]]
    -- least.append
    refine Ex.cons (Ex1.expr (Ev.append (Ev.name (x := "least") rfl ⟨la, rfl, ⟨_, at0⟩, Ev.binop (Ev.int (Ev.call1 T.min rfl (Ev.listComp [("least", .raw (.ref la)), ("size", .int ((n + 1 : Nat) : Int))] ⟨⟨rfl, rfl⟩, ⟨rfl, rfl⟩, trivial⟩ (by decide +kernel) rfl (fun g hg => by cases List.mem_singleton.mp hg; exact ⟨rfl, fun _ _ => rfl⟩) ?_) rfl))⟩) rfl rfl fun _ => rfl) fun _ => rfl)
    refine Ev.name (x := "coins") rfl ⟨_, Iterable.list, ?_⟩
    refine Comp.pure1 (t := "coin") (kLe (n + 1)) (fLeast (leastL (coinsOf z) n) (n + 1)) rfl rfl ?_ ?_ (by rw [nums_len]; lia) ?_
    · intro v hv' K' hK'
      obtain ⟨c', hc', rfl⟩ := List.mem_map.mp hv'
      obtain ⟨c, hc, rfl⟩ := List.mem_map.mp hc'
      unfold kLe at hK'
      simp only [Int.toNat_natCast] at hK'
      exact TrAll.one (Tr.cmp (Ev.name (x := "coin") rfl (Ev.name (x := "size") rfl (Op2.leN (OpB.bool hK')))) rfl)
    · intro v hv' hkeep K' hK'
      obtain ⟨c', hc', rfl⟩ := List.mem_map.mp hv'
      obtain ⟨c, hc, rfl⟩ := List.mem_map.mp hc'
      have hcn : c ≤ n + 1 := by
        unfold kLe at hkeep
        simpa using hkeep
      have hc1 := (coins_mem.mp hc).2
      unfold fLeast at hK'
      simp only [Int.toNat_natCast] at hK'
      refine Ev.sub (Ev.name (x := "least") rfl (Ev.binop (Ev.name (x := "size") rfl (Ev.name (x := "coin") rfl (Op2.sub ?_)))))
      rw [show ((n + 1 : Nat) : Int) - (c : Int) = ((n + 1 - c : Nat) : Int) by lia]
      exact Op2.itemN (LRead.mut at0) (nums_get (by lia)) hK' (by rw [nums_len]; lia)
    rw [show ((nums (coinsOf z)).filter (kLe (n + 1))).map (fLeast (leastL (coinsOf z) n) (n + 1)) = nums (((coinsOf z).filter fun c => decide (c ≤ n + 1)).map fun c => (leastL (coinsOf z) n).getD (n + 1 - c) 0) by
      unfold nums; rw [List.filter_map, List.filter_map, List.map_map, List.map_map, List.map_map, List.map_map]; rfl]
    refine OpL.min .list ?_ fun M hM hle => ?_
    · have h1 : 1 ∈ coinsOf z := coins_mem.mpr ⟨F.one, Nat.le_refl _⟩
      have h2 : 1 ∈ (coinsOf z).filter fun c => decide (c ≤ n + 1) := List.mem_filter.mpr ⟨h1, decide_eq_true (by lia)⟩
      intro q
      have q' := congrArg List.length q
      rw [List.length_map, List.length_map, List.length_nil] at q'
      rw [List.length_eq_zero_iff.mp q'] at h2
      cases h2
    obtain ⟨mN, hmN, rfl⟩ := List.mem_map.mp hM
    have hmm := mn_unique hmN fun b hb => by have := hle b (List.mem_map_of_mem hb); lia
    subst hmm
    refine Op2.addN (a := 1) ?_
    refine ⟨_, _, .here, by rw [nums_len]; lia, ?_⟩
    rw [nums_append, show leastL (coinsOf z) n ++ [1 + mnOf (((coinsOf z).filter fun c => decide (c ≤ n + 1)).map fun c => (leastL (coinsOf z) n).getD (n + 1 - c) 0)] = leastL (coinsOf z) (n + 1) by rw [leastL]]
    exact Ex.nil ⟨n + 1, hlt, rfl, ⟨rfl, rfl, rfl, rfl, rfl, rfl, rfl, rfl, rfl, rfl, trivial⟩, rfl⟩
  rintro ρ' σ' ⟨n, hn, he, hh, rfl⟩
  have hnt : n = top := by
    have := congrArg List.length he
    simp at this; lia
  subst hnt
  refine Ex.has hh ?_
  have hql : q₁.length + q₂.length = 5 := by
    have := congrArg List.length hq
    rw [List.length_append, List.length_map] at this
    rw [this]; rfl
  have hpl := pieceL_len (coinsOf z) n
  have hll := leastL_len (coinsOf z) n
  -- if [rule.allowance ..] != verdicts + verdicts
  refine Ex.cons (Ex1.if (Tr.cmp (Ev.listComp [] trivial (by decide +kernel) rfl (fun g hg => by cases List.mem_singleton.mp hg; exact ⟨rfl, fun _ _ => rfl⟩) ?_) rfl))
  refine Ev.binop (Ev.binop (Ev.fld T.E (x := "one") (f := "rulelines") T.E.rl rfl (.tail _ (.tail _ M₁)) rfl (Ev.fld T.E (x := "two") (f := "rulelines") T.E.rl rfl (.tail _ (.tail _ M₂)) rfl (Op2.addl (LRead.mut (.tail _ (.tail _ R₁))) (LRead.mut (.tail _ (.tail _ R₂))) (by lia) (Ev.fld T.E (x := "book") (f := "rulelines") T.E.rl rfl (.tail _ (.tail _ Mb)) hrl (Op2.addl .list .list ?z1 ⟨_, Iterable.list, ?_⟩))))))
  case z1 => rw [hq, List.length_map]; simp [rulesOf]; lia
  rw [hq]
  have hrl5 : (rulesOf sm z vds).length = 5 := by simp [rulesOf]
  have hrv : ((rulesOf sm z vds).map Rule.pv).map fVerd = vds.map .str := by
    unfold rulesOf
    rw [List.map_map, List.map_map]
    have e1 : (List.range 5).map ((fVerd ∘ Rule.pv) ∘ ruleAt sm z vds) = ((List.range 5).map fun p => vds.getD p []).map .str := by rw [List.map_map]; rfl
    rw [e1]
    congr 1
    match vds, hv with
    | [v0, v1, v2, v3, v4], _ => rfl
  refine Comp.pure1 (t := "rule") (fun _ => true) fVerd rfl rfl (fun v hv K' hK' => hK') ?_ (by rw [List.length_append, List.length_map]; lia) ?_
  · intro v hv' _ K' hK'
    have : ∃ r, v = Rule.pv r := by
      rcases List.mem_append.mp hv' with q | q
      · obtain ⟨r, _, rfl⟩ := List.mem_map.mp q; exact ⟨r, rfl⟩
      · obtain ⟨r, _, rfl⟩ := List.mem_map.mp q; exact ⟨r, rfl⟩
    obtain ⟨⟨r1, r2, r3⟩, rfl⟩ := this
    exact Ev.attr (Ev.name (x := "rule") rfl (Op1.allowance T.X fn_no_allow hK')) fun _ => rfl
  rw [List.filter_eq_self.mpr (fun _ _ => rfl), List.map_append, hrv]
  have hvv : ∀ v ∈ vds ++ vds, ∀ c ∈ v, c < 0x110000 := fun v hv' => by
    rcases List.mem_append.mp hv' with q | q
    · exact (F.vs v q).1
    · exact (F.vs v q).1
  refine Ev.binop (Ev.name (x := "verdicts") rfl (Ev.name (x := "verdicts") rfl (Op2.addl .list .list (by rw [List.length_map]; lia) ?_)))
  rw [← List.map_append]
  refine Op2.ne (by rw [pl]; exact plL_strs hvv) (by rw [pl]; exact plL_strs hvv) (OpB.bool ?_)
  rw [peq_strs, decide_eq_true rfl]
  show Ex C (k + 5) _ _ _ [] _
  refine Ex.nil ?_
  -- return
  refine Ex.cons (Ex1.ret (Ev.cmp (Ev.sub (Ev.listComp [("pieces", .raw (.ref pa)), ("least", .raw (.ref la))] ⟨⟨rfl, rfl⟩, ⟨rfl, rfl⟩, trivial⟩ (by decide +kernel) rfl (fun g hg => by cases List.mem_singleton.mp hg; exact ⟨rfl, fun _ _ => rfl⟩) ?_)) rfl))
  refine Ev.call1t T.range rfl (Ev.binop (Ev.name (x := "top") rfl (Ev.int (Op2.addN (b := 1) (OpL.range1 ⟨_, Iterable.range0 (n := n + 1) (by lia), ?_⟩))))) rfl
  refine Comp.pure1 (t := "size") (kBad (pieceL (coinsOf z) n) (leastL (coinsOf z) n)) id rfl rfl ?_ (fun v hv' _ K' hK' => Ev.name (x := "size") rfl hK') (by rw [List.length_map, List.length_range]; lia) ?_
  · intro v hv' K' hK'
    obtain ⟨i, hi, rfl⟩ := List.mem_map.mp hv'
    have hil := List.mem_range.mp hi
    unfold kBad at hK'
    simp only [Int.toNat_natCast] at hK'
    refine TrAll.one (Tr.cmp (Ev.sub (Ev.name (x := "pieces") rfl (Ev.name (x := "size") rfl (Op2.itemN (LRead.mut at1) (nums_get (by lia)) (Ev.sub (Ev.name (x := "least") rfl (Ev.name (x := "size") rfl (Op2.itemN (LRead.mut at0) (nums_get (by lia)) (Op2.ne rfl rfl (OpB.bool ?_)) (by rw [nums_len]; lia))))) (by rw [nums_len]; lia))))) rfl)
    rw [peq_int]
    have e : decide ((((pieceL (coinsOf z) n).getD i 0 : Nat) : Int) = (((leastL (coinsOf z) n).getD i 0 : Nat) : Int)) = decide ((pieceL (coinsOf z) n).getD i 0 = (leastL (coinsOf z) n).getD i 0) := decide_eq_decide.mpr (by lia)
    rw [e]; exact hK'
  rw [List.map_id, show (((List.range (n + 1)).map fun (i : Nat) => PV.int (i : Int)).filter (kBad (pieceL (coinsOf z) n) (leastL (coinsOf z) n))) = nums (badL (coinsOf z) n) by
    unfold badL nums; rw [List.filter_map, List.map_map]; rfl]
  have hbl : (badL (coinsOf z) n).length ≤ 36 := by
    unfold badL
    refine Nat.le_trans (List.length_filter_le _ _) ?_
    rw [List.length_range]; lia
  refine Ev.slice (Ev.int ⟨_, _, _, .none, .int 1, .none, Op2.slice .list (by decide) (by rw [nums_len]; lia) ?_⟩)
  rw [show slcL (nums (badL (coinsOf z) n)) none (some (1 : Int)) none = ((intsN (badL (coinsOf z) n)).take 1).map .int by
    rw [show (1 : Int) = ((1 : Nat) : Int) from rfl, slcL_to]; unfold nums; rw [← List.map_take]]
  have h1 : 1 ∈ coinsOf z := coins_mem.mpr ⟨F.one, Nat.le_refl _⟩
  have hc1 : 1 ≤ (coinsOf z).length := List.length_pos_of_mem h1
  refine Ev.sub (Ev.callF T.guess rfl (Ev.name (x := "coins") rfl ⟨rfl, op_guess (cs := intsN (coinsOf z)) T G2.hp (by rw [List.length_map]; exact hc1) (by rw [List.length_map]; lia) G2.h64 G2.hm fun ns' hperm hsort => ?_⟩) rfl)
  have hnl : ns'.length < 64 := by rw [hperm.length_eq]; exact G2.h64
  refine Ev.slice (Ev.int ⟨_, _, _, .none, .int 1, .none, Op2.slice .list (by decide) (by rw [List.length_map]; lia) ?_⟩)
  rw [show slcL (ns'.map PV.int) none (some (1 : Int)) none = (ns'.take 1).map .int by
    rw [show (1 : Int) = ((1 : Nat) : Int) from rfl, slcL_to, List.map_take], ← G2.fin ns' hperm hsort]
  have hpi : pl 60 (.list (((intsN (badL (coinsOf z) n)).take 1).map .int)) = true := by
    rw [pl]; exact plL_map fun x _ => rfl
  refine Op2.eq hpi hpi ?_
  rw [peq_refl hpi]
  exact h _ _ (.tail _ (.tail _ hT))
theorem w_law_c {sm : Nat} {z : List Nat} {vds : List (List Nat)} {top L : Nat} (F : Five sm z vds) (htop : top ≤ 35) (hL : top ≤ L) (hL2 : L ≤ 600)
    (hT : (tT, AO.tab) ∈ σ) (P2 : Told2 sm z vds) (G2 : Guess2 (coinsOf z) top) {K : Fl → Lo → Sto → Prop} (h : ∀ ρ' σ', (tT, AO.tab) ∈ σ' → K (.ret (.bool true)) ρ' σ') :
    Ex C (k + 5) (fScope (stAt 17)) [("whole", .str (rep sm L)), ("top", .int (top : Nat)), ("coins", .list (nums (coinsOf z))), ("verdicts", .list (vds.map .str)), ("fronts", .list ((z.map (rep sm)).map .str)), ("sizes", .list (nums z))] σ ((fBody (stAt 17)).drop 16) K := by
  have hline : (16777216 : Nat) ≤ sizeLine := by decide
  have hz := F.z5
  have hv := F.v5
  have hat := F.at_len
  have hatl := F.at_low
  have hrok := F.rok
  -- one, two
  refine Ex.cons (Ex1.swap2 "one" "two" (Ev.entry T.E rfl fun a₁ d₁ u₁ r₁ ha₁ hd₁ hu₁ hr₁ hn₁ => Ev.entry T.E rfl fun a₂ d₂ u₂ r₂ ha₂ hd₂ hu₂ hr₂ hn₂ => ?_) rfl (by decide +kernel) (fun env he => by cases env; dsimp only at he; subst he; rfl) rfl)
  refine Ex.cons (Ex1.expr (Ev.extend (Ev.fld T.E (x := "one") (f := "rulelines") T.E.rl rfl at5 rfl ⟨r₁, rfl, ⟨_, at3⟩, Ev.listComp [("fronts", .list ((z.map (rep sm)).map .str)), ("verdicts", .list (vds.map .str))] ⟨⟨rfl, rfl⟩, ⟨rfl, rfl⟩, trivial⟩ (by decide +kernel) rfl (fun g hg => by cases List.mem_singleton.mp hg; exact ⟨rfl, fun _ _ => rfl⟩) ?_⟩) rfl rfl fun _ => rfl) fun _ => rfl)
  refine Ev.tuple2 (Ev.int (Ev.int ⟨_, Iterable.tuple, comp_rules (ps := [0, 1]) T hz hv (by decide) (by decide) rfl rfl (.tail _ (.tail _ (.tail _ (.tail _ (.tail _ (.tail _ hT)))))) ?_⟩)) rfl
  refine ⟨[], _, _, .list, .there (.there (.there .here)), by simp, ?_⟩
  refine Ex.cons (Ex1.expr (Ev.extend (Ev.fld T.E (x := "two") (f := "rulelines") T.E.rl rfl at2 rfl ⟨r₂, rfl, ⟨_, at0⟩, Ev.listComp [("fronts", .list ((z.map (rep sm)).map .str)), ("verdicts", .list (vds.map .str))] ⟨⟨rfl, rfl⟩, ⟨rfl, rfl⟩, trivial⟩ (by decide +kernel) rfl (fun g hg => by cases List.mem_singleton.mp hg; exact ⟨rfl, fun _ _ => rfl⟩) ?_⟩) rfl rfl fun _ => rfl) fun _ => rfl)
  refine Ev.tuple3 (Ev.int (Ev.int (Ev.int ⟨_, Iterable.tuple, comp_rules (ps := [2, 3, 4]) T hz hv (by decide) (by decide) rfl rfl (.tail _ (.tail _ (.tail _ (.tail _ (.tail _ (.tail _ hT)))))) ?_⟩))) rfl
  refine ⟨[], _, _, .list, .here, by simp, ?_⟩
  simp only [List.nil_append]
  generalize hq₁ : ([0, 1].map (ruleAt sm z vds)).map Rule.pv = q₁
  generalize hq₂ : ([2, 3, 4].map (ruleAt sm z vds)).map Rule.pv = q₂
  have hq : q₁ ++ q₂ = (rulesOf sm z vds).map Rule.pv := by rw [← hq₁, ← hq₂, ← List.map_append, ← List.map_append]; rfl
  have l₁ : q₁.length = 2 := by rw [← hq₁]; rfl
  have l₂ : q₂.length = 3 := by rw [← hq₂]; rfl
  generalize hσ : ((r₂, AO.mlist q₂) :: (u₂, AO.mlist []) :: (a₂, AO.inst d₂ (fsNew u₂ r₂)) :: (r₁, AO.mlist q₁) :: (u₁, AO.mlist []) :: (a₁, AO.inst d₁ (fsNew u₁ r₁)) :: σ) = σ₁
  have M₁ : (a₁, AO.inst d₁ (fsNew u₁ r₁)) ∈ σ₁ := by subst hσ; exact at5
  have M₂ : (a₂, AO.inst d₂ (fsNew u₂ r₂)) ∈ σ₁ := by subst hσ; exact at2
  have R₁ : (r₁, AO.mlist q₁) ∈ σ₁ := by subst hσ; exact at3
  have R₂ : (r₂, AO.mlist q₂) ∈ σ₁ := by subst hσ; exact at0
  have T₁ : (tT, AO.tab) ∈ σ₁ := by subst hσ; exact .tail _ (.tail _ (.tail _ (.tail _ (.tail _ (.tail _ hT)))))
  have E₁ : EntAt σ₁ a₁ [] q₁ .none .none := by subst hσ; exact ⟨d₁, _, at5, ⟨u₁, rfl, at4⟩, ⟨r₁, rfl, at3⟩, rfl, rfl⟩
  have E₂ : EntAt σ₁ a₂ [] q₂ .none .none := by subst hσ; exact ⟨d₂, _, at2, ⟨u₂, rfl, at1⟩, ⟨r₂, rfl, at0⟩, rfl, rfl⟩
  clear hσ
  -- book
  refine Ex.cons (Ex1.assign (x := "book") (Ev.callF T.E.merge rfl (Ev.name (x := "one") rfl (Ev.name (x := "two") rfl ⟨rfl, op_merge T.E E₁ E₂ (by simp) (by simp) (by lia) rfl rfl rfl rfl rfl rfl fun a d tl htl ha hd hne => ?_⟩)) rfl) (.inl rfl) fun _ => rfl)
  rw [hq]
  generalize hfs : fsMer (([] : List (List Nat)).filter fun x => decide (x ∈ ([] : List (List Nat)))) ((rulesOf sm z vds).map Rule.pv) (orP .none .none) (orP .none .none) tl = fs
  have hrl : fs.lookup "rulelines" = some (.list ((rulesOf sm z vds).map Rule.pv)) := by rw [← hfs]; rfl
  have hal : fs.lookup "allowance" = none := by obtain ⟨u, r, rfl⟩ := htl; rw [← hfs]; rfl
  clear hfs
  have M₁' : (a₁, AO.inst d₁ (fsNew u₁ r₁)) ∈ (a, AO.inst d fs) :: σ₁ := .tail _ M₁
  have M₂' : (a₂, AO.inst d₂ (fsNew u₂ r₂)) ∈ (a, AO.inst d fs) :: σ₁ := .tail _ M₂
  have R₁' : (r₁, AO.mlist q₁) ∈ (a, AO.inst d fs) :: σ₁ := .tail _ R₁
  have R₂' : (r₂, AO.mlist q₂) ∈ (a, AO.inst d fs) :: σ₁ := .tail _ R₂
  have T₁' : (tT, AO.tab) ∈ (a, AO.inst d fs) :: σ₁ := .tail _ T₁
  have Mb : (a, AO.inst d fs) ∈ (a, AO.inst d fs) :: σ₁ := at0
  generalize (a, AO.inst d fs) :: σ₁ = σ₂ at *
  clear E₁ E₂ M₁ M₂ R₁ R₂ T₁
  -- empty
  refine Ex.cons (Ex1.assignComp (x := "empty") [("verdicts", .list (vds.map .str)), ("sizes", .list (nums z))] ⟨⟨rfl, rfl⟩, ⟨rfl, rfl⟩, trivial⟩ (by decide +kernel) rfl (fun g hg => by cases List.mem_singleton.mp hg; exact ⟨rfl, fun _ _ => rfl⟩) ?_ rfl (fun env he => by cases env; dsimp only at he; subst he; rfl))
  refine Ev.call1t T.range rfl (Ev.int (OpL.range1 ⟨_, Iterable.range0 (n := 5) (by decide), ?_⟩)) rfl
  refine comp_at (t := 0) hz hv rfl rfl rfl rfl (fun ρ K hρ hK => Ev.int hK) rfl ?_
  -- told
  refine Ex.cons (Ex1.assign (x := "told") (Ev.meth T.E (x := "book") (m := "allowance") T.E.allow no_allow rfl Mb hal (Ev.str (l := []) rfl fun f F' => op_allow T Mb hrl hrok (by simp) (fun c hc => by cases hc) ?_ f F') rfl rfl fun _ => rfl) (.inr rfl) fun _ => rfl)
  show Ex C (k + 5) _ (("told", alP (tellN sm z vds 0)) :: _) _ _ _
  have t0 : ∀ x, tellN sm z vds 0 = some x → ∀ c ∈ x, c < 0x110000 := fun x hx => by
    have h0 := P2.zero
    rw [hx] at h0
    intro c hc
    have hp : pl 60 (alP (some x)) = true := by rw [h0]; exact firstV_pl (hatl 0)
    have : pl 60 (.str x) = true := hp
    rw [pl] at this
    simpa using List.all_eq_true.mp this c hc
  refine Ex.cons (Ex1.if (Tr.or2 (Tr.cmp (Ev.name (x := "told") rfl (Ev.callF T.first rfl (Ev.name (x := "empty") rfl ⟨rfl, op_first T (hatl 0) (by have := hat 0; lia) ?_⟩) rfl)) rfl)))
  refine Op2.ne (alP_pl t0) (firstV_pl (hatl 0)) (OpB.bool ?_)
  rw [P2.zero, peq_refl (n := 60) (firstV_pl (hatl 0))]
  show Tr C (k + 5) _ _ _ _ _
  refine Tr.and2 (Tr.cmp (Ev.name (x := "empty") rfl (Ev.list (es := []) ⟨by simp [sizeLine], Op2.eq (by rw [pl]; exact plL_strs (hatl 0)) (by simp [pl, plL]) (OpB.bool ?_)⟩ rfl)) rfl)
  cases hemp : atSize z vds 0 with
  | cons v r =>
    rw [List.map_cons, peq_cons_nil]
    show Ex C (k + 5) _ _ _ [] _
    refine Ex.nil ?_
    refine Ex.has ?_ (w_law_d T F htop hL hL2 P2 G2 h hq M₁' M₂' R₁' R₂' Mb hrl hal T₁')
    exact ⟨rfl, rfl, rfl, rfl, rfl, rfl, rfl, rfl, trivial⟩
  | nil =>
    rw [List.map_nil, peq_nil]
    show Tr C (k + 5) _ _ _ _ _
    refine Tr.cmp (Ev.name (x := "told") rfl (Ev.bool (Op2.isNot (a := firstV []) rfl rfl (OpB.bool ?_)))) rfl
    show Ex C (k + 5) _ _ _ [] _
    refine Ex.nil ?_
    refine Ex.has ?_ (w_law_d T F htop hL hL2 P2 G2 h hq M₁' M₂' R₁' R₂' Mb hrl hal T₁')
    exact ⟨rfl, rfl, rfl, rfl, rfl, rfl, rfl, rfl, trivial⟩
end
end Mine
end V35

section V36
open PySem PySem.W PyProof.Rows
set_option Elab.async false
set_option linter.unusedVariables false
set_option maxRecDepth 100000
namespace Mine
/-- the plain law of 02 -/
structure Plain2 (S : Int → Bool) (D : List (PyData × PyData)) : Prop where
  good : ∀ s, Good2 S D (smallOf (letterOf s)) (pairsOf s) (runOf s)
  told : ∀ s, Told2 (smallOf (letterOf s)) ((pairsOf s).map siz) (vdsOf (pairsOf s) (blankOf s))
  guess : ∀ s e, e < 8 → Guess2 (coinsOf ((pairsOf s).map siz)) (topOf ((pairsOf s).map siz) e)
section
variable {C : Cx} {N : Addr} {mN : Str → Option Value} {S : Int → Bool} {D : List (PyData × PyData)} {tT tA : Addr} (T : Top2 C N mN S D tT tA) {k : Nat} {σ : Sto}
include T
theorem w_law (L : Plain2 S D) {s : List Int} {K : PV → Sto → Prop} (hs : s.length ≤ 63) (hT : (tT, AO.tab) ∈ σ) (h : ∀ σ', (tT, AO.tab) ∈ σ' → K (.bool true) σ') :
    Ex C (k + 5) (fScope (stAt 17)) [("script", .list (s.map .int))] σ (fBody (stAt 17)) (fun g _ σ' => match g with | .ret d => K d σ' | .next => K .none σ' | _ => False) := by
  have G := L.good s
  have h8 : (cellsN s).getD 0 0 / 3 % 8 < 8 := Nat.mod_lt _ (by decide)
  have hrs := G.rs
  have hrs2 := G.two
  have htop := G.top h8
  refine w_law_a T hs (w_law_b T G (cellsN_len s) (w_law_c T ⟨G.smLow, by rw [List.length_map, G.five], G.sizes, G.one, by simp [vdsOf], fun v hv => ?_⟩ htop ?_ ?_ hT (L.told s) (L.guess s _ h8) fun ρ' σ' => h σ'))
  · unfold vdsOf at hv
    obtain ⟨p, hp, rfl⟩ := List.mem_map.mp hv
    split
    · exact ⟨(fun c hc => by cases hc), by simp⟩
    · rw [List.getD_eq_getElem?_getD, List.getElem?_map]
      cases e : (pairsOf s)[p]? with
      | none => exact ⟨(fun c hc => by cases hc), by simp⟩
      | some w =>
        have hw := List.mem_of_getElem? e
        refine ⟨fun c hc => ?_, ?_⟩
        · obtain ⟨q, hq, rfl⟩ := List.mem_map.mp hc
          exact (G.low w (List.mem_cons_of_mem _ hw) q hq).1
        · show (txt w).length ≤ 7
          unfold txt; rw [List.length_map]; exact G.seven w hw
  · unfold timesOf
    generalize topOf ((pairsOf s).map siz) ((cellsN s).getD 0 0 / 3 % 8) = t
    have := Nat.div_add_mod t (siz (runOf s))
    have := Nat.mod_lt t (show siz (runOf s) > 0 by lia)
    rw [Nat.add_mul, Nat.one_mul, Nat.mul_comm]; lia
  · have h1 : timesOf ((pairsOf s).map siz) ((cellsN s).getD 0 0 / 3 % 8) (runOf s) ≤ 36 := by
      unfold timesOf
      have := Nat.div_le_self (topOf ((pairsOf s).map siz) ((cellsN s).getD 0 0 / 3 % 8)) (siz (runOf s))
      lia
    exact Nat.le_trans (Nat.mul_le_mul h1 hrs) (by decide)
end
end Mine
end V36

section J20
open PySem PySem.W PyProof.Rows
set_option Elab.async false
set_option linter.unusedVariables false
set_option maxRecDepth 1000000
namespace Mine
noncomputable section
noncomputable def YP (w : World) (h : Heap) : Prop := ∀ p ∈ KF w.params, h.get? p.1 = some p.2
theorem yp_of (w : World) (s : Shared) (e : kYf s = kYa w) : YP w s.heap := by
  have e' : (KF w.params).map (fun p => s.heap.get? p.1) = (KF w.params).map fun p => some p.2 := by
    have : kYf s = (KF w.params).map (fun p => s.heap.get? p.1) := by
      show kAs.map s.heap.get? = _
      rw [kf_addrs w.params, List.map_map]; rfl
    rw [← this]; exact e
  exact fun p hp => List.map_inj_left.mp e' p hp
theorem yp_keep (w : World) (h h' : Heap) (y : YP w h) (k : ∀ b o, h.get? b = some o → h'.get? b = some o) : YP w h' := fun p hp => k _ _ (y p hp)
noncomputable def dictEs (o : Obj) : Array DictEntry := match o.data with | .dict es _ => es | _ => #[]
noncomputable def nsOf (o : Obj) : Str → Option Value := fun x => nsFind (dictEs o) x
noncomputable def isD (o : Obj) : Bool := match o.data with | .dict es _ => es.all (fun e => match e.key with | .str _ _ => true | _ => false) | _ => false
theorem ns_of {h : Heap} {a : Addr} {o : Obj} (e : h.get? a = some o) (d : isD o = true) : h.Ns a (nsOf o) := by
  have h1 : h.isNs a = true := by unfold Heap.isNs; rw [e]; exact d
  have h2 := Heap.Ns.of_isNs h1
  have h3 : h.nsMap a = nsOf o := by
    funext x
    unfold Heap.nsMap nsOf dictEs
    rw [e]
    dsimp only
    unfold isD at d
    cases hd : o.data <;> rw [hd] at d <;> simp at d ⊢
  rwa [h3] at h2
/-- what stands but for the table of _law_rule's lambdas -/
noncomputable def tabA : Addr := 153
noncomputable def YQ (w : World) (h : Heap) : Prop := ∀ p ∈ KF w.params, p.1 ≠ tabA → h.get? p.1 = some p.2
theorem YP.q {w : World} {h : Heap} (y : YP w h) : YQ w h := fun p hp _ => y p hp
theorem at_kf {w : World} {h : Heap} (y : YQ w h) (i : Nat) {a : Addr} {o : Obj} (e : (KF w.params)[i]? = some (a, o)) (ha : a ≠ tabA := by decide) : h.get? a = some o := y _ (List.mem_of_getElem? e) ha
theorem kf_low (w : World) : ∀ p ∈ KF w.params, p.1 < 181 := fun p hp => by
  have : p.1 ∈ kAs := by rw [kf_addrs w.params]; exact List.mem_map_of_mem hp
  exact (by decide : ∀ a ∈ kAs, a < 181) _ this
theorem d3 (w : World) : isD (o3f w.params) = true := by kernel_rfl
theorem d0 (w : World) : isD (boot_o_0 w.params) = true := by kernel_rfl
theorem d51 (w : World) : isD (o51b w.params) = true := by kernel_rfl
theorem d2 (w : World) : isD (boot_o_2 w.params) = true := by kernel_rfl
theorem nl (w : World) : nsOf (boot_o_2 w.params) "sys.recursionlimit" = none := by kernel_rfl
end
end Mine
end J20

section J21
open PySem PySem.W PyProof.Rows
set_option Elab.async false
set_option linter.unusedVariables false
set_option maxRecDepth 1000000
namespace Mine
noncomputable section
/-- the numbers of table B.1 -/
noncomputable def b1L : List Int := [65024, 65025, 65026, 65027, 65028, 65029, 6150, 65030, 65031, 65032, 65033, 6155, 6156, 6157, 8203, 8204, 8205, 65034, 65035, 65036, 65037, 65038, 65039, 173, 847, 8288, 65279]
noncomputable def b1S (i : Int) : Bool := decide (i ∈ b1L)
noncomputable def setEs (o : Obj) : Array (Int × Value) := match o.data with | .set es _ _ => es | _ => #[]
noncomputable def setTb (o : Obj) : Nat × SetTable := match o.data with | .set _ n t => (n, t) | _ => (0, .fresh 0 0 true)
theorem set_data (w : World) : (o71c w.params).data = .set (setEs (o71c w.params)) (setTb (o71c w.params)).1 (setTb (o71c w.params)).2 := rfl
theorem set_vals (w : World) : (setEs (o71c w.params)).toList.map (fun e => match e.2 with | .int i _ => some (e.1, i) | _ => none) = b1L.map fun i => some (hashInt i, i) := by kernel_rfl
theorem set_size (w : World) : (setEs (o71c w.params)).size = 27 := by kernel_rfl
theorem set_fits (w : World) : (setTb (o71c w.params)).2.fits 27 = true := by kernel_rfl
theorem set_at {w : World} {h : Heap} (e : h.get? 71 = some (o71c w.params)) : h.SetOf (intKind PR w) 71 b1S 27 := by
  have hv := set_vals w
  have hel : ∀ x ∈ (setEs (o71c w.params)).toList, ∃ i t, x = (hashInt i, .int i t) ∧ i ∈ b1L := fun x hx => by
    have h1 : (match x.2 with | .int i _ => some (x.1, i) | _ => none) ∈ (setEs (o71c w.params)).toList.map (fun e => match e.2 with | .int i _ => some (e.1, i) | _ => none) := List.mem_map_of_mem hx
    rw [hv] at h1
    obtain ⟨i, hi, e⟩ := List.mem_map.mp h1
    obtain ⟨x1, x2⟩ := x
    cases x2 <;> simp at e
    obtain ⟨rfl, rfl⟩ := e
    exact ⟨i, _, rfl, hi⟩
  refine ⟨_, _, _, _, e, ⟨rfl, rfl, rfl⟩, set_data w, fun x hx => ?_, fun k => ?_, by rw [set_size]; decide, by rw [set_size]; exact set_fits w, set_size w⟩
  · obtain ⟨i, t, rfl, _⟩ := hel x hx
    exact ⟨⟨i, intKind_is _ _ _ _, rfl⟩, rfl⟩
  · unfold b1S
    rw [decide_eq_true_eq]
    constructor
    · intro hk
      have h1 : some (hashInt k, k) ∈ b1L.map fun i => some (hashInt i, i) := List.mem_map_of_mem hk
      rw [← hv] at h1
      obtain ⟨x, hx, e⟩ := List.mem_map.mp h1
      obtain ⟨i, t, rfl, _⟩ := hel x hx
      simp at e
      exact ⟨_, hx, by rw [e.2]; exact intKind_is _ _ _ _⟩
    · rintro ⟨x, hx, hk⟩
      obtain ⟨i, t, rfl, hi⟩ := hel x hx
      have : k = i := by
        have h1 : (intKind PR w).is i (.int i t) = true := intKind_is _ _ _ _
        exact (intKind PR w).inj _ _ _ hk h1
      rw [this]; exact hi
noncomputable def b3D : List (PyData × PyData) := dPE.map fun a => (.int a.k, .str a.x)
theorem ents_pairs {w : World} (st : Nat) : ∀ (t : Nat) (L : List PE), ∃ kvs : List (Int × Value), Pairs (intKind PR w) (ents st t L) kvs ∧ kvs.map (·.1) = L.map PE.k ∧ PyProof.V.FlatPairs PyData.int kvs (L.map fun a => (.int a.k, .str a.x)) ∧ ∀ e ∈ ents st t L, ∃ k, (intKind PR w).is k e.key = true ∧ e.hash = (intKind PR w).hash k
  | _, [] => ⟨[], .nil, rfl, .nil, fun e he => by cases he⟩
  | t, a :: r => by
    obtain ⟨kvs, h1, h2, h3, h4⟩ := ents_pairs (w := w) st (t + st) r
    refine ⟨(a.k, .str a.x (t + 1)) :: kvs, .cons (intKind_is _ _ _ _) rfl h1, by rw [List.map_cons, List.map_cons, h2], .cons ?_ h3, fun e he => ?_⟩
    · exact PyProof.V.Flat.str _ _
    · rcases List.mem_cons.mp he with rfl | he
      · exact ⟨a.k, intKind_is _ _ _ _, rfl⟩
      · exact h4 e he
theorem pairs_app {w : World} {es es' : List DictEntry} {kvs kvs' : List (Int × Value)} (h : Pairs (intKind PR w) es kvs) (h' : Pairs (intKind PR w) es' kvs') : Pairs (intKind PR w) (es ++ es') (kvs ++ kvs') := by
  induction h with
  | nil => exact h'
  | cons a b _ ih => exact .cons a b ih
theorem flat_app {kvs kvs' : List (Int × Value)} {D D' : List (PyData × PyData)} (h : PyProof.V.FlatPairs PyData.int kvs D) (h' : PyProof.V.FlatPairs PyData.int kvs' D') : PyProof.V.FlatPairs PyData.int (kvs ++ kvs') (D ++ D') := by
  induction h with
  | nil => exact h'
  | cons a _ ih => exact .cons a ih
theorem incr_nodup : ∀ {l : List PE} {lo : Int}, incrB lo l = true → (l.map PE.k).Nodup
  | [], _, _ => List.nodup_nil
  | a :: r, lo, h => by
    simp only [incrB, Bool.and_eq_true, decide_eq_true_eq] at h
    rw [List.map_cons, List.nodup_cons]
    refine ⟨fun q => ?_, incr_nodup h.2.2⟩
    obtain ⟨b, hb, e⟩ := List.mem_map.mp q
    have := (incr_gt h.2.2 b hb).1
    lia
theorem dict_at {w : World} {h : Heap} (e : h.get? 82 = some mdict) : IntTab PR w h 82 b3D := by
  have e1 : (chop 37 (dPE.drop 17)).flatten ++ dPE.drop 646 = dPE.drop 17 := by
    have := chop_flatten 37 (dPE.drop 17)
    rwa [List.drop_drop] at this
  have e2 : (dPE.take 17 ++ (chop 37 (dPE.drop 17)).flatten) ++ dPE.drop 646 = dPE := by rw [List.append_assoc, e1, List.take_append_drop]
  obtain ⟨k₁, a1, a2, a3, a4⟩ := ents_pairs (w := w) 3 329 (dPE.take 17 ++ (chop 37 (dPE.drop 17)).flatten)
  obtain ⟨k₂, b1, b2, b3, b4⟩ := ents_pairs (w := w) 2 (329 + 3 * 646) (dPE.drop 646)
  refine ⟨by decide, k₁ ++ k₂, ⟨_, _, _, e, ⟨rfl, rfl, rfl⟩, rfl, fun x hx => ?_, ?_, ?_⟩, ?_⟩
  · have hx' := Array.mem_toList_iff.mpr hx
    rcases List.mem_append.mp hx' with q | q
    · exact a4 x q
    · exact b4 x q
  · exact pairs_app a1 b1
  · rw [List.map_append, a2, b2, ← List.map_append, e2]; exact incr_nodup d_incr
  · have := flat_app a3 b3
    rw [← List.map_append, e2] at this
    exact this
end
end Mine
end J21

section J22
open PySem PySem.W PyProof.Rows
set_option Elab.async false
set_option linter.unusedVariables false
set_option maxRecDepth 1000000
namespace Mine
noncomputable section
theorem len1' {α : Type} {l : List α} (h : l.length = 1) : ∃ a, l = [a] := by
  cases l with | nil => cases h | cons a r => exact ⟨a, by rw [List.length_eq_zero_iff.mp (Nat.succ.inj h)]⟩
theorem len2' {α : Type} {l : List α} (h : l.length = 2) : ∃ a b, l = [a, b] := by
  cases l with | nil => cases h | cons a r => obtain ⟨b, rfl⟩ := len1' (Nat.succ.inj h); exact ⟨a, b, rfl⟩
theorem len3' {α : Type} {l : List α} (h : l.length = 3) : ∃ a b c, l = [a, b, c] := by
  cases l with | nil => cases h | cons a r => obtain ⟨b, c, rfl⟩ := len2' (Nat.succ.inj h); exact ⟨a, b, c, rfl⟩
theorem fn_at {C : Cx} {w : World} (hC : ∀ h, C.gi h → YQ w h) {a c : Addr} {i j : Nat} {names : List String} {st : Stmt} {o co : Obj} {fd : FuncData} (e : (KF w.params)[i]? = some (a, o)) (ec : (KF w.params)[j]? = some (c, co)) (hd : o.data = .func fd)
    (hcode : fd.code = .ref c) (hco : ∃ vs t, co.data = .fields vs ∧ vs[1]? = some (.str fd.qualname t)) (hb : fd.body = .stmts (fBody st) ∧ fd.scope = fScope st ∧ fd.closure = [] ∧ fd.globals = mainGlobals ∧ fd.builtins = builtinsNs)
    (hbind : ∀ vals : List Value, vals.length = names.length → bindArgs fd ⟨vals, []⟩ = pure ((names.map Str.ofString).zip vals)) (ha : a ≠ tabA ∧ c ≠ tabA := by decide) : FnAt C a names (fScope st) (fBody st) := fun h g => by
  obtain ⟨vs, t, h1, h2⟩ := hco
  exact ⟨o, fd, at_kf (hC h g) i e ha.1, hd, ⟨c, co, vs, t, hcode, at_kf (hC h g) j ec ha.2, h1, h2⟩, hb.1, hb.2.1, hb.2.2.1, hb.2.2.2.1, hb.2.2.2.2, hbind⟩
theorem bind_Entry_init (w : World) {fd : FuncData} (e : (o28b w.params).data = .func fd) : ∀ vals : List Value, vals.length = (["self"] : List String).length → bindArgs fd ⟨vals, []⟩ = pure (((["self"] : List String).map Str.ofString).zip vals) := by
  obtain rfl : _ = fd := Data.func.inj e
  intro vals hv
  obtain ⟨v0, rfl⟩ := len1' hv
  kernel_rfl
theorem fn_Entry_init {C : Cx} {w : World} (hC : ∀ h, C.gi h → YQ w h) : FnAt C 28 ["self"] (fScope (inCls (stAt 1) 0)) (fBody (inCls (stAt 1) 0)) :=
  fn_at hC (i := 28) (j := 27) (o := o28b w.params) (co := o27b w.params) rfl rfl rfl rfl ⟨_, _, rfl, rfl⟩ ⟨rfl, rfl, rfl, rfl, rfl⟩ (bind_Entry_init w rfl)
theorem bind_Entry_applies_to (w : World) {fd : FuncData} (e : (o42b w.params).data = .func fd) : ∀ vals : List Value, vals.length = (["self", "useragent"] : List String).length → bindArgs fd ⟨vals, []⟩ = pure (((["self", "useragent"] : List String).map Str.ofString).zip vals) := by
  obtain rfl : _ = fd := Data.func.inj e
  intro vals hv
  obtain ⟨v0, v1, rfl⟩ := len2' hv
  kernel_rfl
theorem fn_Entry_applies_to {C : Cx} {w : World} (hC : ∀ h, C.gi h → YQ w h) : FnAt C 42 ["self", "useragent"] (fScope (inCls (stAt 1) 2)) (fBody (inCls (stAt 1) 2)) :=
  fn_at hC (i := 42) (j := 41) (o := o42b w.params) (co := o41b w.params) rfl rfl rfl rfl ⟨_, _, rfl, rfl⟩ ⟨rfl, rfl, rfl, rfl, rfl⟩ (bind_Entry_applies_to w rfl)
theorem bind_Entry_allowance (w : World) {fd : FuncData} (e : (o49b w.params).data = .func fd) : ∀ vals : List Value, vals.length = (["self", "filename"] : List String).length → bindArgs fd ⟨vals, []⟩ = pure (((["self", "filename"] : List String).map Str.ofString).zip vals) := by
  obtain rfl : _ = fd := Data.func.inj e
  intro vals hv
  obtain ⟨v0, v1, rfl⟩ := len2' hv
  kernel_rfl
theorem fn_Entry_allowance {C : Cx} {w : World} (hC : ∀ h, C.gi h → YQ w h) : FnAt C 49 ["self", "filename"] (fScope (inCls (stAt 1) 3)) (fBody (inCls (stAt 1) 3)) :=
  fn_at hC (i := 49) (j := 48) (o := o49b w.params) (co := o48b w.params) rfl rfl rfl rfl ⟨_, _, rfl, rfl⟩ ⟨rfl, rfl, rfl, rfl, rfl⟩ (bind_Entry_allowance w rfl)
theorem bind_merge_entries (w : World) {fd : FuncData} (e : (o63b w.params).data = .func fd) : ∀ vals : List Value, vals.length = (["e1", "e2"] : List String).length → bindArgs fd ⟨vals, []⟩ = pure (((["e1", "e2"] : List String).map Str.ofString).zip vals) := by
  obtain rfl : _ = fd := Data.func.inj e
  intro vals hv
  obtain ⟨v0, v1, rfl⟩ := len2' hv
  kernel_rfl
theorem fn_merge_entries {C : Cx} {w : World} (hC : ∀ h, C.gi h → YQ w h) : FnAt C 63 ["e1", "e2"] (fScope (stAt 2)) (fBody (stAt 2)) :=
  fn_at hC (i := 63) (j := 62) (o := o63b w.params) (co := o62b w.params) rfl rfl rfl rfl ⟨_, _, rfl, rfl⟩ ⟨rfl, rfl, rfl, rfl, rfl⟩ (bind_merge_entries w rfl)
theorem bind_in_table_b1 (w : World) {fd : FuncData} (e : (o81d w.params).data = .func fd) : ∀ vals : List Value, vals.length = (["code"] : List String).length → bindArgs fd ⟨vals, []⟩ = pure (((["code"] : List String).map Str.ofString).zip vals) := by
  obtain rfl : _ = fd := Data.func.inj e
  intro vals hv
  obtain ⟨v0, rfl⟩ := len1' hv
  kernel_rfl
theorem fn_in_table_b1 {C : Cx} {w : World} (hC : ∀ h, C.gi h → YQ w h) : FnAt C 81 ["code"] (fScope (stAt 5)) (fBody (stAt 5)) :=
  fn_at hC (i := 81) (j := 80) (o := o81d w.params) (co := o80d w.params) rfl rfl rfl rfl ⟨_, _, rfl, rfl⟩ ⟨rfl, rfl, rfl, rfl, rfl⟩ (bind_in_table_b1 w rfl)
theorem bind_map_table_b3 (w : World) {fd : FuncData} (e : (o127f w.params).data = .func fd) : ∀ vals : List Value, vals.length = (["code"] : List String).length → bindArgs fd ⟨vals, []⟩ = pure (((["code"] : List String).map Str.ofString).zip vals) := by
  obtain rfl : _ = fd := Data.func.inj e
  intro vals hv
  obtain ⟨v0, rfl⟩ := len1' hv
  kernel_rfl
theorem fn_map_table_b3 {C : Cx} {w : World} (hC : ∀ h, C.gi h → YQ w h) : FnAt C 127 ["code"] (fScope (stAt 7)) (fBody (stAt 7)) :=
  fn_at hC (i := 89) (j := 88) (o := o127f w.params) (co := o126f w.params) rfl rfl rfl rfl ⟨_, _, rfl, rfl⟩ ⟨rfl, rfl, rfl, rfl, rfl⟩ (bind_map_table_b3 w rfl)
theorem bind_law_cells (w : World) {fd : FuncData} (e : (o134f w.params).data = .func fd) : ∀ vals : List Value, vals.length = (["script"] : List String).length → bindArgs fd ⟨vals, []⟩ = pure (((["script"] : List String).map Str.ofString).zip vals) := by
  obtain rfl : _ = fd := Data.func.inj e
  intro vals hv
  obtain ⟨v0, rfl⟩ := len1' hv
  kernel_rfl
theorem fn_law_cells {C : Cx} {w : World} (hC : ∀ h, C.gi h → YQ w h) : FnAt C 134 ["script"] (fScope (stAt 9)) (fBody (stAt 9)) :=
  fn_at hC (i := 96) (j := 95) (o := o134f w.params) (co := o133f w.params) rfl rfl rfl rfl ⟨_, _, rfl, rfl⟩ ⟨rfl, rfl, rfl, rfl, rfl⟩ (bind_law_cells w rfl)
theorem bind_law_sign (w : World) {fd : FuncData} (e : (o141f w.params).data = .func fd) : ∀ vals : List Value, vals.length = (["letter", "figure", "pick"] : List String).length → bindArgs fd ⟨vals, []⟩ = pure (((["letter", "figure", "pick"] : List String).map Str.ofString).zip vals) := by
  obtain rfl : _ = fd := Data.func.inj e
  intro vals hv
  obtain ⟨v0, v1, v2, rfl⟩ := len3' hv
  kernel_rfl
theorem fn_law_sign {C : Cx} {w : World} (hC : ∀ h, C.gi h → YQ w h) : FnAt C 141 ["letter", "figure", "pick"] (fScope (stAt 10)) (fBody (stAt 10)) :=
  fn_at hC (i := 103) (j := 102) (o := o141f w.params) (co := o140f w.params) rfl rfl rfl rfl ⟨_, _, rfl, rfl⟩ ⟨rfl, rfl, rfl, rfl, rfl⟩ (bind_law_sign w rfl)
theorem bind_law_word (w : World) {fd : FuncData} (e : (o146f w.params).data = .func fd) : ∀ vals : List Value, vals.length = (["letter", "cell"] : List String).length → bindArgs fd ⟨vals, []⟩ = pure (((["letter", "cell"] : List String).map Str.ofString).zip vals) := by
  obtain rfl : _ = fd := Data.func.inj e
  intro vals hv
  obtain ⟨v0, v1, rfl⟩ := len2' hv
  kernel_rfl
theorem fn_law_word {C : Cx} {w : World} (hC : ∀ h, C.gi h → YQ w h) : FnAt C 146 ["letter", "cell"] (fScope (stAt 11)) (fBody (stAt 11)) :=
  fn_at hC (i := 108) (j := 107) (o := o146f w.params) (co := o145f w.params) rfl rfl rfl rfl ⟨_, _, rfl, rfl⟩ ⟨rfl, rfl, rfl, rfl, rfl⟩ (bind_law_word w rfl)
theorem bind_law_prepared (w : World) {fd : FuncData} (e : (o151f w.params).data = .func fd) : ∀ vals : List Value, vals.length = (["text"] : List String).length → bindArgs fd ⟨vals, []⟩ = pure (((["text"] : List String).map Str.ofString).zip vals) := by
  obtain rfl : _ = fd := Data.func.inj e
  intro vals hv
  obtain ⟨v0, rfl⟩ := len1' hv
  kernel_rfl
theorem fn_law_prepared {C : Cx} {w : World} (hC : ∀ h, C.gi h → YQ w h) : FnAt C 151 ["text"] (fScope (stAt 12)) (fBody (stAt 12)) :=
  fn_at hC (i := 113) (j := 112) (o := o151f w.params) (co := o150f w.params) rfl rfl rfl rfl ⟨_, _, rfl, rfl⟩ ⟨rfl, rfl, rfl, rfl, rfl⟩ (bind_law_prepared w rfl)
theorem bind_law_rule (w : World) {fd : FuncData} (e : (o158f w.params).data = .func fd) : ∀ vals : List Value, vals.length = (["front", "verdict"] : List String).length → bindArgs fd ⟨vals, []⟩ = pure (((["front", "verdict"] : List String).map Str.ofString).zip vals) := by
  obtain rfl : _ = fd := Data.func.inj e
  intro vals hv
  obtain ⟨v0, v1, rfl⟩ := len2' hv
  kernel_rfl
theorem bind_law_first (w : World) {fd : FuncData} (e : (o163f w.params).data = .func fd) : ∀ vals : List Value, vals.length = (["verdicts"] : List String).length → bindArgs fd ⟨vals, []⟩ = pure (((["verdicts"] : List String).map Str.ofString).zip vals) := by
  obtain rfl : _ = fd := Data.func.inj e
  intro vals hv
  obtain ⟨v0, rfl⟩ := len1' hv
  kernel_rfl
theorem fn_law_first {C : Cx} {w : World} (hC : ∀ h, C.gi h → YQ w h) : FnAt C 163 ["verdicts"] (fScope (stAt 14)) (fBody (stAt 14)) :=
  fn_at hC (i := 125) (j := 124) (o := o163f w.params) (co := o162f w.params) rfl rfl rfl rfl ⟨_, _, rfl, rfl⟩ ⟨rfl, rfl, rfl, rfl, rfl⟩ (bind_law_first w rfl)
theorem bind_law_cut (w : World) {fd : FuncData} (e : (o170f w.params).data = .func fd) : ∀ vals : List Value, vals.length = (["coins", "size"] : List String).length → bindArgs fd ⟨vals, []⟩ = pure (((["coins", "size"] : List String).map Str.ofString).zip vals) := by
  obtain rfl : _ = fd := Data.func.inj e
  intro vals hv
  obtain ⟨v0, v1, rfl⟩ := len2' hv
  kernel_rfl
theorem fn_law_cut {C : Cx} {w : World} (hC : ∀ h, C.gi h → YQ w h) : FnAt C 170 ["coins", "size"] (fScope (stAt 15)) (fBody (stAt 15)) :=
  fn_at hC (i := 132) (j := 131) (o := o170f w.params) (co := o169f w.params) rfl rfl rfl rfl ⟨_, _, rfl, rfl⟩ ⟨rfl, rfl, rfl, rfl, rfl⟩ (bind_law_cut w rfl)
theorem bind_law_guesses (w : World) {fd : FuncData} (e : (o175f w.params).data = .func fd) : ∀ vals : List Value, vals.length = (["coins"] : List String).length → bindArgs fd ⟨vals, []⟩ = pure (((["coins"] : List String).map Str.ofString).zip vals) := by
  obtain rfl : _ = fd := Data.func.inj e
  intro vals hv
  obtain ⟨v0, rfl⟩ := len1' hv
  kernel_rfl
theorem fn_law_guesses {C : Cx} {w : World} (hC : ∀ h, C.gi h → YQ w h) : FnAt C 175 ["coins"] (fScope (stAt 16)) (fBody (stAt 16)) :=
  fn_at hC (i := 137) (j := 136) (o := o175f w.params) (co := o174f w.params) rfl rfl rfl rfl ⟨_, _, rfl, rfl⟩ ⟨rfl, rfl, rfl, rfl, rfl⟩ (bind_law_guesses w rfl)
theorem bind_law (w : World) {fd : FuncData} (e : (o180f w.params).data = .func fd) : ∀ vals : List Value, vals.length = (["script"] : List String).length → bindArgs fd ⟨vals, []⟩ = pure (((["script"] : List String).map Str.ofString).zip vals) := by
  obtain rfl : _ = fd := Data.func.inj e
  intro vals hv
  obtain ⟨v0, rfl⟩ := len1' hv
  kernel_rfl
theorem fn_law {C : Cx} {w : World} (hC : ∀ h, C.gi h → YQ w h) : FnAt C 180 ["script"] (fScope (stAt 17)) (fBody (stAt 17)) :=
  fn_at hC (i := 142) (j := 141) (o := o180f w.params) (co := o179f w.params) rfl rfl rfl rfl ⟨_, _, rfl, rfl⟩ ⟨rfl, rfl, rfl, rfl, rfl⟩ (bind_law w rfl)
end
end Mine
end J22

section J23
open PySem PySem.W PyProof.Rows
set_option Elab.async false
set_option linter.unusedVariables false
set_option maxRecDepth 1000000
namespace Mine
noncomputable section
noncomputable def ruleX (base : Nat) : Ext := fun t x P h v => match t with
  | 0 => RuleIs base lam2 x P h v
  | _ => False
theorem ruleX_ok (base : Nat) : ExtOk (ruleX base) := fun t x P h P' h' v q g => by
  match t, q with
  | 0, q => exact RuleIs.pass q g
/-- what the walk of 02 leans on, from a heap of at least `base` objects -/
noncomputable def cx2 (w : World) (base : Nat) (hb : 181 ≤ base) : Cx where
  prog := PR
  w := w
  tb := []
  base := base
  cls := 52
  X := extX PR w (ruleX base)
  extOk := extX_ok (ruleX_ok base)
  gi := fun h => base ≤ h.objs.size ∧ YQ w h
  mg := nsOf (o3f w.params)
  mb := nsOf (boot_o_0 w.params)
  g := fun {h} g => ns_of (at_kf g.2 3 rfl) (d3 w)
  b := fun {h} g => ns_of (at_kf g.2 0 rfl) (d0 w)
  nolimit := fun {h} g => ⟨_, ns_of (at_kf g.2 2 rfl) (d2 w), nl w⟩
  low := fun {h} g => g.1
  low2 := by omega
  tab := fun a => a = tabA
  T := fun P h a => TabAt qLam P h a
  tOk := fun P h P' h' a t g k => t.pass g k
  tLt := fun P h a t => t.lt
  keep := fun {h h'} g k z => ⟨Nat.le_trans g.1 z, fun p hp hn => k _ _ ⟨Nat.lt_of_lt_of_le (kf_low w p hp) hb, hn⟩ (g.2 p hp hn)⟩
  tbLow := fun a ha => by cases ha
theorem gi3 {w : World} {base : Nat} {hb : 181 ≤ base} : ∀ h, (cx2 w base hb).gi h → YQ w h := fun h g => g.2
section
variable (w : World) (base : Nat) (hb : 181 ≤ base)
theorem blt3 {x : Str} {v : Value} (h1 : nsOf (o3f w.params) x = none) (h2 : nsOf (boot_o_0 w.params) x = some v) : Blt (cx2 w base hb) x v := ⟨h1, h2⟩
theorem cls3 : ClsOk (cx2 w base hb) 51 (nsOf (o51b w.params)) := fun h g => ⟨⟨_, _, _, _, _, _, _, _, _, _, _, _, at_kf (a := 52) g.2 52 rfl⟩, ns_of (at_kf g.2 51 rfl) (d51 w)⟩
theorem isfn {a i : Nat} {o : Obj} {fd : FuncData} (e : (KF w.params)[i]? = some (a, o)) (hc : o.cls = .type "function") (hd : o.data = .func fd) (ha : a ≠ tabA := by decide) : ∀ h, (cx2 w base hb).gi h → ∃ ob fd, h.get? a = some ob ∧ ob.cls = .type "function" ∧ ob.data = .func fd := fun h g => ⟨o, fd, at_kf g.2 i e ha, hc, hd⟩
theorem setsX3 : SetsX (cx2 w base hb) := fun x P h v => ⟨Iff.rfl, Iff.rfl⟩
theorem rulesX2 : RulesX (cx2 w base hb) lam2 := fun x P h v => Iff.rfl
theorem no_ua : typeLookup (.type "object") (Str.ofString "useragents") = pure none := by rw [typeLookup_type, builtinLookup_eq_fast]; kernel_rfl
theorem no_rl : typeLookup (.type "object") (Str.ofString "rulelines") = pure none := by rw [typeLookup_type, builtinLookup_eq_fast]; kernel_rfl
theorem no_dl : typeLookup (.type "object") (Str.ofString "delay") = pure none := by rw [typeLookup_type, builtinLookup_eq_fast]; kernel_rfl
theorem no_rr : typeLookup (.type "object") (Str.ofString "req_rate") = pure none := by rw [typeLookup_type, builtinLookup_eq_fast]; kernel_rfl
theorem topE3 : TopE (cx2 w base hb) 51 (nsOf (o51b w.params)) where
  ok := cls3 w base hb
  name := by show nsOf (o3f w.params) "Entry" = some (.ref 52); kernel_rfl
  low := Nat.lt_of_lt_of_le (by decide : 52 < 181) hb
  noGa := by kernel_rfl
  noGh := by kernel_rfl
  noSa := by kernel_rfl
  ua := ⟨by kernel_rfl, no_ua⟩
  rl := ⟨by kernel_rfl, no_rl⟩
  dl := ⟨by kernel_rfl, no_dl⟩
  rr := ⟨by kernel_rfl, no_rr⟩
  init := ⟨28, by kernel_rfl, fun h g => ⟨_, at_kf g.2 28 rfl, rfl⟩, fn_Entry_init gi3⟩
  appl := ⟨42, by kernel_rfl, isfn w base hb (i := 42) rfl rfl rfl, fn_Entry_applies_to gi3⟩
  allow := ⟨49, by kernel_rfl, isfn w base hb (i := 49) rfl rfl rfl, fn_Entry_allowance gi3⟩
  setsX := setsX3 w base hb
  set := blt3 w base hb (by kernel_rfl) (by kernel_rfl)
  list := blt3 w base hb (by kernel_rfl) (by kernel_rfl)
  filter := blt3 w base hb (by kernel_rfl) (by kernel_rfl)
  merge := ⟨63, by show nsOf (o3f w.params) "merge_entries" = _; kernel_rfl, fn_merge_entries gi3⟩
theorem topB3 : TopB (cx2 w base hb) b1S b3D where
  ord := blt3 w base hb (by kernel_rfl) (by kernel_rfl)
  b1s := ⟨71, 27, by show nsOf (o3f w.params) "b1_set" = _; kernel_rfl, fun h g => set_at (at_kf g.2 71 rfl)⟩
  b3s := ⟨82, by show nsOf (o3f w.params) "b3_exceptions" = _; kernel_rfl, fun h g => dict_at (at_kf g.2 82 rfl)⟩
  b1 := ⟨81, by show nsOf (o3f w.params) "in_table_b1" = _; kernel_rfl, fn_in_table_b1 gi3⟩
  b3 := ⟨127, by show nsOf (o3f w.params) "map_table_b3" = _; kernel_rfl, fn_map_table_b3 gi3⟩
theorem blt_mod : nsOf (o3f w.params) "__builtins__" = some (.ref 4) := by kernel_rfl
theorem ruleFn2 : RuleFn (cx2 w base hb) lam2 tabA 158 ["front", "verdict"] (fScope (stAt 13)) (fBody (stAt 13)) where
  fn := fun h g => ⟨o158f w.params, _, 157, at_kf g.2 120 rfl, rfl, ⟨157, _, _, _, rfl, at_kf g.2 119 rfl, rfl, rfl⟩, rfl, rfl, rfl, rfl, rfl, rfl, rfl,
    ⟨_, _, _, _, _, _, _, _, _, at_kf g.2 119 rfl, rfl, rfl, rfl, rfl, rfl, rfl, rfl, rfl, by decide⟩, bind_law_rule w rfl⟩
  tab := rfl
  tIs := fun P h => Iff.rfl
  ne := by decide
  blt := fun h g => ⟨4, _, blt_mod w, by decide, by decide, by decide, at_kf g.2 4 rfl, rfl, rfl, rfl⟩
  tb := rfl
theorem top2 : Top2 (cx2 w base hb) 51 (nsOf (o51b w.params)) b1S b3D tabA 158 where
  B := topB3 w base hb
  E := topE3 w base hb
  chr := blt3 w base hb (by kernel_rfl) (by kernel_rfl)
  len := blt3 w base hb (by kernel_rfl) (by kernel_rfl)
  range := blt3 w base hb (by kernel_rfl) (by kernel_rfl)
  sum := blt3 w base hb (by kernel_rfl) (by kernel_rfl)
  max := blt3 w base hb (by kernel_rfl) (by kernel_rfl)
  min := blt3 w base hb (by kernel_rfl) (by kernel_rfl)
  sorted := blt3 w base hb (by kernel_rfl) (by kernel_rfl)
  cells := ⟨134, by show nsOf (o3f w.params) "_law_cells" = _; kernel_rfl, fn_law_cells gi3⟩
  sign := ⟨141, by show nsOf (o3f w.params) "_law_sign" = _; kernel_rfl, fn_law_sign gi3⟩
  word := ⟨146, by show nsOf (o3f w.params) "_law_word" = _; kernel_rfl, fn_law_word gi3⟩
  prep := ⟨151, by show nsOf (o3f w.params) "_law_prepared" = _; kernel_rfl, fn_law_prepared gi3⟩
  first := ⟨163, by show nsOf (o3f w.params) "_law_first" = _; kernel_rfl, fn_law_first gi3⟩
  cut := ⟨170, by show nsOf (o3f w.params) "_law_cut" = _; kernel_rfl, fn_law_cut gi3⟩
  guess := ⟨175, by show nsOf (o3f w.params) "_law_guesses" = _; kernel_rfl, fn_law_guesses gi3⟩
  rule := ruleFn2 w base hb
  ruleAt := by show nsOf (o3f w.params) "_law_rule" = some (.ref 158); kernel_rfl
  X := rulesX2 w base hb
end
end
end Mine
end J23

section J24
open PySem PySem.W PyProof.Rows
set_option Elab.async false
set_option linter.unusedVariables false
set_option maxRecDepth 1000000
namespace Mine
noncomputable section
theorem rd_ints {X : Ext} {P : Addr → Prop} {h : Heap} {Pm : Params} : ∀ {vs : List Value} {xs : List WData}, WellAll Pm h vs xs → (∀ x ∈ xs, ∃ i, x = .int i) → ∃ ns : List Int, xs = ns.map .int ∧ RdL X P h vs (ns.map .int)
  | _, _, .nil, _ => ⟨[], rfl, .nil⟩
  | _, _, .cons a r, h => by
    obtain ⟨i, rfl⟩ := h _ List.mem_cons_self
    obtain ⟨ns, e, q⟩ := rd_ints r fun x hx => h x (List.mem_cons_of_mem _ hx)
    cases a with
    | int i t => exact ⟨i :: ns, by rw [e]; rfl, .cons (.int i t) q⟩
theorem items_int : ∀ {xs : List WData}, WShape.hasItems [] xs .int = true → ∀ x ∈ xs, ∃ i, x = .int i
  | [], _, x, hx => by cases hx
  | a :: r, h, x, hx => by
    have h' : WShape.has [] a .int = true ∧ WShape.hasItems [] r .int = true := by simpa [WShape.hasItems] using h
    rcases List.mem_cons.mp hx with rfl | hx
    · exact hasW_int h'.1
    · exact items_int h'.2 x hx
theorem pre_script {l : OpenLaw} (hb : l.bound = none) (hm : l.most = some 63) {args : List WData} (hpre : l.row.claim.pre args = true) : ∃ xs, args = [.list xs] ∧ (∀ x ∈ xs, ∃ i, x = .int i) ∧ xs.length ≤ 63 := by
  obtain ⟨h1, h2⟩ := pre_splitW (r := l.row.toRowW) hpre
  obtain ⟨d, r, rfl, hd, hr⟩ := hasAllW_cons (R := []) (e := .list .int) (es := []) h1
  obtain rfl := hasAllW_nil hr
  obtain ⟨xs, rfl, hx⟩ := hasW_list hd
  refine ⟨xs, rfl, items_int hx, ?_⟩
  have h3 : l.pre.holds [] { args := [.list xs] } = true := h2
  unfold OpenLaw.pre WTm.holds at h3
  rw [hb, hm] at h3
  simp [WTm.value] at h3
  have e : less? (WData.int 63) (WData.int ↑xs.length) = some (decide ((63 : Int) < (xs.length : Int))) := rfl
  rw [e] at h3
  by_cases q : (63 : Int) < (xs.length : Int)
  · simp [q] at h3
  · omega
theorem room3 : Room callerA 20 := ⟨by decide, by decide, rfl⟩
theorem post_ok {l : OpenLaw} {args after : List WData} : l.row.claim.post args (.bool true) after = true := by
  have h1 : WShape.has [] (WData.bool true) .bool = true := by simp [WShape.has, WShape.arms]
  have h2 : (WTm.eq .res (.lit (.bool true))).holds [] { args := args, res := some (.bool true), after := after } = true := by
    unfold WTm.holds
    simp [WTm.value]
    have e : same (WData.bool true) (WData.bool true) = true := by unfold same; rfl
    rw [e]

  show (WShape.has [] (WData.bool true) .bool && (WTm.eq .res (.lit (.bool true))).holds [] { args := args, res := some (.bool true), after := after }) = true
  rw [h1, h2]; rfl
theorem said2 : PySem.Challenge.rw_rs0172_02.wellSaid = true := by kernel_rfl
set_option maxHeartbeats 1000000 in
theorem holds2 (L : Plain2 b1S b3D) : PySem.Challenge.rw_rs0172_02.Holds := by
  refine holds_law said2 fun said => ?_
  refine PySem.W.holds_open (q := qV) (loose := looseV) (Xt := fun _ => true) (XP := fun _ _ => True) (Yf := kYf) (Ya := kYa) (YP := YP) (N := 100000) left_ok yp_of yp_keep (fun _ _ => trivial) (fun _ _ _ _ _ => trivial) (by rfl) (by rfl) (by rfl) (fun s _ => recFacts_nil rfl) (by rfl) said (by decide +kernel) ⟨rfl, rfl, rfl, rfl, rfl, by decide +kernel⟩ ?hw ?walk
  case hw => w_witness2
  case walk =>
    intro w s₀ s₁ mg mb G Y a o pm cd doc dV kV ho hd hcd hD hmg hg args vals as hpre hlay hrd hwl hlo
    obtain ⟨xs, rfl, hi, h63⟩ := pre_script (l := PySem.Challenge.rw_rs0172_02) rfl rfl hpre
    cases hwl with
    | cons hv hr =>
    cases hr
    cases hv with
    | list he hw =>
    rename_i l vs
    have hb : 181 ≤ s₁.heap.objs.size := Heap.lt_size (at_kf Y.q 142 (a := 180) rfl)
    have Yq := Y.q
    have gi : (cx2 w s₁.heap.objs.size hb).gi s₁.heap := ⟨Nat.le_refl _, Yq⟩
    have t0 : s₁.heap.get? tabA = some (tabObj #[]) := Y _ (List.mem_of_getElem? (show (KF w.params)[115]? = some (tabA, o153f w.params) from rfl))
    have hlt : l ≠ tabA := fun q => by rw [q, t0] at he; cases he
    obtain ⟨ns, rfl, rl⟩ := rd_ints (X := (cx2 w s₁.heap.objs.size hb).X) (P := fun b => b = tabA) hw hi
    have tab0 : (cx2 w s₁.heap.objs.size hb).T (fun b => b = tabA) s₁.heap tabA := ⟨#[], t0, trivial, fun pos cv h => by cases h⟩
    have H : Hp (cx2 w s₁.heap.objs.size hb) (fun b => b = tabA) [(tabA, .tab)] s₁.heap := ⟨gi, (fun a ao h => by cases List.mem_singleton.mp h; exact tab0), (fun a h => absurd h List.not_mem_nil), (fun a h => by cases List.mem_singleton.mp h; exact ⟨rfl, .inr rfl⟩), (by simp [dom, AO.more]), (fun a h => by rw [h]; exact Heap.lt_size t0)⟩
    have ha : a = 180 := by
      have e1 := Heap.Ns.agree G.T.g (ns_of (at_kf Yq 3 rfl) (d3 w)) (Str.ofString "law")
      have e2 : nsOf (o3f w.params) (Str.ofString "law") = some (.ref 180) := by kernel_rfl
      have e3 := e1.trans e2
      have e4 : some (Value.ref a) = some (.ref 180) := by rw [← e3]; exact hmg.symm
      exact Value.ref.inj (Option.some.inj e4)
    subst ha
    have F := fn_law (C := cx2 w s₁.heap.objs.size hb) (w := w) gi3
    have op : OpL (cx2 w s₁.heap.objs.size hb) 20 [(tabA, .tab)] [.list (ns.map .int)] (fun vs => PySem.call (.ref 180) vs) fun d σ' => d = .bool true ∧ (tabA, AO.tab) ∈ σ' :=
      Fn.call (k := 19) F (by decide +kernel) rfl (w_law (top2 w _ hb) (k := 14) L (by simpa using h63) List.mem_cons_self fun _ hm => ⟨rfl, hm⟩)
    refine wpAny_mono (op callerA (fun b => b = tabA) s₁ [.ref l] room3 H (.cons (.list hlt he (by simpa using rl)) .nil)) (fun v s' out => ?_) fun _ _ (x : False) => x.elim
    obtain ⟨d, σ', ⟨rfl, hm⟩, A, r⟩ := out
    cases r
    have keep : ∀ b o, b ≠ tabA → s₁.heap.get? b = some o → s'.heap.get? b = some o := fun b o hb' e => A.step.kept b o (fun q => hb' (List.mem_singleton.mp q)) (fun q => by cases q) (fun q => q) e
    have tb' : ∃ ps, s'.heap.get? tabA = some (tabObj ps) := by
      obtain ⟨ps, e, _⟩ := (A.hp.st _ _ hm : TabAt qLam _ s'.heap tabA)
      exact ⟨ps, e⟩
    refine ⟨.inl ⟨_, .bool true, [], rfl, fun _ => rfl, .bool true, ?_, fun _ => ⟨List.nodup_nil, fun a ha => by cases ha⟩⟩, ?_, A.step.os, .of_eq (A.step.gens.trans hg)⟩
    · exact post_ok
    · obtain ⟨ps, hps⟩ := tb'
      refine ⟨fun b o e => ?_, fun b o e => ?_⟩
      · by_cases hbt : b = tabA
        · subst hbt
          obtain rfl : o = tabObj #[] := Option.some.inj (e.symm.trans t0)
          refine .inr (.inl ⟨⟨157, _, _, at_kf (a := 157) Yq 119 rfl, rfl, rfl, rfl⟩, rfl, #[], ps, rfl, by rw [hps, Array.empty_append]⟩)
        · exact .inl (keep b o hbt e)
      · by_cases hbt : b = tabA
        · subst hbt; exact ⟨_, hps⟩
        · exact ⟨o, keep b o hbt e⟩
end
end Mine
end J24

section T40
open PySem PySem.W PyProof.Rows
set_option Elab.async false
set_option linter.unusedVariables false
set_option maxRecDepth 100000
namespace Mine
/-! ## Pearson's guesses, for all coins of at most fourteen -/
/-- the coins' counts, newest first -/
noncomputable def pieceR (coins : List Nat) : Nat → List Nat
  | 0 => [0]
  | n + 1 => let l := pieceR coins n; (l.getD (bigOf coins (n + 1) - 1) 0 + 1) :: l
noncomputable def leastR (coins : List Nat) : Nat → List Nat
  | 0 => [0]
  | n + 1 => let l := leastR coins n; (1 + mnOf ((coins.filter fun c => decide (c ≤ n + 1)).map fun c => l.getD (c - 1) 0)) :: l
theorem getD_rev {l : List Nat} {i : Nat} (h : i < l.length) : l.reverse.getD i 0 = l.getD (l.length - 1 - i) 0 := by
  rw [List.getD_eq_getElem?_getD, List.getD_eq_getElem?_getD, List.getElem?_reverse h]
theorem pieceR_len (coins : List Nat) : ∀ n, (pieceR coins n).length = n + 1
  | 0 => rfl
  | n + 1 => by rw [pieceR, List.length_cons, pieceR_len coins n]
theorem leastR_len (coins : List Nat) : ∀ n, (leastR coins n).length = n + 1
  | 0 => rfl
  | n + 1 => by rw [leastR, List.length_cons, leastR_len coins n]
theorem big_ok {coins : List Nat} {n : Nat} (h1 : 1 ∈ coins) (hp : ∀ c ∈ coins, 1 ≤ c) (hn : 1 ≤ n) : 1 ≤ bigOf coins n ∧ bigOf coins n ≤ n := by
  unfold bigOf
  cases e : coins.find? fun c => decide (c ≤ n) with
  | none => exact absurd (List.find?_eq_none.mp e 1 h1) (by simp; lia)
  | some c => exact ⟨hp c (List.mem_of_find?_eq_some e), by simpa using List.find?_some e⟩
theorem piece_rev {coins : List Nat} (h1 : 1 ∈ coins) (hp : ∀ c ∈ coins, 1 ≤ c) : ∀ n, pieceL coins n = (pieceR coins n).reverse
  | 0 => rfl
  | n + 1 => by
    obtain ⟨b1, b2⟩ := big_ok h1 hp (Nat.succ_le_succ (Nat.zero_le n))
    have hl := pieceR_len coins n
    have b3 : 1 ≤ bigOf coins (n + 1) := b1
    have b4 : bigOf coins (n + 1) ≤ n + 1 := b2
    generalize hb : bigOf coins (n + 1) = b at *
    rw [pieceL, pieceR, hb, List.reverse_cons, piece_rev h1 hp n, getD_rev (by lia), hl]
    rw [show n + 1 - 1 - (n + 1 - b) = b - 1 by lia]
theorem least_rev {coins : List Nat} (hp : ∀ c ∈ coins, 1 ≤ c) : ∀ n, leastL coins n = (leastR coins n).reverse
  | 0 => rfl
  | n + 1 => by
    have hl := leastR_len coins n
    rw [leastL, leastR, List.reverse_cons, least_rev hp n]
    have : ((coins.filter fun c => decide (c ≤ n + 1)).map fun c => (leastR coins n).reverse.getD (n + 1 - c) 0) = (coins.filter fun c => decide (c ≤ n + 1)).map fun c => (leastR coins n).getD (c - 1) 0 := by
      refine List.map_congr_left fun c hc => ?_
      obtain ⟨h1, h2⟩ := List.mem_filter.mp hc
      have h2 := of_decide_eq_true h2
      have h3 := hp c h1
      rw [getD_rev (by lia), hl, show n + 1 - 1 - (n + 1 - c) = c - 1 by lia]
    rw [this]
theorem getD_app_lt {l m : List Nat} {i : Nat} (h : i < l.length) : (l ++ m).getD i 0 = l.getD i 0 := by
  rw [List.getD_eq_getElem?_getD, List.getD_eq_getElem?_getD, List.getElem?_append_left h]
end Mine
end T40

section T41
open PySem PySem.W PyProof.Rows
set_option Elab.async false
set_option linter.unusedVariables false
set_option maxRecDepth 100000
namespace Mine
noncomputable def subs : Nat → List Nat → List (List Nat)
  | _, [] => [[]]
  | 0, _ => [[]]
  | k + 1, a :: r => (subs k r).map (a :: ·) ++ subs (k + 1) r
noncomputable def lowK : List Nat := [14, 13, 12, 11, 10, 9, 8, 7, 6, 5, 4, 3, 2]
theorem nil_subs : ∀ (k : Nat) (xs : List Nat), [] ∈ subs k xs
  | 0, [] => List.mem_singleton.mpr rfl
  | 0, a :: r => List.mem_singleton.mpr rfl
  | k + 1, [] => List.mem_singleton.mpr rfl
  | k + 1, a :: r => List.mem_append_right _ (nil_subs (k + 1) r)
theorem mem_subs {l xs : List Nat} (h : l.Sublist xs) : ∀ k, l.length ≤ k → l ∈ subs k xs := by
  induction h with
  | slnil => intro k _; cases k <;> exact List.mem_singleton.mpr rfl
  | cons a h ih =>
    intro k hk
    cases k with
    | zero =>
      rename_i l₁ l₂
      obtain rfl := List.length_eq_zero_iff.mp (Nat.le_zero.mp hk)
      exact nil_subs 0 _
    | succ k => exact List.mem_append_right _ (ih (k + 1) hk)
  | cons_cons a h ih =>
    intro k hk
    cases k with
    | zero => simp at hk
    | succ k => exact List.mem_append_left _ (List.mem_map_of_mem (ih k (by simpa using hk)))
/-! ## the kernel's way -/
noncomputable def digW (c w : Nat) : Nat := Nat.mod (Nat.div w (Nat.pow 64 (Nat.sub c 1))) 64
noncomputable def mnW (cs : List Nat) (n1 w : Nat) : Nat := List.rec (motive := fun _ => Nat) 63 (fun c _ ih => cond (Nat.ble c n1) (cond (Nat.ble (digW c w) ih) (digW c w) ih) ih) cs
noncomputable def bgW (cs : List Nat) (n1 w : Nat) : Nat := List.rec (motive := fun _ => Nat) 0 (fun c _ ih => cond (Nat.ble c n1) (digW c w) ih) cs
noncomputable def goW (cs : List Nat) (fuel : Nat) : Nat → Nat → Nat :=
  Nat.rec (motive := fun _ => Nat → Nat → Nat) (fun _ _ => 0) (fun _ ih n w => cond (Nat.beq (bgW cs (Nat.succ n) w) (mnW cs (Nat.succ n) w)) (ih (Nat.succ n) (Nat.add (Nat.mul w 64) (Nat.succ (bgW cs (Nat.succ n) w)))) (Nat.succ n)) fuel
/-- greedy count -/
noncomputable def gcW (cs : List Nat) : Nat → Nat := List.rec (motive := fun _ => Nat → Nat) (fun _ => 0) (fun c _ ih n => Nat.add (Nat.div n c) (ih (Nat.mod n c))) cs
/-- the least guess along rest -/
noncomputable def wkW (cs rest : List Nat) : Nat → Nat → Nat → Nat → Nat :=
  List.rec (motive := fun _ => Nat → Nat → Nat → Nat → Nat) (fun _ _ _ b => b)
    (fun c _ ih r s t b => ih (Nat.mod r c) (Nat.add s (Nat.div r c)) (Nat.add t (Nat.mul (Nat.div r c) c))
      (cond (Nat.ble (gcW cs (Nat.add t (Nat.mul (Nat.succ (Nat.div r c)) c))) (Nat.succ (Nat.add s (Nat.div r c)))) b
        (cond (Nat.ble b (Nat.add t (Nat.mul (Nat.succ (Nat.div r c)) c))) b (Nat.add t (Nat.mul (Nat.succ (Nat.div r c)) c))))) rest
noncomputable def fdW (cs l : List Nat) : Nat → Nat := List.rec (motive := fun _ => Nat → Nat) (fun b => b) (fun c rest ih b => ih (wkW cs rest (Nat.sub c 1) 0 0 b)) l
noncomputable def chkW (t2 g f : Nat) : Bool := cond (Nat.beq g 0) (Nat.beq f 1000) (cond (Nat.beq g f) (Nat.ble g t2) false)
noncomputable def chk (c : List Nat) : Bool := chkW (c.take 2).sum (goW c ((c.take 2).sum + 7) 0 0) (fdW c c 1000)
theorem chk_all : ((subs 4 lowK).all fun c => chk (c ++ [1])) = true := by decide +kernel
/-! ## counts in one number -/
noncomputable def enc : List Nat → Nat
  | [] => 0
  | a :: r => enc r * 64 + a
theorem dig_enc : ∀ (i : Nat) (ls : List Nat), (∀ a ∈ ls, a < 64) → enc ls / 64 ^ i % 64 = ls.getD i 0
  | _, [], _ => by simp [enc]
  | 0, a :: r, h => by
    have := h a List.mem_cons_self
    simp only [enc, Nat.pow_zero, Nat.div_one, List.getD_cons_zero]; lia
  | i + 1, a :: r, h => by
    have h1 := h a List.mem_cons_self
    rw [List.getD_cons_succ, ← dig_enc i r fun b hb => h b (List.mem_cons_of_mem _ hb), enc, Nat.pow_succ, Nat.mul_comm (64 ^ i) 64, ← Nat.div_div_eq_div_mul]
    rw [show (enc r * 64 + a) / 64 = enc r by lia]
theorem digW_eq {c : Nat} {ls : List Nat} (h : ∀ a ∈ ls, a < 64) : digW c (enc ls) = ls.getD (c - 1) 0 := dig_enc (c - 1) ls h
theorem bgW_eq (n1 w : Nat) : ∀ cs : List Nat, bgW cs n1 w = match cs.find? fun c => decide (c ≤ n1) with | some c => digW c w | none => 0
  | [] => rfl
  | c :: r => by
    show cond (Nat.ble c n1) (digW c w) (bgW r n1 w) = _
    rw [List.find?_cons]
    by_cases h : c ≤ n1
    · rw [Nat.ble_eq_true_of_le h, decide_eq_true h]; rfl
    · have : Nat.ble c n1 = false := by
        cases q : Nat.ble c n1 with
        | false => rfl
        | true => exact absurd (Nat.le_of_ble_eq_true q) h
      rw [this, decide_eq_false h, bgW_eq n1 w r]; rfl
theorem ble_false {a b : Nat} (h : ¬ a ≤ b) : Nat.ble a b = false := by
  cases q : Nat.ble a b with
  | false => rfl
  | true => exact absurd (Nat.le_of_ble_eq_true q) h
theorem mnW_eq (n1 w : Nat) : ∀ cs : List Nat, (mnW cs n1 w = 63 ∨ mnW cs n1 w ∈ (cs.filter fun c => decide (c ≤ n1)).map fun c => digW c w) ∧ mnW cs n1 w ≤ 63 ∧ ∀ a ∈ (cs.filter fun c => decide (c ≤ n1)).map fun c => digW c w, mnW cs n1 w ≤ a
  | [] => ⟨.inl rfl, Nat.le_refl _, fun a h => by cases h⟩
  | c :: r => by
    obtain ⟨h1, h2, h3⟩ := mnW_eq n1 w r
    have e : mnW (c :: r) n1 w = cond (Nat.ble c n1) (cond (Nat.ble (digW c w) (mnW r n1 w)) (digW c w) (mnW r n1 w)) (mnW r n1 w) := rfl
    rw [e, List.filter_cons]
    by_cases h : c ≤ n1
    · rw [Nat.ble_eq_true_of_le h, if_pos (decide_eq_true h), List.map_cons]
      by_cases q : digW c w ≤ mnW r n1 w
      · rw [Nat.ble_eq_true_of_le q]
        refine ⟨.inr List.mem_cons_self, Nat.le_trans q h2, fun a ha => ?_⟩
        rcases List.mem_cons.mp ha with rfl | ha
        · exact Nat.le_refl _
        · exact Nat.le_trans q (h3 a ha)
      · rw [ble_false q]
        refine ⟨h1.imp id (List.mem_cons_of_mem _), h2, fun a ha => ?_⟩
        rcases List.mem_cons.mp ha with rfl | ha
        · show mnW r n1 w ≤ _; lia
        · exact h3 a ha
    · rw [ble_false h, if_neg (by simpa using h)]
      exact ⟨h1, h2, h3⟩
end Mine
end T41

section T42
open PySem PySem.W PyProof.Rows
set_option Elab.async false
set_option linter.unusedVariables false
set_option maxRecDepth 100000
namespace Mine
theorem getD_le {l : List Nat} {m i : Nat} (h : ∀ a ∈ l, a ≤ m) : l.getD i 0 ≤ m := by
  rw [List.getD_eq_getElem?_getD]
  cases e : l[i]? with
  | none => simp
  | some v => exact h v (List.mem_of_getElem? e)
theorem goW_spec {cs : List Nat} (h1 : 1 ∈ cs) (hp : ∀ c ∈ cs, 1 ≤ c) : ∀ f n, n + f ≤ 60 → pieceR cs n = leastR cs n → (∀ a ∈ leastR cs n, a ≤ n) →
    (goW cs f n (enc (leastR cs n)) = 0 → pieceR cs (n + f) = leastR cs (n + f)) ∧
    (goW cs f n (enc (leastR cs n)) ≠ 0 → n < goW cs f n (enc (leastR cs n)) ∧ goW cs f n (enc (leastR cs n)) ≤ n + f ∧ pieceR cs (goW cs f n (enc (leastR cs n)) - 1) = leastR cs (goW cs f n (enc (leastR cs n)) - 1) ∧
      (pieceR cs (goW cs f n (enc (leastR cs n)))).headD 0 ≠ (leastR cs (goW cs f n (enc (leastR cs n)))).headD 0)
  | 0, n, _, he, _ => ⟨fun _ => he, fun h => absurd rfl h⟩
  | f + 1, n, hn, he, hl => by
    have hl64 : ∀ a ∈ leastR cs n, a < 64 := fun a ha => by have := hl a ha; lia
    have bg : bgW cs (n + 1) (enc (leastR cs n)) = (leastR cs n).getD (bigOf cs (n + 1) - 1) 0 := by
      rw [bgW_eq]
      unfold bigOf
      cases e : cs.find? fun c => decide (c ≤ n + 1) with
      | none => exact absurd (List.find?_eq_none.mp e 1 h1) (by simp)
      | some c => exact digW_eq hl64
    have eL : ((cs.filter fun c => decide (c ≤ n + 1)).map fun c => digW c (enc (leastR cs n))) = (cs.filter fun c => decide (c ≤ n + 1)).map fun c => (leastR cs n).getD (c - 1) 0 :=
      List.map_congr_left fun c _ => digW_eq hl64
    have mn : mnW cs (n + 1) (enc (leastR cs n)) = mnOf ((cs.filter fun c => decide (c ≤ n + 1)).map fun c => (leastR cs n).getD (c - 1) 0) := by
      obtain ⟨a1, a2, a3⟩ := mnW_eq (n + 1) (enc (leastR cs n)) cs
      rw [eL] at a1 a3
      refine mn_unique (a1.resolve_left fun q => ?_) a3
      have := a3 _ (List.mem_map_of_mem (List.mem_filter.mpr ⟨h1, decide_eq_true (by lia : 1 ≤ n + 1)⟩))
      have := getD_le (i := 1 - 1) hl
      lia
    have e : goW cs (f + 1) n (enc (leastR cs n)) = cond (Nat.beq (bgW cs (n + 1) (enc (leastR cs n))) (mnW cs (n + 1) (enc (leastR cs n)))) (goW cs f (n + 1) (enc (leastR cs n) * 64 + (bgW cs (n + 1) (enc (leastR cs n)) + 1))) (n + 1) := rfl
    have pR : pieceR cs (n + 1) = (bgW cs (n + 1) (enc (leastR cs n)) + 1) :: leastR cs n := by
      rw [bg, pieceR, he]
    have lR : leastR cs (n + 1) = (1 + mnW cs (n + 1) (enc (leastR cs n))) :: leastR cs n := by
      rw [mn, leastR]
    have bl : bgW cs (n + 1) (enc (leastR cs n)) ≤ n := by rw [bg]; exact getD_le hl
    generalize bgW cs (n + 1) (enc (leastR cs n)) = b at *
    generalize mnW cs (n + 1) (enc (leastR cs n)) = m at *
    rw [e]
    by_cases hbm : b = m
    · subst hbm
      have eq1 : pieceR cs (n + 1) = leastR cs (n + 1) := by rw [pR, lR, Nat.add_comm]
      have en : enc (leastR cs n) * 64 + (b + 1) = enc (leastR cs (n + 1)) := by rw [← eq1, pR, enc]
      rw [show Nat.beq b b = true by simp, en]
      have ih := goW_spec h1 hp f (n + 1) (by lia) eq1 fun a ha => by
        rw [← eq1, pR] at ha
        rcases List.mem_cons.mp ha with rfl | ha
        · lia
        · have := hl a ha; lia
      have es : n + (f + 1) = n + 1 + f := by lia
      rw [es]
      refine ⟨ih.1, fun h => ?_⟩
      obtain ⟨c1, c2, c3, c4⟩ := ih.2 h
      exact ⟨Nat.lt_of_succ_lt c1, c2, c3, c4⟩
    · rw [show Nat.beq b m = false by
        cases q : Nat.beq b m with
        | false => rfl
        | true => exact absurd (Nat.eq_of_beq_eq_true q) hbm]
      refine ⟨fun h => absurd h (Nat.succ_ne_zero n), fun _ => ⟨Nat.lt_succ_self n, by show n + 1 ≤ _; lia, he, ?_⟩⟩
      show (pieceR cs (n + 1)).headD 0 ≠ (leastR cs (n + 1)).headD 0
      rw [pR, lR]
      show b + 1 ≠ 1 + m
      lia
/-! ## from the counts to the list of sizes that are cut badly -/
theorem pieceL_pre (cs : List Nat) (n : Nat) : ∀ k i, i ≤ n → (pieceL cs (n + k)).getD i 0 = (pieceL cs n).getD i 0
  | 0, i, _ => rfl
  | k + 1, i, h => by
    rw [← Nat.add_assoc, pieceL, getD_app_lt (by rw [pieceL_len]; lia), pieceL_pre cs n k i h]
theorem leastL_pre (cs : List Nat) (n : Nat) : ∀ k i, i ≤ n → (leastL cs (n + k)).getD i 0 = (leastL cs n).getD i 0
  | 0, i, _ => rfl
  | k + 1, i, h => by
    rw [← Nat.add_assoc, leastL, getD_app_lt (by rw [leastL_len]; lia), leastL_pre cs n k i h]
theorem range_first {P : Nat → Bool} {m : Nat} : ∀ {N : Nat}, m < N → (∀ i, i < m → P i = false) → P m = true → ((List.range N).filter P).take 1 = [m]
  | N + 1, hm, hl, hP => by
    rw [List.range_succ, List.filter_append]
    by_cases q : m < N
    · have ih := range_first q hl hP
      cases hc : (List.range N).filter P with
      | nil => rw [hc] at ih; cases ih
      | cons a t => rw [hc] at ih; rw [List.cons_append]; simpa using ih
    · have : m = N := by lia
      subst this
      have h0 : (List.range m).filter P = [] := List.filter_eq_nil_iff.mpr fun i hi => by rw [hl i (List.mem_range.mp hi)]; exact Bool.false_ne_true
      rw [h0, List.nil_append, List.filter_cons, hP]; rfl
theorem bad_spec {cs : List Nat} (h1 : 1 ∈ cs) (hp : ∀ c ∈ cs, 1 ≤ c) {F top : Nat} (hF : F ≤ 60) (ht : top ≤ F) :
    (goW cs F 0 0 = 0 → badL cs top = []) ∧ (goW cs F 0 0 ≠ 0 → goW cs F 0 0 ≤ top → (badL cs top).take 1 = [goW cs F 0 0]) := by
  have s := goW_spec h1 hp F 0 (by lia) rfl (fun a ha => by rw [List.mem_singleton.mp ha]; exact Nat.le_refl _)
  rw [show enc (leastR cs 0) = 0 from rfl, Nat.zero_add] at s
  generalize hg : goW cs F 0 0 = g at *
  constructor
  · intro h0
    have eq := s.1 h0
    unfold badL
    refine List.filter_eq_nil_iff.mpr fun i hi => ?_
    have hi := List.mem_range.mp hi
    obtain ⟨k, hk⟩ : ∃ k, F = top + k := ⟨F - top, by lia⟩
    have e1 : pieceL cs F = leastL cs F := by rw [piece_rev h1 hp, least_rev hp, eq]
    have a := pieceL_pre cs top k i (by lia)
    have b := leastL_pre cs top k i (by lia)
    rw [← hk] at a b
    rw [← a, ← b, e1, decide_eq_true rfl]; exact Bool.false_ne_true
  · intro h0 hgt
    obtain ⟨c1, c2, c3, c4⟩ := s.2 h0
    unfold badL
    obtain ⟨k, hk⟩ : ∃ k, top = g + k := ⟨top - g, by lia⟩
    refine range_first (by lia) (fun i hi => ?_) ?_
    · have a := pieceL_pre cs (g - 1) (k + 1) i (by lia)
      have b := leastL_pre cs (g - 1) (k + 1) i (by lia)
      rw [show g - 1 + (k + 1) = top by lia] at a b
      have e1 : pieceL cs (g - 1) = leastL cs (g - 1) := by rw [piece_rev h1 hp, least_rev hp, c3]
      rw [a, b, e1, decide_eq_true rfl]; rfl
    · have a := pieceL_pre cs g k g (by lia)
      have b := leastL_pre cs g k g (by lia)
      rw [← hk] at a b
      have last : ∀ l : List Nat, l.length = g + 1 → l.reverse.getD g 0 = l.headD 0 := fun l hl => by
        rw [getD_rev (by lia), hl, show g + 1 - 1 - g = 0 by lia]
        cases l with
        | nil => simp at hl
        | cons x t => rfl
      rw [a, b, piece_rev h1 hp, least_rev hp, last _ (pieceR_len cs g), last _ (leastR_len cs g), decide_eq_false c4]; rfl
end Mine
end T42

section T43
open PySem PySem.W PyProof.Rows
set_option Elab.async false
set_option linter.unusedVariables false
set_option maxRecDepth 100000
namespace Mine
/-! ## the guesses, in naturals -/
noncomputable def cutN : List Nat → Nat → List Nat
  | [], _ => []
  | c :: r, n => n / c :: cutN r (n % c)
/-- what is left -/
noncomputable def remN : List Nat → Nat → Nat
  | [], n => n
  | c :: r, n => remN r (n % c)
theorem cutL_N : ∀ (cs : List Nat) (n : Nat), cutL (intsN cs) (n : Int) = intsN (cutN cs n)
  | [], _ => rfl
  | c :: r, n => by
    show (n : Int) / (c : Int) :: cutL (intsN r) ((n : Int) % (c : Int)) = _
    rw [← Int.natCast_emod, cutL_N r, ← Int.natCast_ediv]; rfl
theorem cutN_app : ∀ (pre tl : List Nat) (n : Nat), cutN (pre ++ tl) n = cutN pre n ++ cutN tl (remN pre n)
  | [], _, _ => rfl
  | c :: r, tl, n => by show _ :: cutN (r ++ tl) _ = _; rw [cutN_app r tl]; rfl
theorem remN_app : ∀ (pre tl : List Nat) (n : Nat), remN (pre ++ tl) n = remN tl (remN pre n)
  | [], _, _ => rfl
  | c :: r, tl, n => remN_app r tl (n % c)
theorem cutN_len : ∀ (cs : List Nat) (n : Nat), (cutN cs n).length = cs.length
  | [], _ => rfl
  | c :: r, n => by rw [cutN, List.length_cons, cutN_len r, List.length_cons]
theorem gc_eq : ∀ (cs : List Nat) (n : Nat), gcW cs n = (cutN cs n).sum
  | [], _ => rfl
  | c :: r, n => by
    show Nat.add (Nat.div n c) (gcW r (Nat.mod n c)) = _
    rw [gc_eq r, cutN, List.sum_cons]; rfl
/-- what the counts ahead come to -/
noncomputable def dotN : List Nat → Nat → Nat
  | [], _ => 0
  | c :: r, n => n / c * c + dotN r (n % c)
theorem dotN_app : ∀ (pre tl : List Nat) (n : Nat), dotN (pre ++ tl) n = dotN pre n + dotN tl (remN pre n)
  | [], tl, n => by show dotN tl n = 0 + _; rw [Nat.zero_add]; rfl
  | c :: r, tl, n => by show n / c * c + dotN (r ++ tl) (n % c) = n / c * c + dotN r (n % c) + _; rw [dotN_app r tl, Nat.add_assoc]; rfl
theorem sum_range_getD : ∀ (g cs : List Nat), ((List.range g.length).map fun k => g.getD k 0 * cs.getD k 0).sum = (List.zipWith (· * ·) g cs).sum
  | [], cs => rfl
  | a :: g, [] => by
    have : ∀ n, ((List.range n).map fun k => (a :: g).getD k 0 * ([] : List Nat).getD k 0).sum = 0 := fun n => by
      induction n with
      | zero => rfl
      | succ n ih => rw [List.range_succ, List.map_append, List.sum_append, ih]; simp
    rw [this]; simp
  | a :: g, c :: cs => by
    rw [List.length_cons, List.range_succ_eq_map, List.map_cons, List.map_map, List.sum_cons, List.zipWith_cons_cons, List.sum_cons, ← sum_range_getD g cs]
    rfl
theorem zip_cut : ∀ (pre tl : List Nat) (n x : Nat), (List.zipWith (· * ·) (cutN pre n ++ [x]) (pre ++ tl)).sum = dotN pre n + x * tl.headD 0
  | [], [], n, x => by simp [cutN, dotN]
  | [], c :: tl, n, x => by simp [cutN, dotN]
  | c :: r, tl, n, x => by
    show (n / c * c :: List.zipWith (· * ·) (cutN r (n % c) ++ [x]) (r ++ tl)).sum = n / c * c + dotN r (n % c) + _
    rw [List.sum_cons, zip_cut r tl, Nat.add_assoc]
theorem getD_ints (l : List Nat) (k : Nat) : (intsN l).getD k 0 = ((l.getD k 0 : Nat) : Int) := by
  unfold intsN
  rw [List.getD_eq_getElem?_getD, List.getD_eq_getElem?_getD, List.getElem?_map]
  cases l[k]? <;> rfl
theorem ints_sum (l : List Nat) : (intsN l).sum = ((l.sum : Nat) : Int) := nums_sum l
section
variable {cs pre tl : List Nat} {c i : Nat}
/-- guess, size and hit at the place behind pre -/
theorem guess_eq (hc : cs = pre ++ c :: tl) : guessAt (intsN cs) i pre.length = intsN (cutN pre (cs.getD (i - 1) 0 - 1) ++ [remN pre (cs.getD (i - 1) 0 - 1) / c + 1]) ∨ cs.getD (i - 1) 0 = 0 := by
  by_cases h0 : cs.getD (i - 1) 0 = 0
  · exact .inr h0
  left
  unfold guessAt
  rw [getD_ints, show (((cs.getD (i - 1) 0 : Nat) : Int) - 1) = ((cs.getD (i - 1) 0 - 1 : Nat) : Int) by lia, cutL_N]
  generalize cs.getD (i - 1) 0 - 1 = n0
  have hl := cutN_len pre n0
  rw [hc, cutN_app, cutN]
  have e1 : (intsN (cutN pre n0 ++ remN pre n0 / c :: cutN tl (remN pre n0 % c))).take pre.length = intsN (cutN pre n0) := by
    rw [← List.map_take, List.take_left' hl]
  have e2 : (intsN (cutN pre n0 ++ remN pre n0 / c :: cutN tl (remN pre n0 % c))).getD pre.length 0 = ((remN pre n0 / c : Nat) : Int) := by
    rw [getD_ints, List.getD_eq_getElem?_getD, List.getElem?_append_right (by lia), hl, Nat.sub_self]; rfl
  rw [e1, e2]
  unfold intsN
  rw [List.map_append]; simp
end
theorem size_eq {cs pre tl : List Nat} {c i n0 : Nat} (hc : cs = pre ++ c :: tl) (hg : guessAt (intsN cs) i pre.length = intsN (cutN pre n0 ++ [remN pre n0 / c + 1])) : sizeAt (intsN cs) i pre.length = ((dotN pre n0 + (remN pre n0 / c + 1) * c : Nat) : Int) := by
  unfold sizeAt
  rw [hg]
  generalize hG : cutN pre n0 ++ [remN pre n0 / c + 1] = G
  have hl : G.length = 1 + pre.length := by rw [← hG, List.length_append, cutN_len]; simp; lia
  have e : ((List.range (1 + pre.length)).map fun k => (intsN G).getD k 0 * (intsN cs).getD k 0) = intsN ((List.range (1 + pre.length)).map fun k => G.getD k 0 * cs.getD k 0) := by
    unfold intsN
    rw [List.map_map]
    exact List.map_congr_left fun k _ => by
      show (intsN G).getD k 0 * (intsN cs).getD k 0 = ((G.getD k 0 * cs.getD k 0 : Nat) : Int)
      rw [getD_ints, getD_ints, Int.natCast_mul]
  rw [e, ints_sum, ← hl, sum_range_getD, ← hG, hc, zip_cut]; rfl
theorem hit_eq {cs pre tl : List Nat} {c i n0 : Nat} (hc : cs = pre ++ c :: tl) (hg : guessAt (intsN cs) i pre.length = intsN (cutN pre n0 ++ [remN pre n0 / c + 1])) : hitAt (intsN cs) i pre.length = decide ((cutN pre n0).sum + (remN pre n0 / c + 1) < gcW cs (dotN pre n0 + (remN pre n0 / c + 1) * c)) := by
  unfold hitAt
  rw [size_eq hc hg, hg, cutL_N, ints_sum, ints_sum, gc_eq, List.sum_append, List.sum_singleton]
  exact decide_eq_decide.mpr (by lia)
end Mine
end T43

section T44
open PySem PySem.W PyProof.Rows
set_option Elab.async false
set_option linter.unusedVariables false
set_option maxRecDepth 100000
namespace Mine
noncomputable def wkN (cs : List Nat) : List Nat → Nat → Nat → Nat → List Nat
  | [], _, _, _ => []
  | c :: tl, r, s, t => (if s + (r / c + 1) < gcW cs (t + (r / c + 1) * c) then [t + (r / c + 1) * c] else []) ++ wkN cs tl (r % c) (s + r / c) (t + r / c * c)
noncomputable def fdN (cs : List Nat) : List Nat → List Nat
  | [] => []
  | c :: rest => wkN cs rest (c - 1) 0 0 ++ fdN cs rest
theorem row_walk {cs : List Nat} {i : Nat} (h0 : cs.getD (i - 1) 0 ≠ 0) : ∀ (rest pre : List Nat), cs = pre ++ rest →
    (((List.range rest.length).map fun j => pre.length + j).filter (hitAt (intsN cs) i)).map (sizeAt (intsN cs) i) = intsN (wkN cs rest (remN pre (cs.getD (i - 1) 0 - 1)) (cutN pre (cs.getD (i - 1) 0 - 1)).sum (dotN pre (cs.getD (i - 1) 0 - 1)))
  | [], pre, hc => rfl
  | c :: tl, pre, hc => by
    have hg := (guess_eq (i := i) hc).resolve_right h0
    have ih := row_walk h0 tl (pre ++ [c]) (by rw [hc]; simp)
    generalize cs.getD (i - 1) 0 - 1 = n0 at *
    rw [remN_app, dotN_app, cutN_app, List.sum_append] at ih
    have e1 : ((List.range (c :: tl).length).map fun j => pre.length + j) = pre.length :: (List.range tl.length).map fun j => (pre ++ [c]).length + j := by
      rw [List.length_cons, List.range_succ_eq_map, List.map_cons, List.map_map, Nat.add_zero]
      congr 1
      exact List.map_congr_left fun j _ => by simp [Function.comp]; lia
    rw [e1, List.filter_cons, hit_eq hc hg]
    have e2 : wkN cs (c :: tl) (remN pre n0) (cutN pre n0).sum (dotN pre n0) = (if (cutN pre n0).sum + (remN pre n0 / c + 1) < gcW cs (dotN pre n0 + (remN pre n0 / c + 1) * c) then [dotN pre n0 + (remN pre n0 / c + 1) * c] else []) ++ wkN cs tl (remN pre n0 % c) ((cutN pre n0).sum + remN pre n0 / c) (dotN pre n0 + remN pre n0 / c * c) := by rw [wkN]
    have e3 : remN [c] (remN pre n0) = remN pre n0 % c := rfl
    have e4 : (cutN [c] (remN pre n0)).sum = remN pre n0 / c := by simp [cutN]
    have e5 : dotN [c] (remN pre n0) = remN pre n0 / c * c := by simp [dotN]
    rw [e3, e4, e5] at ih
    rw [e2]
    by_cases hh : (cutN pre n0).sum + (remN pre n0 / c + 1) < gcW cs (dotN pre n0 + (remN pre n0 / c + 1) * c)
    · rw [if_pos (decide_eq_true hh), if_pos hh, List.map_cons, ih, size_eq hc hg]; rfl
    · rw [if_neg (by simpa using hh), if_neg hh, ih]; rfl
theorem small_pre : ∀ (pre : List Nat) (n : Nat), (∀ c ∈ pre, n < c) → remN pre n = n ∧ (cutN pre n).sum = 0 ∧ dotN pre n = 0
  | [], n, _ => ⟨rfl, rfl, rfl⟩
  | c :: r, n, h => by
    have hc := h c List.mem_cons_self
    obtain ⟨a, b, d⟩ := small_pre r n fun x hx => h x (List.mem_cons_of_mem _ hx)
    have q : n / c = 0 := Nat.div_eq_of_lt hc
    have m : n % c = n := Nat.mod_eq_of_lt hc
    refine ⟨?_, ?_, ?_⟩
    · show remN r (n % c) = n; rw [m, a]
    · rw [cutN, q, m, List.sum_cons, b]
    · rw [dotN, q, m, d, Nat.zero_mul]
theorem found_walk {cs : List Nat} (hd : cs.Pairwise (· > ·)) (hp : ∀ c ∈ cs, 1 ≤ c) : ∀ (l pre : List Nat), cs = pre ++ l → ((List.range (l.length - 1)).map fun k => pre.length + 1 + k).flatMap (rowOf (intsN cs)) = intsN (fdN cs l)
  | [], pre, hc => rfl
  | [c], pre, hc => rfl
  | c :: d :: r, pre, hc => by
    have ih := found_walk hd hp (d :: r) (pre ++ [c]) (by rw [hc]; simp)
    have e1 : ((List.range ((c :: d :: r).length - 1)).map fun k => pre.length + 1 + k) = (pre.length + 1) :: (List.range ((d :: r).length - 1)).map fun k => (pre ++ [c]).length + 1 + k := by
      have : (c :: d :: r).length - 1 = (d :: r).length - 1 + 1 := by simp
      rw [this, List.range_succ_eq_map, List.map_cons, List.map_map, Nat.add_zero]
      congr 1
      exact List.map_congr_left fun j _ => by simp [Function.comp]; lia
    rw [e1, List.flatMap_cons, ih]
    have g0 : cs.getD (pre.length + 1 - 1) 0 = c := by
      rw [hc, Nat.add_sub_cancel, List.getD_eq_getElem?_getD, List.getElem?_append_right (Nat.le_refl _), Nat.sub_self]; rfl
    have c1 : 1 ≤ c := hp c (by rw [hc]; exact List.mem_append_right _ List.mem_cons_self)
    have row : rowOf (intsN cs) (pre.length + 1) = intsN (wkN cs (d :: r) (c - 1) 0 0) := by
      have w := row_walk (cs := cs) (i := pre.length + 1) (by rw [g0]; lia) (d :: r) (pre ++ [c]) (by rw [hc]; simp)
      rw [g0] at w
      obtain ⟨s1, s2, s3⟩ := small_pre (pre ++ [c]) (c - 1) fun x hx => by
        rcases List.mem_append.mp hx with hx | hx
        · rw [hc] at hd
          have := (List.pairwise_append.mp hd).2.2 x hx c List.mem_cons_self
          lia
        · rw [List.mem_singleton.mp hx]; lia
      rw [s1, s2, s3] at w
      rw [← w]
      unfold rowOf
      have hl : (intsN cs).length - (pre.length + 1) = (d :: r).length := by
        unfold intsN; rw [List.length_map, hc, List.length_append]; simp; lia
      rw [hl, List.length_append, List.length_singleton]
    rw [row, show fdN cs (c :: d :: r) = wkN cs (d :: r) (c - 1) 0 0 ++ fdN cs (d :: r) by rw [fdN]]
    unfold intsN
    rw [List.map_append]
theorem found_eq {cs : List Nat} (hd : cs.Pairwise (· > ·)) (hp : ∀ c ∈ cs, 1 ≤ c) : foundOf (intsN cs) = intsN (fdN cs cs) := by
  have h := found_walk hd hp cs [] rfl
  unfold foundOf
  have e : (intsN cs).length = cs.length := by unfold intsN; rw [List.length_map]
  rw [e, ← h]
  congr 1
/-! ## the least of them -/
theorem min_b (b x : Nat) : cond (Nat.ble b x) b x = min b x := by
  by_cases h : b ≤ x
  · rw [Nat.ble_eq_true_of_le h, Nat.min_eq_left h]; rfl
  · rw [ble_false h, Nat.min_eq_right (by lia)]; rfl
theorem wk_min (cs : List Nat) : ∀ (rest : List Nat) (r s t b : Nat), wkW cs rest r s t b = (wkN cs rest r s t).foldl min b
  | [], _, _, _, _ => rfl
  | c :: tl, r, s, t, b => by
    have e : wkW cs (c :: tl) r s t b = wkW cs tl (r % c) (s + r / c) (t + r / c * c) (cond (Nat.ble (gcW cs (t + (r / c + 1) * c)) (s + r / c + 1)) b (cond (Nat.ble b (t + (r / c + 1) * c)) b (t + (r / c + 1) * c))) := rfl
    rw [e, wkN, wk_min cs tl, List.foldl_append, min_b]
    by_cases h : s + (r / c + 1) < gcW cs (t + (r / c + 1) * c)
    · rw [if_pos h, ble_false (by lia)]; rfl
    · rw [if_neg h, Nat.ble_eq_true_of_le (by lia)]; rfl
theorem fd_min (cs : List Nat) : ∀ (l : List Nat) (b : Nat), fdW cs l b = (fdN cs l).foldl min b
  | [], _ => rfl
  | c :: rest, b => by
    have e : fdW cs (c :: rest) b = fdW cs rest (wkW cs rest (c - 1) 0 0 b) := rfl
    rw [e, fd_min cs rest, wk_min, fdN, List.foldl_append]
theorem wk_le (cs : List Nat) : ∀ (rest : List Nat) (r s t : Nat), (∀ c ∈ rest, c ≤ 14) → ∀ x ∈ wkN cs rest r s t, x ≤ t + r + 14
  | [], _, _, _, _, x, hx => by cases hx
  | c :: tl, r, s, t, h, x, hx => by
    have hc := h c List.mem_cons_self
    have dm := Nat.div_add_mod r c
    rw [Nat.mul_comm] at dm
    rw [wkN] at hx
    rcases List.mem_append.mp hx with hx | hx
    · split at hx
      · rw [List.mem_singleton.mp hx, Nat.add_mul, Nat.one_mul]; lia
      · cases hx
    · have := wk_le cs tl _ _ _ (fun d hd => h d (List.mem_cons_of_mem _ hd)) x hx
      lia
theorem fd_le (cs : List Nat) : ∀ l : List Nat, (∀ c ∈ l, c ≤ 14) → ∀ x ∈ fdN cs l, x ≤ 28
  | [], _, x, hx => by cases hx
  | c :: r, h, x, hx => by
    rw [fdN] at hx
    rcases List.mem_append.mp hx with hx | hx
    · have := wk_le cs r (c - 1) 0 0 (fun d hd => h d (List.mem_cons_of_mem _ hd)) x hx
      have := h c List.mem_cons_self
      lia
    · exact fd_le cs r (fun d hd => h d (List.mem_cons_of_mem _ hd)) x hx
end Mine
end T44

section T45
open PySem PySem.W PyProof.Rows
set_option Elab.async false
set_option linter.unusedVariables false
set_option maxRecDepth 100000
namespace Mine
theorem coins_upto (z : List Nat) : ∀ k, ((List.range (mxOf z + k)).map fun i => mxOf z + k - i).filter (fun n => decide (n ∈ z)) = coinsOf z
  | 0 => rfl
  | k + 1 => by
    rw [← coins_upto z k, ← Nat.add_assoc, List.range_succ_eq_map, List.map_cons, List.map_map, List.filter_cons]
    rw [if_neg (by
      intro q
      have := mx_le _ (of_decide_eq_true q)
      lia)]
    congr 1
    exact List.map_congr_left fun i _ => by simp [Function.comp] <;> lia
theorem coins_low {z : List Nat} (hz : ∀ n ∈ z, n ≤ 14) : coinsOf z = (lowK ++ [1]).filter fun n => decide (n ∈ z) := by
  have hm := mx_bound hz
  have h := coins_upto z (14 - mxOf z)
  rw [show mxOf z + (14 - mxOf z) = 14 by lia] at h
  rw [← h]; rfl
theorem filter_one {K : List Nat} (h : K.Nodup) (a : Nat) : (K.filter fun n => decide (n = a)).length ≤ 1 := by
  induction K with
  | nil => simp
  | cons b r ih =>
    rw [List.filter_cons]
    have hn := List.nodup_cons.mp h
    by_cases hb : b = a
    · subst hb
      rw [if_pos (decide_eq_true rfl), List.length_cons]
      have : r.filter (fun n => decide (n = b)) = [] := List.filter_eq_nil_iff.mpr fun x hx => by
        intro q
        have q := of_decide_eq_true q
        exact hn.1 (q ▸ hx)
      rw [this]; simp
    · rw [if_neg (by simpa using hb)]; exact ih hn.2
theorem filter_or (K z : List Nat) (a : Nat) : (K.filter fun n => decide (n ∈ a :: z)).length ≤ (K.filter fun n => decide (n = a)).length + (K.filter fun n => decide (n ∈ z)).length := by
  induction K with
  | nil => simp
  | cons b r ih =>
    rw [List.filter_cons, List.filter_cons, List.filter_cons]
    by_cases h1 : b = a
    · rw [if_pos (decide_eq_true (by rw [h1]; exact List.mem_cons_self)), if_pos (decide_eq_true h1)]
      split <;> simp only [List.length_cons] <;> lia
    · by_cases h2 : b ∈ z
      · rw [if_pos (decide_eq_true (List.mem_cons_of_mem _ h2)), if_neg (by simpa using h1), if_pos (decide_eq_true h2)]
        simp only [List.length_cons]; lia
      · rw [if_neg (by simp [h1, h2]), if_neg (by simpa using h1), if_neg (by simpa using h2)]
        exact ih
theorem filter_mem {K : List Nat} (h : K.Nodup) : ∀ z : List Nat, (K.filter fun n => decide (n ∈ z)).length ≤ z.length
  | [] => by
    have : K.filter (fun n => decide (n ∈ ([] : List Nat))) = [] := List.filter_eq_nil_iff.mpr fun x _ => by simp
    rw [this]; simp
  | a :: z => by
    have := filter_or K z a
    have := filter_one h a
    have := filter_mem h z
    rw [List.length_cons]; lia
theorem chk_coins {z : List Nat} (h5 : z.length = 5) (hz : ∀ n ∈ z, n ≤ 14) (h1 : 1 ∈ z) : chk (coinsOf z) = true ∧ (coinsOf z).length ≤ 5 ∧ (coinsOf z).Pairwise (· > ·) := by
  have e := coins_low hz
  have e2 : coinsOf z = (lowK.filter fun n => decide (n ∈ z)) ++ [1] := by
    rw [e, List.filter_append, List.filter_cons, if_pos (decide_eq_true h1)]; rfl
  have hl : (coinsOf z).length ≤ 5 := by rw [e, ← h5]; exact filter_mem (by decide) z
  refine ⟨?_, hl, by rw [e]; exact List.Pairwise.filter _ (by decide)⟩
  rw [e2] at hl ⊢
  rw [List.length_append, List.length_singleton] at hl
  exact List.all_eq_true.mp chk_all _ (mem_subs List.filter_sublist 4 (by lia))
theorem fold_least {L : List Nat} {b : Nat} : L.foldl min b ≤ b ∧ (∀ x ∈ L, L.foldl min b ≤ x) ∧ (L.foldl min b = b ∨ L.foldl min b ∈ L) := foldl_min L b
theorem guess2 {z : List Nat} (h5 : z.length = 5) (hz : ∀ n ∈ z, n ≤ 14) (h1 : 1 ∈ z) {e : Nat} (he : e < 8) : Guess2 (coinsOf z) (topOf z e) := by
  obtain ⟨hk, hl, hd⟩ := chk_coins h5 hz h1
  have hp : ∀ c ∈ coinsOf z, 1 ≤ c := fun c hc => (coins_mem.mp hc).2
  have h14 : ∀ c ∈ coinsOf z, c ≤ 14 := fun c hc => hz c (coins_mem.mp hc).1
  have h1c : 1 ∈ coinsOf z := coins_mem.mpr ⟨h1, Nat.le_refl _⟩
  have ht2 : ((coinsOf z).take 2).sum ≤ 28 := take_sum_le _ 2 14 h14
  have hf := found_eq hd hp
  refine ⟨fun c hc => ?_, ?_, fun i j k => ?_, fun ns' hperm hsort => ?_⟩
  · obtain ⟨n, hn, rfl⟩ := List.mem_map.mp hc
    have := hp n hn
    have := h14 n hn
    lia
  · unfold foundOf
    rw [List.length_flatMap]
    have hn : (intsN (coinsOf z)).length ≤ 5 := by unfold intsN; rw [List.length_map]; exact hl
    have key : ∀ l : List Nat, (l.map fun i => (rowOf (intsN (coinsOf z)) i).length).sum ≤ 5 * l.length := fun l => by
      induction l with
      | nil => simp
      | cons a r ih =>
        have := row_len (intsN (coinsOf z)) a
        rw [List.map_cons, List.sum_cons, List.length_cons]; lia
    have := key ((List.range ((intsN (coinsOf z)).length - 1)).map fun i => 1 + i)
    simp only [List.length_map, List.length_range] at this ⊢
    lia
  · rw [getD_ints]
    have := getD_le (i := k) h14
    exact .of_right (intBits_le_64 (by lia) (by lia))
  · unfold chk chkW at hk
    have hb := bad_spec h1c hp (F := ((coinsOf z).take 2).sum + 7) (top := topOf z e) (by lia) (by unfold topOf; lia)
    rw [fd_min] at hk
    rw [hf] at hperm
    have hfl := fd_le (coinsOf z) (coinsOf z) h14
    obtain ⟨m1, m2, m3⟩ := fold_least (L := fdN (coinsOf z) (coinsOf z)) (b := 1000)
    generalize goW (coinsOf z) (((coinsOf z).take 2).sum + 7) 0 0 = g at *
    generalize hL : fdN (coinsOf z) (coinsOf z) = L at *
    generalize hfo : L.foldl min 1000 = f at *
    by_cases g0 : g = 0
    · subst g0
      rw [show Nat.beq 0 0 = true from rfl] at hk
      have hk : f = 1000 := Nat.eq_of_beq_eq_true hk
      have hLn : L = [] := by
        cases L with
        | nil => rfl
        | cons x t =>
          have := m2 x List.mem_cons_self
          have := hfl x List.mem_cons_self
          lia
      rw [hLn] at hperm
      rw [hb.1 rfl, List.perm_nil.mp hperm]; rfl
    · rw [show Nat.beq g 0 = false by
        cases q : Nat.beq g 0 with
        | false => rfl
        | true => exact absurd (Nat.eq_of_beq_eq_true q) g0] at hk
      have hk : cond (Nat.beq g f) (Nat.ble g ((coinsOf z).take 2).sum) false = true := hk
      cases q : Nat.beq g f with
      | false => rw [q] at hk; cases hk
      | true =>
        rw [q] at hk
        have hk : g ≤ ((coinsOf z).take 2).sum := Nat.le_of_ble_eq_true hk
        obtain rfl := Nat.eq_of_beq_eq_true q
        have hmem : g ∈ L := m3.resolve_left (by lia)
        have hbad := hb.2 g0 (by unfold topOf; lia)
        have : intsN (badL (coinsOf z) (topOf z e)) = intsN (badL (coinsOf z) (topOf z e)) := rfl
        rw [show (intsN (badL (coinsOf z) (topOf z e))).take 1 = intsN ((badL (coinsOf z) (topOf z e)).take 1) by unfold intsN; rw [List.map_take], hbad]
        have hg' : (g : Int) ∈ ns' := hperm.mem_iff.mpr (List.mem_map_of_mem hmem)
        cases ns' with
        | nil => cases hg'
        | cons a r =>
          have ha : a ∈ intsN L := hperm.mem_iff.mp List.mem_cons_self
          obtain ⟨x, hx, rfl⟩ := List.mem_map.mp ha
          have hgx := m2 x hx
          have hxg : (x : Int) ≤ g := by
            rcases List.mem_cons.mp hg' with q | q
            · lia
            · exact (List.pairwise_cons.mp hsort).1 _ q
          have : x = g := by lia
          subst this; rfl
end Mine
end T45

section T46
open PySem PySem.W PyProof.Rows
set_option Elab.async false
set_option linter.unusedVariables false
set_option maxRecDepth 100000
namespace Mine
noncomputable def firstW (vs : List (List Nat)) : List Nat := ((vs.filter fun v => !v.isEmpty) ++ vs).headD []
theorem firstV_ne {vs : List (List Nat)} (h : vs ≠ []) : firstV vs = .str (firstW vs) := by
  unfold firstV firstW
  cases e : (vs.filter fun v => !v.isEmpty) ++ vs with
  | nil => exact absurd (List.append_eq_nil_iff.mp e).2 h
  | cons a r => rfl
theorem firstW_mem {vs : List (List Nat)} (h : vs ≠ []) : firstW vs ∈ vs := by
  unfold firstW
  cases e : vs.filter fun v => !v.isEmpty with
  | nil =>
    cases vs with
    | nil => exact absurd rfl h
    | cons a r => rw [List.nil_append]; exact List.mem_cons_self
  | cons a r =>
    have : a ∈ vs.filter fun v => !v.isEmpty := by rw [e]; exact List.mem_cons_self
    exact (List.mem_filter.mp this).1
theorem firstW_snoc (vs : List (List Nat)) (hv : vs ≠ []) (v : List Nat) : firstW (vs ++ [v]) = if firstW vs = [] then v else firstW vs := by
  unfold firstW
  rw [List.filter_append]
  cases e : vs.filter fun v => !v.isEmpty with
  | nil =>
    have hall : ∀ x ∈ vs, x = [] := fun x hx => by
      have := List.filter_eq_nil_iff.mp e x hx
      simpa using this
    cases vs with
    | nil => exact absurd rfl hv
    | cons a r =>
      have ha : a = [] := hall a List.mem_cons_self
      subst ha
      rw [List.nil_append, List.nil_append, List.headD_cons, if_pos rfl]
      cases v with
      | nil => rfl
      | cons c t => rfl
  | cons a r =>
    have : a ∈ vs.filter fun v => !v.isEmpty := by rw [e]; exact List.mem_cons_self
    have hne : a ≠ [] := by simpa using (List.mem_filter.mp this).2
    rw [List.cons_append, List.cons_append, List.cons_append, List.headD_cons, List.headD_cons, if_neg hne]
theorem appl_rep (sm a n : Nat) : applN (rep sm a) (rep sm n) = if a ≤ n then a + 1 else 0 := by
  unfold applN rep
  rw [List.length_replicate, List.take_replicate]
  by_cases h : a ≤ n
  · rw [Nat.min_eq_left h, if_pos rfl, if_pos h]
  · rw [if_neg h, if_neg]
    intro q
    have := congrArg List.length q
    rw [List.length_replicate, List.length_replicate] at this
    lia
noncomputable def okSt (z : List Nat) (vds : List (List Nat)) (n : Nat) (ps : List Nat) (st : Int × Option (List Nat)) : Prop :=
  (st = (-1, none) ∧ ∀ p ∈ ps, ¬ z.getD p 0 ≤ n) ∨ ∃ m, m ≤ n ∧ (∃ p ∈ ps, z.getD p 0 = m) ∧ (∀ p ∈ ps, z.getD p 0 ≤ n → z.getD p 0 ≤ m) ∧ st = (((m + 1 : Nat) : Int), some (firstW ((ps.filter fun p => decide (z.getD p 0 = m)).map fun p => vds.getD p [])))
theorem okSt_step {sm n p : Nat} {z : List Nat} {vds : List (List Nat)} {ps : List Nat} {st : Int × Option (List Nat)} (h : okSt z vds n ps st) : okSt z vds n (ps ++ [p]) (stepA (rep sm n) st (ruleAt sm z vds p)) := by
  have e : stepA (rep sm n) st (ruleAt sm z vds p) = if applN (rep sm (z.getD p 0)) (rep sm n) = 0 then st else if st.1 < (applN (rep sm (z.getD p 0)) (rep sm n) : Nat) then ((applN (rep sm (z.getD p 0)) (rep sm n) : Nat), some (vds.getD p [])) else if ((applN (rep sm (z.getD p 0)) (rep sm n) : Nat) : Int) = st.1 ∧ st.2 = some [] then (st.1, some (vds.getD p [])) else st := rfl
  rw [e, appl_rep]
  by_cases ha : z.getD p 0 ≤ n
  · rw [if_pos ha, if_neg (by lia)]
    have new : (∀ q ∈ ps, z.getD q 0 ≤ n → z.getD q 0 < z.getD p 0) → okSt z vds n (ps ++ [p]) (((z.getD p 0 + 1 : Nat) : Int), some (vds.getD p [])) := fun hlt => by
      refine .inr ⟨z.getD p 0, ha, ⟨p, List.mem_append_right _ List.mem_cons_self, rfl⟩, fun q hq hqn => ?_, ?_⟩
      · rcases List.mem_append.mp hq with hq | hq
        · exact Nat.le_of_lt (hlt q hq hqn)
        · rw [List.mem_singleton.mp hq]; exact Nat.le_refl _
      · have hn : ps.filter (fun q => decide (z.getD q 0 = z.getD p 0)) = [] := List.filter_eq_nil_iff.mpr fun q hq hd => by
          have hd := of_decide_eq_true hd
          have := hlt q hq (by lia)
          lia
        rw [List.filter_append, hn, List.filter_cons, if_pos (decide_eq_true rfl)]
        show _ = (_, some (firstW [vds.getD p []]))
        have hf : ∀ v : List Nat, firstW [v] = v := fun v => by cases v <;> rfl
        rw [hf]
    rcases h with ⟨rfl, hno⟩ | ⟨m, hm, ⟨q₀, hq₀, hz₀⟩, hmax, rfl⟩
    · rw [if_pos (by show (-1 : Int) < _; lia)]
      exact new fun q hq hqn => absurd hqn (hno q hq)
    · by_cases h1 : m < z.getD p 0
      · rw [if_pos (by show ((m + 1 : Nat) : Int) < _; lia)]
        exact new fun q hq hqn => Nat.lt_of_le_of_lt (hmax q hq hqn) h1
      · rw [if_neg (by show ¬ ((m + 1 : Nat) : Int) < _; lia)]
        have hmax' : ∀ q ∈ ps ++ [p], z.getD q 0 ≤ n → z.getD q 0 ≤ m := fun q hq hqn => by
          rcases List.mem_append.mp hq with hq | hq
          · exact hmax q hq hqn
          · rw [List.mem_singleton.mp hq]; lia
        have hne : (ps.filter fun p => decide (z.getD p 0 = m)).map (fun p => vds.getD p []) ≠ [] := by
          have : q₀ ∈ ps.filter fun p => decide (z.getD p 0 = m) := List.mem_filter.mpr ⟨hq₀, decide_eq_true hz₀⟩
          intro q
          rw [List.map_eq_nil_iff.mp q] at this; cases this
        by_cases h2 : z.getD p 0 = m
        · have ef : ((ps ++ [p]).filter fun p => decide (z.getD p 0 = m)).map (fun p => vds.getD p []) = (ps.filter fun p => decide (z.getD p 0 = m)).map (fun p => vds.getD p []) ++ [vds.getD p []] := by
            rw [List.filter_append, List.filter_cons, if_pos (decide_eq_true h2), List.map_append]; rfl
          refine .inr ⟨m, hm, ⟨q₀, List.mem_append_left _ hq₀, hz₀⟩, hmax', ?_⟩
          rw [ef, firstW_snoc _ hne]
          by_cases h3 : firstW ((ps.filter fun p => decide (z.getD p 0 = m)).map fun p => vds.getD p []) = []
          · rw [if_pos ⟨by show ((z.getD p 0 + 1 : Nat) : Int) = ((m + 1 : Nat) : Int); rw [h2], by show some _ = _; rw [h3]⟩, if_pos h3]
          · rw [if_neg (fun q => h3 (Option.some.inj q.2)), if_neg h3]
        · have ef : (ps ++ [p]).filter (fun p => decide (z.getD p 0 = m)) = ps.filter fun p => decide (z.getD p 0 = m) := by
            rw [List.filter_append, List.filter_cons, if_neg (by simpa using h2), List.filter_nil, List.append_nil]
          rw [if_neg (fun q => h2 (by have q1 : ((z.getD p 0 + 1 : Nat) : Int) = ((m + 1 : Nat) : Int) := q.1; lia))]
          exact .inr ⟨m, hm, ⟨q₀, List.mem_append_left _ hq₀, hz₀⟩, hmax', by rw [ef]⟩
  · rw [if_neg ha, if_pos rfl]
    rcases h with ⟨h, hno⟩ | ⟨m, hm, ⟨q₀, hq₀, hz₀⟩, hmax, h⟩
    · refine .inl ⟨h, fun q hq => ?_⟩
      rcases List.mem_append.mp hq with hq | hq
      · exact hno q hq
      · rw [List.mem_singleton.mp hq]; exact ha
    · refine .inr ⟨m, hm, ⟨q₀, List.mem_append_left _ hq₀, hz₀⟩, fun q hq hqn => ?_, ?_⟩
      · rcases List.mem_append.mp hq with hq | hq
        · exact hmax q hq hqn
        · rw [List.mem_singleton.mp hq] at hqn; exact absurd hqn ha
      · rw [h, List.filter_append, List.filter_cons, if_neg (by simp only [decide_eq_true_eq]; lia), List.filter_nil, List.append_nil]
theorem okSt_all (sm n : Nat) (z : List Nat) (vds : List (List Nat)) : ∀ k, okSt z vds n (List.range k) (((List.range k).map (ruleAt sm z vds)).foldl (stepA (rep sm n)) (-1, none))
  | 0 => .inl ⟨rfl, fun p hp => by cases hp⟩
  | k + 1 => by
    rw [List.range_succ, List.map_append, List.foldl_append]
    exact okSt_step (okSt_all sm n z vds k)
theorem get5 {z : List Nat} (h5 : z.length = 5) {a : Nat} (h : a ∈ z) : ∃ p ∈ List.range 5, z.getD p 0 = a := by
  obtain ⟨i, hi, rfl⟩ := List.mem_iff_getElem.mp h
  exact ⟨i, List.mem_range.mpr (by lia), by rw [List.getD_eq_getElem?_getD, List.getElem?_eq_getElem hi]; rfl⟩
theorem told2 {sm : Nat} {z : List Nat} {vds : List (List Nat)} (h5 : z.length = 5) (hz : ∀ n ∈ z, n ≤ 14) (h1 : 1 ∈ z) (hv : vds.length = 5) (hu : ∀ p q, p < 5 → q < 5 → vds.getD p [] = vds.getD q [] → z.getD p 0 = z.getD q 0) : Told2 sm z vds := by
  have hat : ∀ m, (∃ p ∈ List.range 5, z.getD p 0 = m) → atSize z vds m ≠ [] := fun m ⟨p, hp, e⟩ q => by
    have : p ∈ (List.range 5).filter fun p => decide (z.getD p 0 = m) := List.mem_filter.mpr ⟨hp, decide_eq_true e⟩
    unfold atSize at q
    rw [List.map_eq_nil_iff.mp q] at this; cases this
  have tell : ∀ n, okSt z vds n (List.range 5) (((List.range 5).map (ruleAt sm z vds)).foldl (stepA (rep sm n)) (-1, none)) := fun n => okSt_all sm n z vds 5
  have te : ∀ n, tellN sm z vds n = (((List.range 5).map (ruleAt sm z vds)).foldl (stepA (rep sm n)) (-1, none)).2 := fun n => rfl
  have zeroC : (tellN sm z vds 0 = none ∧ atSize z vds 0 = []) ∨ (tellN sm z vds 0 = some (firstW (atSize z vds 0)) ∧ atSize z vds 0 ≠ []) := by
    rcases tell 0 with ⟨e, hno⟩ | ⟨m, hm, hex, hmax, e⟩
    · refine .inl ⟨by rw [te, e], ?_⟩
      unfold atSize
      rw [List.map_eq_nil_iff]
      exact List.filter_eq_nil_iff.mpr fun p hp hd => hno p hp (by have := of_decide_eq_true hd; lia)
    · obtain rfl : m = 0 := by lia
      exact .inr ⟨by rw [te, e]; rfl, hat 0 hex⟩
  refine ⟨?_, fun h => ?_, fun n hn => ?_⟩
  · rcases zeroC with ⟨a, b⟩ | ⟨a, b⟩
    · rw [a, b]; rfl
    · rw [a, firstV_ne b]; rfl
  · rcases zeroC with ⟨a, b⟩ | ⟨a, b⟩
    · exact a
    · exact absurd h b
  · rcases tell n with ⟨e, hno⟩ | ⟨m, hm, hex, hmax, e⟩
    · obtain ⟨p, hp, hp1⟩ := get5 h5 h1
      exact absurd (hp1 ▸ hn) (hno p hp)
    · obtain ⟨p1, hp1, e1⟩ := get5 h5 h1
      have m1 : 1 ≤ m := by have := hmax p1 hp1 (by lia); lia
      obtain ⟨q0, hq0, z0⟩ := hex
      have hq05 := List.mem_range.mp hq0
      have hmz : m ∈ z := by
        rw [← z0, List.getD_eq_getElem?_getD, List.getElem?_eq_getElem (by lia)]
        exact List.getElem_mem _
      have hmc : m ∈ coinsOf z := coins_mem.mpr ⟨hmz, m1⟩
      have hbig : bigOf (coinsOf z) n = m := by
        obtain ⟨_, _, hd⟩ := chk_coins h5 hz h1
        unfold bigOf
        cases hf : (coinsOf z).find? fun c => decide (c ≤ n) with
        | none => exact absurd (List.find?_eq_none.mp hf m hmc) (by simpa using hm)
        | some c =>
          obtain ⟨hcn, as, bs, hl, has⟩ := List.find?_eq_some_iff_append.mp hf
          have hcn := of_decide_eq_true hcn
          have hcz : c ∈ z := (coins_mem.mp (by rw [hl]; exact List.mem_append_right _ List.mem_cons_self)).1
          obtain ⟨pc, hpc, ec⟩ := get5 h5 hcz
          have hcm : c ≤ m := by have := hmax pc hpc (by lia); lia
          rw [hl] at hmc hd
          rcases List.mem_append.mp hmc with q | q
          · have := has m q
            simp at this; lia
          · rcases List.mem_cons.mp q with q | q
            · exact q.symm
            · have := (List.pairwise_cons.mp (List.pairwise_append.mp hd).2.1).1 m q
              lia
      have hne := hat m ⟨q0, hq0, z0⟩
      have hmem := firstW_mem hne
      refine ⟨firstW (atSize z vds m), by rw [te, e]; rfl, ?_, ?_, by rw [hbig]; exact firstV_ne hne, by rw [hbig]; exact m1, by rw [hbig]; exact hm⟩
      · unfold atSize at hmem
        obtain ⟨p, hp, ep⟩ := List.mem_map.mp hmem
        have hp5 := List.mem_range.mp (List.mem_filter.mp hp).1
        unfold atSize
        rw [← ep, List.getD_eq_getElem?_getD, List.getElem?_eq_getElem (by lia)]
        exact List.getElem_mem _
      · rw [hbig]
        obtain ⟨p, hp, ep⟩ := List.mem_map.mp hmem
        obtain ⟨hp5, hpm⟩ := List.mem_filter.mp hp
        have hpm := of_decide_eq_true hpm
        generalize firstW (atSize z vds m) = x at *
        have all : ∀ y ∈ tookOf z vds n x, y = m := fun y hy => by
          obtain ⟨q, hq, rfl⟩ := List.mem_map.mp hy
          obtain ⟨hq5, hqq⟩ := List.mem_filter.mp hq
          have hqx := of_decide_eq_true ((Bool.and_eq_true _ _).mp hqq).1
          rw [← hpm]
          exact hu q p (List.mem_range.mp hq5) (List.mem_range.mp hp5) (hqx.trans ep.symm)
        have hin : p ∈ (List.range 5).filter fun p => decide (vds.getD p [] = x) && (decide (0 < z.getD p 0) && decide (z.getD p 0 ≤ n)) :=
          List.mem_filter.mpr ⟨hp5, by rw [decide_eq_true ep, decide_eq_true (by lia : 0 < z.getD p 0), decide_eq_true (by lia : z.getD p 0 ≤ n)]; rfl⟩
        cases ht : tookOf z vds n x with
        | nil =>
          unfold tookOf at ht
          rw [List.map_eq_nil_iff.mp ht] at hin; cases hin
        | cons y r => exact ⟨r, by rw [all y (by rw [ht]; exact List.mem_cons_self)]⟩
end Mine
end T46

section T47
open PySem PySem.W PyProof.Rows
set_option Elab.async false
set_option linter.unusedVariables false
set_option maxRecDepth 100000
namespace Mine
noncomputable def qb (c : Nat) : Option (List Nat) := (dPE.find? fun a => a.k == (c : Int)).map fun a => a.x.cps.toList
theorem look_find (i : Int) : ∀ L : List PE, PySem.Spec.lookup (.int i) (L.map fun a => (PyData.int a.k, PyData.str a.x)) = (L.find? fun a => a.k == i).map fun a => .str a.x
  | [] => rfl
  | a :: r => by
    have e : PySem.Spec.same (.int a.k) (.int i) = (a.k == i) := by unfold PySem.Spec.same; rfl
    rw [List.map_cons, List.find?_cons]
    unfold PySem.Spec.lookup
    rw [e]
    cases a.k == i with
    | true => rfl
    | false => exact look_find i r
theorem b3of_qb (c : Nat) : b3of b3D c = (qb c).getD (lowerL [c]) := by
  unfold b3of b3D qb
  rw [look_find]
  cases dPE.find? fun a => a.k == (c : Int) <;> rfl
theorem low_len (c : Nat) : (lowerL [c]).length ≤ 3 := by
  have := len_lower (strL [c])
  simpa [lowerL, Str.length, strL] using this
theorem b3ok_qb (c : Nat) (h : (b3of b3D c).length ≤ 3) : b3ok b3D c = true := by
  have h1 := low_len c
  unfold b3ok
  rw [decide_eq_true h1, decide_eq_true h, Bool.and_true, Bool.and_true]
  unfold b3D
  rw [look_find]
  cases dPE.find? fun a => a.k == (c : Int) <;> rfl
theorem fin_low : ((List.range 128).all fun c => decide (qb c = none)) = true := by decide +kernel
theorem fin_guise : decide (qb 383 = some [115] ∧ qb 119813 = some [102] ∧ qb 8490 = none ∧ qb 223 = some [115, 115] ∧ qb 64256 = some [102, 102] ∧ qb 13261 = some [107, 107]) = true := by decide +kernel
theorem fin_font : ((List.range 30).all fun n => decide (qb (fonts.getD (n / 3) 0 + letterC (n % 3)) = some [97 + letterC (n % 3)])) = true := by decide +kernel
theorem fin_lone : ((List.range 27).all fun n => decide (qb (if n < 11 then lone.getD n 0 else 65013 + n) = none)) = true := by decide +kernel
theorem kelvin : lowerL [8490] = [107] := by kernel_rfl
theorem low_case (k : Nat) (hk : k < 26) : lowerL [97 + k] = [97 + k] ∧ lowerL [65 + k] = [97 + k] := by
  constructor
  · rw [lower_ok (by simp; lia)]
    simp [lo1]; lia
  · rw [lower_ok (by simp; lia)]
    show [lo1 (65 + k)] = [97 + k]
    unfold lo1; rw [if_pos (by lia)]; congr 1; lia
theorem s_low : ((List.range 128).all fun c => !b1S c) = true := by decide +kernel
theorem s_guise : ([383, 119813, 8490, 223, 64256, 13261].all fun c : Nat => !b1S (c : Int)) = true := by decide +kernel
theorem s_font : ((List.range 30).all fun n => !b1S ((fonts.getD (n / 3) 0 + letterC (n % 3) : Nat) : Int)) = true := by decide +kernel
theorem s_lone : ((List.range 27).all fun n => b1S ((if n < 11 then lone.getD n 0 else 65013 + n : Nat) : Int)) = true := by decide +kernel
theorem small_is {l : Nat} (h : l < 3) : smallOf l = 97 + letterC l := by
  match l, h with
  | 0, _ => rfl
  | 1, _ => rfl
  | 2, _ => rfl
/-- what a sign is worth -/
theorem sign_facts {l f : Nat} (k : Nat) (hl : l < 3) (hf : f < 6) : b1S (signC l f k : Nat) = decide (signN f = 0) ∧ b3ok b3D (signC l f k) = true ∧ (signN f ≠ 0 → b3of b3D (signC l f k) = rep (smallOf l) (signN f)) ∧ signC l f k < 0x110000 ∧ signN f ≤ 2 := by
  have g := of_decide_eq_true fin_guise
  have hle := letterC_le l
  have done : ∀ c n, b1S (c : Nat) = false → n ≠ 0 → n ≤ 2 → b3of b3D c = rep (smallOf l) n → c < 0x110000 → b1S (c : Nat) = decide (n = 0) ∧ b3ok b3D c = true ∧ (n ≠ 0 → b3of b3D c = rep (smallOf l) n) ∧ c < 0x110000 ∧ n ≤ 2 := fun c n h1 h2 h3 h4 h5 =>
    ⟨by rw [h1, decide_eq_false h2], b3ok_qb c (by rw [h4]; unfold rep; rw [List.length_replicate]; lia), fun _ => h4, h5, h3⟩
  have low : ∀ c, c < 128 → lowerL [c] = [97 + letterC l] → b1S (c : Nat) = false ∧ b3of b3D c = rep (smallOf l) 1 := fun c hc hlow => by
    refine ⟨by simpa using List.all_eq_true.mp s_low c (List.mem_range.mpr hc), ?_⟩
    rw [b3of_qb, of_decide_eq_true (List.all_eq_true.mp fin_low c (List.mem_range.mpr hc)), small_is hl]
    exact hlow
  have gs : ∀ c ∈ [383, 119813, 8490, 223, 64256, 13261], b1S ((c : Nat) : Int) = false := fun c hc => by simpa using List.all_eq_true.mp s_guise c hc
  match f, hf with
  | 0, _ =>
    obtain ⟨a, b⟩ := low (97 + letterC l) (by lia) (low_case _ (by lia)).1
    exact done (97 + letterC l) 1 a (by decide) (by decide) b (by lia)
  | 1, _ =>
    obtain ⟨a, b⟩ := low (65 + letterC l) (by lia) (low_case _ (by lia)).2
    exact done (65 + letterC l) 1 a (by decide) (by decide) b (by lia)
  | 2, _ =>
    refine done ([383, 119813, 8490].getD l 0) 1 ?_ (by decide) (by decide) ?_ ?_
    · match l, hl with
      | 0, _ => exact gs 383 (by simp)
      | 1, _ => exact gs 119813 (by simp)
      | 2, _ => exact gs 8490 (by simp)
    · rw [b3of_qb]
      match l, hl with
      | 0, _ => show (qb 383).getD _ = _; rw [g.1]; rfl
      | 1, _ => show (qb 119813).getD _ = _; rw [g.2.1]; rfl
      | 2, _ => show (qb 8490).getD (lowerL [8490]) = _; rw [g.2.2.1, kelvin]; rfl
    · match l, hl with
      | 0, _ => decide
      | 1, _ => decide
      | 2, _ => decide
  | 3, _ =>
    have hj : k % 10 < 10 := Nat.mod_lt _ (by decide)
    refine done (fonts.getD (k % 10) 0 + letterC l) 1 ?_ (by decide) (by decide) ?_ ?_
    · have := List.all_eq_true.mp s_font (k % 10 * 3 + l) (List.mem_range.mpr (by lia))
      rw [show (k % 10 * 3 + l) / 3 = k % 10 by lia, show (k % 10 * 3 + l) % 3 = l by lia] at this
      simpa using this
    · have := of_decide_eq_true (List.all_eq_true.mp fin_font (k % 10 * 3 + l) (List.mem_range.mpr (by lia)))
      rw [show (k % 10 * 3 + l) / 3 = k % 10 by lia, show (k % 10 * 3 + l) % 3 = l by lia] at this
      rw [b3of_qb, this, small_is hl]; rfl
    · have : fonts.getD (k % 10) 0 ≤ 120432 := getD_lt (by decide)
      lia
  | 4, _ =>
    refine done ([223, 64256, 13261].getD l 0) 2 ?_ (by decide) (by decide) ?_ ?_
    · match l, hl with
      | 0, _ => exact gs 223 (by simp)
      | 1, _ => exact gs 64256 (by simp)
      | 2, _ => exact gs 13261 (by simp)
    · rw [b3of_qb]
      match l, hl with
      | 0, _ => show (qb 223).getD _ = _; rw [g.2.2.2.1]; rfl
      | 1, _ => show (qb 64256).getD _ = _; rw [g.2.2.2.2.1]; rfl
      | 2, _ => show (qb 13261).getD _ = _; rw [g.2.2.2.2.2]; rfl
    · match l, hl with
      | 0, _ => decide
      | 1, _ => decide
      | 2, _ => decide
  | 5, _ =>
    have hj : k % 27 < 27 := Nat.mod_lt _ (by decide)
    have ec : signC l 5 k = if k % 27 < 11 then lone.getD (k % 27) 0 else 65013 + k % 27 := rfl
    have h1 := List.all_eq_true.mp s_lone (k % 27) (List.mem_range.mpr hj)
    have h2 := of_decide_eq_true (List.all_eq_true.mp fin_lone (k % 27) (List.mem_range.mpr hj))
    rw [← ec] at h1 h2
    refine ⟨by rw [h1]; rfl, b3ok_qb _ (by rw [b3of_qb, h2]; exact low_len _), fun h => absurd rfl h, ?_, by decide⟩
    rw [ec]
    have : lone.getD (k % 27) 0 ≤ 65279 := getD_lt (by decide)
    split <;> lia
theorem word_signs {l c : Nat} : ∀ p ∈ wordP l c, ∃ f k, f < 6 ∧ p = (signC l f k, signN f) := fun p hp => by
  unfold wordP at hp
  obtain ⟨i, hi, rfl⟩ := List.mem_map.mp hp
  exact ⟨_, _, Nat.mod_lt _ (by decide), rfl⟩
theorem all_signs (s : List Int) : ∀ w ∈ runOf s :: pairsOf s, ∀ p ∈ w, ∃ f k, f < 6 ∧ p = (signC (letterOf s) f k, signN f) := fun w hw p hp => by
  have hl3 : letterOf s < 3 := Nat.mod_lt _ (by decide)
  have four : ∀ w ∈ fourOf s, ∀ p ∈ w, ∃ f k, f < 6 ∧ p = (signC (letterOf s) f k, signN f) := fun w hw p hp => by
    unfold fourOf at hw
    obtain ⟨c, _, rfl⟩ := List.mem_map.mp hw
    exact word_signs p hp
  rcases List.mem_cons.mp hw with rfl | hw
  · unfold runOf at hp
    rcases List.mem_append.mp hp with hp | hp
    · exact word_signs p hp
    · rw [List.mem_singleton.mp hp]; exact ⟨4, 0, by decide, rfl⟩
  · unfold pairsOf at hw
    rcases List.mem_append.mp hw with hw | hw
    · rcases List.mem_append.mp hw with hw | hw
      · exact four w (List.mem_of_mem_take hw) p hp
      · rw [List.mem_singleton.mp hw] at hp
        rw [List.mem_singleton.mp hp]
        exact ⟨0, 0, by decide, by rw [small_is hl3]; rfl⟩
    · exact four w (List.mem_of_mem_drop hw) p hp
theorem pairs_words (s : List Int) : ∀ w ∈ pairsOf s, w.length ≤ 7 ∧ w ≠ [] := fun w hw => by
  have four : ∀ w ∈ fourOf s, w.length ≤ 7 ∧ w ≠ [] := fun w hw => by
    unfold fourOf at hw
    obtain ⟨c, _, rfl⟩ := List.mem_map.mp hw
    refine ⟨wordP_len _ _, fun q => ?_⟩
    have := congrArg List.length q
    unfold wordP at this
    rw [List.length_map, List.length_range] at this
    simp at this
  unfold pairsOf at hw
  rcases List.mem_append.mp hw with hw | hw
  · rcases List.mem_append.mp hw with hw | hw
    · exact four w (List.mem_of_mem_take hw)
    · rw [List.mem_singleton.mp hw]; exact ⟨by simp, by simp⟩
  · exact four w (List.mem_of_mem_drop hw)
theorem good2 (s : List Int) : Good2 b1S b3D (smallOf (letterOf s)) (pairsOf s) (runOf s) where
  b1 := fun w hw p hp => by
    obtain ⟨f, k, hf, rfl⟩ := all_signs s w hw p hp
    exact (sign_facts k (Nat.mod_lt _ (by decide)) hf).1
  ok := fun w hw p hp => by
    obtain ⟨f, k, hf, rfl⟩ := all_signs s w hw p hp
    exact (sign_facts k (Nat.mod_lt _ (by decide)) hf).2.1
  b3 := fun w hw p hp => by
    obtain ⟨f, k, hf, rfl⟩ := all_signs s w hw p hp
    exact (sign_facts k (Nat.mod_lt _ (by decide)) hf).2.2.1
  low := fun w hw p hp => by
    obtain ⟨f, k, hf, rfl⟩ := all_signs s w hw p hp
    exact (sign_facts k (Nat.mod_lt _ (by decide)) hf).2.2.2
  five := pairsOf_len s
  seven := fun w hw => (pairs_words s w hw).1
  eight := by
    unfold runOf
    have := wordP_len (letterOf s) ((cellsN s).getD 6 0)
    rw [List.length_append, List.length_singleton]; lia
  two := by
    unfold siz runOf
    rw [List.map_append, List.sum_append]
    simp
  one := by
    unfold pairsOf
    rw [List.map_append, List.map_append]
    exact List.mem_append_left _ (List.mem_append_right _ (List.mem_singleton.mpr rfl))
  smLow := by
    have : letterOf s < 3 := Nat.mod_lt _ (by decide)
    have := letterC_le (letterOf s)
    rw [small_is (by assumption)]; lia
theorem plain2 : Plain2 b1S b3D where
  good := good2
  told := fun s => by
    have G := good2 s
    have h5 : ((pairsOf s).map siz).length = 5 := by rw [List.length_map, G.five]
    refine told2 h5 G.sizes G.one (by simp [vdsOf]) fun p q hp hq he => ?_
    have vd : ∀ p, p < 5 → ∃ w ∈ pairsOf s, ((pairsOf s).map siz).getD p 0 = siz w ∧ (vdsOf (pairsOf s) (blankOf s)).getD p [] = if p = blankOf s then [] else txt w := fun p hp => by
      have hpl : p < (pairsOf s).length := by rw [G.five]; exact hp
      refine ⟨(pairsOf s)[p], List.getElem_mem _, ?_, ?_⟩
      · rw [List.getD_eq_getElem?_getD, List.getElem?_map, List.getElem?_eq_getElem hpl]; rfl
      · unfold vdsOf
        rw [List.getD_eq_getElem?_getD, List.getElem?_map, List.getElem?_range hp]
        show (if p = blankOf s then [] else ((pairsOf s).map txt).getD p []) = _
        rw [List.getD_eq_getElem?_getD, List.getElem?_map, List.getElem?_eq_getElem hpl]; rfl
    obtain ⟨w, hw, a1, a2⟩ := vd p hp
    obtain ⟨w', hw', b1, b2⟩ := vd q hq
    rw [a1, b1]
    rw [a2, b2] at he
    have ne : ∀ w ∈ pairsOf s, txt w ≠ [] := fun w hw h => (pairs_words s w hw).2 (List.map_eq_nil_iff.mp h)
    by_cases h1 : p = blankOf s
    · by_cases h2 : q = blankOf s
      · have : p = q := h1.trans h2.symm
        subst this
        rw [← a1, ← b1]
      · rw [if_pos h1, if_neg h2] at he
        exact absurd he.symm (ne w' hw')
    · by_cases h2 : q = blankOf s
      · rw [if_neg h1, if_pos h2] at he
        exact absurd he (ne w hw)
      · rw [if_neg h1, if_neg h2] at he
        have e1 := G.prep1 w (List.mem_cons_of_mem _ hw)
        have e2 := G.prep1 w' (List.mem_cons_of_mem _ hw')
        rw [he, e2] at e1
        have := congrArg List.length e1
        unfold rep at this
        rw [List.length_replicate, List.length_replicate] at this
        exact this.symm
  guess := fun s e he => by
    have G := good2 s
    exact guess2 (by rw [List.length_map, G.five]) G.sizes G.one he
end Mine
end T47


theorem PySem.Challenge.cw_rs0172_02_holds : PySem.Challenge.rw_rs0172_02.Holds := by
  exact Mine.holds2 Mine.plain2
