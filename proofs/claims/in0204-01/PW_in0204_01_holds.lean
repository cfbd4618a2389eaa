import PyProof.Rows.All
import Open.Seg
import Open.FastT9
import OpenK.KTop
import OpenK.AllK
import Wide.All
import Wide.FinOn
import PySem.Challenge.RW_in0204_01
section
open PySem PySem.W PySem.Builtin
set_option Elab.async false
set_option maxRecDepth 100000
namespace Mine

/-- where the top may write -/
def okAt (n₀ : Nat) (ann : Option Value) (a : Addr) : Bool := Nat.ble n₀ a || a == mainNs || a == cStatics || ann == some (.ref a)

section
variable (p : Program) (w : World) (n₀ : Nat) (ann : Option Value)

/-- a tree run to its value, step by step, from a state and a place: the number of steps told -/
inductive Ev : {α : Type} → Sem α → Shared → Pos → α → Shared → Pos → Nat → Prop
  | pure {α : Type} (a : α) (s : Shared) (q : Pos) : Ev (.pure a) s q a s q 0
  | rule {α : Type} {t : String} {k : Unit → Sem α} {s s' : Shared} {q q' : Pos} {a : α} {n : Nat} : Ev (k ()) s q a s' q' n → Ev (.rule t k) s q a s' q' (n + 1)
  | «at» {α : Type} {x : Pos} {k : Unit → Sem α} {s s' : Shared} {q q' : Pos} {a : α} {n : Nat} : Ev (k ()) s x a s' q' n → Ev (.at x k) s q a s' q' (n + 1)
  | point {α : Type} {l : List Value} {k : Unit → Sem α} {s s' : Shared} {q q' : Pos} {a : α} {n : Nat} : Ev (k ()) s q a s' q' n → Ev (.point l k) s q a s' q' (n + 1)
  | ask {α : Type} {k : Setting → Sem α} {s s' : Shared} {q q' : Pos} {a : α} {n : Nat} : Ev (k ⟨p, w.params⟩) s q a s' q' n → Ev (.ask k) s q a s' q' (n + 1)
  | fresh {α : Type} {k : Tok → Sem α} {s s' : Shared} {q q' : Pos} {a : α} {n : Nat} : Ev (k s.toks) { s with toks := s.toks + 1 } q a s' q' n → Ev (.fresh k) s q a s' q' (n + 1)
  | alloc {α : Type} {o : Obj} {k : Addr → Sem α} {s s' : Shared} {q q' : Pos} {a : α} {n : Nat} : Ev (k s.heap.objs.size) { s with heap := s.heap.push o } q a s' q' n → Ev (.alloc o k) s q a s' q' (n + 1)
  | load {α : Type} {b : Addr} {part : Option Value} {k : Obj → Sem α} {o : Obj} {s s' : Shared} {q q' : Pos} {a : α} {n : Nat} (h : s.heap.get? b = some o) : Ev (k o) s q a s' q' n → Ev (.load b part k) s q a s' q' (n + 1)
  | update {α : Type} {b : Addr} {part : Option Value} {f : Obj → Obj} {k : Unit → Sem α} {s s' : Shared} {q q' : Pos} {a : α} {n : Nat} (hk : okAt n₀ ann b = true) (h : (s.heap.get? b).isSome = true) :
      Ev (k ()) { s with heap := s.heap.update b f } q a s' q' n → Ev (.update b part f k) s q a s' q' (n + 1)
  | call {α : Type} {c : Code} {hd : Option Value} {g : Bool} {l : List Value} {k : Result → Sem α} {r : Flow} {s s₁ s' : Shared} {q q' : Pos} {a : α} {n m : Nat}
      (h : ∀ (b : Nat) (y : Result → Sem Fin) (hd' : Option Value) (g' : Bool) (l' : List Value) (cd : Code) (q₀ : Pos) (kept : List Value) (rest : List Frame), b ≤ rest.length →
        ∃ c₁ q₁ kept₁, segGo treeTable p w n₀ ann b m s ⟨denote treeTable c, c, q, .ret y hd' g' l' cd q₀ kept :: rest⟩ = some (s₁, ⟨.pure (.done r), c₁, q₁, .ret y hd' g' l' cd q₀ kept₁ :: rest⟩)) :
      Ev (k (.ok r)) s₁ q a s' q' n → Ev (.call c hd g l k) s q a s' q' (1 + m + 1 + n)
end

section
variable {p : Program} {w : World} {n₀ : Nat} {ann : Option Value} {α β : Type} {s s₁ s₂ : Shared} {q q₁ q₂ : Pos} {n m : Nat}

theorem segGo_add {tb : String → Option Builtin} {b : Nat} : ∀ {n m : Nat} {s s₁ : Shared} {t t₁ : Thread} {r : Shared × Thread}, segGo tb p w n₀ ann b n s t = some (s₁, t₁) → segGo tb p w n₀ ann b m s₁ t₁ = some r → segGo tb p w n₀ ann b (n + m) s t = some r
  | 0, m, s, s₁, t, t₁, r, h, k => by
    obtain ⟨rfl, rfl⟩ : s = s₁ ∧ t = t₁ := by simpa [segGo] using h
    rw [Nat.zero_add]; exact k
  | n + 1, m, s, s₁, t, t₁, r, h, k => by
    rw [show n + 1 + m = (n + m) + 1 by omega]
    unfold segGo at h ⊢
    cases he : endAt b t with
    | some f => rw [he] at h; cases h
    | none =>
      rw [he] at h
      cases hk : stepOk n₀ ann t with
      | false => rw [hk] at h; cases h
      | true =>
        rw [hk] at h
        cases hs : step (denote tb) p w s t with
        | halt o s₂ => rw [hs] at h; cases h
        | go s₂ t₂ => rw [hs] at h; exact segGo_add h k

theorem endAt_none {b : Nat} {t : Thread} (h : ∀ f, t.cur ≠ .pure (.done f)) : endAt b t = none := by
  unfold endAt
  split
  · rename_i f _ e
    exact absurd e (h f)
  · rfl
theorem endAt_deep {b : Nat} {t : Thread} (h : b < t.stack.length) : endAt b t = none := by
  unfold endAt
  split
  · rename_i f e _
    have := beq_iff_eq.mp e
    omega
  · rfl

/-- one step -/
theorem segGo_one {tb : String → Option Builtin} {b : Nat} {t t₁ : Thread} (he : endAt b t = none) (hk : stepOk n₀ ann t = true) (hs : step (denote tb) p w s t = .go s₁ t₁) : segGo tb p w n₀ ann b 1 s t = some (s₁, t₁) := by
  unfold segGo
  rw [he, hk, hs]
  rfl
theorem segGo_next {tb : String → Option Builtin} {b : Nat} {t t₁ : Thread} {r : Shared × Thread} (he : endAt b t = none) (hk : stepOk n₀ ann t = true) (hs : step (denote tb) p w s t = .go s₁ t₁)
    (h : segGo tb p w n₀ ann b n s₁ t₁ = some r) : segGo tb p w n₀ ann b (n + 1) s t = some r := by
  rw [Nat.add_comm]
  exact segGo_add (segGo_one he hk hs) h

theorem step_call {c : Code} {hd : Option Value} {g : Bool} {l : List Value} {k : Result → Sem Fin} {code : Code} {stack : List Frame} :
    ∃ kept, step (denote treeTable) p w s ⟨.call c hd g l k, code, q, stack⟩ = .go s ⟨denote treeTable c, c, q, .ret k hd g l code q kept :: stack⟩ := ⟨_, rfl⟩

theorem Ev.go {m : Sem α} {a : α} (E : Ev p w n₀ ann m s q a s₁ q₁ n) : ∀ (b : Nat) (K : α → Sem Fin) (H : Value → Sem Fin) (gd : Bool → Bool) (lv : List Value → List Value) (code : Code) (stack : List Frame), b ≤ stack.length →
    segGo treeTable p w n₀ ann b n s ⟨m.wrap K H gd lv, code, q, stack⟩ = some (s₁, ⟨K a, code, q₁, stack⟩) := by
  induction E with
  | pure a s q => intro b K H gd lv code stack hb; rfl
  | rule _ ih => intro b K H gd lv code stack hb; exact segGo_next (endAt_none fun f e => by cases e) rfl rfl (ih b K H gd lv code stack hb)
  | «at» _ ih => intro b K H gd lv code stack hb; exact segGo_next (endAt_none fun f e => by cases e) rfl rfl (ih b K H gd lv code stack hb)
  | point _ ih => intro b K H gd lv code stack hb; exact segGo_next (endAt_none fun f e => by cases e) rfl rfl (ih b K H gd lv code stack hb)
  | ask _ ih => intro b K H gd lv code stack hb; exact segGo_next (endAt_none fun f e => by cases e) rfl rfl (ih b K H gd lv code stack hb)
  | fresh _ ih => intro b K H gd lv code stack hb; exact segGo_next (endAt_none fun f e => by cases e) rfl rfl (ih b K H gd lv code stack hb)
  | alloc _ ih => intro b K H gd lv code stack hb; exact segGo_next (endAt_none fun f e => by cases e) rfl rfl (ih b K H gd lv code stack hb)
  | load h _ ih =>
    intro b K H gd lv code stack hb
    refine segGo_next (endAt_none fun f e => by cases e) rfl ?_ (ih b K H gd lv code stack hb)
    simp only [Sem.wrap, step, h]
  | update hk h _ ih =>
    intro b K H gd lv code stack hb
    refine segGo_next (endAt_none fun f e => by cases e) ?_ ?_ (ih b K H gd lv code stack hb)
    · exact hk
    · simp only [Sem.wrap, step, h, if_true]
  | @call c hd g l k r s s₁ s' q q' a n m h _ ih =>
    intro b K H gd lv code stack hb
    obtain ⟨kept, hs⟩ := step_call (p := p) (w := w) (s := s) (c := c) (hd := hd) (g := gd g) (l := lv l) (k := fun r => (k r).wrap K H gd lv) (code := code) (q := q) (stack := stack)
    obtain ⟨c₁, q₁, kept₁, hr⟩ := h b (fun r => (k r).wrap K H gd lv) hd (gd g) (lv l) code q kept stack hb
    have e1 : 1 + m + 1 + n = (m + (n + 1)) + 1 := by omega
    rw [e1]
    exact segGo_next (endAt_none fun f e => by cases e) rfl hs (segGo_add hr (segGo_next (endAt_deep (Nat.lt_succ_of_le hb)) rfl rfl (ih b K H gd lv code stack hb)))

theorem Ev.bind {m : Sem α} {f : α → Sem β} {a : α} {c : β} {k : Nat} (E : Ev p w n₀ ann m s q a s₁ q₁ n) (F : Ev p w n₀ ann (f a) s₁ q₁ c s₂ q₂ k) : Ev p w n₀ ann (m >>= f) s q c s₂ q₂ (n + k) := by
  show Ev p w n₀ ann (m.bind f) s q c s₂ q₂ (n + k)
  induction E with
  | pure a s q => rw [Nat.zero_add]; exact F
  | rule _ ih => rw [Nat.add_right_comm]; exact .rule (ih F)
  | «at» _ ih => rw [Nat.add_right_comm]; exact .at (ih F)
  | point _ ih => rw [Nat.add_right_comm]; exact .point (ih F)
  | ask _ ih => rw [Nat.add_right_comm]; exact .ask (ih F)
  | fresh _ ih => rw [Nat.add_right_comm]; exact .fresh (ih F)
  | alloc _ ih => rw [Nat.add_right_comm]; exact .alloc (ih F)
  | load h _ ih => rw [Nat.add_right_comm]; exact .load h (ih F)
  | update hk h _ ih => rw [Nat.add_right_comm]; exact .update hk h (ih F)
  | call h _ ih => rw [Nat.add_assoc]; exact .call h (ih F)

theorem Ev.keep {m : Sem α} {a : α} (vs : List Value) (E : Ev p w n₀ ann m s q a s₁ q₁ n) : Ev p w n₀ ann (m.keep vs) s q a s₁ q₁ n := by
  induction E with
  | pure a s q => exact .pure a s q
  | rule _ ih => exact .rule ih
  | «at» _ ih => exact .at ih
  | point _ ih => exact .point ih
  | ask _ ih => exact .ask ih
  | fresh _ ih => exact .fresh ih
  | alloc _ ih => exact .alloc ih
  | load h _ ih => exact .load h ih
  | update hk h _ ih => exact .update hk h ih
  | call h _ ih => exact .call h ih

theorem Ev.onRaise {m : Sem α} {a : α} (f : Value → Sem Unit) (E : Ev p w n₀ ann m s q a s₁ q₁ n) : Ev p w n₀ ann (m.onRaise f) s q a s₁ q₁ n := by
  induction E with
  | pure a s q => exact .pure a s q
  | rule _ ih => exact .rule ih
  | «at» _ ih => exact .at ih
  | point _ ih => exact .point ih
  | ask _ ih => exact .ask ih
  | fresh _ ih => exact .fresh ih
  | alloc _ ih => exact .alloc ih
  | load h _ ih => exact .load h ih
  | update hk h _ ih => exact .update hk h ih
  | call h _ ih => exact .call h ih

theorem Ev.holding {m : Sem α} {a : α} (vs : List Value) (E : Ev p w n₀ ann m s q a s₁ q₁ n) : Ev p w n₀ ann (PySem.holding vs m) s q a s₁ q₁ n := by
  unfold PySem.holding
  split
  · exact E
  · exact E.keep _

theorem Ev.of_eq {m m' : Sem α} {a : α} (e : m = m') (E : Ev p w n₀ ann m' s q a s₁ q₁ n) : Ev p w n₀ ann m s q a s₁ q₁ n := e ▸ E
theorem Ev.steps {m : Sem α} {a : α} {n' : Nat} (E : Ev p w n₀ ann m s q a s₁ q₁ n) (e : n = n') : Ev p w n₀ ann m s q a s₁ q₁ n' := e ▸ E

/-- the hash of a text -/
theorem ev_strHash (x : Str) : Ev p w n₀ ann (strHash x) s q (PyData.keyHash w.params x) s q 1 := .ask (.pure _ _ _)

theorem bind_hash (x : Str) (t : Tok) : bindSpecialIfBound? (.str x t) "__hash__" = .ask fun _ => .pure (some (.builtin "str.__hash__", [.str x t])) := by
  have e1 : specialOf (.str x t) "__hash__" = .pure (some (.builtin "str.__hash__")) := by kernel_rfl
  have e2 : bindSpecial (.builtin "str.__hash__") (.str x t) = .pure (.builtin "str.__hash__", [.str x t]) := by kernel_rfl
  unfold bindSpecialIfBound?
  rw [e1]
  show Sem.bind (.ask .pure) (fun st : Setting => if st.params.followText "special-get-raises" = true then _ else _) = _
  rw [e2]
  show Sem.ask _ = Sem.ask _
  congr 1
  funext st
  show (if st.params.followText "special-get-raises" = true then _ else _) = _
  split <;> rfl
theorem denote_hash1 (x : Str) (t : Tok) : denote treeTable (.call (.builtin "str.__hash__") ⟨[.str x t], []⟩) = .pure (.again (.builtin "str.__hash__" ⟨[.str x t], []⟩)) := by kernel_rfl
theorem denote_hash2 (x : Str) (t : Tok) : denote treeTable (.builtin "str.__hash__" ⟨[.str x t], []⟩) =
    .ask fun st => .fresh fun k => .pure (.done (.ret (.int (if x.cps.isEmpty then 0 else reduceHash (st.params.strHash x.cps)) k))) := by kernel_rfl
theorem ok_hash {c : Code} {l : List Frame} (x : Str) (t : Tok) : stepOk n₀ ann ⟨.pure (.again (.builtin "str.__hash__" ⟨[.str x t], []⟩)), c, q, l⟩ = true := by kernel_rfl

theorem ev_callHash (x : Str) (t : Tok) : Ev p w n₀ ann (call (.builtin "str.__hash__") [.str x t]) s q (.int (PyData.keyHash w.params x) s.toks) { s with toks := s.toks + 1 } q 5 := by
  refine Ev.call (m := 3) (n := 0) (r := .ret (.int (PyData.keyHash w.params x) s.toks)) ?_ (.pure _ _ _)
  intro b y hd' g' l' cd q₀ kept rest hb
  rw [denote_hash1]
  have h0 : segGo treeTable p w n₀ ann b 0 { s with toks := s.toks + 1 } ⟨.pure (.done (.ret (.int (PyData.keyHash w.params x) s.toks))), .builtin "str.__hash__" ⟨[.str x t], []⟩, q, .ret y hd' g' l' cd q₀ (keptBy (.call (.builtin "str.__hash__") ⟨[.str x t], []⟩) (.builtin "str.__hash__" ⟨[.str x t], []⟩) l' kept) :: rest⟩ = some (_, _) := rfl
  have h2 := segGo_next (n := 0) (tb := treeTable) (p := p) (w := w) (n₀ := n₀) (ann := ann) (b := b) (s := s) (t := ⟨.fresh fun k => .pure (.done (.ret (.int (PyData.keyHash w.params x) k))), .builtin "str.__hash__" ⟨[.str x t], []⟩, q, .ret y hd' g' l' cd q₀ (keptBy (.call (.builtin "str.__hash__") ⟨[.str x t], []⟩) (.builtin "str.__hash__" ⟨[.str x t], []⟩) l' kept) :: rest⟩) (endAt_deep (Nat.lt_succ_of_le hb)) rfl rfl h0
  have h3 := segGo_next (n := 1) (tb := treeTable) (p := p) (w := w) (n₀ := n₀) (ann := ann) (b := b) (s := s) (t := ⟨denote treeTable (.builtin "str.__hash__" ⟨[.str x t], []⟩), .builtin "str.__hash__" ⟨[.str x t], []⟩, q, .ret y hd' g' l' cd q₀ (keptBy (.call (.builtin "str.__hash__") ⟨[.str x t], []⟩) (.builtin "str.__hash__" ⟨[.str x t], []⟩) l' kept) :: rest⟩) (endAt_deep (Nat.lt_succ_of_le hb)) (by rw [denote_hash2]; rfl) (by rw [denote_hash2]; rfl) h2
  have h4 := segGo_next (n := 2) (tb := treeTable) (p := p) (w := w) (n₀ := n₀) (ann := ann) (b := b) (s := s) (t := ⟨.pure (.again (.builtin "str.__hash__" ⟨[.str x t], []⟩)), .call (.builtin "str.__hash__") ⟨[.str x t], []⟩, q, .ret y hd' g' l' cd q₀ kept :: rest⟩) (endAt_deep (Nat.lt_succ_of_le hb)) (ok_hash x t) step_again h3
  exact ⟨_, _, _, h4⟩

theorem ev_pyHash (x : Str) (t : Tok) : Ev p w n₀ ann (pyHash (.str x t)) s q (PyData.keyHash w.params x) { s with toks := s.toks + 1 } q 7 := by
  show Ev p w n₀ ann (callSpecialIfBound? (.str x t) "__hash__" >>= fun _ => strHash x) s q _ _ q 7
  refine (Ev.bind (n := 6) (k := 1) (a := some (.int (PyData.keyHash w.params x) s.toks)) (s₁ := { s with toks := s.toks + 1 }) (q₁ := q) ?_ (ev_strHash x)).steps rfl
  unfold callSpecialIfBound?
  refine Ev.holding _ ?_
  rw [bind_hash]
  refine .ask ?_
  show Ev p w n₀ ann (call (.builtin "str.__hash__") [.str x t] >>= fun v => pure (some v)) s q _ _ q (5 + 0)
  exact (ev_callHash x t).bind (.pure _ _ _)

/-- a dict's entries, and its epoch -/
theorem ev_entries {d : Addr} {part : Option Value} {c : Value} {di : Option Addr} {es : Array DictEntry} {ep : Nat} {sl : Array (Option Value)} (h : s.heap.get? d = some ⟨c, di, .dict es ep, sl⟩) : Ev p w n₀ ann (dictEntries d part) s q es s q 1 := .load h (.pure _ _ _)
theorem ev_epoch {d : Addr} {part : Option Value} {c : Value} {di : Option Addr} {es : Array DictEntry} {ep : Nat} {sl : Array (Option Value)} (h : s.heap.get? d = some ⟨c, di, .dict es ep, sl⟩) : Ev p w n₀ ann (dictEpoch d part) s q ep s q 1 := .load h (.pure _ _ _)
theorem ev_find {d : Addr} {x : Str} {t : Tok} {hs : Int} {c : Value} {di : Option Addr} {es : Array DictEntry} {ep : Nat} {sl : Array (Option Value)} (h : s.heap.get? d = some ⟨c, di, .dict es ep, sl⟩)
    (hall : (es.all fun e => isExactStrKey e.key) = true) (hno : (es.findIdx? fun e => e.key.isStr x) = none) : Ev p w n₀ ann (dictFind d (.str x t) hs) s q none s q 1 := by
  unfold dictFind
  refine Ev.holding _ ?_
  refine Ev.bind (n := 1) (k := 0) (ev_entries h) ?_
  dsimp only
  rw [if_pos hall]
  unfold foundByValue
  rw [hno]
  exact .pure _ _ _

end
end Mine
end

section
open PySem PySem.W PySem.Builtin
set_option Elab.async false
set_option maxRecDepth 100000
namespace Mine

/-- a dict's object, one epoch an entry -/
def dob (es : List DictEntry) : Obj := ⟨.type "dict", none, .dict es.toArray es.length, #[]⟩

/-- a heap with more objects laid behind it -/
def withObjs (H : Heap) (l : List Obj) : Heap := ⟨H.objs ++ l.toArray, H.life⟩
def st (s : Shared) (l : List Obj) (T : Nat) : Shared := { s with heap := withObjs s.heap l, toks := T }

theorem withObjs_size (H : Heap) (l : List Obj) : (withObjs H l).objs.size = H.objs.size + l.length := by
  show (H.objs ++ l.toArray).size = _
  simp
theorem withObjs_push (H : Heap) (l : List Obj) (o : Obj) : (withObjs H l).push o = withObjs H (l ++ [o]) := by
  show Heap.mk ((H.objs ++ l.toArray).push o) H.life = Heap.mk (H.objs ++ (l ++ [o]).toArray) H.life
  congr 1
  simp
theorem withObjs_get (H : Heap) (l₁ l₂ : List Obj) (es : List DictEntry) : (withObjs H (l₁ ++ dob es :: l₂)).get? (H.objs.size + l₁.length) = some (dob es) := by
  have e : (withObjs H (l₁ ++ dob es :: l₂)).objs[H.objs.size + l₁.length]? = some (dob es) := by
    show (H.objs ++ (l₁ ++ dob es :: l₂).toArray)[H.objs.size + l₁.length]? = _
    rw [Array.getElem?_append_right (by omega)]
    simp
  unfold Heap.get?
  rw [e]
  rfl
theorem modify_at {α : Type} (f : α → α) (o : α) (l₂ : List α) : ∀ l₁ : List α, (l₁ ++ o :: l₂).modify l₁.length f = l₁ ++ f o :: l₂
  | [] => rfl
  | a :: r => by
    show a :: (r ++ o :: l₂).modify r.length f = _
    rw [modify_at f o l₂ r]
    rfl
theorem withObjs_update (H : Heap) (l₁ l₂ : List Obj) (o : Obj) (f : Obj → Obj) : (withObjs H (l₁ ++ o :: l₂)).update (H.objs.size + l₁.length) f = withObjs H (l₁ ++ f o :: l₂) := by
  show Heap.mk ((H.objs ++ (l₁ ++ o :: l₂).toArray).modify (H.objs.size + l₁.length) f) H.life = Heap.mk (H.objs ++ (l₁ ++ f o :: l₂).toArray) H.life
  congr 1
  apply Array.toList_inj.mp
  rw [Array.toList_modify, Array.toList_append, Array.toList_append]
  have h := modify_at f o l₂ (H.objs.toList ++ l₁)
  rw [List.length_append, List.append_assoc, List.append_assoc] at h
  simpa using h

/-- entries whose keys are texts -/
def Plain (es : List DictEntry) : Prop := ∀ e ∈ es, ∃ x t, e.key = .str x t
def keyT : Value → Str
  | .str x _ => x
  | _ => Str.empty
def keysT (es : List DictEntry) : List Str := es.map fun e => keyT e.key
theorem Plain.all {es : List DictEntry} (h : Plain es) : (es.toArray.all fun e => isExactStrKey e.key) = true := by
  rw [List.all_toArray, List.all_eq_true]
  intro e he
  obtain ⟨x, t, hx⟩ := h e he
  rw [hx]
  rfl
theorem Plain.none {es : List DictEntry} (h : Plain es) {x : Str} (hx : x ∉ keysT es) : (es.toArray.findIdx? fun e => e.key.isStr x) = none := by
  rw [Array.findIdx?_eq_none_iff]
  intro e he
  obtain ⟨y, t, hy⟩ := h e (by simpa using he)
  rw [hy]
  show (y == x) = false
  rw [beq_eq_false_iff_ne]
  rintro rfl
  exact hx (List.mem_map.mpr ⟨e, by simpa using he, by rw [hy]; rfl⟩)
theorem Plain.snoc {es : List DictEntry} (h : Plain es) {hs : Int} {x : Str} {t : Tok} {v : Value} : Plain (es ++ [⟨hs, .str x t, v⟩]) := by
  intro e he
  rcases List.mem_append.mp he with he | he
  · exact h e he
  · rw [List.mem_singleton.mp he]
    exact ⟨x, t, rfl⟩
theorem keysT_snoc (es : List DictEntry) (hs : Int) (x : Str) (t : Tok) (v : Value) : keysT (es ++ [⟨hs, .str x t, v⟩]) = keysT es ++ [x] := by
  unfold keysT
  rw [List.map_append]
  rfl

section
variable {p : Program} {w : World} {n₀ : Nat} {ann : Option Value} {α β : Type} {s s₁ s₂ : Shared} {q q₁ q₂ : Pos} {n m : Nat} {l l₁ l₂ : List Obj} {T : Nat}

theorem st_nil : st s [] s.toks = s := by
  show { s with heap := Heap.mk (s.heap.objs ++ #[]) s.heap.life, toks := s.toks } = s
  simp
theorem ev_alloc {o : Obj} {k : Addr → Sem α} {a : α} (E : Ev p w n₀ ann (k (s.heap.objs.size + l.length)) (st s (l ++ [o]) T) q a s₁ q₁ n) : Ev p w n₀ ann (.alloc o k) (st s l T) q a s₁ q₁ (n + 1) := by
  refine .alloc ?_
  have e1 : (st s l T).heap.objs.size = s.heap.objs.size + l.length := withObjs_size _ _
  have e2 : { st s l T with heap := (st s l T).heap.push o } = st s (l ++ [o]) T := by
    show { st s l T with heap := (withObjs s.heap l).push o } = _
    rw [withObjs_push]
    rfl
  rw [e1, e2]
  exact E
theorem ev_fresh {k : Tok → Sem α} {a : α} (E : Ev p w n₀ ann (k T) (st s l (T + 1)) q a s₁ q₁ n) : Ev p w n₀ ann (.fresh k) (st s l T) q a s₁ q₁ (n + 1) := .fresh E

theorem st_get {es : List DictEntry} : (st s (l₁ ++ dob es :: l₂) T).heap.get? (s.heap.objs.size + l₁.length) = some ⟨.type "dict", none, .dict es.toArray es.length, #[]⟩ := withObjs_get _ _ _ _
theorem st_upd {o : Obj} {f : Obj → Obj} : { st s (l₁ ++ o :: l₂) T with heap := (st s (l₁ ++ o :: l₂) T).heap.update (s.heap.objs.size + l₁.length) f } = st s (l₁ ++ f o :: l₂) T := by
  show { st s (l₁ ++ o :: l₂) T with heap := (withObjs s.heap (l₁ ++ o :: l₂)).update (s.heap.objs.size + l₁.length) f } = _
  rw [withObjs_update]
  rfl
theorem dob_snoc (es : List DictEntry) (e : DictEntry) : Obj.mapDictKeys (fun a => a.push e) (dob es) = dob (es ++ [e]) := by
  show Obj.mk (.type "dict") none (.dict (es.toArray.push e) (es.length + 1)) #[] = Obj.mk (.type "dict") none (.dict (es ++ [e]).toArray (es ++ [e]).length) #[]
  simp

/-- a new key behind -/
theorem ev_push {es : List DictEntry} {e : DictEntry} {part : Option Value} (hn : n₀ ≤ s.heap.objs.size) (hz : es.length + 1 ≤ 1000000) :
    Ev p w n₀ ann (updateDictKeys (s.heap.objs.size + l₁.length) (fun a => a.push e) part) (st s (l₁ ++ dob es :: l₂) T) q () (st s (l₁ ++ dob (es ++ [e]) :: l₂) T) q 3 := by
  refine .load (n := 2) st_get ?_
  refine .update (n := 1) (by unfold okAt; rw [show Nat.ble n₀ (s.heap.objs.size + l₁.length) = true from Nat.ble_eq.mpr (by omega)]; rfl) (by rw [st_get]; rfl) ?_
  rw [st_upd, dob_snoc]
  refine .load (n := 0) st_get ?_
  have e0 : (Data.dict (es ++ [e]).toArray (es ++ [e]).length).pastItsLine = none := by
    show (if (es ++ [e]).toArray.size > sizeLine + 1 then some "dict:memory" else none) = none
    rw [if_neg]
    simp only [List.size_toArray, List.length_append, List.length_cons, List.length_nil, sizeLine]
    omega
  refine Ev.of_eq (m' := .pure ()) ?_ (.pure _ _ _)
  show Sem.bind (.pure _) _ = _
  show (match (Data.dict (es ++ [e]).toArray (es ++ [e]).length).pastItsLine with | some what => _ | _ => _) = _
  rw [e0]
  rfl

/-- d[x] = v, the key new -/
theorem ev_set {es : List DictEntry} {x : Str} {t : Tok} {v : Value} (hn : n₀ ≤ s.heap.objs.size) (hp : Plain es) (hx : x ∉ keysT es) (hz : es.length + 1 ≤ 1000000) :
    Ev p w n₀ ann (dictSet (s.heap.objs.size + l₁.length) (.str x t) v) (st s (l₁ ++ dob es :: l₂) T) q () (st s (l₁ ++ dob (es ++ [⟨PyData.keyHash w.params x, .str x t, v⟩]) :: l₂) (T + 1)) q 12 := by
  unfold dictSet
  refine Ev.holding _ ?_
  refine (Ev.bind (k := 5) (ev_pyHash x t) ?_).steps rfl
  unfold dictSetHashed
  refine Ev.holding _ ?_
  refine (Ev.bind (k := 4) (ev_find (s := st s (l₁ ++ dob es :: l₂) (T + 1)) st_get hp.all (hp.none hx)) ?_).steps rfl
  exact .rule (n := 3) (ev_push hn hz)

/-- dictPut, the key new -/
theorem ev_put {es : List DictEntry} {x : Str} {t : Tok} {hs : Int} {v : Value} (hn : n₀ ≤ s.heap.objs.size) (hp : Plain es) (hx : x ∉ keysT es) (hz : es.length + 1 ≤ 1000000) :
    Ev p w n₀ ann (dictPut (s.heap.objs.size + l₁.length) hs (.str x t) v) (st s (l₁ ++ dob es :: l₂) T) q () (st s (l₁ ++ dob (es ++ [⟨hs, .str x t, v⟩]) :: l₂) T) q 4 := by
  unfold dictPut
  exact (Ev.bind (k := 3) (ev_find (s := st s (l₁ ++ dob es :: l₂) T) st_get hp.all (hp.none hx)) (ev_push hn hz)).steps rfl
end
end Mine
end

section
open PySem PySem.W PySem.Builtin
set_option Elab.async false
set_option maxRecDepth 100000
namespace Mine

/-- run with a bound on the steps -/
def EvB (p : Program) (w : World) (n₀ : Nat) (ann : Option Value) {α : Type} (m : Sem α) (s : Shared) (q : Pos) (a : α) (s' : Shared) (q' : Pos) (B : Nat) : Prop := ∃ n, n ≤ B ∧ Ev p w n₀ ann m s q a s' q' n

/-- a written text as a key, as a value (the display's place noted behind it) -/
def litK (x : Str) : Sem Value := mkText x
def litV (pv : Pos) (y : Str) : Sem Value := do
  let v ← mkText y
  standAt pv
  pure v
def lits (pv : Pos) (D : List (Str × Str)) : List (Sem Value × Sem Value) := D.map fun d => (litK d.1, litV pv d.2)

/-- the entries that a run of pairs makes: T the first token, g the tokens a pair -/
def entsL (P : Params) : Nat → Nat → List (Str × Str) → List DictEntry
  | _, _, [] => []
  | T, g, d :: r => ⟨PyData.keyHash P d.1, .str d.1 T, .str d.2 (T + 1)⟩ :: entsL P (T + g) g r
def ents (P : Params) (T : Nat) (c : List (Str × Str)) : List DictEntry := if c.length ≤ 15 then entsL P T 2 c else entsL P T 3 c

theorem entsL_plain (P : Params) : ∀ (c : List (Str × Str)) (T g : Nat), Plain (entsL P T g c)
  | [], _, _ => fun e he => nomatch he
  | d :: r, T, g => fun e he => by
    rcases List.mem_cons.mp he with rfl | he
    · exact ⟨_, _, rfl⟩
    · exact entsL_plain P r _ g e he
theorem entsL_keys (P : Params) : ∀ (c : List (Str × Str)) (T g : Nat), keysT (entsL P T g c) = c.map (·.1)
  | [], _, _ => rfl
  | d :: r, T, g => by
    show d.1 :: keysT (entsL P (T + g) g r) = d.1 :: r.map (·.1)
    rw [entsL_keys P r]
theorem entsL_length (P : Params) : ∀ (c : List (Str × Str)) (T g : Nat), (entsL P T g c).length = c.length
  | [], _, _ => rfl
  | d :: r, T, g => by
    show (entsL P (T + g) g r).length + 1 = r.length + 1
    rw [entsL_length P r]
theorem ents_plain (P : Params) (c : List (Str × Str)) (T : Nat) : Plain (ents P T c) := by
  unfold ents
  split <;> exact entsL_plain P c _ _
theorem ents_keys (P : Params) (c : List (Str × Str)) (T : Nat) : keysT (ents P T c) = c.map (·.1) := by
  unfold ents
  split <;> exact entsL_keys P c _ _
theorem ents_length (P : Params) (c : List (Str × Str)) (T : Nat) : (ents P T c).length = c.length := by
  unfold ents
  split <;> exact entsL_length P c _ _
theorem Plain.append {a b : List DictEntry} (h : Plain a) (k : Plain b) : Plain (a ++ b) := fun e he => (List.mem_append.mp he).elim (h e) (k e)
theorem keysT_append (a b : List DictEntry) : keysT (a ++ b) = keysT a ++ keysT b := List.map_append

section
variable {p : Program} {w : World} {n₀ : Nat} {ann : Option Value} {α β : Type} {s s₁ s₂ : Shared} {q q₁ q₂ pv : Pos} {n m : Nat} {l l₁ l₂ : List Obj} {T : Nat}

theorem EvB.of {m : Sem α} {a : α} {B : Nat} (E : Ev p w n₀ ann m s q a s₁ q₁ n) (h : n ≤ B) : EvB p w n₀ ann m s q a s₁ q₁ B := ⟨n, h, E⟩
theorem EvB.bind {m : Sem α} {f : α → Sem β} {a : α} {c : β} {B C : Nat} (E : EvB p w n₀ ann m s q a s₁ q₁ B) (F : EvB p w n₀ ann (f a) s₁ q₁ c s₂ q₂ C) : EvB p w n₀ ann (m >>= f) s q c s₂ q₂ (B + C) := by
  obtain ⟨n, hn, E⟩ := E
  obtain ⟨k, hk, F⟩ := F
  exact ⟨n + k, Nat.add_le_add hn hk, E.bind F⟩
theorem EvB.mono {m : Sem α} {a : α} {B C : Nat} (E : EvB p w n₀ ann m s q a s₁ q₁ B) (h : B ≤ C) : EvB p w n₀ ann m s q a s₁ q₁ C := let ⟨n, hn, E⟩ := E; ⟨n, Nat.le_trans hn h, E⟩
theorem EvB.holding {m : Sem α} {a : α} {B : Nat} (vs : List Value) (E : EvB p w n₀ ann m s q a s₁ q₁ B) : EvB p w n₀ ann (PySem.holding vs m) s q a s₁ q₁ B := let ⟨n, hn, E⟩ := E; ⟨n, hn, E.holding vs⟩
theorem EvB.onRaise {m : Sem α} {a : α} {B : Nat} (f : Value → Sem Unit) (E : EvB p w n₀ ann m s q a s₁ q₁ B) : EvB p w n₀ ann (m.onRaise f) s q a s₁ q₁ B := let ⟨n, hn, E⟩ := E; ⟨n, hn, E.onRaise f⟩
theorem EvB.pure (a : α) : EvB p w n₀ ann (Pure.pure a : Sem α) s q a s q 0 := ⟨0, Nat.le_refl 0, .pure a s q⟩

theorem ev_litK (x : Str) : Ev p w n₀ ann (litK x) (st s l T) q (.str x T) (st s l (T + 1)) q 1 := .fresh (.pure _ _ _)
theorem ev_litV (y : Str) : Ev p w n₀ ann (litV pv y) (st s l T) q (.str y T) (st s l (T + 1)) pv 2 := .fresh (n := 1) (.at (n := 0) (.pure _ _ _))

/-- the long road: key, value, store -/
theorem ev_long : ∀ (c : List (Str × Str)) (T : Nat) (es : List DictEntry), n₀ ≤ s.heap.objs.size → Plain es → (∀ d ∈ c, d.1 ∉ keysT es) → (c.map (·.1)).Nodup → es.length + c.length ≤ 1000000 →
    EvB p w n₀ ann (forIn (lits pv c) PUnit.unit fun d _ => do
      let kv ← d.1
      let vv ← holding [kv] d.2
      holding [kv, vv] (dictSet (s.heap.objs.size + l₁.length) kv vv)
      pure (ForInStep.yield PUnit.unit)) (st s (l₁ ++ dob es :: l₂) T) pv PUnit.unit (st s (l₁ ++ dob (es ++ entsL w.params T 3 c) :: l₂) (T + 3 * c.length)) pv (15 * c.length)
  | [], T, es, _, _, _, _, _ => by
    show EvB p w n₀ ann (Pure.pure PUnit.unit) _ _ _ _ _ _
    simp only [entsL, List.append_nil, List.length_nil, Nat.mul_zero, Nat.add_zero]
    exact .pure _
  | d :: c, T, es, hn, hp, hx, hd, hz => by
    rw [List.map_cons, List.nodup_cons] at hd
    rw [List.length_cons] at hz
    have ih := ev_long c (T + 3) (es ++ [⟨PyData.keyHash w.params d.1, .str d.1 T, .str d.2 (T + 1)⟩]) hn hp.snoc (fun e he => by
      rw [keysT_snoc, List.mem_append, List.mem_singleton, not_or]
      exact ⟨hx e (List.mem_cons_of_mem _ he), fun q => hd.1 (q ▸ List.mem_map.mpr ⟨e, he, rfl⟩)⟩) hd.2 (by rw [List.length_append, List.length_singleton]; omega)
    have e1 : entsL w.params T 3 (d :: c) = [⟨PyData.keyHash w.params d.1, .str d.1 T, .str d.2 (T + 1)⟩] ++ entsL w.params (T + 3) 3 c := rfl
    rw [e1, ← List.append_assoc]
    have e2 : T + 3 * (d :: c).length = T + 3 + 3 * c.length := by rw [List.length_cons]; omega
    have e3 : 15 * (d :: c).length = 15 + 15 * c.length := by rw [List.length_cons]; omega
    rw [e2, e3]
    show EvB p w n₀ ann (forIn ((litK d.1, litV pv d.2) :: lits pv c) PUnit.unit _) _ _ _ _ _ _
    rw [List.forIn_cons]
    refine EvB.bind (B := 15) (C := 15 * c.length) (a := ForInStep.yield PUnit.unit) (s₁ := st s (l₁ ++ dob (es ++ [⟨PyData.keyHash w.params d.1, .str d.1 T, .str d.2 (T + 1)⟩]) :: l₂) (T + 3)) (q₁ := pv) ?_ ih
    refine (EvB.bind (B := 1) (C := 14) (.of (ev_litK d.1) (Nat.le_refl 1)) ?_).mono (by omega)
    refine (EvB.bind (B := 2) (C := 12) ((EvB.of (ev_litV d.2) (Nat.le_refl 2)).holding _) ?_).mono (by omega)
    refine (EvB.bind (B := 12) (C := 0) ((EvB.of (ev_set hn hp (hx d (List.mem_cons_self ..)) (by omega)) (Nat.le_refl 12)).holding _) ?_).mono (by omega)
    exact .pure _

/-- the short road: all pairs first -/
def pairVals : Nat → List (Str × Str) → List (Value × Value)
  | _, [] => []
  | T, d :: r => (.str d.1 T, .str d.2 (T + 1)) :: pairVals (T + 2) r
theorem ev_pairs : ∀ (c : List (Str × Str)) (T : Nat), EvB p w n₀ ann (evalPairs (lits pv c)) (st s l T) pv (pairVals T c) (st s l (T + 2 * c.length)) pv (3 * c.length)
  | [], T => .pure _
  | d :: c, T => by
    have ih := ev_pairs c (T + 2)
    have e2 : T + 2 * (d :: c).length = T + 2 + 2 * c.length := by rw [List.length_cons]; omega
    have e3 : 3 * (d :: c).length = 3 + 3 * c.length := by rw [List.length_cons]; omega
    rw [e2, e3]
    show EvB p w n₀ ann (litK d.1 >>= fun kv => holding [kv] (litV pv d.2) >>= fun vv => holding [kv, vv] (evalPairs (lits pv c)) >>= fun r => Pure.pure ((kv, vv) :: r)) _ _ _ _ _ _
    refine (EvB.bind (B := 1) (C := 2 + 3 * c.length) (.of (ev_litK d.1) (Nat.le_refl 1)) ?_).mono (by omega)
    refine (EvB.bind (B := 2) (C := 3 * c.length) ((EvB.of (ev_litV d.2) (Nat.le_refl 2)).holding _) ?_).mono (by omega)
    refine (EvB.bind (B := 3 * c.length) (C := 0) (ih.holding _) ?_).mono (by omega)
    exact .pure _
theorem ev_stores : ∀ (c : List (Str × Str)) (V T : Nat) (es : List DictEntry), n₀ ≤ s.heap.objs.size → Plain es → (∀ d ∈ c, d.1 ∉ keysT es) → (c.map (·.1)).Nodup → es.length + c.length ≤ 1000000 →
    EvB p w n₀ ann (forIn (pairVals V c) PUnit.unit fun d _ => do
      dictSet (s.heap.objs.size + l₁.length) d.1 d.2
      pure (ForInStep.yield PUnit.unit)) (st s (l₁ ++ dob es :: l₂) T) pv PUnit.unit (st s (l₁ ++ dob (es ++ entsL w.params V 2 c) :: l₂) (T + c.length)) pv (12 * c.length)
  | [], V, T, es, _, _, _, _, _ => by
    show EvB p w n₀ ann (Pure.pure PUnit.unit) _ _ _ _ _ _
    simp only [entsL, List.append_nil, List.length_nil, Nat.mul_zero, Nat.add_zero]
    exact .pure _
  | d :: c, V, T, es, hn, hp, hx, hd, hz => by
    rw [List.map_cons, List.nodup_cons] at hd
    rw [List.length_cons] at hz
    have ih := ev_stores c (V + 2) (T + 1) (es ++ [⟨PyData.keyHash w.params d.1, .str d.1 V, .str d.2 (V + 1)⟩]) hn hp.snoc (fun e he => by
      rw [keysT_snoc, List.mem_append, List.mem_singleton, not_or]
      exact ⟨hx e (List.mem_cons_of_mem _ he), fun q => hd.1 (q ▸ List.mem_map.mpr ⟨e, he, rfl⟩)⟩) hd.2 (by rw [List.length_append, List.length_singleton]; omega)
    have e1 : entsL w.params V 2 (d :: c) = [⟨PyData.keyHash w.params d.1, .str d.1 V, .str d.2 (V + 1)⟩] ++ entsL w.params (V + 2) 2 c := rfl
    rw [e1, ← List.append_assoc]
    have e2 : T + (d :: c).length = T + 1 + c.length := by rw [List.length_cons]; omega
    have e3 : 12 * (d :: c).length = 12 + 12 * c.length := by rw [List.length_cons]; omega
    rw [e2, e3]
    show EvB p w n₀ ann (forIn ((Value.str d.1 V, Value.str d.2 (V + 1)) :: pairVals (V + 2) c) PUnit.unit _) _ _ _ _ _ _
    rw [List.forIn_cons]
    refine EvB.bind (B := 12) (C := 12 * c.length) (a := ForInStep.yield PUnit.unit) (s₁ := st s (l₁ ++ dob (es ++ [⟨PyData.keyHash w.params d.1, .str d.1 V, .str d.2 (V + 1)⟩]) :: l₂) (T + 1)) (q₁ := pv) ?_ ih
    refine (EvB.bind (B := 12) (C := 0) (EvB.of (ev_set hn hp (hx d (List.mem_cons_self ..)) (by omega)) (Nat.le_refl 12)) ?_).mono (by omega)
    exact .pure _

/-- one part of the display -/
theorem ev_sub (c : List (Str × Str)) (T : Nat) (hn : n₀ ≤ s.heap.objs.size) (hd : (c.map (·.1)).Nodup) (hz : c.length ≤ 1000000) :
    EvB p w n₀ ann (subDict (lits pv c)) (st s l T) pv (s.heap.objs.size + l.length) (st s (l ++ [dob (ents w.params T c)]) (T + 3 * c.length)) pv (15 * c.length + 2) := by
  unfold subDict
  show EvB p w n₀ ann (Sem.alloc _ _) _ _ _ _ _ _
  have hl : (lits pv c).length = c.length := by unfold lits; rw [List.length_map]
  suffices h : EvB p w n₀ ann ((holding [.ref (s.heap.objs.size + l.length)] (if (lits pv c).length ≤ 15 then (do
        let vs ← evalPairs (lits pv c)
        holding (vs.flatMap fun d => [d.1, d.2]) (do
          let _ ← forIn vs PUnit.unit fun d _ => do
            dictSet (s.heap.objs.size + l.length) d.1 d.2
            pure (ForInStep.yield PUnit.unit)
          pure PUnit.unit))
      else (do
        rule "dict.display.long"
        let _ ← forIn (lits pv c) PUnit.unit fun d _ => do
          let kv ← d.1
          let vv ← holding [kv] d.2
          holding [kv, vv] (dictSet (s.heap.objs.size + l.length) kv vv)
          pure (ForInStep.yield PUnit.unit)
        pure PUnit.unit)) >>= fun _ => pure (s.heap.objs.size + l.length))) (st s (l ++ [dob []]) T) pv (s.heap.objs.size + l.length) (st s (l ++ [dob (ents w.params T c)]) (T + 3 * c.length)) pv (15 * c.length + 1) by
    obtain ⟨n, hb, E⟩ := h
    exact ⟨n + 1, by omega, ev_alloc E⟩
  refine EvB.mono (EvB.bind (B := 15 * c.length + 1) (C := 0) (a := ()) (EvB.holding _ ?_) (.pure _)) (by omega)
  unfold ents
  rw [hl]
  by_cases h15 : c.length ≤ 15
  · rw [if_pos h15, if_pos h15]
    refine EvB.mono (EvB.bind (B := 3 * c.length) (C := 12 * c.length) (ev_pairs c T) (EvB.holding _ ?_)) (by omega)
    have h := ev_stores (p := p) (w := w) (ann := ann) (s := s) (l₁ := l) (l₂ := []) (pv := pv) c T (T + 2 * c.length) [] hn (fun e he => nomatch he) (fun d _ => List.not_mem_nil) hd (by simpa using hz)
    rw [List.nil_append, show T + 2 * c.length + c.length = T + 3 * c.length by omega] at h
    exact EvB.mono (EvB.bind (C := 0) h (.pure _)) (by omega)
  · rw [if_neg h15, if_neg h15]
    have h := ev_long (p := p) (w := w) (ann := ann) (s := s) (l₁ := l) (l₂ := []) (pv := pv) c T [] hn (fun e he => nomatch he) (fun d _ => List.not_mem_nil) hd (by simpa using hz)
    rw [List.nil_append] at h
    obtain ⟨n, hb, E⟩ := EvB.bind (f := fun _ => pure PUnit.unit) h (EvB.pure PUnit.unit)
    exact ⟨n + 1, by omega, .rule E⟩
end
end Mine
end

section
open PySem PySem.W PySem.Builtin
set_option Elab.async false
set_option maxRecDepth 100000
namespace Mine
section
variable {p : Program} {w : World} {n₀ : Nat} {ann : Option Value} {α β : Type} {s s₁ s₂ : Shared} {q q₁ q₂ pv : Pos} {n m : Nat} {l l₁ l₂ : List Obj} {T : Nat}

theorem EvB.seq {m : Sem α} {f : α → Sem β} {a : α} {c : β} (B C : Nat) {D : Nat} (h : B + C ≤ D) (E : EvB p w n₀ ann m s q a s₁ q₁ B) (F : EvB p w n₀ ann (f a) s₁ q₁ c s₂ q₂ C) : EvB p w n₀ ann (m >>= f) s q c s₂ q₂ D := (E.bind F).mono h
theorem ev_typeOf {a : Addr} {o : Obj} (h : s.heap.get? a = some o) : Ev p w n₀ ann (typeOf (.ref a)) s q o.cls s q 1 := .load h (.pure _ _ _)
theorem ev_isDict {a : Addr} {o : Obj} (h : s.heap.get? a = some o) (hc : o.cls = .type "dict") : Ev p w n₀ ann (isInstance (.ref a) (.type "dict")) s q true s q 1 := by
  have e : isSubtype (.type "dict") (.type "dict") = .pure true := by kernel_rfl
  refine Ev.bind (n := 1) (k := 0) (ev_typeOf h) ?_
  rw [hc, e]
  exact .pure _ _ _
theorem ev_iterOf {a : Addr} {o : Obj} (h : s.heap.get? a = some o) (hc : o.cls = .type "dict") : Ev p w n₀ ann (specialOf (.ref a) "__iter__") s q (some (.builtin "dict.__iter__")) s q 1 := by
  have e : typeLookup (.type "dict") "__iter__" = .pure (some (.builtin "dict.__iter__")) := by kernel_rfl
  refine Ev.bind (n := 1) (k := 0) (ev_typeOf h) ?_
  rw [hc, e]
  exact .pure _ _ _

theorem ev_mergeLoop {S : List DictEntry} {f : Nat → PUnit → Sem (ForInStep PUnit)} {sub : List Obj}
    (hf : ∀ (i : Nat) (e : DictEntry) (M : List DictEntry), S[i]? = some e → Plain M → keyT e.key ∉ keysT M → M.length + 1 ≤ 1000000 →
      EvB p w n₀ ann (f i PUnit.unit) (st s (dob M :: sub) T) pv (.yield PUnit.unit) (st s (dob (M ++ [e]) :: sub) T) pv 6)
    (hS : Plain S) (hd : (keysT S).Nodup) : ∀ (k i : Nat) (M : List DictEntry), i + k = S.length → Plain M → (∀ x ∈ keysT (S.drop i), x ∉ keysT M) → M.length + k ≤ 1000000 →
      EvB p w n₀ ann (forIn (List.range' i k) PUnit.unit f) (st s (dob M :: sub) T) pv PUnit.unit (st s (dob (M ++ S.drop i) :: sub) T) pv (6 * k)
  | 0, i, M, hi, _, _, _ => by
    have e : S.drop i = [] := List.drop_eq_nil_of_le (by omega)
    rw [e, List.append_nil]
    exact .pure _
  | k + 1, i, M, hi, hM, hx, hz => by
    have hlt : i < S.length := by omega
    have e0 : S.drop i = S[i] :: S.drop (i + 1) := List.drop_eq_getElem_cons hlt
    rw [e0] at hx ⊢
    have hnew : keyT (S[i]).key ∉ keysT M := hx _ (List.mem_cons_self ..)
    obtain ⟨x, t, hk⟩ := hS S[i] (List.getElem_mem hlt)
    have hP : Plain (M ++ [S[i]]) := hM.append fun e he => by rw [List.mem_singleton.mp he]; exact ⟨x, t, hk⟩
    have hnd : (keysT (S.drop i)).Nodup := by
      have h : ((S.drop i).map fun e : DictEntry => keyT e.key).Nodup := List.Nodup.sublist ((List.drop_sublist i S).map fun e : DictEntry => keyT e.key) hd
      exact h
    rw [e0] at hnd
    have hnd' := List.nodup_cons.mp hnd
    have ih := ev_mergeLoop hf hS hd k (i + 1) (M ++ [S[i]]) (by omega) hP (fun y hy => by
      rw [keysT_append, List.mem_append, not_or]
      refine ⟨hx y (List.mem_cons_of_mem _ hy), fun q => ?_⟩
      have q' : y = keyT (S[i]).key := List.mem_singleton.mp q
      rw [q'] at hy
      exact hnd'.1 hy) (by rw [List.length_append, List.length_singleton]; omega)
    have e2 : M ++ S[i] :: S.drop (i + 1) = M ++ [S[i]] ++ S.drop (i + 1) := by rw [List.append_assoc]; rfl
    rw [e2, List.range'_succ, List.forIn_cons]
    refine EvB.seq (6) (6 * k) (by omega) (hf i S[i] M (List.getElem?_eq_getElem hlt) hM hnew (by omega)) ?_
    exact ih

/-- the second and every later part is merged into the first -/
theorem ev_merge {M S : List DictEntry} {subs : List Obj} (hn : n₀ ≤ s.heap.objs.size) (hsys : sysModules < s.heap.objs.size) (hM : Plain M) (hne : M ≠ []) (hS : Plain S) (hd : (keysT S).Nodup) (hx : ∀ x ∈ keysT S, x ∉ keysT M) (hz : M.length + S.length ≤ 1000000) :
    EvB p w n₀ ann (mergeMapping s.heap.objs.size (.ref (s.heap.objs.size + (subs.length + 1))) false) (st s (dob M :: (subs ++ [dob S])) T) pv () (st s (dob (M ++ S) :: (subs ++ [dob S])) T) pv (6 * S.length + 6) := by
  have hm : ∀ M', (st s (dob M' :: (subs ++ [dob S])) T).heap.get? s.heap.objs.size = some ⟨.type "dict", none, .dict M'.toArray M'.length, #[]⟩ := fun M' => st_get (l₁ := [])
  have hs : ∀ M', (st s (dob M' :: (subs ++ [dob S])) T).heap.get? (s.heap.objs.size + (subs.length + 1)) = some ⟨.type "dict", none, .dict S.toArray S.length, #[]⟩ := fun M' => by
    have h := st_get (s := s) (l₁ := dob M' :: subs) (l₂ := []) (es := S) (T := T)
    rw [List.length_cons] at h
    exact h
  unfold mergeMapping
  refine EvB.seq 1 (6 * S.length + 5) (by omega) (.of (ev_isDict (hs M) rfl) (Nat.le_refl 1)) ?_
  rw [if_pos rfl]
  refine EvB.seq 1 (6 * S.length + 4) (by omega) (.of (ev_iterOf (hs M) rfl) (Nat.le_refl 1)) ?_
  refine EvB.seq 0 (6 * S.length + 4) (by omega) (EvB.pure true) ?_
  dsimp only
  rw [if_neg (fun q => absurd (beq_iff_eq.mp q) (Nat.ne_of_gt (Nat.lt_of_lt_of_le hsys (Nat.le_add_right _ _))))]
  refine EvB.seq 1 (6 * S.length + 3) (by omega) (.of (ev_entries (hm M)) (Nat.le_refl 1)) ?_
  rw [if_neg (by simpa using hne)]
  refine EvB.seq 1 (6 * S.length + 2) (by omega) (.of (ev_entries (hs M)) (Nat.le_refl 1)) ?_
  refine EvB.seq 1 (6 * S.length + 1) (by omega) (.of (ev_epoch (hs M)) (Nat.le_refl 1)) ?_
  refine EvB.seq (6 * S.length) 0 (by omega) (a := PUnit.unit) ?_ (.pure _)
  rw [List.range_eq_range', List.size_toArray]
  have key := fun f hf => ev_mergeLoop (p := p) (w := w) (n₀ := n₀) (ann := ann) (s := s) (T := T) (pv := pv) (S := S) (sub := subs ++ [dob S]) (f := f) hf hS hd S.length 0 M (by omega) hM (by simpa using hx) hz
  refine key _ ?_
  intro i e M' hi hP hnew hz'
  obtain ⟨x, t, hk⟩ := hS e (List.mem_of_getElem? hi)
  refine EvB.seq 1 5 (by omega) (.of (ev_entries (hs M')) (Nat.le_refl 1)) ?_
  rw [show S.toArray[i]? = some e by simpa using hi]
  dsimp only
  refine EvB.seq 4 1 (by omega) (a := ()) (s₁ := st s (dob (M' ++ [e]) :: (subs ++ [dob S])) T) (q₁ := pv) (EvB.holding _ ?_) ?_
  · rw [if_neg Bool.false_ne_true]
    have he : e = ⟨e.hash, .str x t, e.val⟩ := by rw [← hk]
    rw [hk] at hnew
    have h := ev_put (p := p) (w := w) (n₀ := n₀) (ann := ann) (s := s) (q := pv) (l₁ := []) (l₂ := subs ++ [dob S]) (T := T) (es := M') (x := x) (t := t) (hs := e.hash) (v := e.val) hn hP hnew hz'
    rw [hk]
    rw [← he] at h
    exact .of h (Nat.le_refl 4)
  · refine EvB.seq 1 0 (by omega) (.of (ev_epoch (hs (M' ++ [e]))) (Nat.le_refl 1)) ?_
    rw [if_neg (by simp)]
    exact .pure _
end
end Mine
end

section
open PySem PySem.W PySem.Builtin
set_option Elab.async false
set_option maxRecDepth 100000
namespace Mine

/-- the display's items -/
def its (pv : Pos) (D : List (Str × Str)) : List (Option (Sem Value) × Sem Value) := D.map fun d => (some (litK d.1), litV pv d.2)
/-- the first k parts of seventeen pairs -/
def parts : Nat → List (Str × Str) → List (List (Str × Str))
  | 0, _ => []
  | k + 1, D => D.take 17 :: parts k (D.drop 17)
/-- what the parts leave in the first dict -/
def mainE (P : Params) : Nat → List (List (Str × Str)) → List DictEntry
  | _, [] => []
  | T, c :: r => ents P T c ++ mainE P (T + 3 * c.length) r
/-- the dicts of the parts -/
def subsE (P : Params) : Nat → List (List (Str × Str)) → List Obj
  | _, [] => []
  | T, c :: r => dob (ents P T c) :: subsE P (T + 3 * c.length) r

theorem parts_flat : ∀ (k : Nat) (D : List (Str × Str)), (parts k D).flatten ++ D.drop (17 * k) = D
  | 0, D => by simp [parts]
  | k + 1, D => by
    have h := parts_flat k (D.drop 17)
    rw [List.drop_drop] at h
    show (D.take 17 ++ (parts k (D.drop 17)).flatten) ++ D.drop (17 * (k + 1)) = D
    rw [List.append_assoc, show 17 * (k + 1) = 17 + 17 * k by omega, h, List.take_append_drop]

section
variable {p : Program} {w : World} {n₀ : Nat} {ann : Option Value} {s s₁ s₂ : Shared} {q q₁ q₂ pv : Pos} {T : Nat}
variable {f : Option (Sem Value) × Sem Value → Option Addr × List (Sem Value × Sem Value) → Sem (ForInStep (Option Addr × List (Sem Value × Sem Value)))}
  {flush : List (Sem Value × Sem Value) → Option Addr → Sem (Option Addr)}

theorem fill (h1 : ∀ k v m r, (r.length + 1 == 17) = false → f (some k, v) (m, r) = pure (.yield (m, r ++ [(k, v)]))) (rest : List (Option (Sem Value) × Sem Value)) (m : Option Addr) :
    ∀ (c : List (Str × Str)) (r : List (Sem Value × Sem Value)), r.length + c.length ≤ 16 → forIn (its pv c ++ rest) (m, r) f = forIn rest (m, r ++ lits pv c) f
  | [], r, _ => by
    show forIn rest (m, r) f = forIn rest (m, r ++ []) f
    rw [List.append_nil]
  | d :: c, r, hr => by
    rw [List.length_cons] at hr
    show forIn ((some (litK d.1), litV pv d.2) :: (its pv c ++ rest)) (m, r) f = _
    rw [List.forIn_cons, h1 _ _ _ _ (by rw [beq_eq_false_iff_ne]; omega)]
    show forIn (its pv c ++ rest) (m, r ++ [(litK d.1, litV pv d.2)]) f = _
    rw [fill h1 rest m c _ (by rw [List.length_append, List.length_singleton]; omega), List.append_assoc]
    rfl

theorem ev_part (h1 : ∀ k v m r, (r.length + 1 == 17) = false → f (some k, v) (m, r) = pure (.yield (m, r ++ [(k, v)])))
    (h2 : ∀ k v m r, r.length = 16 → f (some k, v) (m, r) = flush (r ++ [(k, v)]) m >>= fun m' => pure (.yield (m', [])))
    {rest : List (Option (Sem Value) × Sem Value)} {m m' : Option Addr} {c : List (Str × Str)} (hc : c.length = 17) {B C : Nat} {x : Option Addr × List (Sem Value × Sem Value)}
    (hF : EvB p w n₀ ann (flush (lits pv c) m) s pv m' s₁ pv B) (hR : EvB p w n₀ ann (forIn rest (m', []) f) s₁ pv x s₂ q₂ C) :
    EvB p w n₀ ann (forIn (its pv c ++ rest) (m, []) f) s pv x s₂ q₂ (B + C) := by
  have e : c = c.take 16 ++ [c[16]] := by
    have h := List.take_append_drop 16 c
    rw [List.drop_eq_getElem_cons (by omega), List.drop_eq_nil_of_le (by omega)] at h
    exact h.symm
  have e1 : its pv c = its pv (c.take 16) ++ its pv [c[16]] := by
    unfold its
    rw [← List.map_append, ← e]
  have e2 : lits pv c = lits pv (c.take 16) ++ lits pv [c[16]] := by
    unfold lits
    rw [← List.map_append, ← e]
  rw [e1, List.append_assoc, fill h1 _ m (c.take 16) [] (by rw [List.length_take]; simp; omega), List.nil_append]
  show EvB p w n₀ ann (forIn ((some (litK c[16].1), litV pv c[16].2) :: rest) (m, lits pv (c.take 16)) f) _ _ _ _ _ _
  rw [List.forIn_cons, h2 _ _ _ _ (by unfold lits; rw [List.length_map, List.length_take]; omega)]
  refine EvB.seq B C (Nat.le_refl _) (a := ForInStep.yield (m', [])) (s₁ := s₁) (q₁ := pv) (EvB.seq B 0 (Nat.le_refl _) ?_ (.pure _)) hR
  rw [e2] at hF
  exact hF

/-- all whole parts behind the first -/
theorem ev_parts (h1 : ∀ k v m r, (r.length + 1 == 17) = false → f (some k, v) (m, r) = pure (.yield (m, r ++ [(k, v)])))
    (h2 : ∀ k v m r, r.length = 16 → f (some k, v) (m, r) = flush (r ++ [(k, v)]) m >>= fun m' => pure (.yield (m', [])))
    (hF : ∀ (c : List (Str × Str)) (M : List DictEntry) (subs : List Obj) (T : Nat), c ≠ [] → Plain M → M ≠ [] → (c.map (·.1)).Nodup → (∀ d ∈ c, d.1 ∉ keysT M) → M.length + c.length ≤ 1000000 →
      EvB p w n₀ ann (flush (lits pv c) (some s.heap.objs.size)) (st s (dob M :: subs) T) pv (some s.heap.objs.size) (st s (dob (M ++ ents w.params T c) :: (subs ++ [dob (ents w.params T c)])) (T + 3 * c.length)) pv (21 * c.length + 10))
    {rest : List (Option (Sem Value) × Sem Value)} {x : Option Addr × List (Sem Value × Sem Value)} {C : Nat} : ∀ (k : Nat) (D : List (Str × Str)) (M : List DictEntry) (subs : List Obj) (T : Nat), D.length = 17 * k → Plain M → M ≠ [] → (D.map (·.1)).Nodup → (∀ d ∈ D, d.1 ∉ keysT M) → M.length + D.length ≤ 1000000 →
      EvB p w n₀ ann (forIn rest (some s.heap.objs.size, []) f) (st s (dob (M ++ mainE w.params T (parts k D)) :: (subs ++ subsE w.params T (parts k D))) (T + 3 * D.length)) pv x s₂ q₂ C →
      EvB p w n₀ ann (forIn (its pv D ++ rest) (some s.heap.objs.size, []) f) (st s (dob M :: subs) T) pv x s₂ q₂ (22 * D.length + C)
  | 0, D, M, subs, T, hD, _, _, _, _, _, hR => by
    have e : D = [] := List.length_eq_zero_iff.mp (by omega)
    subst e
    have e1 : mainE w.params T (parts 0 []) = [] := rfl
    have e2 : subsE w.params T (parts 0 []) = [] := rfl
    rw [e1, e2, List.append_nil, List.append_nil] at hR
    exact hR.mono (by omega)
  | k + 1, D, M, subs, T, hD, hP, hne, hnd, hx, hz, hR => by
    have hc : (D.take 17).length = 17 := by rw [List.length_take]; omega
    have hr : (D.drop 17).length = 17 * k := by rw [List.length_drop]; omega
    have e : D = D.take 17 ++ D.drop 17 := (List.take_append_drop 17 D).symm
    have hnd' : ((D.take 17).map (·.1) ++ (D.drop 17).map (·.1)).Nodup := by rw [← List.map_append, ← e]; exact hnd
    obtain ⟨n1, n2, n3⟩ := List.nodup_append.mp hnd'
    have e1 : mainE w.params T (parts (k + 1) D) = ents w.params T (D.take 17) ++ mainE w.params (T + 3 * (D.take 17).length) (parts k (D.drop 17)) := rfl
    have e2 : subsE w.params T (parts (k + 1) D) = [dob (ents w.params T (D.take 17))] ++ subsE w.params (T + 3 * (D.take 17).length) (parts k (D.drop 17)) := rfl
    have e3 : T + 3 * D.length = T + 3 * (D.take 17).length + 3 * (D.drop 17).length := by rw [hc, hr]; omega
    rw [e1, e2, ← List.append_assoc, ← List.append_assoc, e3] at hR
    have e4 : its pv D ++ rest = its pv (D.take 17) ++ (its pv (D.drop 17) ++ rest) := by
      unfold its
      rw [← List.append_assoc, ← List.map_append, ← e]
    rw [e4]
    refine (ev_part h1 h2 hc (hF (D.take 17) M subs T (fun q => by rw [q] at hc; simp at hc) hP hne n1 (fun d hd => hx d (List.mem_of_mem_take hd)) (by omega))
      (ev_parts h1 h2 hF k (D.drop 17) _ _ _ hr (hP.append (ents_plain _ _ _)) (by simp [hne]) n2 (fun d hd => ?_) ?_ hR)).mono ?_
    · rw [keysT_append, ents_keys, List.mem_append, not_or]
      exact ⟨hx d (List.mem_of_mem_drop hd), fun q => n3 d.1 q d.1 (List.mem_map.mpr ⟨d, hd, rfl⟩) rfl⟩
    · rw [List.length_append, ents_length]; omega
    · rw [hc, hr]; omega

theorem parts_take : ∀ (k : Nat) (X : List (Str × Str)), parts k (X.take (17 * k)) = parts k X
  | 0, _ => rfl
  | k + 1, X => by
    show (X.take (17 * (k + 1))).take 17 :: parts k ((X.take (17 * (k + 1))).drop 17) = X.take 17 :: parts k (X.drop 17)
    rw [List.take_take, List.drop_take, show min 17 (17 * (k + 1)) = 17 by omega, show 17 * (k + 1) - 17 = 17 * k by omega, parts_take k]
theorem parts_len (k : Nat) (X : List (Str × Str)) (h : 17 * k ≤ X.length) : (parts k X).flatten.length = 17 * k := by
  have e := congrArg List.length (parts_flat k X)
  rw [List.length_append, List.length_drop] at e
  omega
theorem mainE_snoc (P : Params) (c : List (Str × Str)) : ∀ (a : List (List (Str × Str))) (T : Nat), mainE P T (a ++ [c]) = mainE P T a ++ ents P (T + 3 * a.flatten.length) c
  | [], T => by
    show ents P T c ++ [] = [] ++ ents P (T + 3 * 0) c
    simp
  | b :: a, T => by
    show ents P T b ++ mainE P (T + 3 * b.length) (a ++ [c]) = (ents P T b ++ mainE P (T + 3 * b.length) a) ++ ents P (T + 3 * (b ++ a.flatten).length) c
    rw [mainE_snoc P c a, List.append_assoc, List.length_append, show T + 3 * b.length + 3 * a.flatten.length = T + 3 * (b.length + a.flatten.length) by omega]
theorem subsE_snoc (P : Params) (c : List (Str × Str)) : ∀ (a : List (List (Str × Str))) (T : Nat), subsE P T (a ++ [c]) = subsE P T a ++ [dob (ents P (T + 3 * a.flatten.length) c)]
  | [], T => rfl
  | b :: a, T => by
    show dob (ents P T b) :: subsE P (T + 3 * b.length) (a ++ [c]) = (dob (ents P T b) :: subsE P (T + 3 * b.length) a) ++ [dob (ents P (T + 3 * (b ++ a.flatten).length) c)]
    rw [subsE_snoc P c a, List.length_append, show T + 3 * b.length + 3 * a.flatten.length = T + 3 * (b.length + a.flatten.length) by omega]
    rfl
theorem mainE_plain (P : Params) : ∀ (a : List (List (Str × Str))) (T : Nat), Plain (mainE P T a)
  | [], _ => fun e he => nomatch he
  | c :: a, T => (ents_plain P c T).append (mainE_plain P a _)
theorem mainE_keys (P : Params) : ∀ (a : List (List (Str × Str))) (T : Nat), keysT (mainE P T a) = a.flatten.map (·.1)
  | [], _ => rfl
  | c :: a, T => by
    show keysT (ents P T c ++ mainE P (T + 3 * c.length) a) = (c ++ a.flatten).map (·.1)
    rw [keysT_append, ents_keys, mainE_keys P a, List.map_append]
theorem mainE_length (P : Params) : ∀ (a : List (List (Str × Str))) (T : Nat), (mainE P T a).length = a.flatten.length
  | [], _ => rfl
  | c :: a, T => by
    show (ents P T c ++ mainE P (T + 3 * c.length) a).length = (c ++ a.flatten).length
    rw [List.length_append, ents_length, mainE_length P a, List.length_append]

theorem ev_whole (h1 : ∀ k v m r, (r.length + 1 == 17) = false → f (some k, v) (m, r) = pure (.yield (m, r ++ [(k, v)])))
    (h2 : ∀ k v m r, r.length = 16 → f (some k, v) (m, r) = flush (r ++ [(k, v)]) m >>= fun m' => pure (.yield (m', [])))
    (hF0 : ∀ (c : List (Str × Str)) (T : Nat), c ≠ [] → (c.map (·.1)).Nodup → c.length ≤ 1000000 →
      EvB p w n₀ ann (flush (lits pv c) none) (st s [] T) pv (some s.heap.objs.size) (st s [dob (ents w.params T c)] (T + 3 * c.length)) pv (21 * c.length + 10))
    (hF : ∀ (c : List (Str × Str)) (M : List DictEntry) (subs : List Obj) (T : Nat), c ≠ [] → Plain M → M ≠ [] → (c.map (·.1)).Nodup → (∀ d ∈ c, d.1 ∉ keysT M) → M.length + c.length ≤ 1000000 →
      EvB p w n₀ ann (flush (lits pv c) (some s.heap.objs.size)) (st s (dob M :: subs) T) pv (some s.heap.objs.size) (st s (dob (M ++ ents w.params T c) :: (subs ++ [dob (ents w.params T c)])) (T + 3 * c.length)) pv (21 * c.length + 10))
    {g : Option Addr × List (Sem Value × Sem Value) → Sem Value} (hg : ∀ r : List (Sem Value × Sem Value), ∃ nd : Option Addr → Sem Value, g (some s.heap.objs.size, r) = flush r (some s.heap.objs.size) >>= nd ∧ ∀ d, nd (some d) = pure (.ref d))
    (k : Nat) (D : List (Str × Str)) (hD : 17 * (k + 1) < D.length) (hD' : D.length ≤ 17 * (k + 1) + 16) (hnd : (D.map (·.1)).Nodup) (hz : D.length ≤ 1000000) :
    EvB p w n₀ ann (forIn (its pv D) (none, []) f >>= g) (st s [] T) pv (.ref s.heap.objs.size)
      (st s (dob (mainE w.params T (parts (k + 1) D ++ [D.drop (17 * (k + 1))])) :: subsE w.params (T + 51) (parts k (D.drop 17) ++ [D.drop (17 * (k + 1))])) (T + 3 * D.length)) pv (22 * D.length + 100) := by
  generalize hr : D.drop (17 * (k + 1)) = r
  have lr : r.length = D.length - 17 * (k + 1) := by rw [← hr, List.length_drop]
  have hc : (D.take 17).length = 17 := by rw [List.length_take]; omega
  have lx : (D.drop 17).length = D.length - 17 := List.length_drop
  have l1 : ((D.drop 17).take (17 * k)).length = 17 * k := by rw [List.length_take]; omega
  have e : D = D.take 17 ++ ((D.drop 17).take (17 * k) ++ r) := by
    rw [← hr, show 17 * (k + 1) = 17 + 17 * k by omega, ← List.drop_drop, List.take_append_drop, List.take_append_drop]
  have hnd' : ((D.take 17).map (·.1) ++ (((D.drop 17).take (17 * k)).map (·.1) ++ r.map (·.1))).Nodup := by rw [← List.map_append, ← List.map_append, ← e]; exact hnd
  obtain ⟨n1, n23, n4⟩ := List.nodup_append.mp hnd'
  obtain ⟨n2, n3, n5⟩ := List.nodup_append.mp n23
  have lp : (parts k (D.drop 17)).flatten.length = 17 * k := parts_len k _ (by omega)
  have lp' : (parts (k + 1) D).flatten.length = 17 * (k + 1) := parts_len (k + 1) _ (by omega)
  have em : mainE w.params T (parts (k + 1) D ++ [r]) = (ents w.params T (D.take 17) ++ mainE w.params (T + 51) (parts k (D.drop 17))) ++ ents w.params (T + 51 * (k + 1)) r := by
    rw [mainE_snoc, lp', show T + 3 * (17 * (k + 1)) = T + 51 * (k + 1) by omega]
    have e0 : mainE w.params T (parts (k + 1) D) = ents w.params T (D.take 17) ++ mainE w.params (T + 3 * (D.take 17).length) (parts k (D.drop 17)) := rfl
    rw [e0, hc]
  have es : subsE w.params (T + 51) (parts k (D.drop 17) ++ [r]) = subsE w.params (T + 51) (parts k (D.drop 17)) ++ [dob (ents w.params (T + 51 * (k + 1)) r)] := by
    rw [subsE_snoc, lp, show T + 51 + 3 * (17 * k) = T + 51 * (k + 1) by omega]
  rw [em, es]
  have ei : its pv D = its pv (D.take 17) ++ (its pv ((D.drop 17).take (17 * k)) ++ (its pv r ++ [])) := by
    rw [List.append_nil]
    unfold its
    rw [← List.map_append, ← List.map_append, ← e]
  rw [ei]
  have kn : keysT (ents w.params T (D.take 17) ++ mainE w.params (T + 51) (parts k (D.drop 17))) = (D.take 17).map (·.1) ++ ((D.drop 17).take (17 * k)).map (·.1) := by
    rw [keysT_append, ents_keys, mainE_keys]
    have h := parts_flat k ((D.drop 17).take (17 * k))
    have hz0 : ((D.drop 17).take (17 * k)).drop (17 * k) = [] := List.drop_eq_nil_of_le (by rw [l1]; exact Nat.le_refl _)
    rw [parts_take, hz0, List.append_nil] at h
    rw [h]
  refine EvB.seq (21 * 17 + 10 + (22 * (17 * k) + 0)) (21 * r.length + 10) (by rw [lr]; omega) (a := (some s.heap.objs.size, lits pv r)) (s₁ := st s (dob (ents w.params T (D.take 17) ++ mainE w.params (T + 51) (parts k (D.drop 17))) :: subsE w.params (T + 51) (parts k (D.drop 17))) (T + 51 * (k + 1))) (q₁ := pv) ?_ ?_
  · have h0 := hF0 (D.take 17) T (fun q => by rw [q] at hc; simp at hc) n1 (by omega)
    rw [hc] at h0
    refine ev_part h1 h2 hc h0 ?_
    have hp := ev_parts (p := p) (w := w) (n₀ := n₀) (ann := ann) (s := s) (pv := pv) h1 h2 hF (rest := its pv r ++ []) (x := (some s.heap.objs.size, lits pv r)) (C := 0) k ((D.drop 17).take (17 * k)) (ents w.params T (D.take 17)) [] (T + 51) l1 (ents_plain _ _ _)
      (fun q => by have z := ents_length w.params (D.take 17) T; rw [q, hc] at z; simp at z) n2 (fun d hd => by
        rw [ents_keys]
        exact fun q => n4 d.1 q d.1 (List.mem_append_left _ (List.mem_map.mpr ⟨d, hd, rfl⟩)) rfl) (by rw [ents_length]; omega)
      (s₂ := st s (dob (ents w.params T (D.take 17) ++ mainE w.params (T + 51) (parts k (D.drop 17))) :: subsE w.params (T + 51) (parts k (D.drop 17))) (T + 51 * (k + 1))) (q₂ := pv)
    rw [parts_take, l1, List.nil_append, show T + 51 + 3 * (17 * k) = T + 51 * (k + 1) by omega] at hp
    refine hp ?_
    rw [fill h1 [] _ r [] (by rw [lr]; simp; omega)]
    exact .pure _
  · obtain ⟨nd, e1, e2⟩ := hg (lits pv r)
    rw [e1]
    have h := hF r _ (subsE w.params (T + 51) (parts k (D.drop 17))) (T + 51 * (k + 1)) (fun q => by rw [q] at lr; simp at lr; omega) ((ents_plain w.params (D.take 17) T).append (mainE_plain w.params (parts k (D.drop 17)) (T + 51)))
      (fun q => by have z := congrArg List.length q; rw [List.length_append, ents_length, hc] at z; simp at z) n3 (fun d hd => by
        rw [kn, List.mem_append, not_or]
        exact ⟨fun q => n4 d.1 q d.1 (List.mem_append_right _ (List.mem_map.mpr ⟨d, hd, rfl⟩)) rfl, fun q => n5 d.1 q d.1 (List.mem_map.mpr ⟨d, hd, rfl⟩) rfl⟩)
      (by rw [List.length_append, ents_length, mainE_length, lp, hc, lr]; omega)
    rw [show T + 51 * (k + 1) + 3 * r.length = T + 3 * D.length by rw [lr]; omega] at h
    refine EvB.seq (21 * r.length + 10) 0 (Nat.le_refl _) h ?_
    rw [e2]
    exact .pure _

/-- the whole display: k + 1 whole parts and a rest -/
theorem ev_display (k : Nat) (D : List (Str × Str)) (hn : n₀ ≤ s.heap.objs.size) (hsys : sysModules < s.heap.objs.size) (hD : 17 * (k + 1) < D.length) (hD' : D.length ≤ 17 * (k + 1) + 16) (hnd : (D.map (·.1)).Nodup) (hz : D.length ≤ 1000000) :
    EvB p w n₀ ann (dictDisplay (its pv D)) (st s [] T) pv (.ref s.heap.objs.size)
      (st s (dob (mainE w.params T (parts (k + 1) D ++ [D.drop (17 * (k + 1))])) :: subsE w.params (T + 51) (parts k (D.drop 17) ++ [D.drop (17 * (k + 1))])) (T + 3 * D.length)) pv (22 * D.length + 100) := by
  unfold dictDisplay
  refine ev_whole (f := ?f) (flush := fun run main => if run.isEmpty = true then pure main else match main with
        | none => (do
          let d ← subDict run
          pure (some d))
        | some d => (do
          let sub ← holding [Value.ref d] (subDict run)
          (holding [Value.ref d, Value.ref sub] (mergeMapping d (Value.ref sub) false)).onRaise fun x => do
              let _ ← holding [Value.ref d, x] (runValue (Code.builtin "proto.let_go" { }))
              pure ()
          pure (some d))) ?h1 ?h2 ?h3 ?h4 ?h5 k D hD hD' hnd hz
  case h1 =>
    intro k v m r h
    show (if ((r ++ [(k, v)]).length == 17) = true then _ else _) = _
    rw [List.length_append, List.length_singleton, h]
    rfl
  case h2 =>
    intro k v m r h
    show (if ((r ++ [(k, v)]).length == 17) = true then _ else _) = _
    rw [List.length_append, List.length_singleton, h]
    rfl
  case h3 =>
    intro c T hne hnd hz
    have hl : (lits pv c).isEmpty = false := by
      cases c with
      | nil => exact absurd rfl hne
      | cons d r => rfl
    show EvB p w n₀ ann (if (lits pv c).isEmpty = true then _ else _) _ _ _ _ _ _
    rw [hl, if_neg Bool.false_ne_true]
    exact EvB.seq (15 * c.length + 2) 0 (by omega) (ev_sub (l := []) c T hn hnd hz) (.pure _)
  case h4 =>
    intro c M subs T hne hM hMne hnd hx hz
    have hl : (lits pv c).isEmpty = false := by
      cases c with
      | nil => exact absurd rfl hne
      | cons d r => rfl
    show EvB p w n₀ ann (if (lits pv c).isEmpty = true then _ else _) _ _ _ _ _ _
    rw [hl, if_neg Bool.false_ne_true]
    refine EvB.seq (15 * c.length + 2) (6 * c.length + 6) (by omega) ((ev_sub (l := dob M :: subs) c T hn hnd (by omega)).holding _) ?_
    have h := ev_merge (p := p) (w := w) (n₀ := n₀) (ann := ann) (s := s) (pv := pv) (T := T + 3 * c.length) (M := M) (S := ents w.params T c) (subs := subs) hn hsys hM hMne (ents_plain _ _ _) (by rw [ents_keys]; exact hnd) (by
      rw [ents_keys]
      intro x hx'
      obtain ⟨d, hd, rfl⟩ := List.mem_map.mp hx'
      exact hx d hd) (by rw [ents_length]; exact hz)
    rw [ents_length] at h
    exact EvB.seq (6 * c.length + 6) 0 (Nat.le_refl _) ((h.holding _).onRaise _) (.pure _)
  case h5 =>
    intro r
    exact ⟨_, rfl, fun d => rfl⟩
end
end Mine
end

section
open PySem PySem.W PySem.Builtin
set_option Elab.async false
set_option maxRecDepth 100000
namespace Mine
/-- the given program -/
abbrev pw : Program := PySem.Challenge.pw_in0204_01
/-- its statements, and the parts of its defs -/
def stm (i : Nat) : Stmt := match pw.main.body[i]? with
  | some s => s
  | none => .Pass default
def fA (i : Nat) : Arguments := match stm i with
  | .FunctionDef _ a _ _ _ _ _ _ _ _ => a
  | _ => ⟨[], [], none, [], [], none, []⟩
def fB (i : Nat) : List Stmt := match stm i with
  | .FunctionDef _ _ b _ _ _ _ _ _ _ => b
  | _ => []
def fS (i : Nat) : Scope := match stm i with
  | .FunctionDef _ _ _ _ _ _ s _ _ _ => s
  | _ => pw.main.scope
/-- the table's pairs -/
def litPairs : List (Option PySem.Expr) → List PySem.Expr → List (Str × Str)
  | some (.Constant (.str x) _ _) :: ks, .Constant (.str y) _ _ :: vs => (x, y) :: litPairs ks vs
  | _, _ => []
def dKs : List (Option PySem.Expr) := match stm 2 with
  | .Assign _ (.Dict ks _ _) _ => ks
  | _ => []
def dVs : List PySem.Expr := match stm 2 with
  | .Assign _ (.Dict _ vs _) _ => vs
  | _ => []
def prs : List (Str × Str) := litPairs dKs dVs
/-- the table's dict, and the dicts of its parts -/
noncomputable def sds (P : Params) : List Obj := dob (mainE P 199 (parts (18 + 1) prs ++ [prs.drop (17 * (18 + 1))])) :: subsE P (199 + 51) (parts 18 (prs.drop 17) ++ [prs.drop (17 * (18 + 1))])
noncomputable def sd (i : Nat) (P : Params) : Obj := (sds P).getD i ⟨.none, none, .freed, #[]⟩
noncomputable def obA11 : Params → Obj := fun P => (@PySem.Obj.mk (@PySem.Value.type "tuple") (@Option.none @Nat) (@PySem.Data.seq (@List.toArray @PySem.Value (@List.nil @PySem.Value)) (0 : Nat)) (@List.toArray (@Option @PySem.Value) (@List.nil (@Option @PySem.Value))))
noncomputable def obA12 : Params → Obj := fun P => (@PySem.Obj.mk @PySem.Value.none (@Option.none @Nat) (@PySem.Data.fields (@List.toArray @PySem.Value (@List.nil @PySem.Value))) (@List.toArray (@Option @PySem.Value) (@List.nil (@Option @PySem.Value))))
noncomputable def obA13 : Params → Obj := fun P => (@PySem.Obj.mk (@PySem.Value.type "code") (@Option.none @Nat) (@PySem.Data.fields (@List.toArray @PySem.Value (@List.cons @PySem.Value (@PySem.Value.str (PySem.Str.ofString "<module>") (182 : Nat)) (@List.cons @PySem.Value (@PySem.Value.str (PySem.Str.ofString "<module>") (183 : Nat)) (@List.cons @PySem.Value (@PySem.Value.str (PySem.Str.ofString "/claim/cut.py") (184 : Nat)) (@List.cons @PySem.Value (@PySem.Value.int (@OfNat.ofNat @Int (nat_lit 1) (@instOfNat (nat_lit 1))) (0 : Nat)) (@List.cons @PySem.Value (@PySem.Value.int (@OfNat.ofNat @Int (nat_lit 0) (@instOfNat (nat_lit 0))) (0 : Nat)) (@List.cons @PySem.Value (@PySem.Value.int (@OfNat.ofNat @Int (nat_lit 0) (@instOfNat (nat_lit 0))) (0 : Nat)) (@List.cons @PySem.Value (@PySem.Value.int (@OfNat.ofNat @Int (nat_lit 0) (@instOfNat (nat_lit 0))) (0 : Nat)) (@List.cons @PySem.Value (@PySem.Value.int (@OfNat.ofNat @Int (nat_lit 0) (@instOfNat (nat_lit 0))) (0 : Nat)) (@List.cons @PySem.Value (@PySem.Value.ref (11 : Nat)) (@List.cons @PySem.Value (@PySem.Value.bool @Bool.false) (@List.cons @PySem.Value (@PySem.Value.int (@OfNat.ofNat @Int (nat_lit 181) (@instOfNat (nat_lit 181))) (0 : Nat)) (@List.cons @PySem.Value (@PySem.Value.ref (12 : Nat)) (@List.cons @PySem.Value @PySem.Value.none (@List.cons @PySem.Value @PySem.Value.none (@List.cons @PySem.Value @PySem.Value.none (@List.cons @PySem.Value @PySem.Value.none (@List.cons @PySem.Value (@PySem.Value.int (@OfNat.ofNat @Int (nat_lit 185) (@instOfNat (nat_lit 185))) (0 : Nat)) (@List.cons @PySem.Value (@PySem.Value.int (@OfNat.ofNat @Int (nat_lit 1) (@instOfNat (nat_lit 1))) (0 : Nat)) (@List.cons @PySem.Value (@PySem.Value.str (PySem.Str.ofString "/claim/cut.py") (186 : Nat)) (@List.nil @PySem.Value)))))))))))))))))))))) (@List.toArray (@Option @PySem.Value) (@List.nil (@Option @PySem.Value))))
noncomputable def obA14 : Params → Obj := fun P => (@PySem.Obj.mk (@PySem.Value.type "frame") (@Option.none @Nat) @PySem.Data.plain (@List.toArray (@Option @PySem.Value) (@List.cons (@Option @PySem.Value) (@Option.some @PySem.Value (@PySem.Value.ref (13 : Nat))) (@List.cons (@Option @PySem.Value) (@Option.some @PySem.Value (@PySem.Value.ref (3 : Nat))) (@List.cons (@Option @PySem.Value) (@Option.some @PySem.Value (@PySem.Value.ref (3 : Nat))) (@List.cons (@Option @PySem.Value) (@Option.none @PySem.Value) (@List.cons (@Option @PySem.Value) (@Option.some @PySem.Value (@PySem.Value.str (PySem.Str.ofString "__main__") (164 : Nat))) (@List.cons (@Option @PySem.Value) (@Option.none @PySem.Value) (@List.cons (@Option @PySem.Value) (@Option.some @PySem.Value (@PySem.Value.ref (0 : Nat))) (@List.nil (@Option @PySem.Value)))))))))))
noncomputable def obB3 : Params → Obj := fun P => (@PySem.Obj.mk (@PySem.Value.type "dict") (@Option.none @Nat) (@PySem.Data.dict (@List.toArray @PySem.DictEntry (@List.cons @PySem.DictEntry (@PySem.DictEntry.mk (@PySem.PyData.keyHash P (PySem.Str.ofString "__name__")) (@PySem.Value.str (PySem.Str.ofString "__name__") (165 : Nat)) (@PySem.Value.str (PySem.Str.ofString "cpy313.encodings") (187 : Nat))) (@List.cons @PySem.DictEntry (@PySem.DictEntry.mk (@PySem.PyData.keyHash P (PySem.Str.ofString "__doc__")) (@PySem.Value.str (PySem.Str.ofString "__doc__") (166 : Nat)) @PySem.Value.none) (@List.cons @PySem.DictEntry (@PySem.DictEntry.mk (@PySem.PyData.keyHash P (PySem.Str.ofString "__package__")) (@PySem.Value.str (PySem.Str.ofString "__package__") (167 : Nat)) @PySem.Value.none) (@List.cons @PySem.DictEntry (@PySem.DictEntry.mk (@PySem.PyData.keyHash P (PySem.Str.ofString "__loader__")) (@PySem.Value.str (PySem.Str.ofString "__loader__") (168 : Nat)) (@PySem.Value.builtin "__main__.__loader__#opaque")) (@List.cons @PySem.DictEntry (@PySem.DictEntry.mk (@PySem.PyData.keyHash P (PySem.Str.ofString "__spec__")) (@PySem.Value.str (PySem.Str.ofString "__spec__") (169 : Nat)) @PySem.Value.none) (@List.cons @PySem.DictEntry (@PySem.DictEntry.mk (@PySem.PyData.keyHash P (PySem.Str.ofString "__annotations__")) (@PySem.Value.str (PySem.Str.ofString "__annotations__") (170 : Nat)) (@PySem.Value.ref (6 : Nat))) (@List.cons @PySem.DictEntry (@PySem.DictEntry.mk (@PySem.PyData.keyHash P (PySem.Str.ofString "__builtins__")) (@PySem.Value.str (PySem.Str.ofString "__builtins__") (171 : Nat)) (@PySem.Value.ref (4 : Nat))) (@List.cons @PySem.DictEntry (@PySem.DictEntry.mk (@PySem.PyData.keyHash P (PySem.Str.ofString "__file__")) (@PySem.Value.str (PySem.Str.ofString "__file__") (173 : Nat)) (@PySem.Value.str (PySem.Str.ofString "/claim/cut.py") (172 : Nat))) (@List.cons @PySem.DictEntry (@PySem.DictEntry.mk (@PySem.PyData.keyHash P (PySem.Str.ofString "__cached__")) (@PySem.Value.str (PySem.Str.ofString "__cached__") (174 : Nat)) @PySem.Value.none) (@List.cons @PySem.DictEntry (@PySem.DictEntry.mk (@PySem.PyData.keyHash P (PySem.Str.ofString "normalize_encoding")) (@PySem.Value.str (PySem.Str.ofString "normalize_encoding") (198 : Nat)) (@PySem.Value.ref (21 : Nat))) (@List.nil @PySem.DictEntry)))))))))))) (10 : Nat)) (@List.toArray (@Option @PySem.Value) (@List.nil (@Option @PySem.Value))))
noncomputable def obB12 : Params → Obj := fun P => (@PySem.Obj.mk @PySem.Value.none (@Option.none @Nat) (@PySem.Data.fields (@List.toArray @PySem.Value (@List.cons @PySem.Value (@PySem.Value.int (@OfNat.ofNat @Int (nat_lit 2) (@instOfNat (nat_lit 2))) (0 : Nat)) (@List.cons @PySem.Value (@PySem.Value.int (@OfNat.ofNat @Int (nat_lit 0) (@instOfNat (nat_lit 0))) (0 : Nat)) (@List.cons @PySem.Value (@PySem.Value.ref (20 : Nat)) (@List.nil @PySem.Value)))))) (@List.toArray (@Option @PySem.Value) (@List.nil (@Option @PySem.Value))))
noncomputable def obB15 : Params → Obj := fun P => (@PySem.Obj.mk (@PySem.Value.type "tuple") (@Option.none @Nat) (@PySem.Data.seq (@List.toArray @PySem.Value (@List.nil @PySem.Value)) (0 : Nat)) (@List.toArray (@Option @PySem.Value) (@List.nil (@Option @PySem.Value))))
noncomputable def obB16 : Params → Obj := fun P => (@PySem.Obj.mk @PySem.Value.none (@Option.none @Nat) (@PySem.Data.fields (@List.toArray @PySem.Value (@List.nil @PySem.Value))) (@List.toArray (@Option @PySem.Value) (@List.nil (@Option @PySem.Value))))
noncomputable def obB17 : Params → Obj := fun P => (@PySem.Obj.mk (@PySem.Value.type "tuple") (@Option.none @Nat) (@PySem.Data.seq (@List.toArray @PySem.Value (@List.cons @PySem.Value (@PySem.Value.str (PySem.Str.ofString "encoding") (192 : Nat)) (@List.cons @PySem.Value (@PySem.Value.str (PySem.Str.ofString "chars") (193 : Nat)) (@List.cons @PySem.Value (@PySem.Value.str (PySem.Str.ofString "punct") (194 : Nat)) (@List.cons @PySem.Value (@PySem.Value.str (PySem.Str.ofString "c") (195 : Nat)) (@List.nil @PySem.Value)))))) (0 : Nat)) (@List.toArray (@Option @PySem.Value) (@List.nil (@Option @PySem.Value))))
noncomputable def obB18 : Params → Obj := fun P => (@PySem.Obj.mk (@PySem.Value.type "tuple") (@Option.none @Nat) (@PySem.Data.seq (@List.toArray @PySem.Value (@List.nil @PySem.Value)) (0 : Nat)) (@List.toArray (@Option @PySem.Value) (@List.nil (@Option @PySem.Value))))
noncomputable def obB19 : Params → Obj := fun P => (@PySem.Obj.mk @PySem.Value.none (@Option.none @Nat) (@PySem.Data.func (@PySem.FuncData.mk (PySem.Str.ofString "normalize_encoding") (PySem.Str.ofString "normalize_encoding") (@Mine.fA (1 : Nat)) (@PySem.FuncBody.stmts (@Mine.fB (1 : Nat))) (@Mine.fS (1 : Nat)) (0 : Nat) (@List.nil (@Prod @PySem.Str @Nat)) @PySem.Value.none @PySem.Value.none @PySem.Value.none @PySem.Value.none (@Option.none @Nat) @PySem.Value.none @PySem.Value.none (0 : Nat))) (@List.toArray (@Option @PySem.Value) (@List.nil (@Option @PySem.Value))))
noncomputable def obB20 : Params → Obj := fun P => (@PySem.Obj.mk (@PySem.Value.type "code") (@Option.none @Nat) (@PySem.Data.fields (@List.toArray @PySem.Value (@List.cons @PySem.Value (@PySem.Value.str (PySem.Str.ofString "normalize_encoding") (189 : Nat)) (@List.cons @PySem.Value (@PySem.Value.str (PySem.Str.ofString "normalize_encoding") (190 : Nat)) (@List.cons @PySem.Value (@PySem.Value.str (PySem.Str.ofString "/claim/cut.py") (191 : Nat)) (@List.cons @PySem.Value (@PySem.Value.int (@OfNat.ofNat @Int (nat_lit 2) (@instOfNat (nat_lit 2))) (0 : Nat)) (@List.cons @PySem.Value (@PySem.Value.int (@OfNat.ofNat @Int (nat_lit 1) (@instOfNat (nat_lit 1))) (0 : Nat)) (@List.cons @PySem.Value (@PySem.Value.int (@OfNat.ofNat @Int (nat_lit 0) (@instOfNat (nat_lit 0))) (0 : Nat)) (@List.cons @PySem.Value (@PySem.Value.int (@OfNat.ofNat @Int (nat_lit 0) (@instOfNat (nat_lit 0))) (0 : Nat)) (@List.cons @PySem.Value (@PySem.Value.int (@OfNat.ofNat @Int (nat_lit 3) (@instOfNat (nat_lit 3))) (0 : Nat)) (@List.cons @PySem.Value (@PySem.Value.ref (15 : Nat)) (@List.cons @PySem.Value (@PySem.Value.bool @Bool.true) (@List.cons @PySem.Value (@PySem.Value.int (@OfNat.ofNat @Int (nat_lit 181) (@instOfNat (nat_lit 181))) (0 : Nat)) (@List.cons @PySem.Value (@PySem.Value.ref (16 : Nat)) (@List.cons @PySem.Value @PySem.Value.none (@List.cons @PySem.Value (@PySem.Value.ref (17 : Nat)) (@List.cons @PySem.Value (@PySem.Value.ref (18 : Nat)) (@List.cons @PySem.Value (@PySem.Value.ref (19 : Nat)) (@List.cons @PySem.Value (@PySem.Value.int (@OfNat.ofNat @Int (nat_lit 196) (@instOfNat (nat_lit 196))) (0 : Nat)) (@List.cons @PySem.Value (@PySem.Value.int (@OfNat.ofNat @Int (nat_lit 2) (@instOfNat (nat_lit 2))) (0 : Nat)) (@List.cons @PySem.Value (@PySem.Value.str (PySem.Str.ofString "/claim/cut.py") (197 : Nat)) (@List.nil @PySem.Value)))))))))))))))))))))) (@List.toArray (@Option @PySem.Value) (@List.nil (@Option @PySem.Value))))
noncomputable def obB21 : Params → Obj := fun P => (@PySem.Obj.mk (@PySem.Value.type "function") (@Option.none @Nat) (@PySem.Data.func (@PySem.FuncData.mk (PySem.Str.ofString "normalize_encoding") (PySem.Str.ofString "normalize_encoding") (@Mine.fA (1 : Nat)) (@PySem.FuncBody.stmts (@Mine.fB (1 : Nat))) (@Mine.fS (1 : Nat)) (3 : Nat) (@List.nil (@Prod @PySem.Str @Nat)) @PySem.Value.none @PySem.Value.none @PySem.Value.none (@PySem.Value.str (PySem.Str.ofString "cpy313.encodings") (187 : Nat)) (@Option.none @Nat) (@PySem.Value.ref (20 : Nat)) @PySem.Value.none (0 : Nat))) (@List.toArray (@Option @PySem.Value) (@List.nil (@Option @PySem.Value))))
noncomputable def obD3 : Params → Obj := fun P => (@PySem.Obj.mk (@PySem.Value.type "dict") (@Option.none @Nat) (@PySem.Data.dict (@List.toArray @PySem.DictEntry (@List.cons @PySem.DictEntry (@PySem.DictEntry.mk (@PySem.PyData.keyHash P (PySem.Str.ofString "__name__")) (@PySem.Value.str (PySem.Str.ofString "__name__") (165 : Nat)) (@PySem.Value.str (PySem.Str.ofString "cpy313.encodings") (187 : Nat))) (@List.cons @PySem.DictEntry (@PySem.DictEntry.mk (@PySem.PyData.keyHash P (PySem.Str.ofString "__doc__")) (@PySem.Value.str (PySem.Str.ofString "__doc__") (166 : Nat)) @PySem.Value.none) (@List.cons @PySem.DictEntry (@PySem.DictEntry.mk (@PySem.PyData.keyHash P (PySem.Str.ofString "__package__")) (@PySem.Value.str (PySem.Str.ofString "__package__") (167 : Nat)) @PySem.Value.none) (@List.cons @PySem.DictEntry (@PySem.DictEntry.mk (@PySem.PyData.keyHash P (PySem.Str.ofString "__loader__")) (@PySem.Value.str (PySem.Str.ofString "__loader__") (168 : Nat)) (@PySem.Value.builtin "__main__.__loader__#opaque")) (@List.cons @PySem.DictEntry (@PySem.DictEntry.mk (@PySem.PyData.keyHash P (PySem.Str.ofString "__spec__")) (@PySem.Value.str (PySem.Str.ofString "__spec__") (169 : Nat)) @PySem.Value.none) (@List.cons @PySem.DictEntry (@PySem.DictEntry.mk (@PySem.PyData.keyHash P (PySem.Str.ofString "__annotations__")) (@PySem.Value.str (PySem.Str.ofString "__annotations__") (170 : Nat)) (@PySem.Value.ref (6 : Nat))) (@List.cons @PySem.DictEntry (@PySem.DictEntry.mk (@PySem.PyData.keyHash P (PySem.Str.ofString "__builtins__")) (@PySem.Value.str (PySem.Str.ofString "__builtins__") (171 : Nat)) (@PySem.Value.ref (4 : Nat))) (@List.cons @PySem.DictEntry (@PySem.DictEntry.mk (@PySem.PyData.keyHash P (PySem.Str.ofString "__file__")) (@PySem.Value.str (PySem.Str.ofString "__file__") (173 : Nat)) (@PySem.Value.str (PySem.Str.ofString "/claim/cut.py") (172 : Nat))) (@List.cons @PySem.DictEntry (@PySem.DictEntry.mk (@PySem.PyData.keyHash P (PySem.Str.ofString "__cached__")) (@PySem.Value.str (PySem.Str.ofString "__cached__") (174 : Nat)) @PySem.Value.none) (@List.cons @PySem.DictEntry (@PySem.DictEntry.mk (@PySem.PyData.keyHash P (PySem.Str.ofString "normalize_encoding")) (@PySem.Value.str (PySem.Str.ofString "normalize_encoding") (198 : Nat)) (@PySem.Value.ref (21 : Nat))) (@List.cons @PySem.DictEntry (@PySem.DictEntry.mk (@PySem.PyData.keyHash P (PySem.Str.ofString "aliases")) (@PySem.Value.str (PySem.Str.ofString "aliases") (1204 : Nat)) (@PySem.Value.ref (22 : Nat))) (@List.nil @PySem.DictEntry))))))))))))) (11 : Nat)) (@List.toArray (@Option @PySem.Value) (@List.nil (@Option @PySem.Value))))
noncomputable def obE3 : Params → Obj := fun P => (@PySem.Obj.mk (@PySem.Value.type "dict") (@Option.none @Nat) (@PySem.Data.dict (@List.toArray @PySem.DictEntry (@List.cons @PySem.DictEntry (@PySem.DictEntry.mk (@PySem.PyData.keyHash P (PySem.Str.ofString "__name__")) (@PySem.Value.str (PySem.Str.ofString "__name__") (165 : Nat)) (@PySem.Value.str (PySem.Str.ofString "law_in0204_01") (1205 : Nat))) (@List.cons @PySem.DictEntry (@PySem.DictEntry.mk (@PySem.PyData.keyHash P (PySem.Str.ofString "__doc__")) (@PySem.Value.str (PySem.Str.ofString "__doc__") (166 : Nat)) @PySem.Value.none) (@List.cons @PySem.DictEntry (@PySem.DictEntry.mk (@PySem.PyData.keyHash P (PySem.Str.ofString "__package__")) (@PySem.Value.str (PySem.Str.ofString "__package__") (167 : Nat)) @PySem.Value.none) (@List.cons @PySem.DictEntry (@PySem.DictEntry.mk (@PySem.PyData.keyHash P (PySem.Str.ofString "__loader__")) (@PySem.Value.str (PySem.Str.ofString "__loader__") (168 : Nat)) (@PySem.Value.builtin "__main__.__loader__#opaque")) (@List.cons @PySem.DictEntry (@PySem.DictEntry.mk (@PySem.PyData.keyHash P (PySem.Str.ofString "__spec__")) (@PySem.Value.str (PySem.Str.ofString "__spec__") (169 : Nat)) @PySem.Value.none) (@List.cons @PySem.DictEntry (@PySem.DictEntry.mk (@PySem.PyData.keyHash P (PySem.Str.ofString "__annotations__")) (@PySem.Value.str (PySem.Str.ofString "__annotations__") (170 : Nat)) (@PySem.Value.ref (6 : Nat))) (@List.cons @PySem.DictEntry (@PySem.DictEntry.mk (@PySem.PyData.keyHash P (PySem.Str.ofString "__builtins__")) (@PySem.Value.str (PySem.Str.ofString "__builtins__") (171 : Nat)) (@PySem.Value.ref (4 : Nat))) (@List.cons @PySem.DictEntry (@PySem.DictEntry.mk (@PySem.PyData.keyHash P (PySem.Str.ofString "__file__")) (@PySem.Value.str (PySem.Str.ofString "__file__") (173 : Nat)) (@PySem.Value.str (PySem.Str.ofString "/claim/cut.py") (172 : Nat))) (@List.cons @PySem.DictEntry (@PySem.DictEntry.mk (@PySem.PyData.keyHash P (PySem.Str.ofString "__cached__")) (@PySem.Value.str (PySem.Str.ofString "__cached__") (174 : Nat)) @PySem.Value.none) (@List.cons @PySem.DictEntry (@PySem.DictEntry.mk (@PySem.PyData.keyHash P (PySem.Str.ofString "normalize_encoding")) (@PySem.Value.str (PySem.Str.ofString "normalize_encoding") (198 : Nat)) (@PySem.Value.ref (21 : Nat))) (@List.cons @PySem.DictEntry (@PySem.DictEntry.mk (@PySem.PyData.keyHash P (PySem.Str.ofString "aliases")) (@PySem.Value.str (PySem.Str.ofString "aliases") (1204 : Nat)) (@PySem.Value.ref (22 : Nat))) (@List.cons @PySem.DictEntry (@PySem.DictEntry.mk (@PySem.PyData.keyHash P (PySem.Str.ofString "_law_spelled")) (@PySem.Value.str (PySem.Str.ofString "_law_spelled") (1212 : Nat)) (@PySem.Value.ref (46 : Nat))) (@List.cons @PySem.DictEntry (@PySem.DictEntry.mk (@PySem.PyData.keyHash P (PySem.Str.ofString "law")) (@PySem.Value.str (PySem.Str.ofString "law") (1223 : Nat)) (@PySem.Value.ref (53 : Nat))) (@List.nil @PySem.DictEntry))))))))))))))) (13 : Nat)) (@List.toArray (@Option @PySem.Value) (@List.nil (@Option @PySem.Value))))
noncomputable def obE12 : Params → Obj := fun P => (@PySem.Obj.mk @PySem.Value.none (@Option.none @Nat) (@PySem.Data.fields (@List.toArray @PySem.Value (@List.cons @PySem.Value (@PySem.Value.int (@OfNat.ofNat @Int (nat_lit 2) (@instOfNat (nat_lit 2))) (0 : Nat)) (@List.cons @PySem.Value (@PySem.Value.int (@OfNat.ofNat @Int (nat_lit 0) (@instOfNat (nat_lit 0))) (0 : Nat)) (@List.cons @PySem.Value (@PySem.Value.ref (20 : Nat)) (@List.cons @PySem.Value (@PySem.Value.int (@OfNat.ofNat @Int (nat_lit 19) (@instOfNat (nat_lit 19))) (0 : Nat)) (@List.cons @PySem.Value (@PySem.Value.int (@OfNat.ofNat @Int (nat_lit 0) (@instOfNat (nat_lit 0))) (0 : Nat)) (@List.cons @PySem.Value (@PySem.Value.ref (45 : Nat)) (@List.cons @PySem.Value (@PySem.Value.int (@OfNat.ofNat @Int (nat_lit 27) (@instOfNat (nat_lit 27))) (0 : Nat)) (@List.cons @PySem.Value (@PySem.Value.int (@OfNat.ofNat @Int (nat_lit 0) (@instOfNat (nat_lit 0))) (0 : Nat)) (@List.cons @PySem.Value (@PySem.Value.ref (52 : Nat)) (@List.nil @PySem.Value)))))))))))) (@List.toArray (@Option @PySem.Value) (@List.nil (@Option @PySem.Value))))
noncomputable def obE42 : Params → Obj := fun P => (@PySem.Obj.mk (@PySem.Value.type "tuple") (@Option.none @Nat) (@PySem.Data.seq (@List.toArray @PySem.Value (@List.nil @PySem.Value)) (0 : Nat)) (@List.toArray (@Option @PySem.Value) (@List.nil (@Option @PySem.Value))))
noncomputable def obE43 : Params → Obj := fun P => (@PySem.Obj.mk @PySem.Value.none (@Option.none @Nat) (@PySem.Data.fields (@List.toArray @PySem.Value (@List.nil @PySem.Value))) (@List.toArray (@Option @PySem.Value) (@List.nil (@Option @PySem.Value))))
noncomputable def obE44 : Params → Obj := fun P => (@PySem.Obj.mk @PySem.Value.none (@Option.none @Nat) (@PySem.Data.func (@PySem.FuncData.mk (PySem.Str.ofString "_law_spelled") (PySem.Str.ofString "_law_spelled") (@Mine.fA (4 : Nat)) (@PySem.FuncBody.stmts (@Mine.fB (4 : Nat))) (@Mine.fS (4 : Nat)) (0 : Nat) (@List.nil (@Prod @PySem.Str @Nat)) @PySem.Value.none @PySem.Value.none @PySem.Value.none @PySem.Value.none (@Option.none @Nat) @PySem.Value.none @PySem.Value.none (0 : Nat))) (@List.toArray (@Option @PySem.Value) (@List.nil (@Option @PySem.Value))))
noncomputable def obE45 : Params → Obj := fun P => (@PySem.Obj.mk (@PySem.Value.type "code") (@Option.none @Nat) (@PySem.Data.fields (@List.toArray @PySem.Value (@List.cons @PySem.Value (@PySem.Value.str (PySem.Str.ofString "_law_spelled") (1207 : Nat)) (@List.cons @PySem.Value (@PySem.Value.str (PySem.Str.ofString "_law_spelled") (1208 : Nat)) (@List.cons @PySem.Value (@PySem.Value.str (PySem.Str.ofString "/claim/cut.py") (1209 : Nat)) (@List.cons @PySem.Value (@PySem.Value.int (@OfNat.ofNat @Int (nat_lit 19) (@instOfNat (nat_lit 19))) (0 : Nat)) (@List.cons @PySem.Value (@PySem.Value.int (@OfNat.ofNat @Int (nat_lit 2) (@instOfNat (nat_lit 2))) (0 : Nat)) (@List.cons @PySem.Value (@PySem.Value.int (@OfNat.ofNat @Int (nat_lit 0) (@instOfNat (nat_lit 0))) (0 : Nat)) (@List.cons @PySem.Value (@PySem.Value.int (@OfNat.ofNat @Int (nat_lit 0) (@instOfNat (nat_lit 0))) (0 : Nat)) (@List.cons @PySem.Value (@PySem.Value.int (@OfNat.ofNat @Int (nat_lit 3) (@instOfNat (nat_lit 3))) (0 : Nat)) (@List.cons @PySem.Value (@PySem.Value.ref (42 : Nat)) (@List.cons @PySem.Value (@PySem.Value.bool @Bool.true) (@List.cons @PySem.Value (@PySem.Value.int (@OfNat.ofNat @Int (nat_lit 181) (@instOfNat (nat_lit 181))) (0 : Nat)) (@List.cons @PySem.Value (@PySem.Value.ref (43 : Nat)) (@List.cons @PySem.Value @PySem.Value.none (@List.cons @PySem.Value @PySem.Value.none (@List.cons @PySem.Value @PySem.Value.none (@List.cons @PySem.Value (@PySem.Value.ref (44 : Nat)) (@List.cons @PySem.Value (@PySem.Value.int (@OfNat.ofNat @Int (nat_lit 1210) (@instOfNat (nat_lit 1210))) (0 : Nat)) (@List.cons @PySem.Value (@PySem.Value.int (@OfNat.ofNat @Int (nat_lit 19) (@instOfNat (nat_lit 19))) (0 : Nat)) (@List.cons @PySem.Value (@PySem.Value.str (PySem.Str.ofString "/claim/cut.py") (1211 : Nat)) (@List.nil @PySem.Value)))))))))))))))))))))) (@List.toArray (@Option @PySem.Value) (@List.nil (@Option @PySem.Value))))
noncomputable def obE46 : Params → Obj := fun P => (@PySem.Obj.mk (@PySem.Value.type "function") (@Option.none @Nat) (@PySem.Data.func (@PySem.FuncData.mk (PySem.Str.ofString "_law_spelled") (PySem.Str.ofString "_law_spelled") (@Mine.fA (4 : Nat)) (@PySem.FuncBody.stmts (@Mine.fB (4 : Nat))) (@Mine.fS (4 : Nat)) (3 : Nat) (@List.nil (@Prod @PySem.Str @Nat)) @PySem.Value.none @PySem.Value.none @PySem.Value.none (@PySem.Value.str (PySem.Str.ofString "law_in0204_01") (1205 : Nat)) (@Option.none @Nat) (@PySem.Value.ref (45 : Nat)) @PySem.Value.none (0 : Nat))) (@List.toArray (@Option @PySem.Value) (@List.nil (@Option @PySem.Value))))
noncomputable def obE47 : Params → Obj := fun P => (@PySem.Obj.mk (@PySem.Value.type "tuple") (@Option.none @Nat) (@PySem.Data.seq (@List.toArray @PySem.Value (@List.nil @PySem.Value)) (0 : Nat)) (@List.toArray (@Option @PySem.Value) (@List.nil (@Option @PySem.Value))))
noncomputable def obE48 : Params → Obj := fun P => (@PySem.Obj.mk @PySem.Value.none (@Option.none @Nat) (@PySem.Data.fields (@List.toArray @PySem.Value (@List.nil @PySem.Value))) (@List.toArray (@Option @PySem.Value) (@List.nil (@Option @PySem.Value))))
noncomputable def obE49 : Params → Obj := fun P => (@PySem.Obj.mk (@PySem.Value.type "tuple") (@Option.none @Nat) (@PySem.Data.seq (@List.toArray @PySem.Value (@List.cons @PySem.Value (@PySem.Value.str (PySem.Str.ofString "script") (1216 : Nat)) (@List.cons @PySem.Value (@PySem.Value.str (PySem.Str.ofString "names") (1217 : Nat)) (@List.cons @PySem.Value (@PySem.Value.str (PySem.Str.ofString "number") (1218 : Nat)) (@List.cons @PySem.Value (@PySem.Value.str (PySem.Str.ofString "name") (1219 : Nat)) (@List.cons @PySem.Value (@PySem.Value.str (PySem.Str.ofString "text") (1220 : Nat)) (@List.nil @PySem.Value))))))) (0 : Nat)) (@List.toArray (@Option @PySem.Value) (@List.nil (@Option @PySem.Value))))
noncomputable def obE50 : Params → Obj := fun P => (@PySem.Obj.mk (@PySem.Value.type "tuple") (@Option.none @Nat) (@PySem.Data.seq (@List.toArray @PySem.Value (@List.nil @PySem.Value)) (0 : Nat)) (@List.toArray (@Option @PySem.Value) (@List.nil (@Option @PySem.Value))))
noncomputable def obE51 : Params → Obj := fun P => (@PySem.Obj.mk @PySem.Value.none (@Option.none @Nat) (@PySem.Data.func (@PySem.FuncData.mk (PySem.Str.ofString "law") (PySem.Str.ofString "law") (@Mine.fA (5 : Nat)) (@PySem.FuncBody.stmts (@Mine.fB (5 : Nat))) (@Mine.fS (5 : Nat)) (0 : Nat) (@List.nil (@Prod @PySem.Str @Nat)) @PySem.Value.none @PySem.Value.none @PySem.Value.none @PySem.Value.none (@Option.none @Nat) @PySem.Value.none @PySem.Value.none (0 : Nat))) (@List.toArray (@Option @PySem.Value) (@List.nil (@Option @PySem.Value))))
noncomputable def obE52 : Params → Obj := fun P => (@PySem.Obj.mk (@PySem.Value.type "code") (@Option.none @Nat) (@PySem.Data.fields (@List.toArray @PySem.Value (@List.cons @PySem.Value (@PySem.Value.str (PySem.Str.ofString "law") (1213 : Nat)) (@List.cons @PySem.Value (@PySem.Value.str (PySem.Str.ofString "law") (1214 : Nat)) (@List.cons @PySem.Value (@PySem.Value.str (PySem.Str.ofString "/claim/cut.py") (1215 : Nat)) (@List.cons @PySem.Value (@PySem.Value.int (@OfNat.ofNat @Int (nat_lit 27) (@instOfNat (nat_lit 27))) (0 : Nat)) (@List.cons @PySem.Value (@PySem.Value.int (@OfNat.ofNat @Int (nat_lit 1) (@instOfNat (nat_lit 1))) (0 : Nat)) (@List.cons @PySem.Value (@PySem.Value.int (@OfNat.ofNat @Int (nat_lit 0) (@instOfNat (nat_lit 0))) (0 : Nat)) (@List.cons @PySem.Value (@PySem.Value.int (@OfNat.ofNat @Int (nat_lit 0) (@instOfNat (nat_lit 0))) (0 : Nat)) (@List.cons @PySem.Value (@PySem.Value.int (@OfNat.ofNat @Int (nat_lit 3) (@instOfNat (nat_lit 3))) (0 : Nat)) (@List.cons @PySem.Value (@PySem.Value.ref (47 : Nat)) (@List.cons @PySem.Value (@PySem.Value.bool @Bool.true) (@List.cons @PySem.Value (@PySem.Value.int (@OfNat.ofNat @Int (nat_lit 181) (@instOfNat (nat_lit 181))) (0 : Nat)) (@List.cons @PySem.Value (@PySem.Value.ref (48 : Nat)) (@List.cons @PySem.Value @PySem.Value.none (@List.cons @PySem.Value (@PySem.Value.ref (49 : Nat)) (@List.cons @PySem.Value (@PySem.Value.ref (50 : Nat)) (@List.cons @PySem.Value (@PySem.Value.ref (51 : Nat)) (@List.cons @PySem.Value (@PySem.Value.int (@OfNat.ofNat @Int (nat_lit 1221) (@instOfNat (nat_lit 1221))) (0 : Nat)) (@List.cons @PySem.Value (@PySem.Value.int (@OfNat.ofNat @Int (nat_lit 27) (@instOfNat (nat_lit 27))) (0 : Nat)) (@List.cons @PySem.Value (@PySem.Value.str (PySem.Str.ofString "/claim/cut.py") (1222 : Nat)) (@List.nil @PySem.Value)))))))))))))))))))))) (@List.toArray (@Option @PySem.Value) (@List.nil (@Option @PySem.Value))))
noncomputable def obE53 : Params → Obj := fun P => (@PySem.Obj.mk (@PySem.Value.type "function") (@Option.none @Nat) (@PySem.Data.func (@PySem.FuncData.mk (PySem.Str.ofString "law") (PySem.Str.ofString "law") (@Mine.fA (5 : Nat)) (@PySem.FuncBody.stmts (@Mine.fB (5 : Nat))) (@Mine.fS (5 : Nat)) (3 : Nat) (@List.nil (@Prod @PySem.Str @Nat)) @PySem.Value.none @PySem.Value.none @PySem.Value.none (@PySem.Value.str (PySem.Str.ofString "law_in0204_01") (1205 : Nat)) (@Option.none @Nat) (@PySem.Value.ref (52 : Nat)) @PySem.Value.none (0 : Nat))) (@List.toArray (@Option @PySem.Value) (@List.nil (@Option @PySem.Value))))
noncomputable def hpA : Params → Heap := fun P => ⟨#[boot_o_0 P, boot_o_1 P, boot_o_2 P, boot_o_3 P, boot_o_4 P, boot_o_5 P, boot_o_6 P, boot_o_7 P, boot_o_8 P, boot_o_9 P, boot_o_10 P, obA11 P, obA12 P, obA13 P, obA14 P], {}⟩
noncomputable def hpB : Params → Heap := fun P => ⟨#[boot_o_0 P, boot_o_1 P, boot_o_2 P, obB3 P, boot_o_4 P, boot_o_5 P, boot_o_6 P, boot_o_7 P, boot_o_8 P, boot_o_9 P, boot_o_10 P, obA11 P, obB12 P, obA13 P, obA14 P, obB15 P, obB16 P, obB17 P, obB18 P, obB19 P, obB20 P, obB21 P], {}⟩
noncomputable def hpD : Params → Heap := fun P => ⟨#[boot_o_0 P, boot_o_1 P, boot_o_2 P, obD3 P, boot_o_4 P, boot_o_5 P, boot_o_6 P, boot_o_7 P, boot_o_8 P, boot_o_9 P, boot_o_10 P, obA11 P, obB12 P, obA13 P, obA14 P, obB15 P, obB16 P, obB17 P, obB18 P, obB19 P, obB20 P, obB21 P, sd 0 P, sd 1 P, sd 2 P, sd 3 P, sd 4 P, sd 5 P, sd 6 P, sd 7 P, sd 8 P, sd 9 P, sd 10 P, sd 11 P, sd 12 P, sd 13 P, sd 14 P, sd 15 P, sd 16 P, sd 17 P, sd 18 P, sd 19 P], {}⟩
noncomputable def hpE : Params → Heap := fun P => ⟨#[boot_o_0 P, boot_o_1 P, boot_o_2 P, obE3 P, boot_o_4 P, boot_o_5 P, boot_o_6 P, boot_o_7 P, boot_o_8 P, boot_o_9 P, boot_o_10 P, obA11 P, obE12 P, obA13 P, obA14 P, obB15 P, obB16 P, obB17 P, obB18 P, obB19 P, obB20 P, obB21 P, sd 0 P, sd 1 P, sd 2 P, sd 3 P, sd 4 P, sd 5 P, sd 6 P, sd 7 P, sd 8 P, sd 9 P, sd 10 P, sd 11 P, sd 12 P, sd 13 P, sd 14 P, sd 15 P, sd 16 P, sd 17 P, sd 18 P, sd 19 P, obE42 P, obE43 P, obE44 P, obE45 P, obE46 P, obE47 P, obE48 P, obE49 P, obE50 P, obE51 P, obE52 P, obE53 P], {}⟩
end Mine
end

section
open PySem PySem.W PySem.Builtin
set_option Elab.async false
set_option maxRecDepth 100000
set_option maxHeartbeats 0
namespace Mine
def env0 : Env := { scope := pw.main.scope, locals := mainNs, globals := mainNs, cells := [], code := .ref 13, frame := some 14 }
def q0 : Pos := ⟨0, 0, 0, 0⟩
def pA : Pos := ⟨0, 0, 0, 0⟩
def pB : Pos := ⟨2, 0, 16, 25⟩
def pD : Pos := ⟨17, 0, 17, 7⟩
def pE : Pos := ⟨27, 0, 38, 15⟩
def an : Option Value := some (.ref 6)
abbrev cE : Code := .body (behindTheImports pw) env0
abbrev Bs : List Frame := [topFrame q0]
noncomputable abbrev S0 (w : World) (os : OsState) : Shared := ⟨boot_heap w.params, Array.mk [], boot_drawn, boot_toks, os⟩
noncomputable abbrev SA (w : World) (os : OsState) : Shared := ⟨hpA w.params, Array.mk [], boot_drawn, 187, os⟩
noncomputable abbrev SB (w : World) (os : OsState) : Shared := ⟨hpB w.params, Array.mk [], boot_drawn, 199, os⟩
noncomputable abbrev SD (w : World) (os : OsState) : Shared := ⟨hpD w.params, Array.mk [], boot_drawn, 1205, os⟩
noncomputable abbrev SE (w : World) (os : OsState) : Shared := ⟨hpE w.params, Array.mk [], boot_drawn, 1224, os⟩
theorem body_eq : behindTheImports pw = [stm 0, stm 1] ++ ([stm 2] ++ ([stm 3, stm 4, stm 5] ++ [])) := by kernel_rfl
theorem run_pre (w : World) (os : OsState) : topGo treeTable pw w 11 an 12 (S0 w os) (topStub pw) = some (SA w os, ⟨denote treeTable cE, cE, pA, Bs⟩) := by kernel_rfl
theorem run_block (w : World) (os : OsState) : segRun treeTable pw w 11 an 1 1 (SA w os) (blockOf (behindTheImports pw) env0 cE pA Bs) = some (.next, SA w os, cE, pA) := by kernel_rfl
theorem run_A (w : World) (os : OsState) : segRun treeTable pw w 11 an 1 42 (SA w os) (piecesOf [stm 0, stm 1] env0 cE pA Bs) = some (.next, SB w os, cE, pB) := by kernel_rfl
theorem run_fin (w : World) (os : OsState) : topRun treeTable pw w 11 an 2 (SE w os) ⟨doneF .next, cE, pE, Bs⟩ = some (SE w os) := by kernel_rfl
end Mine
end

section
open PySem PySem.W PySem.Builtin
set_option Elab.async false
set_option maxRecDepth 100000
set_option maxHeartbeats 0
namespace Mine
theorem run_B (w : World) (os : OsState) : segRun treeTable pw w 11 an 1 69 (SD w os) (piecesOf [stm 3, stm 4, stm 5] env0 cE pD Bs) = some (.next, SE w os, cE, pE) := by kernel_rfl
end Mine
end

section
open PySem PySem.W PySem.Builtin
set_option Elab.async false
set_option maxRecDepth 100000
set_option maxHeartbeats 0
namespace Mine
theorem prs_len : prs.length = 335 := by decide +kernel
def codeL : List Nat → Nat → Nat
  | [], a => a
  | c :: r, a => codeL r (a * 128 + c)
def codeN (x : Str) : Nat := codeL x.cps.toList 0
def nodupN : List Nat → Bool
  | [] => true
  | a :: r => (r.all fun b => !Nat.beq a b) && nodupN r
theorem nodup_of : ∀ {l : List Nat}, nodupN l = true → l.Nodup
  | [], _ => .nil
  | a :: r, h => by
    obtain ⟨h1, h2⟩ := Bool.and_eq_true_iff.mp h
    refine List.nodup_cons.mpr ⟨fun hm => ?_, nodup_of h2⟩
    have := List.all_eq_true.mp h1 a hm
    simp at this
theorem of_map {α β : Type} (f : α → β) : ∀ {l : List α}, (l.map f).Nodup → l.Nodup
  | [], _ => .nil
  | a :: r, h => by
    rw [List.map_cons, List.nodup_cons] at h
    exact List.nodup_cons.mpr ⟨fun hm => h.1 (List.mem_map.mpr ⟨a, hm, rfl⟩), of_map f h.2⟩
theorem prs_codes : nodupN (prs.map fun d => codeN d.1) = true := by decide +kernel
theorem prs_nodup : (prs.map (·.1)).Nodup := by
  have h := nodup_of prs_codes
  have e : (prs.map fun d => codeN d.1) = (prs.map (·.1)).map codeN := by rw [List.map_map]; rfl
  rw [e] at h
  exact of_map _ h

def posOf : PySem.Expr → Pos
  | .Dict _ _ p => p
  | _ => default
/-- a display of written texts is its items -/
theorem lit_items (env : Env) (pv : Pos) : ∀ (ks : List (Option PySem.Expr)) (vs : List PySem.Expr), (litPairs ks vs).length = ks.length → (litPairs ks vs).length = vs.length →
    ((evalEachOpt ks env).zip ((evalEach vs env).map fun v => do let x ← v; standAt pv; pure x)) = its pv (litPairs ks vs)
  | [], vs, _, h => by
    cases vs with
    | nil => rfl
    | cons v r => simp [litPairs] at h
  | none :: ks, vs, h, _ => by simp [litPairs] at h
  | some k :: ks, [], h, _ => by cases k <;> simp [litPairs] at h
  | some k :: ks, v :: vs, h, h' => by
    unfold litPairs at h h' ⊢
    split at h
    · rename_i x a b ks' y c d vs' e1 e2
      cases e1; cases e2
      simp only [List.length_cons, Nat.add_right_cancel_iff] at h h'
      have ih := lit_items env pv ks vs h h'
      show (some (litK x), litV pv y) :: ((evalEachOpt ks env).zip ((evalEach vs env).map fun v => do let x ← v; standAt pv; pure x)) = _
      rw [ih]
      rfl
    · simp at h
end Mine
end

section
open PySem PySem.W PySem.Builtin
set_option Elab.async false
set_option maxRecDepth 100000
set_option maxHeartbeats 0
namespace Mine
/-- a tree without calls, run by computation -/
def evRun (p : Program) (w : World) (n₀ : Nat) (ann : Option Value) {α : Type} : Nat → Sem α → Shared → Pos → Option (α × Shared × Pos)
  | 0, .pure a, s, q => some (a, s, q)
  | 0, _, _, _ => none
  | n + 1, m, s, q => match m with
    | .pure a => some (a, s, q)
    | .rule _ k => evRun p w n₀ ann n (k ()) s q
    | .at x k => evRun p w n₀ ann n (k ()) s x
    | .point _ k => evRun p w n₀ ann n (k ()) s q
    | .ask k => evRun p w n₀ ann n (k ⟨p, w.params⟩) s q
    | .fresh k => evRun p w n₀ ann n (k s.toks) { s with toks := s.toks + 1 } q
    | .alloc o k => evRun p w n₀ ann n (k s.heap.objs.size) { s with heap := s.heap.push o } q
    | .load b _ k => match s.heap.get? b with
      | some o => evRun p w n₀ ann n (k o) s q
      | none => none
    | .update b _ f k => match okAt n₀ ann b && (s.heap.get? b).isSome with
      | true => evRun p w n₀ ann n (k ()) { s with heap := s.heap.update b f } q
      | false => none
    | _ => none
section
variable {p : Program} {w : World} {n₀ : Nat} {ann : Option Value} {α : Type}
theorem evRun_spec : ∀ (n : Nat) (m : Sem α) (s : Shared) (q : Pos) (a : α) (s' : Shared) (q' : Pos), evRun p w n₀ ann n m s q = some (a, s', q') → EvB p w n₀ ann m s q a s' q' n
  | 0, m, s, q, a, s', q', h => by
    cases m <;> simp only [evRun] at h <;> try cases h
    exact ⟨0, Nat.le_refl _, .pure _ _ _⟩
  | n + 1, m, s, q, a, s', q', h => by
    unfold evRun at h
    cases m with
    | pure b => cases h; exact ⟨0, Nat.zero_le _, .pure _ _ _⟩
    | rule t k => obtain ⟨j, hj, E⟩ := evRun_spec n _ _ _ _ _ _ h; exact ⟨j + 1, by omega, .rule E⟩
    | «at» t k => obtain ⟨j, hj, E⟩ := evRun_spec n _ _ _ _ _ _ h; exact ⟨j + 1, by omega, .at E⟩
    | point t k => obtain ⟨j, hj, E⟩ := evRun_spec n _ _ _ _ _ _ h; exact ⟨j + 1, by omega, .point E⟩
    | ask k => obtain ⟨j, hj, E⟩ := evRun_spec n _ _ _ _ _ _ h; exact ⟨j + 1, by omega, .ask E⟩
    | fresh k => obtain ⟨j, hj, E⟩ := evRun_spec n _ _ _ _ _ _ h; exact ⟨j + 1, by omega, .fresh E⟩
    | alloc t k => obtain ⟨j, hj, E⟩ := evRun_spec n _ _ _ _ _ _ h; exact ⟨j + 1, by omega, .alloc E⟩
    | load b t k =>
      dsimp only at h
      split at h
      · rename_i o ho
        obtain ⟨j, hj, E⟩ := evRun_spec n _ _ _ _ _ _ h
        exact ⟨j + 1, by omega, .load ho E⟩
      · cases h
    | update b t f k =>
      dsimp only at h
      split at h
      · rename_i ho
        obtain ⟨h1, h2⟩ := Bool.and_eq_true_iff.mp ho
        obtain ⟨j, hj, E⟩ := evRun_spec n _ _ _ _ _ _ h
        exact ⟨j + 1, by omega, .update h1 h2 E⟩
      · cases h
    | _ => cases h
theorem segRun_mono {tb : String → Option Builtin} {b : Nat} (k : Nat) : ∀ (n : Nat) (s : Shared) (t : Thread) (r : Flow × Shared × Code × Pos), segRun tb p w n₀ ann b n s t = some r → segRun tb p w n₀ ann b (n + k) s t = some r
  | 0, _, _, _, h => by simp [segRun] at h
  | n + 1, s, t, r, h => by
    rw [show n + 1 + k = n + k + 1 by omega]
    unfold segRun at h ⊢
    cases he : endAt b t with
    | some f => rw [he] at h; exact h
    | none =>
      rw [he] at h
      cases hk : stepOk n₀ ann t with
      | false => rw [hk] at h; cases h
      | true =>
        rw [hk] at h
        cases hs : step (denote tb) p w s t with
        | halt o s' => rw [hs] at h; cases h
        | go s' t' => rw [hs] at h; exact segRun_mono k n s' t' r h
end

theorem sds_eq (P : Params) : sds P = [sd 0 P, sd 1 P, sd 2 P, sd 3 P, sd 4 P, sd 5 P, sd 6 P, sd 7 P, sd 8 P, sd 9 P, sd 10 P, sd 11 P, sd 12 P, sd 13 P, sd 14 P, sd 15 P, sd 16 P, sd 17 P, sd 18 P, sd 19 P] := by kernel_rfl

def nP : Pos := ⟨17, 0, 17, 7⟩
def dP : Pos := ⟨17, 10, 17, 7925⟩
def aP : Pos := ⟨17, 0, 17, 7925⟩
def tg : PySem.Expr := .Name (Str.ofString "aliases") nP
theorem stm2_eq : stm 2 = .Assign [tg] (.Dict dKs dVs dP) aP := by kernel_rfl
theorem dKs_len : dKs.length = 335 := by decide +kernel
theorem dVs_len : dVs.length = 335 := by decide +kernel

noncomputable def hpC : Params → Heap := fun P => withObjs (hpB P) [sd 0 P, sd 1 P, sd 2 P, sd 3 P, sd 4 P, sd 5 P, sd 6 P, sd 7 P, sd 8 P, sd 9 P, sd 10 P, sd 11 P, sd 12 P, sd 13 P, sd 14 P, sd 15 P, sd 16 P, sd 17 P, sd 18 P, sd 19 P]
noncomputable abbrev SC (w : World) (os : OsState) : Shared := ⟨hpC w.params, Array.mk [], boot_drawn, 1204, os⟩

theorem eval_Dict (ks : List (Option PySem.Expr)) (vs : List PySem.Expr) (dP : Pos) (env : Env) : eval (.Dict ks vs dP) env = (Sem.at dP fun _ => dictDisplay ((evalEachOpt ks env).zip ((evalEach vs env).map fun v => do let x ← v; standAt dP; pure x))) := by rfl
theorem exec_Assign (t v : PySem.Expr) (aP : Pos) (env : Env) : exec (.Assign [t] v aP) env = (Sem.at aP fun _ => swapsWithSole [t] v aP.line env >>= fun b => if b = true then (evalThenUse v env (fun v => assignAll v ((assignEach [t] env).map (·.2))) >>= fun _ => pure .next) else eval v env >>= fun x => swappedStores [t] v env >>= fun sw => assignStores env x sw ((assignEach [t] env).map (·.2))) := by rfl
theorem prs_def : litPairs dKs dVs = prs := rfl

theorem ev_table (w : World) (os : OsState) : EvB pw w 11 an (eval (.Dict dKs dVs dP) env0) (SB w os) aP (.ref 22) (SC w os) dP 7471 := by
  rw [eval_Dict, lit_items env0 dP dKs dVs (by rw [prs_def, prs_len, dKs_len]) (by rw [prs_def, prs_len, dVs_len]), prs_def]
  have h := ev_display (p := pw) (w := w) (n₀ := 11) (ann := an) (s := SB w os) (pv := dP) (T := 199) 18 prs (show (11 : Nat) ≤ 22 by decide) (show (sysModules : Nat) < 22 by decide) (by rw [prs_len]; decide) (by rw [prs_len]; decide) prs_nodup (by rw [prs_len]; decide)
  rw [prs_len] at h
  have e1 : st (SB w os) [] 199 = SB w os := st_nil
  rw [e1] at h
  have e2 : st (SB w os) (dob (mainE w.params 199 (parts (18 + 1) prs ++ [prs.drop (17 * (18 + 1))])) :: subsE w.params (199 + 51) (parts 18 (prs.drop 17) ++ [prs.drop (17 * (18 + 1))])) (199 + 3 * 335) = SC w os := by
    show st (SB w os) (sds w.params) 1204 = _
    rw [sds_eq]
    rfl
  rw [e2] at h
  obtain ⟨n, hn, E⟩ := h
  exact ⟨n + 1, by omega, .at E⟩

theorem ev_stm2 (w : World) (os : OsState) : EvB pw w 11 an (exec (stm 2) env0) (SB w os) pB .next (SD w os) pD 7600 := by
  rw [stm2_eq]
  have e0 : swapsWithSole [tg] (.Dict dKs dVs dP) aP.line env0 = pure false := by kernel_rfl
  rw [exec_Assign]
  suffices h : ∀ X : Sem Flow, EvB pw w 11 an (swapsWithSole [tg] (.Dict dKs dVs dP) aP.line env0 >>= fun b => if b = true then X else eval (.Dict dKs dVs dP) env0 >>= fun v => swappedStores [tg] (.Dict dKs dVs dP) env0 >>= fun sw => assignStores env0 v sw ((assignEach [tg] env0).map (·.2))) (SB w os) aP .next (SD w os) pD 7500 by
    obtain ⟨n, hn, E⟩ := h _
    exact ⟨n + 1, by omega, .at E⟩
  intro X
  rw [e0]
  refine EvB.seq 0 7500 (by omega) (EvB.pure false) ?_
  rw [if_neg Bool.false_ne_true]
  refine EvB.seq 7471 20 (by omega) (ev_table w os) ?_
  exact evRun_spec 20 _ _ _ _ _ _ (by kernel_rfl)

theorem run_D (w : World) (os : OsState) : segRun treeTable pw w 11 an 1 7601 (SB w os) (piecesOf [stm 2] env0 cE pB Bs) = some (.next, SD w os, cE, pD) := by
  obtain ⟨n, hn, E⟩ := ev_stm2 w os
  show segRun treeTable pw w 11 an 1 7601 (SB w os) ⟨(execs [stm 2] env0).wrap doneF deadEnd id id, cE, pB, Bs⟩ = _
  rw [execs_cons_wrap, show 7601 = (n + 1) + (7600 - n) by omega]
  exact segRun_mono _ _ _ _ _ (seg_go (E.go 1 _ _ _ _ _ _ (Nat.le_refl 1)) rfl)
end Mine
end

section
open PySem PySem.W PySem.Builtin
set_option Elab.async false
set_option maxRecDepth 100000
set_option maxHeartbeats 0
namespace Mine
theorem run_all (w : World) (os : OsState) : topRun treeTable pw w 11 an (12 + (1 + (42 + (7601 + (69 + 2))))) (S0 w os) (topStub pw) = some (SE w os) := by
  have h5 := piece_nil (env := env0) (run_fin w os)
  have h4 := piece_app (run_B w os) h5
  have h3 := piece_app (run_D w os) h4
  have h2 := piece_app (run_A w os) h3
  have e : restOf ([stm 0, stm 1] ++ ([stm 2] ++ ([stm 3, stm 4, stm 5] ++ []))) env0 cE pA Bs = restOf (behindTheImports pw) env0 cE pA Bs := congrArg (fun b => restOf b env0 cE pA Bs) body_eq.symm
  have h2' : topRun treeTable pw w 11 an (42 + (7601 + (69 + 2))) (SA w os) (restOf (behindTheImports pw) env0 cE pA Bs) = some (SE w os) := by rw [← e]; exact h2
  exact go_top (run_pre w os) (piece_block (run_block w os) h2')

noncomputable def hp : Params → Frag := fun P => [(nat_lit 2, boot_o_2 P), (nat_lit 3, obE3 P), (nat_lit 6, boot_o_6 P), (nat_lit 15, obB15 P), (nat_lit 17, obB17 P), (nat_lit 18, obB18 P), (nat_lit 20, obB20 P), (nat_lit 21, obB21 P), (nat_lit 22, sd 0 P), (nat_lit 42, obE42 P), (nat_lit 45, obE45 P), (nat_lit 46, obE46 P), (nat_lit 47, obE47 P), (nat_lit 49, obE49 P), (nat_lit 50, obE50 P), (nat_lit 52, obE52 P), (nat_lit 53, obE53 P)]
def has : List Addr := [2, 3, 6, 15, 17, 18, 20, 21, 22, 42, 45, 46, 47, 49, 50, 52, 53]
theorem has_eq (P : Params) : has = (hp P).map (·.1) := by kernel_rfl
noncomputable abbrev hk : Hook := kHook hp has has_eq
abbrev R : OpenRow := PySem.Challenge.rw_in0204_01.row
def vw : Program := view pw [1, 4, 5]
abbrev lo : List Str := [Str.ofString "aliases"]
abbrev xt : Shared → Bool := fun s => xlAt vw [] s && recOk R.toRowW.records s

theorem size_eq (w : World) : ((boot_heap w.params).isNs mainGlobals && (Array.mk ([] : List GenState)).size == 0, (boot_heap w.params).objs.size, (boot_heap w.params).nsMap mainGlobals "__annotations__") = (true, 11, an) := by kernel_rfl
theorem open_eq : ∀ w : World, (fencedOpening treeTable pw w 8000).map (fun s => (s.heap, s.gens, s.drawn, s.toks)) = some (boot_heap w.params, Array.mk [], boot_drawn, boot_toks) :=
  boot_open (by kernel_rfl) (by decide) (fun s => by kernel_rfl)
theorem look1 (w : World) (os : OsState) : (staticsOk (importedModules pw.main.body) (boot_heap w.params) (hpE w.params) && namesBound pw (hpE w.params) && gensDone (SE w os) && laidKept (boot_heap w.params) (hpE w.params)) = true := by kernel_rfl
theorem look2 (w : World) (os : OsState) : openSeen vw lo (importedModules pw.main.body) xt true (SE w os) = openGood vw lo := by kernel_rfl
theorem look3 (w : World) (os : OsState) : hk.obs (SE w os) = hk.val w := by kernel_rfl
theorem left : LeftO pw vw lo xt hk.obs hk.val 8000 :=
  LeftO.of_pieces (H₀ := boot_heap) (H₁ := hpE) open_eq size_eq run_all (by decide) fun w => funext fun os => by
    rw [look1 w os, look2 w os, look3 w os]
end Mine
end

section
open PySem PySem.W PyProof.Rows
set_option Elab.async false
set_option maxRecDepth 100000
namespace Mine
open PySem.Calls

/-- the text that a key is -/
def keyText : Value → Str
  | .str x _ => x
  | _ => Str.empty

theorem pairs_of (prog : Program) (w : World) : ∀ {es : List DictEntry}, KeysLit w.params es → Pairs (strKind prog w) es (es.map fun e => (keyText e.key, e.val))
  | [], _ => .nil
  | e :: r, ⟨⟨x, t, h1, _⟩, hr⟩ => by
    refine .cons ?_ rfl (pairs_of prog w hr)
    show (strKind prog w).is (keyText e.key) e.key = true
    rw [h1]
    exact strKind_is prog w x t

theorem dictAt_K {prog : Program} {w : World} {K : Frag} {h : Heap} {a : Addr} {es : Array DictEntry} {n : Nat} (X : K.In h)
    (hl : K.lookup a = some ⟨.type "dict", none, .dict es n, #[]⟩) (hk : KeysLit w.params es.toList) (hn : (es.toList.map fun e => keyText e.key).Nodup) :
    h.DictAt (strKind prog w) a (es.toList.map fun e => (keyText e.key, e.val)) n := by
  refine ⟨_, es, X _ _ hl, ⟨rfl, rfl, rfl⟩, rfl, ?_, pairs_of prog w hk, ?_⟩
  · intro e he
    obtain ⟨x, t, e1, e2⟩ := hk.all e (Array.mem_toList_iff.mpr he)
    exact ⟨x, by rw [e1]; exact strKind_is prog w x t, e2⟩
  · rw [List.map_map]
    exact hn

theorem strsAre_of {kvs : List (Str × Value)} : ∀ (vs : List Value), vs.length = kvs.length → (∀ (j : Nat) (v : Value), vs[j]? = some v → ∃ (k : Str) (x : Value), kvs[j]? = some (k, x) ∧ ∃ t : Tok, v = Value.str k t) → StrsAre vs (kvs.map (·.1)) := by
  induction kvs with
  | nil =>
    intro vs hl _
    cases vs with
    | nil => exact .nil
    | cons v r => simp at hl
  | cons q r ih =>
    intro vs hl hv
    cases vs with
    | nil => simp at hl
    | cons v us =>
      obtain ⟨k, x, e, t, ev⟩ := hv 0 v rfl
      simp only [List.getElem?_cons_zero, Option.some.injEq] at e
      subst ev
      rw [List.map_cons, e]
      exact .cons k t (ih us (by simpa using hl) fun j u hu => by simpa using hv (j + 1) u (by simpa using hu))

section
variable {prog : Program} {w : World} {A : Around} {E : Value → Shared → Prop} {s : Shared} {h₀ : Heap} {L d : Addr} {m : Str → Option Value} {news : List (Addr × Obj)} {Q : Value → Shared → Prop}

/-- list(d) of a dict of the top: a list of its keys' texts -/
theorem list_keys {K : Frag} {es : Array DictEntry} {n : Nat} {ws : List Str} (hh : A.handled = none) (F : Fr h₀ L s.heap m) (N : News h₀ L s.heap news) (X : K.In h₀)
    (hl : K.lookup d = some ⟨.type "dict", none, .dict es n, #[]⟩) (hk : KeysLit w.params es.toList) (hw : (es.toList.map fun e => keyText e.key) = ws) (hn : ws.Nodup) (lo : (d == sysModules) = false) (hz : ws.length ≤ 16777216)
    (h : ∀ (B : Addr) c h' tk vs, StrsAre vs ws → Fr h₀ L h' m → News h₀ L h' ((B, listOf vs.toArray c) :: news) → (∀ q ∈ news, q.1 < B) → Q (.ref B) { s with heap := h', toks := tk }) :
    wpAny (model prog w) A (call (.type "list") [.ref d]) Q E s := by
  subst hw
  have hat : s.heap.DictAt (strKind prog w) d (es.toList.map fun e => (keyText e.key, e.val)) n := (dictAt_K X hl hk hn).keep F.keep
  have e0 : ((es.toList.map fun e => (keyText e.key, e.val)).map (·.1)) = es.toList.map fun e => keyText e.key := by rw [List.map_map]; rfl
  refine kdl_N (kdl_dict (knd := strKind prog w) (kvs := es.toList.map fun e => (keyText e.key, e.val)) (ep := n) lo) hh F N hat (kdl_size (by simpa using hz)) fun B c h' tk vs F' N' l1 hln hv => ?_
  refine h B c h' tk vs ?_ F' N' l1
  rw [← e0]
  refine strsAre_of vs hln fun j u hu => ?_
  obtain ⟨k, x, hx, hk'⟩ := hv j u hu
  exact ⟨k, x, hx, Value.isStrOf_shape hk'⟩
/-- len of a list of texts -/
theorem len_strs {B : Addr} {c : Nat} {vs : List Value} {ws : List Str} {k : Int} (N : News h₀ L s.heap news) (hm : (B, listOf vs.toArray c) ∈ news) (hs : StrsAre vs ws) (hk : (ws.length : Int) = k) (hb : k < 2 ^ 63)
    (h : ∀ t tk, Q (.int k t) { s with toks := tk }) : wpAny (model prog w) A (call (.builtin "len") [.ref B]) Q E s := by
  subst hk
  exact kst_len N hm hs.length hb (h _ _)

/-- an item of a list of texts, its place unknown: a text of the table -/
theorem item_strs {value slice : PySem.Expr} {B : Addr} {c : Nat} {vs : List Value} {ws : List Str} {i : Int} {u : Tok} (N : News h₀ L s.heap news) (hm : (B, listOf vs.toArray c) ∈ news) (hs : StrsAre vs ws) (h0 : 0 ≤ i) (h1 : i < (ws.length : Int)) (hb : i < 2 ^ 63)
    (h : ∀ x t, x ∈ ws → Q (.str x t) s)
    (hsub : subscripted slice false (.ref B) (.int i u) = operate [.ref B, .int i u] (getItem (.ref B) (.int i u)) := by with_unfolding_all rfl) :
    wpAny (model prog w) A (subscriptTail value slice (.ref B) (.int i u)) Q E s :=
  KTb.item_list (News.isList N hm) hs h0 h1 hb (fun t' hlt => h _ t' (by
    rw [List.getD_eq_getElem?_getD, List.getElem?_eq_getElem hlt]
    exact List.getElem_mem hlt)) hsub
/-- truth of a list of texts that the call has made -/
theorem truth_strs {l : Addr} {c : Nat} {us : List Value} {ws : List Str} {Q : Bool → Shared → Prop} (N : News h₀ L s.heap news) (hm : (l, listOf us.toArray c) ∈ news) (hs : StrsAre us ws) (hb : ws.length ≤ 1000000)
    (h : ∀ k, Q (!ws.isEmpty) { s with toks := k }) : wpAny (model prog w) A (truthy (.ref l)) Q E s := by
  have hl : us.toArray.size = ws.length := by rw [List.size_toArray, hs.length]
  refine wpAny_truthy_list (News.isList N hm) (by rw [hl]; omega) ?_
  have e : us.toArray.isEmpty = ws.isEmpty := by
    rw [Array.isEmpty, hl]
    cases ws <;> simp
  rw [e]
  exact h _
/-- append to a list of texts that heads the ledger -/
theorem append_head {l : Addr} {c : Nat} {us : List Value} {x : Value} {rest : List (Addr × Obj)} (F : Fr h₀ L s.heap m) (N : News h₀ L s.heap ((l, listOf us.toArray c) :: rest)) (hr : ∀ p ∈ rest, p.1 ≠ l) (hb : us.length ≤ 1000000)
    (h : ∀ h', Fr h₀ L h' m → News h₀ L h' ((l, listOf (us ++ [x]).toArray (c + 1)) :: rest) → Q .none { s with heap := h' }) : wpAny (model prog w) A (call (.builtin "list.append") [.ref l, x]) Q E s := by
  refine append_K F N (.head hr) (fun h' F' N' => h h' F' ?_) (by rw [List.size_toArray, sizeLine_eq]; omega)
  have e : us.toArray.push x = (us ++ [x]).toArray := by simp
  rw [← e]
  exact N'
end
end Mine
end

section
open PySem PySem.W PySem.Builtin PyProof.Rows
set_option Elab.async false
set_option maxRecDepth 100000
namespace Mine
open PySem.Calls
abbrev asc : Str := Str.ofString "ascii"

/-- the octets of a text, and the text of octets -/
def octs (x : Str) : Array UInt8 := x.cps.map fun c => c.toUInt8
def textOf (b : Array UInt8) : Str := ⟨b.map fun c => c.toNat⟩

theorem road_dec {b : Array UInt8} {id : String} : _codecs.decodeRoad id b asc none [] = (_codecs.runDecoder id _codecs.asciiDecoder none true b 0 [] >>= fun r => mkStr ⟨r.1⟩) := by kernel_rfl
theorem road_enc {x : Str} {v : Value} {id : String} : _codecs.encodeRoad id v x asc none = (_codecs.encodeNarrow id _codecs.asciiCodec none v x >>= fun b => mkBytes b) := by kernel_rfl
theorem decode_eq {c : UInt8} {cs : List UInt8} {t u : Tok} : «bytes.decode» ⟨[.bytes (c :: cs).toArray t], [(Str.ofString "encoding", .str asc u)]⟩ = (mkStr (Str.ofString "utf-8") >>= fun _ => mkStr asc >>= fun e => mkStr (Str.ofString "bytes.decode") >>= fun d =>
    call (.builtin "_codecs.decode.text") [.bytes (c :: cs).toArray t, e, .none, d] >>= fun v => ret v) := by kernel_rfl
theorem check_decode {b : Array UInt8} {t u : Tok} : checkBuiltinCall "bytes.decode" ⟨[.bytes b t], [(Str.ofString "encoding", .str asc u)]⟩ = pure () := by kernel_rfl
theorem new_eq {b : Array UInt8} {t u : Tok} : «str.__new__» ⟨[.type "str", .bytes b t, .str asc u], []⟩ = (mkStr asc >>= fun e => rule "str.__new__.decode-bytes" >>= fun _ =>
    call (.builtin "bytes.decode") [.bytes b t] [(Str.ofString "encoding", e)] >>= fun v => ret v) := by kernel_rfl
theorem typeCall_2 {b : Array UInt8} {t u : Tok} : checkTypeCall "str" ⟨[.bytes b t, .str asc u], []⟩ = pure () := by kernel_rfl
theorem newCall_2 {b : Array UInt8} {t u : Tok} : checkBuiltinCall "str.__new__" ⟨[.type "str", .bytes b t, .str asc u], []⟩ = pure () := by kernel_rfl
theorem args_init_3 (obj : Value) {b : Array UInt8} {t u : Tok} : argsOk "object.__init__" ⟨[obj, .bytes b t, .str asc u], []⟩ := by unfold argsOk; kernel_rfl
theorem encode_eq {x : Str} {t u : Tok} : «str.encode» ⟨[.str x t, .str asc u], []⟩ = ((_codecs.encodeNarrow "str.encode" _codecs.asciiCodec none (.str x t) x >>= fun b => mkBytes b) >>= fun v => ret v) := by kernel_rfl

theorem range_list {β : Type} (n : Nat) (b : β) (f : Nat → β → Sem (ForInStep β)) : forIn [:n] b f = forIn (List.range' 0 n 1) b f := by
  rw [Std.Legacy.Range.forIn_eq_forIn_range']
  have hsz : ([:n] : Std.Legacy.Range).size = n := by simp [Std.Legacy.Range.size]
  show forIn (List.range' 0 ([:n] : Std.Legacy.Range).size 1) b f = _
  rw [hsz]
theorem loop_list {β : Type} {f : Nat → β → Sem (ForInStep β)} {n : Nat} (st : Nat → β) (hs : ∀ k, k < n → ∀ j, f j (st k) = pure (.yield (st (k + 1)))) : ∀ (l : List Nat) (k : Nat), k + l.length ≤ n → forIn l (st k) f = pure (st (k + l.length))
  | [], k, _ => by rfl
  | a :: l, k, h => by
    rw [List.length_cons] at h
    rw [List.forIn_cons, hs k (by omega) a]
    show forIn l (st (k + 1)) f = _
    rw [loop_list st hs l (k + 1) (by omega), List.length_cons]
    congr 2
    omega
theorem loop_all {β : Type} {f : Nat → β → Sem (ForInStep β)} {n : Nat} (st : Nat → β) (hs : ∀ k, k < n → ∀ j, f j (st k) = pure (.yield (st (k + 1)))) : forIn [:n] (st 0) f = pure (st n) := by
  rw [range_list, loop_list st hs _ 0 (by rw [List.length_range']; omega), List.length_range', Nat.zero_add]
theorem loop_once {β : Type} {f : Nat → β → Sem (ForInStep β)} {n : Nat} {s0 s1 : β} (h0 : n = 0 → s0 = s1) (h1 : n ≠ 0 → ∀ j, f j s0 = pure (.yield s1)) (h2 : ∀ j, f j s1 = pure (.done s1)) : forIn [:n] s0 f = pure s1 := by
  rw [range_list]
  cases n with
  | zero => rw [h0 rfl]; rfl
  | succ m =>
    rw [List.range'_succ, List.forIn_cons, h1 (by omega)]
    show forIn (List.range' (0 + 1) m 1) s1 f = _
    cases m with
    | zero => rfl
    | succ k =>
      rw [List.range'_succ, List.forIn_cons, h2]
      rfl
theorem bind_all {β γ : Type} {f : Nat → β → Sem (ForInStep β)} {n : Nat} {s0 : β} {g : β → Sem γ} (st : Nat → β) (h0 : st 0 = s0) (hs : ∀ k, k < n → ∀ j, f j (st k) = pure (.yield (st (k + 1)))) : (forIn [:n] s0 f >>= g) = g (st n) := by
  rw [← h0, loop_all st hs]
  rfl
theorem bind_once {β γ : Type} {f : Nat → β → Sem (ForInStep β)} {n : Nat} {s0 : β} {g : β → Sem γ} (s1 : β) (h0 : n = 0 → s0 = s1) (h1 : n ≠ 0 → ∀ j, f j s0 = pure (.yield s1)) (h2 : ∀ j, f j s1 = pure (.done s1)) : (forIn [:n] s0 f >>= g) = g s1 := by
  rw [loop_once h0 h1 h2]
  rfl
/-- ascii's decoder: octet by octet -/
theorem dec_run {id : String} {b : Array UInt8} (hb : ∀ c ∈ b.toList, c.toNat < 128) (hz : b.size ≤ 1000000) : _codecs.runDecoder id _codecs.asciiDecoder none true b 0 [] = pure (b.map (fun c => c.toNat), b.size) := by
  unfold _codecs.runDecoder
  dsimp only
  refine (bind_all (fun k : Nat => ((k, ((b.map fun c => c.toNat).extract 0 k), ({ held := [] } : _codecs.Faults)) : Nat × Array Nat × _codecs.Faults)) ?_ ?_).trans ?_
  rotate_right
  · show pure (((b.map fun c => c.toNat).extract 0 b.size), b.size) = _
    congr 2
    have e := Array.extract_size (xs := b.map fun c => c.toNat)
    rwa [Array.size_map] at e
  · simp
  · intro k hk j
    have h1 : ¬ ((Array.map (fun c => c.toNat) b).extract 0 k).size > sizeLine := by
      rw [sizeLine_eq, Array.size_extract, Array.size_map]; omega
    dsimp only
    rw [if_neg h1, if_neg (by omega)]
    have h2 : (b.getD k 0).toNat < 128 := by
      rw [Array.getD_eq_getD_getElem?, Array.getElem?_eq_getElem hk]
      exact hb _ (Array.getElem_mem_toList hk)
    have h3 : _codecs.asciiDecoder.find true b k = .char (b.getD k 0).toNat (k + 1) := by
      show (if (b.getD k 0).toNat < 128 then _ else _) = _
      rw [if_pos h2]
    rw [h3]
    show pure (ForInStep.yield (k + 1, (b.map fun c => c.toNat).extract 0 k ++ #[(b.getD k 0).toNat], _)) = _
    congr 4
    have e := Array.extract_succ_right (as := b.map fun c => c.toNat) (i := 0) (j := k) (by omega) (by rw [Array.size_map]; exact hk)
    rw [e, Array.getD_eq_getD_getElem?, Array.getElem?_eq_getElem hk]
    simp
/-- ascii's encoder: a text of ascii signs whole at once -/
theorem octs_go (l : List Nat) (a : Array UInt8) : (l.toArray).foldl (fun acc y => acc ++ (_codecs.asciiCodec.bytesOf y).toArray) a = a ++ (l.map fun c => c.toUInt8).toArray := by
  rw [List.foldl_toArray]
  induction l generalizing a with
  | nil => simp
  | cons c r ih =>
    rw [List.foldl_cons, ih]
    show (a ++ #[c.toUInt8]) ++ _ = _
    rw [Array.append_assoc]
    congr 1
    simp
theorem enc_run {id : String} {v : Value} {x : Str} (hx : Txt.isascii x = true) (hz : x.length ≤ 1000000) : _codecs.encodeNarrow id _codecs.asciiCodec none v x = pure (octs x) := by
  have hall : ∀ c ∈ x.cps.toList, c < 128 := by
    intro c hc
    have h1 : x.cps.all (fun c => decide (c < 128)) = true := hx
    rw [← Array.all_toList, List.all_eq_true] at h1
    exact of_decide_eq_true (h1 c hc)
  have hsz : x.cps.size = x.length := rfl
  unfold _codecs.encodeNarrow
  dsimp only
  refine (bind_once (s0 := ((0, #[], {}) : Nat × Array UInt8 × _codecs.Faults)) (x.length, octs x, {}) ?_ ?_ ?_).trans ?_
  rotate_right
  · rfl
  · intro h0
    have : x.cps = #[] := Array.eq_empty_of_size_eq_zero (hsz.trans h0)
    rw [h0]
    unfold octs
    rw [this]
    simp
  · intro hn j
    have h1 : ¬ (#[] : Array UInt8).size > sizeLine := by rw [sizeLine_eq]; decide
    dsimp only
    rw [if_neg h1, Array.getElem?_eq_getElem (by omega)]
    have h2 : (!_codecs.asciiCodec.bad x.cps[0]) = true := by
      have := hall _ (Array.getElem_mem_toList (xs := x.cps) (i := 0) (by omega))
      show (!decide (x.cps[0] ≥ 128)) = true
      simp; omega
    dsimp only
    rw [if_pos h2]
    have h3 : (x.cps.extract 0).findIdx? _codecs.asciiCodec.bad = none := by
      rw [Array.findIdx?_eq_none_iff]
      intro c hc
      have hc' : c ∈ x.cps.toList := by simpa using hc
      show decide (c ≥ 128) = false
      have := hall c hc'
      simp; omega
    rw [h3]
    have h4 : x.cps.extract 0 = x.cps := by simp
    have h5 : (x.cps.extract 0 x.cps.size) = x.cps := by simp
    rw [h4]
    dsimp only [Option.getD]
    rw [h5]
    have h6 := octs_go x.cps.toList #[]
    rw [Array.toArray_toList] at h6
    rw [h6]
    congr 3
    · omega
    · congr 1
      show _ = Array.map (fun c => c.toUInt8) x.cps
      rw [← List.map_toArray, Array.toArray_toList]
      simp
  · intro j
    have h1 : ¬ (octs x).size > sizeLine := by rw [sizeLine_eq]; unfold octs; rw [Array.size_map]; omega
    dsimp only
    rw [if_neg h1, Array.getElem?_eq_none (by omega)]
end Mine
end

section
open PySem PySem.W PySem.Builtin PyProof.Rows
set_option Elab.async false
set_option maxRecDepth 100000
namespace Mine
open PySem.Calls
theorem textOf_len (b : Array UInt8) : (textOf b).length = b.size := by
  show (b.map _).size = _
  simp
theorem textOf_octs {x : Str} (hx : Txt.isascii x = true) : textOf (octs x) = x := by
  have hall : ∀ c ∈ x.cps.toList, c < 128 := by
    intro c hc
    have h1 : x.cps.all (fun c => decide (c < 128)) = true := hx
    rw [← Array.all_toList, List.all_eq_true] at h1
    exact of_decide_eq_true (h1 c hc)
  have e : (octs x).map (fun c => c.toNat) = x.cps := by
    unfold octs
    rw [Array.map_map]
    apply Array.toList_inj.mp
    rw [Array.toList_map]
    refine (List.map_congr_left fun c hc => ?_).trans (List.map_id _)
    show (c.toUInt8).toNat = c
    have := hall c hc
    simp [Nat.toUInt8, UInt8.toNat_ofNat']
    omega
  exact congrArg Str.mk e
theorem octs_low {x : Str} (hx : Txt.isascii x = true) : ∀ c ∈ (octs x).toList, c.toNat < 128 := by
  have hall : ∀ c ∈ x.cps.toList, c < 128 := by
    intro c hc
    have h1 : x.cps.all (fun c => decide (c < 128)) = true := hx
    rw [← Array.all_toList, List.all_eq_true] at h1
    exact of_decide_eq_true (h1 c hc)
  intro c hc
  unfold octs at hc
  rw [Array.toList_map] at hc
  obtain ⟨n, hn, e⟩ := List.mem_map.mp hc
  subst e
  have := hall n hn
  show (n.toUInt8).toNat < 128
  simp [Nat.toUInt8, UInt8.toNat_ofNat']
  omega
theorem decode_meets_text {b : Array UInt8} {t t1 t2 : Tok} {d : Str} (hb : ∀ c ∈ b.toList, c.toNat < 128) (hz : b.size ≤ 1000000) :
    Meets («_codecs.decode.text» ⟨[.bytes b t, .str asc t1, .none, .str d t2], []⟩) (fun _ R s => R (.ok (.ret (.str (textOf b) s.toks))) { s with toks := s.toks + 1 }) := by
  refine .of_wp fun prog w A R s h => ?_
  show wpAny _ _ (Bytes.bytesLike _ (.bytes b t) >>= fun r => _) _ _ s
  refine wpAny_bind (wpAny_of_eq KBd.like_eq ?_)
  refine wpAny_bind (wpAny_of_eq KBd.held_eq ?_)
  show wpAny _ _ (_codecs.decodeRoad _ b asc none [] >>= fun v => _) _ _ s
  rw [road_dec, dec_run hb hz]
  refine wpAny_bind (wpAny_bind (wpAny_pure ?_))
  exact wpAny_mkStr (wpAny_pure ⟨_, rfl, h⟩) (by show (textOf b).length ≤ _; rw [textOf_len, sizeLine_eq]; omega)
theorem decode_meets {c : UInt8} {cs : List UInt8} {t u : Tok} (hb : ∀ x ∈ c :: cs, x.toNat < 128) (hz : (c :: cs).length ≤ 1000000) :
    Meets («bytes.decode» ⟨[.bytes (c :: cs).toArray t], [(Str.ofString "encoding", .str asc u)]⟩) (fun _ R s => ∀ t' k, R (.ok (.ret (.str (textOf (c :: cs).toArray) t'))) { s with toks := k }) := by
  refine .of_wp fun prog w A R s h => ?_
  rw [decode_eq]
  refine wpAny_bind (wpAny_mkStr ?_ (by decide))
  refine wpAny_bind (wpAny_mkStr ?_ (by decide))
  refine wpAny_bind (wpAny_mkStr ?_ (by decide))
  exact wpAny_bind (call_function_meets KBd.kind_text KBd.plain_text KBd.entry_text (KBd.args_text _ _ _ _) (decode_meets_text hb (by simpa using hz)) (wpAny_pure ⟨_, rfl, h _ _⟩))
theorem call_decode {prog : Program} {w : World} {A : Around} {E : Value → Shared → Prop} {s : Shared} {Q : Value → Shared → Prop} {c : UInt8} {cs : List UInt8} {t u : Tok} (hb : ∀ x ∈ c :: cs, x.toNat < 128) (hz : (c :: cs).length ≤ 1000000)
    (h : ∀ t' k, Q (.str (textOf (c :: cs).toArray) t') { s with toks := k }) : wpAny (model prog w) A (call (.builtin "bytes.decode") [.bytes (c :: cs).toArray t] [(Str.ofString "encoding", .str asc u)]) Q E s :=
  wpAny_call (codeAny_call_builtin FB.slot_bytes_decode.plain FB.entry_bytes_decode (wpAny_of_eq check_decode (decode_meets hb hz prog w A (wants Q E) s h)))
theorem new_meets {c : UInt8} {cs : List UInt8} {t u : Tok} (hb : ∀ x ∈ c :: cs, x.toNat < 128) (hz : (c :: cs).length ≤ 1000000) :
    Meets («str.__new__» ⟨[.type "str", .bytes (c :: cs).toArray t, .str asc u], []⟩) (fun _ R s => ∀ t' k, R (.ok (.ret (.str (textOf (c :: cs).toArray) t'))) { s with toks := k }) := by
  refine .of_wp fun prog w A R s h => ?_
  rw [new_eq]
  refine wpAny_bind (wpAny_mkStr ?_ (by decide))
  refine wpAny_bind (wpAny_rule ?_)
  exact wpAny_bind (call_decode hb hz fun t' k => wpAny_pure ⟨_, rfl, h _ _⟩)
theorem encode_meets {x : Str} {t u : Tok} (hx : Txt.isascii x = true) (hz : x.length ≤ 1000000) :
    Meets («str.encode» ⟨[.str x t, .str asc u], []⟩) (fun _ R s => ∀ t' k, R (.ok (.ret (.bytes (octs x) t'))) { s with toks := k }) := by
  refine .of_wp fun prog w A R s h => ?_
  rw [encode_eq, enc_run hx hz]
  refine wpAny_bind (wpAny_bind (wpAny_pure ?_))
  exact wpAny_mkBytes (wpAny_pure ⟨_, rfl, h _ _⟩) (by unfold octs; rw [Array.size_map]; exact Nat.le_trans hz (by decide))
section
variable {prog : Program} {w : World} {A : Around} {E : Value → Shared → Prop} {s : Shared}
theorem str_bytes {b : Array UInt8} {t u : Tok} {Q : Value → Shared → Prop} (hb : ∀ x ∈ b.toList, x.toNat < 128) (h0 : b.size ≠ 0) (hz : b.size ≤ 1000000) (h : ∀ t' k, Q (.str (textOf b) t') { s with toks := k }) :
    wpAny (model prog w) A (call (.type "str") [.bytes b t, .str asc u]) Q E s := by
  obtain ⟨l⟩ := b
  cases l with
  | nil => exact absurd rfl h0
  | cons c cs =>
    exact callType_new F.called_str (by decide) typeCall_2 newCall_2 (fun obj => args_init_3 obj) F.entry_str_new (new_meets hb (by simpa using hz)) fun t' k => ⟨typeIs_str _ _ _, h _ _⟩
theorem args_encode {x : Str} {t u : Tok} : argsOk "str.encode" ⟨[.str x t, .str asc u], []⟩ := by unfold argsOk; kernel_rfl
theorem str_encode {x : Str} {t u : Tok} {Q : Value → Shared → Prop} (hx : Txt.isascii x = true) (hz : x.length ≤ 1000000) (h : ∀ t' k, Q (.bytes (octs x) t') { s with toks := k }) :
    wpAny (model prog w) A (call (.builtin "str.encode") [.str x t, .str asc u]) Q E s :=
  call_meets F.slot_str_encode (typeIs_str _ _ _) F.entry_str_encode args_encode (encode_meets hx hz) h
end
end Mine
end

section
open PySem PySem.W PyProof.Rows
set_option Elab.async false
set_option maxRecDepth 100000
namespace Mine
open PySem.Calls
/-- every value of the table is a text that p holds of -/
def valsAre (p : Str → Prop) (es : List DictEntry) : Prop := ∀ e ∈ es, ∃ v t, e.val = .str v t ∧ p v
/-- the text that the table holds under a key -/
def valT (es : Array DictEntry) (x : Str) : Str := match findBy Value.isStrOf es x with
  | some v => keyText v
  | none => Str.empty
section
variable {prog : Program} {w : World} {A : Around} {E : Value → Shared → Prop} {s : Shared} {h₀ : Heap} {L d : Addr} {m : Str → Option Value} {Q : Value → Shared → Prop}
theorem find_in {es : Array DictEntry} (hk : KeysLit w.params es.toList) {x : Str} (hx : x ∈ es.toList.map fun e => keyText e.key) : ∃ e ∈ es.toList, findBy Value.isStrOf es x = some e.val := by
  obtain ⟨e, he, ek⟩ := List.mem_map.mp hx
  unfold findBy
  cases h : es.find? (fun d => Value.isStrOf x d.key) with
  | some f =>
    have hf : f ∈ es := Array.mem_of_find?_eq_some h
    exact ⟨f, Array.mem_toList_iff.mpr hf, by rfl⟩
  | none =>
    have h1 := Array.find?_eq_none.mp h e (Array.mem_toList_iff.mp he)
    obtain ⟨y, t, e1, e2⟩ := hk.all e he
    rw [e1] at h1 ek
    have e3 : y = x := ek
    subst e3
    exact absurd (by unfold Value.isStrOf; simp : Value.isStrOf y (.str y t) = true) h1
/-- an item of the table under a key of it: some value of the table -/
theorem item_table {K : Frag} {es : Array DictEntry} {n : Nat} {x : Str} {t : Tok} {p : Str → Prop} {value slice : PySem.Expr} (F : Fr h₀ L s.heap m) (X : K.In h₀) (hl : K.lookup d = some ⟨.type "dict", none, .dict es n, #[]⟩) (hk : KeysLit w.params es.toList)
    (hx : x ∈ es.toList.map fun e => keyText e.key) (hv : valsAre p es.toList) (h : ∀ t' k, p (valT es x) → Q (.str (valT es x) t') { s with toks := k })
    (hs : subscripted slice false (.ref d) (.str x t) = operate [.ref d, .str x t] (getItem (.ref d) (.str x t)) := by with_unfolding_all rfl) :
    wpAny (model prog w) A (subscriptTail value slice (.ref d) (.str x t)) Q E s := by
  obtain ⟨e, he, hf⟩ := find_in hk hx
  obtain ⟨v, t', ev, hp⟩ := hv e he
  have e2 : valT es x = v := by unfold valT; rw [hf, ev]; rfl
  have M := mapOf_K (prog := prog) (X.keeps F.keep) hl hk
  exact tail_any M.typeIs slot_dict_getitem.lookup (wpAny_getItem_of (strKind_is prog w x t) M hf (by rw [ev]; rw [e2] at h; exact h t' _ hp)) hs
theorem ne_same {x : Str} {t u : Tok} (h : ∀ k, Q (.bool false) { s with toks := k }) : wpAny (model prog w) A (compareOp .NotEq (.str x t) (.str x u)) Q E s := by
  refine ne_str ?_
  rw [show (x != x) = false from by simp]
  exact h _
theorem meth_encode {x : Str} {t : Tok} {pl : Sem Bool} {M : Model} {A : Around} {Q : Value × List Value → Shared → Prop} (h : Q (.builtin "str.encode", [.str x t]) s) : wpAny M A (getMethod (.str x t) "encode" pl) Q E s :=
  getMethod_builtin (typeIs_str s x t) F.plainAttrs_str F.slot_str_encode F.type_str_encode (fun _ e => nomatch e) h
end
end Mine
end

section
open PySem PySem.W PySem.Builtin PyProof.Rows
set_option Elab.async false
set_option maxRecDepth 100000
set_option maxHeartbeats 0
namespace Mine
/-- the table's entries -/
noncomputable def tabL (P : Params) : List DictEntry := mainE P 199 (parts (18 + 1) prs ++ [prs.drop (17 * (18 + 1))])
noncomputable def ent (P : Params) : Array DictEntry := (tabL P).toArray
def names : List Str := prs.map (·.1)
/-- an entry out of a pair of the table -/
def FromP (P : Params) (D : List (Str × Str)) (es : List DictEntry) : Prop := ∀ e ∈ es, ∃ d ∈ D, ∃ t u, e = ⟨PyData.keyHash P d.1, .str d.1 t, .str d.2 u⟩
theorem entsL_from (P : Params) : ∀ (c : List (Str × Str)) (T g : Nat), FromP P c (entsL P T g c)
  | [], _, _ => fun e he => nomatch he
  | d :: r, T, g => fun e he => by
    rcases List.mem_cons.mp he with rfl | he
    · exact ⟨d, List.mem_cons_self .., T, T + 1, rfl⟩
    · obtain ⟨d', hd, h⟩ := entsL_from P r _ g e he
      exact ⟨d', List.mem_cons_of_mem _ hd, h⟩
theorem ents_from (P : Params) (c : List (Str × Str)) (T : Nat) : FromP P c (ents P T c) := by
  unfold ents
  split <;> exact entsL_from P c _ _
theorem mainE_from (P : Params) : ∀ (a : List (List (Str × Str))) (T : Nat), FromP P a.flatten (mainE P T a)
  | [], _ => fun e he => nomatch he
  | c :: a, T => fun e he => by
    have he' : e ∈ ents P T c ++ mainE P (T + 3 * c.length) a := he
    rcases List.mem_append.mp he' with he | he
    · obtain ⟨d, hd, h⟩ := ents_from P c T e he
      exact ⟨d, List.mem_flatten.mpr ⟨c, List.mem_cons_self .., hd⟩, h⟩
    · obtain ⟨d, hd, h⟩ := mainE_from P a _ e he
      obtain ⟨b, hb, hd'⟩ := List.mem_flatten.mp hd
      exact ⟨d, List.mem_flatten.mpr ⟨b, List.mem_cons_of_mem _ hb, hd'⟩, h⟩
theorem parts_all : (parts (18 + 1) prs ++ [prs.drop (17 * (18 + 1))]).flatten = prs := by kernel_rfl
theorem tab_from (P : Params) : FromP P prs (tabL P) := by
  have h := mainE_from P (parts (18 + 1) prs ++ [prs.drop (17 * (18 + 1))]) 199
  rw [parts_all] at h
  exact h
theorem tab_len (P : Params) : (tabL P).length = 335 := by
  unfold tabL
  rw [mainE_length, parts_all, prs_len]
theorem keyText_eq (v : Value) : keyText v = keyT v := by cases v <;> rfl
theorem ent_names (P : Params) : ((ent P).toList.map fun e => keyText e.key) = names := by
  show (tabL P).map _ = _
  have h := mainE_keys P (parts (18 + 1) prs ++ [prs.drop (17 * (18 + 1))]) 199
  rw [parts_all] at h
  unfold names
  rw [← h]
  exact List.map_congr_left fun e _ => keyText_eq e.key
theorem ent_at (P : Params) : (hp P).lookup 22 = some ⟨.type "dict", none, .dict (ent P) 335, #[]⟩ := by
  have h : (hp P).lookup 22 = some (sd 0 P) := by with_unfolding_all rfl
  rw [h]
  have h2 : sd 0 P = dob (tabL P) := by with_unfolding_all rfl
  rw [h2]
  unfold dob ent
  rw [tab_len]
theorem lit_of (P : Params) : ∀ (es : List DictEntry), FromP P prs es → KeysLit P es
  | [], _ => trivial
  | e :: r, h => by
    obtain ⟨d, _, t, u, e1⟩ := h e (List.mem_cons_self ..)
    exact ⟨⟨d.1, t, by rw [e1], by rw [e1]⟩, lit_of P r fun x hx => h x (List.mem_cons_of_mem _ hx)⟩
theorem ent_lit (P : Params) : KeysLit P (ent P).toList := lit_of P _ (tab_from P)
theorem names_nodup : names.Nodup := prs_nodup
theorem names_len : names.length = 335 := by unfold names; rw [List.length_map, prs_len]
theorem names_lenI : (names.length : Int) = 335 := by rw [names_len]; rfl
theorem vals_of {p : Str → Prop} (P : Params) (h : ∀ d ∈ prs, p d.2) : valsAre p (ent P).toList := fun e he => by
  obtain ⟨d, hd, t, u, e1⟩ := tab_from P e he
  exact ⟨d.2, u, by rw [e1], h d hd⟩
end Mine
end

section
open PySem PySem.W PyProof.Rows
set_option Elab.async false
set_option maxRecDepth 100000
namespace Mine
open PySem.Calls
def good (c : Nat) : Bool := Unicode.isAlnum c || c == 46
def nstep (st : List Str × Bool) (c : Nat) : List Str × Bool :=
  if good c then ((if st.2 && !st.1.isEmpty then st.1 ++ [Str.ofString "_"] else st.1) ++ (if c < 128 then [⟨#[c]⟩] else []), false) else (st.1, true)
def nscan (l : List Nat) : List Str × Bool := l.foldl nstep ([], false)
def normS (x : Str) : Str := Txt.join (Str.ofString "") (nscan x.cps.toList).1

/-- the same on the signs themselves -/
def cstep (st : List Nat × Bool) (c : Nat) : List Nat × Bool :=
  if good c then ((if st.2 && !st.1.isEmpty then st.1 ++ [95] else st.1) ++ (if c < 128 then [c] else []), false) else (st.1, true)
def flat (l : List Str) : List Nat := l.flatMap fun x => x.cps.toList
theorem us_cps : (Str.ofString "_").cps.toList = [95] := by decide +kernel
theorem flat_step (st : List Str × Bool) (c : Nat) (hne : ∀ x ∈ st.1, x.cps.toList ≠ []) :
    (∀ x ∈ (nstep st c).1, x.cps.toList ≠ []) ∧ cstep (flat st.1, st.2) c = (flat (nstep st c).1, (nstep st c).2) := by
  obtain ⟨l, p⟩ := st
  have hemp : (flat l).isEmpty = l.isEmpty := by
    cases l with
    | nil => rfl
    | cons a r =>
      have := hne a (List.mem_cons_self ..)
      unfold flat
      rw [List.flatMap_cons]
      cases h : a.cps.toList with
      | nil => exact absurd h this
      | cons b t => rfl
  unfold cstep nstep
  dsimp only
  rw [hemp]
  by_cases hg : good c = true
  · rw [if_pos hg, if_pos hg]
    constructor
    · intro x hx
      rcases List.mem_append.mp hx with hx | hx
      · split at hx
        · rcases List.mem_append.mp hx with hx | hx
          · exact hne x hx
          · rw [List.mem_singleton.mp hx, us_cps]; exact List.cons_ne_nil _ _
        · exact hne x hx
      · split at hx
        · rw [List.mem_singleton.mp hx]; exact List.cons_ne_nil _ _
        · exact nomatch hx
    · refine Prod.ext ?_ rfl
      show ((if (p && !l.isEmpty) = true then flat l ++ [95] else flat l) ++ (if c < 128 then [c] else [])) = flat _
      unfold flat
      rw [List.flatMap_append]
      congr 1
      · split
        · rw [List.flatMap_append, List.flatMap_singleton, us_cps]
        · rfl
      · split
        · rw [List.flatMap_singleton]
        · rfl
  · rw [if_neg hg, if_neg hg]
    exact ⟨hne, rfl⟩
theorem flat_scan : ∀ (l : List Nat) (st : List Str × Bool), (∀ x ∈ st.1, x.cps.toList ≠ []) → l.foldl cstep (flat st.1, st.2) = (flat (l.foldl nstep st).1, (l.foldl nstep st).2)
  | [], _, _ => rfl
  | c :: l, st, h => by
    have h1 := flat_step st c h
    rw [List.foldl_cons, List.foldl_cons, h1.2]
    exact flat_scan l (nstep st c) h1.1
theorem join_cps (sep : Str) : ∀ (a : Str) (l : List Str), (Str.join sep (a :: l)).cps.toList = a.cps.toList ++ l.flatMap fun x => sep.cps.toList ++ x.cps.toList
  | a, [] => by show a.cps.toList = _; simp
  | a, b :: l => by
    show ((a ++ sep) ++ Str.join sep (b :: l)).cps.toList = _
    rw [PySem.Str.cps_append, PySem.Str.cps_append, Array.toList_append, Array.toList_append, join_cps sep b l, List.flatMap_cons]
    simp
theorem empty_cps : (Str.ofString "").cps.toList = [] := by decide +kernel
theorem join_flat (l : List Str) : (Txt.join (Str.ofString "") l).cps.toList = flat l := by
  have e : Txt.join (Str.ofString "") l = Str.join (Str.ofString "") l := StrLaws.glued_eq_join _ l
  rw [e]
  cases l with
  | nil => rfl
  | cons a l =>
    rw [join_cps, empty_cps]
    simp [flat]
theorem normS_cps (x : Str) : (normS x).cps.toList = (x.cps.toList.foldl cstep ([], false)).1 := by
  unfold normS nscan
  rw [join_flat]
  have h := flat_scan x.cps.toList ([], false) (fun x h => nomatch h)
  have e : (flat ([] : List Str), false) = (([] : List Nat), false) := rfl
  dsimp only at h
  rw [e] at h
  rw [h]
theorem str_ext {x y : Str} (h : x.cps.toList = y.cps.toList) : x = y := by
  obtain ⟨⟨a⟩⟩ := x
  obtain ⟨⟨b⟩⟩ := y
  have e : a = b := h
  rw [e]

def wordOk (w : List Nat) : Prop := w ≠ [] ∧ ∀ c ∈ w, good c = true ∧ c < 128
def markOk (m : List Nat) : Prop := m ≠ [] ∧ ∀ c ∈ m, good c = false
def forOk (f : List Nat) : Prop := ∀ c ∈ f, good c = true ∧ ¬ c < 128
theorem c_marks : ∀ (m : List Nat) (l : List Nat) (p : Bool), (∀ c ∈ m, good c = false) → ∃ q, m.foldl cstep (l, p) = (l, q) ∧ (m ≠ [] → q = true)
  | [], l, p, _ => ⟨p, rfl, fun h => absurd rfl h⟩
  | c :: m, l, p, h => by
    have h1 : cstep (l, p) c = (l, true) := by unfold cstep; rw [if_neg (by rw [h c (List.mem_cons_self ..)]; decide)]
    obtain ⟨q, e, hq⟩ := c_marks m l true fun d hd => h d (List.mem_cons_of_mem _ hd)
    refine ⟨q, by rw [List.foldl_cons, h1, e], fun _ => ?_⟩
    cases m with
    | nil => exact (congrArg Prod.snd e).symm
    | cons d r => exact hq (List.cons_ne_nil _ _)
theorem c_for : ∀ (f : List Nat) (l : List Nat), forOk f → f.foldl cstep (l, false) = (l, false)
  | [], _, _ => rfl
  | c :: f, l, h => by
    have h0 := h c (List.mem_cons_self ..)
    have h1 : cstep (l, false) c = (l, false) := by
      unfold cstep; rw [if_pos h0.1, if_neg h0.2]; simp
    rw [List.foldl_cons, h1]
    exact c_for f l fun d hd => h d (List.mem_cons_of_mem _ hd)
theorem c_run : ∀ (w : List Nat) (l : List Nat), (∀ c ∈ w, good c = true ∧ c < 128) → w.foldl cstep (l, false) = (l ++ w, false)
  | [], l, _ => by rw [List.append_nil]; rfl
  | c :: w, l, h => by
    have h0 := h c (List.mem_cons_self ..)
    have h1 : cstep (l, false) c = (l ++ [c], false) := by
      unfold cstep; rw [if_pos h0.1, if_pos h0.2]; simp
    rw [List.foldl_cons, h1, c_run w _ fun d hd => h d (List.mem_cons_of_mem _ hd), List.append_assoc]
    rfl
/-- a word with the foreign sign after its first letter -/
def ins (f w : List Nat) : List Nat := w.take 1 ++ f ++ w.drop 1
theorem c_word {f w : List Nat} (hw : wordOk w) (hf : forOk f) (l : List Nat) (p : Bool) : (ins f w).foldl cstep (l, p) = ((if p && !l.isEmpty then l ++ [95] else l) ++ w, false) := by
  obtain ⟨hne, h⟩ := hw
  cases w with
  | nil => exact absurd rfl hne
  | cons c w =>
    have h0 := h c (List.mem_cons_self ..)
    show (([c] ++ f) ++ w).foldl cstep (l, p) = _
    rw [List.foldl_append, List.foldl_append, List.foldl_cons, List.foldl_nil]
    have h1 : cstep (l, p) c = ((if p && !l.isEmpty then l ++ [95] else l) ++ [c], false) := by
      unfold cstep; rw [if_pos h0.1, if_pos h0.2]
    rw [h1, c_for f _ hf, c_run w _ fun d hd => h d (List.mem_cons_of_mem _ hd), List.append_assoc]
    rfl
theorem c_tail {f : List Nat} (hf : forOk f) : ∀ (ps : List (List Nat × List Nat)) (l : List Nat), l ≠ [] → (∀ q ∈ ps, markOk q.1 ∧ wordOk q.2) →
    (ps.flatMap fun q => q.1 ++ ins f q.2).foldl cstep (l, false) = (l ++ ps.flatMap fun q => 95 :: q.2, false)
  | [], l, _, _ => by simp
  | q :: ps, l, hl, h => by
    have h0 := h q (List.mem_cons_self ..)
    obtain ⟨b, e, hb⟩ := c_marks q.1 l false h0.1.2
    rw [List.flatMap_cons, List.flatMap_cons, List.foldl_append, List.foldl_append, e, hb h0.1.1, c_word h0.2 hf]
    have hl' : (!l.isEmpty) = true := by cases l with
      | nil => exact absurd rfl hl
      | cons => rfl
    rw [hl']
    have e1 : (if (true && true) = true then l ++ [95] else l) = l ++ [95] := rfl
    rw [e1, c_tail hf ps _ (by simp) fun q hq => h q (List.mem_cons_of_mem _ hq)]
    simp
/-- the law in plain words: marks and foreign signs go, words stay -/
theorem plain {f m0 m1 w : List Nat} {ps : List (List Nat × List Nat)} (hf : forOk f) (h0 : ∀ c ∈ m0, good c = false) (h1 : ∀ c ∈ m1, good c = false) (hw : wordOk w) (hp : ∀ q ∈ ps, markOk q.1 ∧ wordOk q.2) :
    ((m0 ++ (ins f w ++ ps.flatMap fun q => q.1 ++ ins f q.2) ++ m1).foldl cstep ([], false)).1 = w ++ ps.flatMap fun q => 95 :: q.2 := by
  obtain ⟨a, e, _⟩ := c_marks m0 [] false h0
  rw [List.foldl_append, List.foldl_append, List.foldl_append, e, c_word hw hf]
  have e1 : (if (a && !([] : List Nat).isEmpty) = true then [] ++ [95] else ([] : List Nat)) = [] := by simp
  rw [e1, List.nil_append, c_tail hf ps w hw.1 hp]
  obtain ⟨b, e2, _⟩ := c_marks m1 (w ++ ps.flatMap fun q => 95 :: q.2) false h1
  rw [e2]
/-- marks and foreign signs of the law -/
def marksT : List Str := [Str.ofString "-", Str.ofString "_", Str.ofString " ", Str.ofString ":", Str.ofString "--", Str.ofString " - ", Str.ofString "_/", Str.ofString "–"]
def forT : List Str := [Str.ofString "", Str.ofString "é", Str.ofString "Ж", Str.ofString "一"]
theorem marksT_ok : ∀ m ∈ marksT, markOk m.cps.toList := by
  have h : (marksT.all fun m => !m.cps.toList.isEmpty && m.cps.toList.all fun c => !good c) = true := by decide +kernel
  intro m hm
  have h1 := List.all_eq_true.mp h m hm
  rw [Bool.and_eq_true] at h1
  refine ⟨fun e => by rw [e] at h1; exact absurd h1.1 (by decide), fun c hc => ?_⟩
  have h2 := List.all_eq_true.mp h1.2 c hc
  simpa using h2
theorem forT_ok : ∀ m ∈ forT, forOk m.cps.toList := by
  have h : (forT.all fun m => m.cps.toList.all fun c => good c && !decide (c < 128)) = true := by decide +kernel
  intro m hm c hc
  have h2 := List.all_eq_true.mp (List.all_eq_true.mp h m hm) c hc
  rw [Bool.and_eq_true] at h2
  exact ⟨h2.1, by simpa using h2.2⟩
def agood (c : Nat) : Bool := (48 ≤ c && c ≤ 57) || (65 ≤ c && c ≤ 90) || (97 ≤ c && c ≤ 122) || c == 46
theorem agood_good : ∀ c : Nat, agood c = true → good c = true ∧ c < 128 := by
  have h : ((List.range 128).all fun c => !agood c || good c) = true := by decide +kernel
  intro c hc
  have hl : c < 128 := by
    unfold agood at hc
    simp only [Bool.or_eq_true, Bool.and_eq_true, decide_eq_true_eq, beq_iff_eq] at hc
    omega
  have h1 := List.all_eq_true.mp h c (List.mem_range.mpr hl)
  rw [hc] at h1
  exact ⟨by simpa using h1, hl⟩
end Mine
end

section
open PySem PySem.W PyProof.Rows
set_option Elab.async false
set_option maxRecDepth 100000
set_option maxHeartbeats 1000000
set_option pp.deepTerms false
set_option pp.deepTerms.threshold 6
set_option pp.proofs false
namespace Mine
open PySem.Calls
@[irreducible] def inv (pre : List Int) (chars : List Str) (punct : Bool) : Prop := (chars, punct) = nscan (pre.map Int.toNat) ∧ chars.length ≤ 2 * pre.length

theorem own_ne {own : List (Addr × Obj)} {l : Addr} {news : List (Addr × Obj)} (h1 : ∀ p ∈ news, p.1 < l) (h2 : OwnOff own (l :: news.map (·.1))) : ∀ p ∈ news ++ own, p.1 ≠ l := fun p hp =>
  (List.mem_append.mp hp).elim (fun h => Nat.ne_of_lt (h1 p h)) fun h => h2 p h l (List.mem_cons_self ..)
theorem inv_len {pre : List Int} {cs : List Str} {b : Bool} {us : List Value} (h : inv pre cs b) (hs : StrsAre us cs) (hp : pre.length ≤ 4096) : us.length ≤ 8200 ∧ cs.length ≤ 8200 := by
  unfold inv at h
  rw [hs.length]
  omega
theorem isalnum_one (n : Nat) : Txt.isalnum ⟨#[n]⟩ = Unicode.isAlnum n := by
  show (decide (1 > 0) && (#[n] : Array Nat).all Unicode.isAlnum) = _
  simp
theorem isascii_one (n : Nat) : Txt.isascii ⟨#[n]⟩ = decide (n < 128) := by
  show (#[n] : Array Nat).all (· < 128) = _
  simp
theorem dot_one (n : Nat) : ((⟨#[n]⟩ : Str) == Str.ofString ".") = (n == 46) := by
  have e : Str.ofString "." = ⟨#[46]⟩ := by decide +kernel
  rw [e]
  by_cases h : n = 46
  · subst h; rfl
  · rw [beq_eq_false_iff_ne.mpr h, beq_eq_false_iff_ne]
    intro q
    apply h
    have q1 := congrArg (fun s : Str => s.cps.toList) q
    simpa using q1
theorem good1 {n : Nat} (h : Txt.isalnum ⟨#[n]⟩ = true) : good n = true := by
  rw [isalnum_one] at h
  unfold good
  rw [h]; rfl
theorem good2 {n : Nat} (h : Txt.isalnum ⟨#[n]⟩ = false) (h' : ((⟨#[n]⟩ : Str) == Str.ofString ".") = true) : good n = true := by
  rw [isalnum_one] at h
  rw [dot_one] at h'
  unfold good
  rw [h, h']; rfl
theorem good3 {n : Nat} (h : Txt.isalnum ⟨#[n]⟩ = false) (h' : ((⟨#[n]⟩ : Str) == Str.ofString ".") = false) : good n = false := by
  rw [isalnum_one] at h
  rw [dot_one] at h'
  unfold good
  rw [h, h']; rfl
section
variable {pre : List Int} {n : Nat} {ws ws' : List Str} {b b' : Bool}
theorem inv_step (h : inv pre ws b) (e : nstep (ws, b) n = (ws', b')) (hl : ws'.length ≤ ws.length + 2) : inv (pre ++ [(n : Int)]) ws' b' := by
  unfold inv at h ⊢
  obtain ⟨h1, h2⟩ := h
  refine ⟨?_, by rw [List.length_append, List.length_singleton]; omega⟩
  unfold nscan at h1 ⊢
  rw [List.map_append, List.foldl_append, ← h1, ← e]
  rfl
theorem w1 (h : inv pre ws b) (hg : good n = true) (he : ws.isEmpty = true) (ha : Txt.isascii ⟨#[n]⟩ = true) : inv (pre ++ [(n : Int)]) (ws ++ [⟨#[n]⟩]) false := by
  rw [isascii_one] at ha
  exact inv_step h (by simp [nstep, hg, he, of_decide_eq_true ha]) (by simp)
theorem w2 (h : inv pre ws b) (hg : good n = true) (he : ws.isEmpty = true) (ha : Txt.isascii ⟨#[n]⟩ = false) : inv (pre ++ [(n : Int)]) ws false := by
  rw [isascii_one] at ha
  exact inv_step h (by simp [nstep, hg, he, of_decide_eq_false ha]) (by simp)
theorem w3 (h : inv pre ws b) (hg : good n = true) (hb : b = true) (he : ws.isEmpty = false) (ha : Txt.isascii ⟨#[n]⟩ = true) : inv (pre ++ [(n : Int)]) (ws ++ [Str.ofString "_"] ++ [⟨#[n]⟩]) false := by
  rw [isascii_one] at ha
  exact inv_step h (by simp [nstep, hg, hb, he, of_decide_eq_true ha]) (by simp)
theorem w4 (h : inv pre ws b) (hg : good n = true) (hb : b = true) (he : ws.isEmpty = false) (ha : Txt.isascii ⟨#[n]⟩ = false) : inv (pre ++ [(n : Int)]) (ws ++ [Str.ofString "_"]) false := by
  rw [isascii_one] at ha
  exact inv_step h (by simp [nstep, hg, hb, he, of_decide_eq_false ha]) (by simp)
theorem w5 (h : inv pre ws b) (hg : good n = true) (hb : b = false) (ha : Txt.isascii ⟨#[n]⟩ = true) : inv (pre ++ [(n : Int)]) (ws ++ [⟨#[n]⟩]) false := by
  rw [isascii_one] at ha
  exact inv_step h (by simp [nstep, hg, hb, of_decide_eq_true ha]) (by simp)
theorem w6 (h : inv pre ws b) (hg : good n = true) (hb : b = false) (ha : Txt.isascii ⟨#[n]⟩ = false) : inv (pre ++ [(n : Int)]) ws false := by
  rw [isascii_one] at ha
  exact inv_step h (by simp [nstep, hg, hb, of_decide_eq_false ha]) (by simp)
theorem w7 (h : inv pre ws b) (hg : good n = false) : inv (pre ++ [(n : Int)]) ws true := inv_step h (by simp [nstep, hg]) (by simp)
end
theorem nscan_ones : ∀ (l : List Nat) (st : List Str × Bool), (∀ c ∈ st.1, c.length ≤ 1) → ∀ c ∈ (l.foldl nstep st).1, c.length ≤ 1
  | [], _, h => h
  | n :: l, st, h => by
    refine nscan_ones l (nstep st n) ?_
    unfold nstep
    have h0 : (Str.ofString "_").length ≤ 1 := by decide +kernel
    intro c hc
    split at hc
    · rcases List.mem_append.mp hc with hc | hc
      · split at hc
        · rcases List.mem_append.mp hc with hc | hc
          · exact h c hc
          · rw [List.mem_singleton.mp hc]; exact h0
        · exact h c hc
      · split at hc
        · rw [List.mem_singleton.mp hc]; exact Nat.le_refl 1
        · exact nomatch hc
    · exact h c hc
theorem codes_nat (x : Str) : (KStt.codes x).map Int.toNat = x.cps.toList := by
  unfold KStt.codes
  rw [List.map_map]
  exact (List.map_congr_left fun c _ => Int.toNat_natCast c).trans (List.map_id _)
theorem inv_ones {x : Str} {ws : List Str} {b : Bool} (h : inv (KStt.codes x) ws b) : ∀ a ∈ ws, a.length ≤ 1 := by
  unfold inv nscan at h
  have e : ws = (((KStt.codes x).map Int.toNat).foldl nstep ([], false)).1 := congrArg Prod.fst h.1
  rw [e]
  exact nscan_ones _ _ fun c hc => nomatch hc
theorem inv_fin {x : Str} {ws : List Str} {b : Bool} (h : inv (KStt.codes x) ws b) : Txt.join (Str.ofString "") (ws.map fun a => a) = normS x := by
  unfold inv at h
  rw [codes_nat] at h
  have e : ws = (nscan x.cps.toList).1 := congrArg Prod.fst h.1
  rw [List.map_id', e]
  rfl
theorem sub1 {a : Addr × Obj} {l m : List (Addr × Obj)} : ∀ p ∈ a :: l, p ∈ a :: (l ++ m) := fun p hp => (List.mem_cons.mp hp).elim (fun h => h ▸ List.mem_cons_self ..) fun h => List.mem_cons_of_mem _ (List.mem_append_left _ h)
theorem sub2 {a : Addr × Obj} {l m : List (Addr × Obj)} : ∀ p ∈ m, p ∈ a :: (l ++ m) := fun p hp => List.mem_cons_of_mem _ (List.mem_append_right _ hp)
theorem inv_start : inv [] [] false := by unfold inv; exact ⟨rfl, Nat.le_refl 0⟩

abbrev Sg := List Value × List Str × Nat × Bool
def ledN (l : Addr) (news : List (Addr × Obj)) (c : Sg) : List (Addr × Obj) := (l, listOf c.1.toArray c.2.2.1) :: news
def psN (c : Sg) : List (Str × Value) := [(Str.ofString "punct", .bool c.2.2.2)]
def faN (c : Sg) : Prop := StrsAre c.1 c.2.1
def pN (pre : List Int) (c : Sg) : Prop := inv pre c.2.1 c.2.2.2

theorem norm_contract (w : World) (mean : ExcName → Option Value) (mg mb : Str → Option Value) (news : List (Addr × Obj)) (x : Str) (t : Tok) :
    CbClaim PySem.Challenge.rw_in0204_01.row.prog w (hp w.params) vw (looseW vw [Str.ofString "aliases"]) mean mg mb 21 news [] (x.length ≤ 4096) [.str x t] (fun t => .str (normS x) t) := by
  k_with "pyIter str" => fail
  k_fill
  dsimp only [CbClaim, CbLists, CbRet]
  intros
  rename_i hret
  have cbI : CbIn 21 := CbIn.mk
  refine wpAny_call ?_
  k_dflt cell_enter
  k_steps
  k_with_none
  k_here
  rename Fr _ _ _ _ => lF'
  rename News _ _ _ _ => lN'
  refine' KStt.kst_text (σ := Sg) (fun c => (?lA, listOf c.1.toArray c.2.2.1) :: news) (fun c => [(Str.ofString "punct", Value.bool c.2.2.2)]) (fun c => StrsAre c.1 c.2.1) [] (fun pre c => inv pre c.2.1 c.2.2.2) ([], [], 0, false) ?hh lF' ?hN ?hf ?hk ?hp ?turn ?done
  case hN => exact lN'
  case hh => rfl
  case hf => exact .nil
  case hk =>
    intro p hp
    rw [List.mem_singleton.mp hp]
    with_unfolding_all rfl
  case hp => exact inv_start
  case turn =>
    clear lF' lN'
    intro c pre post n tn u h tk own hcodes hoff hfacts hinv hFr hNews
    obtain ⟨uv, us', cn, pu⟩ := c
    have kMark : KstMark := kstMark
    dsimp only [List.map, kstB, List.cons_append] at hoff hfacts hinv hFr hNews
    have hpl : pre.length ≤ 4096 := by
      have h1 := congrArg List.length hcodes
      rw [KStt.codes_length, List.length_append, List.length_cons] at h1
      omega
    have hn1 := inv_len hinv hfacts hpl
    have hne := own_ne (by assumption) hoff
    k_with "state" => fail
    k_with "truthy ref" => (k_here; refine truth_strs (by k_asm) (List.mem_cons_self ..) hfacts (by omega) ?_; intro k'; (try dsimp only))
    k_with "call builtin:list.append" => (k_here; refine append_head (by k_asm) (by k_asm) hne (by first | omega | (simp only [List.length_append, List.length_cons, List.length_nil]; omega)) ?_; intro h' F' N')
    k_steps
    all_goals (
      refine' kst_end (_, _, _, _) ?hF ?hN sub1 sub2 ?ha ?hf ?hk ?hr ?hp
      case hF => assumption
      case hN => assumption
      case ha => rfl
      case hf => (first | exact hfacts | exact KStt.strs_snoc hfacts | exact KStt.strs_snoc (KStt.strs_snoc hfacts))
      case hk =>
        intro p hp
        rw [List.mem_singleton.mp hp]
        with_unfolding_all rfl
      case hr => kst_same
      case hp =>
        show inv _ _ _
        first
          | exact w7 hinv (good3 (by assumption) (by assumption))
          | (have hg : good n = true := (by first | exact good1 (by assumption) | exact good2 (by assumption) (by assumption))
             first
               | exact w3 hinv hg (by assumption) (by assumption) (by assumption)
               | exact w4 hinv hg (by assumption) (by assumption) (by assumption)
               | exact w1 hinv hg (by assumption) (by assumption)
               | exact w2 hinv hg (by assumption) (by assumption)
               | exact w5 hinv hg (by assumption) (by assumption)
               | exact w6 hinv hg (by assumption) (by assumption)))
  case done =>
    clear lF' lN'
    intro c u h tk hfacts hinv hFr hNews
    obtain ⟨uv, us', cn, pu⟩ := c
    have kMark : KstMark := kstMark
    dsimp only [List.map, kstB, List.cons_append] at hfacts hinv hFr hNews
    have hn1 := inv_len hinv hfacts (by rw [KStt.codes_length]; assumption)
    k_with "call builtin:str.join" => (k_here; refine KT.join_B 1 (l := us') (g := fun a => a) (News.isList hNews (List.mem_cons_self ..)) hfacts.carried (inv_ones hinv) (by omega) (by decide) ?_; intro t' k')
    k_steps
    k_with "tree" => exact inv_fin hinv
    all_goals cb_end hret
end Mine
end

section
open PySem PySem.W PyProof.Rows
set_option Elab.async false
set_option maxRecDepth 100000
set_option maxHeartbeats 1000000
set_option pp.deepTerms false
set_option pp.deepTerms.threshold 6
set_option pp.proofs false
namespace Mine
open PySem.Calls
theorem codes_len_b {b : Array UInt8} (h : b.size ≤ 4096) : (textOf b).length ≤ 4096 := by rw [textOf_len]; exact h
theorem normb_contract (w : World) (mean : ExcName → Option Value) (mg mb : Str → Option Value) (news : List (Addr × Obj)) (b : Array UInt8) (t : Tok) :
    CbClaim PySem.Challenge.rw_in0204_01.row.prog w (hp w.params) vw (looseW vw [Str.ofString "aliases"]) mean mg mb 21 news [] ((∀ c ∈ b.toList, c.toNat < 128) ∧ b.size ≠ 0 ∧ b.size ≤ 4096) [.bytes b t] (fun t => .str (normS (textOf b)) t) := by
  k_with "pyIter str" => fail
  k_fill
  dsimp only [CbClaim, CbLists, CbRet]
  intros
  rename_i hpre hd hu hret
  have hb1 := hpre.1
  have hb2 := hpre.2.1
  have hb3 := hpre.2.2
  have cbI : CbIn 21 := CbIn.mk
  refine wpAny_call ?_
  k_dflt cell_enter
  k_with "call type:str" => (k_here; refine str_bytes hb1 hb2 (Nat.le_trans hb3 (by decide)) ?_; intro ts ks)
  k_steps
  k_with_none
  have hlen := codes_len_b hb3
  k_here
  rename Fr _ _ _ _ => lF'
  rename News _ _ _ _ => lN'
  refine' KStt.kst_text (σ := Sg) (fun c => (?lA, listOf c.1.toArray c.2.2.1) :: news) (fun c => [(Str.ofString "punct", Value.bool c.2.2.2)]) (fun c => StrsAre c.1 c.2.1) [] (fun pre c => inv pre c.2.1 c.2.2.2) ([], [], 0, false) ?hh lF' ?hN ?hf ?hk ?hp ?turn ?done
  case hN => exact lN'
  case hh => rfl
  case hf => exact .nil
  case hk =>
    intro p hp
    rw [List.mem_singleton.mp hp]
    with_unfolding_all rfl
  case hp => exact inv_start
  case turn =>
    clear lF' lN'
    intro c pre post n tn u h tk own hcodes hoff hfacts hinv hFr hNews
    obtain ⟨uv, us', cn, pu⟩ := c
    have kMark : KstMark := kstMark
    dsimp only [List.map, kstB, List.cons_append] at hoff hfacts hinv hFr hNews
    have hlen := codes_len_b hb3
    have hpl : pre.length ≤ 4096 := by
      have h1 := congrArg List.length hcodes
      rw [KStt.codes_length, List.length_append, List.length_cons] at h1
      omega
    have hn1 := inv_len hinv hfacts hpl
    have hne := own_ne (by assumption) hoff
    k_with "state" => fail
    k_with "truthy ref" => (k_here; refine truth_strs (by k_asm) (List.mem_cons_self ..) hfacts (by omega) ?_; intro k'; (try dsimp only))
    k_with "call builtin:list.append" => (k_here; refine append_head (by k_asm) (by k_asm) hne (by first | omega | (simp only [List.length_append, List.length_cons, List.length_nil]; omega)) ?_; intro h' F' N')
    k_steps
    all_goals (
      refine' kst_end (_, _, _, _) ?hF ?hN sub1 sub2 ?ha ?hf ?hk ?hr ?hp
      case hF => assumption
      case hN => assumption
      case ha => rfl
      case hf => (first | exact hfacts | exact KStt.strs_snoc hfacts | exact KStt.strs_snoc (KStt.strs_snoc hfacts))
      case hk =>
        intro p hp
        rw [List.mem_singleton.mp hp]
        with_unfolding_all rfl
      case hr => kst_same
      case hp =>
        show inv _ _ _
        first
          | exact w7 hinv (good3 (by assumption) (by assumption))
          | (have hg : good n = true := (by first | exact good1 (by assumption) | exact good2 (by assumption) (by assumption))
             first
               | exact w3 hinv hg (by assumption) (by assumption) (by assumption)
               | exact w4 hinv hg (by assumption) (by assumption) (by assumption)
               | exact w1 hinv hg (by assumption) (by assumption)
               | exact w2 hinv hg (by assumption) (by assumption)
               | exact w5 hinv hg (by assumption) (by assumption)
               | exact w6 hinv hg (by assumption) (by assumption)))
  case done =>
    clear lF' lN'
    intro c u h tk hfacts hinv hFr hNews
    obtain ⟨uv, us', cn, pu⟩ := c
    have kMark : KstMark := kstMark
    dsimp only [List.map, kstB, List.cons_append] at hfacts hinv hFr hNews
    have hn1 := inv_len hinv hfacts (by rw [KStt.codes_length]; exact codes_len_b hb3)
    k_with "call builtin:str.join" => (k_here; refine KT.join_B 1 (l := us') (g := fun a => a) (News.isList hNews (List.mem_cons_self ..)) hfacts.carried (inv_ones hinv) (by omega) (by decide) ?_; intro t' k')
    k_steps
    k_with "tree" => exact inv_fin hinv
    all_goals cb_end hret
end Mine
end

section
open PySem PySem.W PyProof.Rows
set_option Elab.async false
set_option maxRecDepth 100000
set_option maxHeartbeats 8000000
set_option pp.deepTerms false
set_option pp.deepTerms.threshold 8
set_option pp.proofs false
namespace Mine
open PySem.Calls
abbrev us : Str := Str.ofString "_"
theorem ne_of_below {L : Addr} {news : List (Addr × Obj)} (h : ∀ p ∈ news, p.1 < L) : ∀ p ∈ news, p.1 ≠ L + 1 := fun p hp => Nat.ne_of_lt (Nat.lt_of_lt_of_le (h p hp) (Nat.le_succ L))
theorem allLt_mem {d : Addr} : ∀ {l : List (Addr × Obj)}, AllLt d l → ∀ p ∈ l, @LT.lt Nat _ p.1 d
  | [], _, _, h => nomatch h
  | _ :: _, x, p, h => (List.mem_cons.mp h).elim (fun e => e ▸ x.1) fun h => allLt_mem x.2 p h
theorem unr_end {h₀ : Heap} {L : Addr} {s₁ : Shared} {I : Addr} {o1 o2 : Obj} {rest : (Str → Option Value) → List (Addr × Obj) → Prop} {h' : Heap} {tk : Nat} {m' : Str → Option Value} {news' : List (Addr × Obj)} (F : Fr h₀ L h' m') (N : News h₀ L h' ((I + 1, o1) :: (I, o2) :: news'))
    (off : AllLt I news') (r : rest m' news') : UnrEndW h₀ L s₁ [(I + 1, o1), (I, o2)] rest { s₁ with heap := h', toks := tk } :=
  ⟨h', tk, m', news', rfl, F, N, fun p hp q hq => by
    have h1 : @LT.lt Nat _ p.1 I := allLt_mem off p hp
    rcases List.mem_cons.mp hq with e | hq
    · rw [e]; exact Nat.ne_of_lt (Nat.lt_succ_of_lt h1)
    · rw [List.mem_singleton.mp hq]; exact Nat.ne_of_lt h1, r⟩
theorem len_app {x y : Str} {n : Nat} (hx : x.length ≤ n / 2) (hy : y.length ≤ n / 2) : (x ++ y).length ≤ n := by rw [Str.length_append]; omega
theorem len_sl {x : Str} {p q : Option Int} {a : Nat} (hx : x.length ≤ a) : (Txt.slice x p q).length ≤ a := Nat.le_trans (PyProof.Txt.length_slice_le x p q) hx
theorem len_b {x : Str} {n : Nat} (h : x.length ≤ 64) (hn : Nat.ble 64 n = true) : x.length ≤ n := Nat.le_trans h (Nat.le_of_ble_eq_true hn)
theorem len_tab {ws : List Str} {i : Nat} (h : (ws.all fun x => decide (x.length ≤ 3)) = true) : (ws.getD i Str.empty).length ≤ 3 := by
  rw [List.getD_eq_getElem?_getD]
  by_cases hi : i < ws.length
  · rw [List.getElem?_eq_getElem hi]
    exact of_decide_eq_true (List.all_eq_true.mp h _ (List.getElem_mem hi))
  · rw [List.getElem?_eq_none (by omega)]
    decide
theorem len_tabn {ws : List Str} {i n : Nat} (h : (ws.all fun x => decide (x.length ≤ 3)) = true) (hn : Nat.ble 3 n = true) : (ws.getD i Str.empty).length ≤ n := Nat.le_trans (len_tab h) (Nat.le_of_ble_eq_true hn)
theorem mul_or {x : Str} {n : Int} (h0 : 0 ≤ n) (h1 : n < 2) : Txt.mul x n = Str.empty ∨ Txt.mul x n = x := by
  unfold Txt.mul
  by_cases h : n < 1
  · rw [if_pos h]; exact .inl rfl
  · have e : n = 1 := by omega
    subst e
    rw [if_neg h, if_pos (by rfl)]
    exact .inr rfl
theorem len_mul1 {x : Str} {n : Int} {a : Nat} (h0 : 0 ≤ n) (h1 : n < 2) (hx : x.length ≤ a) : (Txt.mul x n).length ≤ a := by
  rcases mul_or (x := x) h0 h1 with e | e
  · rw [e]; exact Nat.zero_le _
  · rw [e]; exact hx
section
variable {prog : Program} {w : World} {A : Around} {E : Value → Shared → Prop} {s : Shared} {x y : Str} {t u : Tok} {Q : Value → Shared → Prop}
theorem add2 (hx : x.length ≤ 1048576) (hy : y.length ≤ 1048576) (h : ∀ t' k, Q (.str (x ++ y) t') { s with toks := k }) : wpAny (model prog w) A (binaryOp .Add (.str x t) (.str y u)) Q E s :=
  SB.add h (by rw [sizeLine_eq]; omega)
theorem iadd2 (hx : x.length ≤ 1048576) (hy : y.length ≤ 1048576) (h : ∀ t' k, Q (.str (x ++ y) t') { s with toks := k }) : wpAny (model prog w) A (inplaceOp .Add (.str x t) (.str y u)) Q E s :=
  SB.iadd h (by rw [sizeLine_eq]; omega)
theorem mul2 {n : Int} (h0 : 0 ≤ n) (h1 : n < 2) (hx : x.length ≤ 3) (h : ∀ t' k, Q (.str (Txt.mul x n) t') { s with toks := k }) : wpAny (model prog w) A (binaryOp .Mult (.str x t) (.int n u)) Q E s :=
  SB.mul (mulOk_of 3 2 hx (by omega) (by omega) (by decide) (by decide)) h
variable {h₀ : Heap} {L l : Addr} {news : List (Addr × Obj)} {value slice : PySem.Expr} {vs : List Value} {ws : List Str} {c : Nat} {i : Int}
theorem item_tab (N : News h₀ L s.heap news) (hm : (l, listOf vs.toArray c) ∈ news) (hw : StrsAre vs ws) (h0 : 0 ≤ i) (h1 : i < (ws.length : Int)) (hfit : ws.length ≤ 64) (h : ∀ t', Q (.str (ws.getD i.toNat PySem.Str.empty) t') s)
    (hs : subscripted slice false (.ref l) (.int i u) = operate [.ref l, .int i u] (getItem (.ref l) (.int i u)) := by with_unfolding_all rfl) :
    wpAny (model prog w) A (subscriptTail value slice (.ref l) (.int i u)) Q E s := KTb.item_list (News.isList N hm) hw h0 h1 (by omega) (fun t' _ => h t') hs
theorem item_zero {v : Value} (N : News h₀ L s.heap news) (hm : (l, listOf (v :: vs).toArray c) ∈ news) (h : Q v s)
    (hs : subscripted slice false (.ref l) (.int 0 u) = operate [.ref l, .int 0 u] (getItem (.ref l) (.int 0 u)) := by with_unfolding_all rfl) :
    wpAny (model prog w) A (subscriptTail value slice (.ref l) (.int 0 u)) Q E s := by
  have hl := News.isList N hm
  exact tail_any hl.typeIs slot_list_getitem.lookup (wpAny_getItem_list hl (Int.le_refl 0) (by decide) (x := v) (by simp) h) hs
end
local macro_rules | `(tactic| walk_at "own len") => `(tactic| first
  | ((with_reducible refine len_app ?_ ?_) <;> walk_at "own len")
  | ((with_reducible refine len_sl ?_); walk_at "own len")
  | ((with_reducible refine len_tabn ?_ ?_) <;> decide +kernel)
  | ((with_reducible refine len_mul1 (PySem.W.fmod_lo _ (by decide)) (PySem.W.fmod_hi _ (by decide)) ?_); walk_at "own len")
  | exact len_b (by with_reducible assumption) (by decide +kernel))
local macro_rules | `(tactic| walk_at "own cell_enter") => `(tactic| (refine' code_defC ?k1 ?k2 ?k3 ?k4 ?k5 ?kA ?kF ?kK ?k6 ?k7 ?k8 ?k9 ?kB ?kD ?_ ?c2 ?c3 ?c4; (case kA => exact rfl); (case kF => exact rfl); (case kK => assumption); (case k1 => k_asm); (case k2 => k_asm); (case k3 => k_asm); (case k4 => k_asm); (case k5 => k_asm); (case k6 => k_is); (case k7 => k_is); (case k8 => ktr_room); (case k9 => exact BindsTo.of_eq rfl); (case kB => exact rfl); (case kD => decide +kernel); (case c2 => exact rfl); (case c3 => exact rfl); (case c4 => exact rfl); k_whole; intro g' L' h' tk' cells' FG' F' N' Y' B' X' T' l1; (try k_lt l1); k_cells Y'; (try simp only [List.cons_append, List.nil_append] at N'); (try dsimp only); (try k_lift B'); (try k_fold)))
local macro_rules | `(tactic| walk_at "storeName") => `(tactic| (k_here; (with_reducible show wpAny _ _ (storeName _ (Str.ofString "foreign") _) _ _ _); (rename Fr _ _ _ _ => lF'); (rename News _ _ _ _ => lN'); refine' stCN (own := [_, _]) lF' lN' ?sc ?sd ?s1 ?s2 ?_ ?sk ?sl; (case sc => exact rfl); (case sk => exact rfl); (case sl => exact rfl); (case sd => assumption); (case s1 => k_all); (case s2 => exact ne_of_below (by assumption)); intro h' o' F' N' d'; (try simp only [List.cons_append, List.nil_append] at N'); (try dsimp only); (try k_sweep)))
local macro_rules | `(tactic| walk_at "CompEnd") => `(tactic| (k_here; (rename News _ _ _ _ => lN'); refine LCg.CompEnd.intro (by assumption) lN' _ (fun _ hp => hp) (by assumption) (Or.inr ⟨_, by k_mem, rfl, _, rfl⟩) ?_))
local macro_rules | `(tactic| walk_at "exec For Tuple Call cons nil") => `(tactic| (k_here; (rename Fr _ _ _ _ => lF'); (with_unfolding_all refine' For_turns lF' ?_; k_whole)))
local macro_rules | `(tactic| walk_at "call type:enumerate") => `(tactic| (k_here; (rename Fr _ _ _ _ => lF'); (rename News _ _ _ _ => lN'); (with_unfolding_all refine ktu_enum (by rfl) lF' lN' (by k_mem) (by rfl) (by rfl) (by rfl) ?_); clear lF'; intro i' l1; (try k_lt l1)))
local macro_rules | `(tactic| walk_at "UnrEndW") => `(tactic| (k_here; (rename News _ _ _ _ => lN'); refine unr_end (by assumption) lN' (by assumption) ⟨by k_subL, ?_⟩))
local macro_rules | `(tactic| walk_at "subscriptTail Name Constant ref int") => `(tactic| (k_here; (with_reducible show wpAny _ _ (subscriptTail _ _ (Value.ref _) (Value.int _ _)) _ _ _); (rename News _ _ _ _ => lN'); k_dflt (refine' item_zero lN' ?gm ?_; (case gm => k_mem))))
local macro_rules | `(tactic| walk_at "subscriptTail Name BinOp ref int") => `(tactic| (k_here; (with_reducible show wpAny _ _ (subscriptTail _ _ (Value.ref _) (Value.int _ _)) _ _ _); (rename News _ _ _ _ => lN'); k_dflt (refine' item_tab (s := ⟨_, _, _, _, _⟩) lN' ?gm ?gw ?g0 ?g1 ?gf ?_ ?gs; (case gs => with_unfolding_all rfl); (case gm => k_mem); (case gw => repeat constructor); (case g0 => exact PySem.W.fmod_lo _ (by decide)); (case g1 => exact PySem.W.fmod_hi _ (by decide)); (case gf => decide +kernel)); intro t'))
local macro_rules | `(tactic| walk_at "binaryOp Add str str") => `(tactic| (k_here; (with_reducible show wpAny _ _ (binaryOp Operator.Add (Value.str _ _) (Value.str _ _)) _ _ _); refine add2 (by walk_at "own len") (by walk_at "own len") ?_; intro t' k'))
local macro_rules | `(tactic| walk_at "inplaceOp Add str str") => `(tactic| (k_here; (with_reducible show wpAny _ _ (inplaceOp Operator.Add (Value.str _ _) (Value.str _ _)) _ _ _); refine iadd2 (by walk_at "own len") (by walk_at "own len") ?_; intro t' k'))
local macro_rules | `(tactic| walk_at "binaryOp Mult str int") => `(tactic| (k_here; (with_reducible show wpAny _ _ (binaryOp Operator.Mult (Value.str _ _) (Value.int _ _)) _ _ _); refine' mul2 ?la ?lb ?lc ?_; (case la => exact PySem.W.fmod_lo _ (by decide)); (case lb => exact PySem.W.fmod_hi _ (by decide)); (case lc => walk_at "own len"); intro t' k'))
noncomputable def wordS (r : Int) (a : Str) : Str := Txt.slice a none (some 1) ++ forT.getD ((r.fdiv 8).fmod 4).toNat Str.empty ++ Txt.slice a (some 1) none
noncomputable def markS (i : Int) : Str := marksT.getD (i.fmod 8).toNat Str.empty
noncomputable def tailS (r : Int) : Int → List Str → Str → Str
  | _, [], x => x
  | k, a :: l, x => tailS r (k + 1) l (x ++ (markS (r + k) ++ wordS r a))
noncomputable def spelled : List Str → Int → Str
  | [], _ => Str.empty
  | a :: l, r => (Txt.mul (markS r) ((r.fdiv 32).fmod 2) ++ tailS r 0 l (wordS r a)) ++ Txt.mul (markS (r + 3)) ((r.fdiv 64).fmod 2)
theorem spelled_1 (w : World) (mean : ExcName → Option Value) (mg mb : Str → Option Value) (news : List (Addr × Obj)) (x a1 : Str) (t u : Tok) (r : Int) :
    CbClaim PySem.Challenge.rw_in0204_01.row.prog w (hp w.params) vw (looseW vw [Str.ofString "aliases"]) mean mg mb 46 news [] (Txt.split x us = [a1] ∧ x.length ≤ 64 ∧ a1.length ≤ 64) [.str x t, .int r u] (fun t => .str (spelled [a1] r) t) := by
  k_with "table" => skip
  k_fill
  dsimp only [CbClaim, CbLists, CbRet]
  intros
  rename_i hpre hd hu hret
  obtain ⟨hsplit, hxl, hl1⟩ := hpre
  have cbI : CbIn 46 := CbIn.mk
  refine wpAny_call ?_
  k_dflt walk_at "own cell_enter"
  k_with "call builtin:str.split" => (k_here; refine KSpl.split1 (by k_asm) (by k_asm) (by decide) ?_ (by rw [sizeLine_eq]; omega); intro D' l' h' k' e' a' F' N' l1; (try k_lt l1); have ksplX := Eq.trans e' hsplit; kspl_open ksplX; (simp only [strValues, List.map_cons, List.map_nil] at N' a'))
  k_steps
  k_with "tree" => rfl
  all_goals cb_end hret
theorem spelled_2 (w : World) (mean : ExcName → Option Value) (mg mb : Str → Option Value) (news : List (Addr × Obj)) (x a1 a2 : Str) (t u : Tok) (r : Int) :
    CbClaim PySem.Challenge.rw_in0204_01.row.prog w (hp w.params) vw (looseW vw [Str.ofString "aliases"]) mean mg mb 46 news [] (Txt.split x us = [a1, a2] ∧ x.length ≤ 64 ∧ a1.length ≤ 64 ∧ a2.length ≤ 64) [.str x t, .int r u] (fun t => .str (spelled [a1, a2] r) t) := by
  k_with "table" => skip
  k_fill
  dsimp only [CbClaim, CbLists, CbRet]
  intros
  rename_i hpre hd hu hret
  obtain ⟨hsplit, hxl, hl1, hl2⟩ := hpre
  have cbI : CbIn 46 := CbIn.mk
  refine wpAny_call ?_
  k_dflt walk_at "own cell_enter"
  k_with "call builtin:str.split" => (k_here; refine KSpl.split1 (by k_asm) (by k_asm) (by decide) ?_ (by rw [sizeLine_eq]; omega); intro D' l' h' k' e' a' F' N' l1; (try k_lt l1); have ksplX := Eq.trans e' hsplit; kspl_open ksplX; (simp only [strValues, List.map_cons, List.map_nil] at N' a'))
  k_steps
  k_with "tree" => rfl
  all_goals cb_end hret
theorem spelled_3 (w : World) (mean : ExcName → Option Value) (mg mb : Str → Option Value) (news : List (Addr × Obj)) (x a1 a2 a3 : Str) (t u : Tok) (r : Int) :
    CbClaim PySem.Challenge.rw_in0204_01.row.prog w (hp w.params) vw (looseW vw [Str.ofString "aliases"]) mean mg mb 46 news [] (Txt.split x us = [a1, a2, a3] ∧ x.length ≤ 64 ∧ a1.length ≤ 64 ∧ a2.length ≤ 64 ∧ a3.length ≤ 64) [.str x t, .int r u] (fun t => .str (spelled [a1, a2, a3] r) t) := by
  k_with "table" => skip
  k_fill
  dsimp only [CbClaim, CbLists, CbRet]
  intros
  rename_i hpre hd hu hret
  obtain ⟨hsplit, hxl, hl1, hl2, hl3⟩ := hpre
  have cbI : CbIn 46 := CbIn.mk
  refine wpAny_call ?_
  k_dflt walk_at "own cell_enter"
  k_with "call builtin:str.split" => (k_here; refine KSpl.split1 (by k_asm) (by k_asm) (by decide) ?_ (by rw [sizeLine_eq]; omega); intro D' l' h' k' e' a' F' N' l1; (try k_lt l1); have ksplX := Eq.trans e' hsplit; kspl_open ksplX; (simp only [strValues, List.map_cons, List.map_nil] at N' a'))
  k_steps
  k_with "tree" => rfl
  all_goals cb_end hret
theorem spelled_4 (w : World) (mean : ExcName → Option Value) (mg mb : Str → Option Value) (news : List (Addr × Obj)) (x a1 a2 a3 a4 : Str) (t u : Tok) (r : Int) :
    CbClaim PySem.Challenge.rw_in0204_01.row.prog w (hp w.params) vw (looseW vw [Str.ofString "aliases"]) mean mg mb 46 news [] (Txt.split x us = [a1, a2, a3, a4] ∧ x.length ≤ 64 ∧ a1.length ≤ 64 ∧ a2.length ≤ 64 ∧ a3.length ≤ 64 ∧ a4.length ≤ 64) [.str x t, .int r u] (fun t => .str (spelled [a1, a2, a3, a4] r) t) := by
  k_with "table" => skip
  k_fill
  dsimp only [CbClaim, CbLists, CbRet]
  intros
  rename_i hpre hd hu hret
  obtain ⟨hsplit, hxl, hl1, hl2, hl3, hl4⟩ := hpre
  have cbI : CbIn 46 := CbIn.mk
  refine wpAny_call ?_
  k_dflt walk_at "own cell_enter"
  k_with "call builtin:str.split" => (k_here; refine KSpl.split1 (by k_asm) (by k_asm) (by decide) ?_ (by rw [sizeLine_eq]; omega); intro D' l' h' k' e' a' F' N' l1; (try k_lt l1); have ksplX := Eq.trans e' hsplit; kspl_open ksplX; (simp only [strValues, List.map_cons, List.map_nil] at N' a'))
  k_steps
  k_with "tree" => rfl
  all_goals cb_end hret
theorem spelled_5 (w : World) (mean : ExcName → Option Value) (mg mb : Str → Option Value) (news : List (Addr × Obj)) (x a1 a2 a3 a4 a5 : Str) (t u : Tok) (r : Int) :
    CbClaim PySem.Challenge.rw_in0204_01.row.prog w (hp w.params) vw (looseW vw [Str.ofString "aliases"]) mean mg mb 46 news [] (Txt.split x us = [a1, a2, a3, a4, a5] ∧ x.length ≤ 64 ∧ a1.length ≤ 64 ∧ a2.length ≤ 64 ∧ a3.length ≤ 64 ∧ a4.length ≤ 64 ∧ a5.length ≤ 64) [.str x t, .int r u] (fun t => .str (spelled [a1, a2, a3, a4, a5] r) t) := by
  k_with "table" => skip
  k_fill
  dsimp only [CbClaim, CbLists, CbRet]
  intros
  rename_i hpre hd hu hret
  obtain ⟨hsplit, hxl, hl1, hl2, hl3, hl4, hl5⟩ := hpre
  have cbI : CbIn 46 := CbIn.mk
  refine wpAny_call ?_
  k_dflt walk_at "own cell_enter"
  k_with "call builtin:str.split" => (k_here; refine KSpl.split1 (by k_asm) (by k_asm) (by decide) ?_ (by rw [sizeLine_eq]; omega); intro D' l' h' k' e' a' F' N' l1; (try k_lt l1); have ksplX := Eq.trans e' hsplit; kspl_open ksplX; (simp only [strValues, List.map_cons, List.map_nil] at N' a'))
  k_steps
  k_with "tree" => rfl
  all_goals cb_end hret
end Mine
end

section
open PySem PySem.W PyProof.Rows
set_option Elab.async false
set_option maxRecDepth 100000
set_option maxHeartbeats 0
namespace Mine
open PySem.Calls
/-- words of good signs with one '_' between two, none ahead and none behind -/
def chk : Bool → List Nat → Bool
  | s, [] => !s
  | s, c :: r => if Nat.beq c 95 then !s && chk true r else agood c && chk false r
def seps : List Nat → Nat
  | [] => 0
  | c :: r => if Nat.beq c 95 then seps r + 1 else seps r
def okC (l : List Nat) : Bool := Nat.ble l.length 64 && Nat.ble (seps l) 4 && chk true l
structure Ok (x : Str) : Prop where
  one : 1 ≤ (Txt.split x us).length
  five : (Txt.split x us).length ≤ 5
  len : x.length ≤ 64
  words : ∀ w ∈ Txt.split x us, w.length ≤ 64 ∧ wordOk w.cps.toList
theorem beq_no {c : Nat} (h : c ≠ 95) : Nat.beq c 95 = false := by
  cases e : Nat.beq c 95 with
  | false => rfl
  | true => exact absurd (Nat.eq_of_beq_eq_true e) h
theorem chk_end : ∀ (w : List Nat) (s : Bool), 95 ∉ w → chk s w = true → (s = true → w ≠ []) ∧ ∀ c ∈ w, agood c = true
  | [], s, _, h => ⟨fun e => by subst e; exact absurd h (by decide), fun c hc => nomatch hc⟩
  | c :: r, s, hn, h => by
    have hc : c ≠ 95 := fun e => hn (e ▸ List.mem_cons_self ..)
    unfold chk at h
    rw [beq_no hc, if_neg Bool.false_ne_true, Bool.and_eq_true] at h
    refine ⟨fun _ => List.cons_ne_nil _ _, fun d hd => ?_⟩
    rcases List.mem_cons.mp hd with rfl | hd
    · exact h.1
    · exact (chk_end r false (fun m => hn (List.mem_cons_of_mem _ m)) h.2).2 d hd
theorem chk_sep : ∀ (w : List Nat) (s : Bool) (t : List Nat), 95 ∉ w → chk s (w ++ 95 :: t) = true → ((s = true → w ≠ []) ∧ ∀ c ∈ w, agood c = true) ∧ chk true t = true
  | [], s, t, _, h => by
    rw [List.nil_append] at h
    unfold chk at h
    rw [if_pos (by rfl), Bool.and_eq_true] at h
    refine ⟨⟨fun e => ?_, fun c hc => nomatch hc⟩, h.2⟩
    subst e
    exact absurd h.1 (by decide)
  | c :: r, s, t, hn, h => by
    have hc : c ≠ 95 := fun e => hn (e ▸ List.mem_cons_self ..)
    rw [List.cons_append] at h
    unfold chk at h
    rw [beq_no hc, if_neg Bool.false_ne_true, Bool.and_eq_true] at h
    have ih := chk_sep r false t (fun m => hn (List.mem_cons_of_mem _ m)) h.2
    refine ⟨⟨fun _ => List.cons_ne_nil _ _, fun d hd => ?_⟩, ih.2⟩
    rcases List.mem_cons.mp hd with rfl | hd
    · exact h.1
    · exact ih.1.2 d hd
theorem chk_words : ∀ (l : List Str) (a : Str), (∀ w ∈ a :: l, 95 ∉ w.cps.toList) → chk true (a.cps.toList ++ l.flatMap fun b => 95 :: b.cps.toList) = true → ∀ w ∈ a :: l, w.cps.toList ≠ [] ∧ ∀ c ∈ w.cps.toList, agood c = true
  | [], a, hn, h, w, hw => by
    rw [List.mem_singleton.mp hw]
    rw [List.flatMap_nil, List.append_nil] at h
    have := chk_end _ true (hn a (List.mem_cons_self ..)) h
    exact ⟨this.1 rfl, this.2⟩
  | b :: l, a, hn, h, w, hw => by
    rw [List.flatMap_cons, List.cons_append] at h
    have := chk_sep _ true _ (hn a (List.mem_cons_self ..)) h
    rcases List.mem_cons.mp hw with rfl | hw
    · exact ⟨this.1.1 rfl, this.1.2⟩
    · exact chk_words l b (fun w hw => hn w (List.mem_cons_of_mem _ hw)) this.2 w hw
theorem seps_app : ∀ (w t : List Nat), 95 ∉ w → seps (w ++ t) = seps t
  | [], _, _ => rfl
  | c :: r, t, hn => by
    have hc : c ≠ 95 := fun e => hn (e ▸ List.mem_cons_self ..)
    rw [List.cons_append]
    show (if Nat.beq c 95 then seps (r ++ t) + 1 else seps (r ++ t)) = _
    rw [beq_no hc, if_neg Bool.false_ne_true, seps_app r t fun m => hn (List.mem_cons_of_mem _ m)]
theorem seps_words : ∀ (l : List Str), (∀ w ∈ l, 95 ∉ w.cps.toList) → seps (l.flatMap fun b => 95 :: b.cps.toList) = l.length
  | [], _ => rfl
  | b :: l, hn => by
    rw [List.flatMap_cons, List.cons_append]
    show seps (b.cps.toList ++ _) + 1 = _
    rw [seps_app _ _ (hn b (List.mem_cons_self ..)), seps_words l fun w hw => hn w (List.mem_cons_of_mem _ hw)]
    rfl
theorem us_eq : us.cps.toList = [95] := us_cps
theorem name_cps {x a : Str} {l : List Str} (e : Txt.split x us = a :: l) : x.cps.toList = a.cps.toList ++ l.flatMap fun b => 95 :: b.cps.toList := by
  have h := StrLaws.join_split x us
  rw [e] at h
  rw [← h, join_cps, us_cps]
  rfl
theorem us_mk : us = ⟨#[95]⟩ := by decide +kernel
theorem ok_of {x : Str} (h : okC x.cps.toList = true) : Ok x := by
  unfold okC at h
  rw [Bool.and_eq_true, Bool.and_eq_true] at h
  have hlen : x.length ≤ 64 := by
    have := Nat.le_of_ble_eq_true h.1.1
    rw [Array.length_toList] at this
    exact this
  have h1 := split_pos x us
  have hfree : ∀ w ∈ Txt.split x us, 95 ∉ w.cps.toList := by
    rw [us_mk]
    exact StrLaws.split_free x 95
  cases e : Txt.split x us with
  | nil => rw [e] at h1; exact absurd h1 (by decide)
  | cons a l =>
    rw [e] at hfree
    have hc := name_cps e
    have h5 := Nat.le_of_ble_eq_true h.1.2
    rw [hc, seps_app _ _ (hfree a (List.mem_cons_self ..)), seps_words l fun w hw => hfree w (List.mem_cons_of_mem _ hw)] at h5
    have hw := h.2
    rw [hc] at hw
    have hw := chk_words l a hfree hw
    refine ⟨h1, ?_, hlen, fun w hm => ⟨Nat.le_trans (part_short hm) hlen, ?_⟩⟩
    · rw [e]; exact Nat.succ_le_succ h5
    · rw [e] at hm
      exact ⟨(hw w hm).1, fun c hc => agood_good c ((hw w hm).2 c hc)⟩
theorem sl_to (a : Str) (h : 1 ≤ a.length) : (Txt.slice a none (some 1)).cps.toList = a.cps.toList.take 1 := by
  have e := beq_iff_eq.mp (slice_closes_to (x := a) (j := 1) ⟨by decide, by simpa using (by exact_mod_cast h : (1 : Int) ≤ (a.cps.size : Int))⟩)
  rw [e]
  simp
theorem sl_from (a : Str) (h : 1 ≤ a.length) : (Txt.slice a (some 1) none).cps.toList = a.cps.toList.drop 1 := by
  have e := beq_iff_eq.mp (slice_closes_from (x := a) (i := 1) ⟨by decide, by simpa using (by exact_mod_cast h : (1 : Int) ≤ (a.cps.size : Int))⟩)
  rw [e]
  have : (a.cps.toList.drop (1 : Int).toNat).length ≤ ((a.cps.toList.length : Int) - 1).toNat := by
    rw [List.length_drop]; simp
  rw [List.take_of_length_le this]
  simp
noncomputable def fOf (r : Int) : List Nat := (forT.getD ((r.fdiv 8).fmod 4).toNat Str.empty).cps.toList
theorem fOf_ok (r : Int) : forOk (fOf r) := by
  unfold fOf
  rw [List.getD_eq_getElem?_getD]
  by_cases h : ((r.fdiv 8).fmod 4).toNat < forT.length
  · rw [List.getElem?_eq_getElem h]
    exact forT_ok _ (List.getElem_mem h)
  · rw [List.getElem?_eq_none (by omega)]
    intro c hc
    exact nomatch hc
theorem markS_ok (i : Int) : markOk (markS i).cps.toList := by
  have h : (i.fmod 8).toNat < marksT.length := by
    have h1 := PySem.W.fmod_hi i (n := 8) (by decide)
    have h0 := PySem.W.fmod_lo i (n := 8) (by decide)
    show _ < 8
    omega
  unfold markS
  rw [List.getD_eq_getElem?_getD, List.getElem?_eq_getElem h]
  exact marksT_ok _ (List.getElem_mem h)
theorem wordS_cps (r : Int) (a : Str) (h : 1 ≤ a.length) : (wordS r a).cps.toList = ins (fOf r) a.cps.toList := by
  unfold wordS ins fOf
  rw [PySem.Str.cps_append, PySem.Str.cps_append, Array.toList_append, Array.toList_append, sl_to a h, sl_from a h]
noncomputable def psT (r : Int) : Int → List Str → List (List Nat × List Nat)
  | _, [] => []
  | k, a :: l => ((markS (r + k)).cps.toList, a.cps.toList) :: psT r (k + 1) l
theorem word_len {a : Str} (h : wordOk a.cps.toList) : 1 ≤ a.length := by
  show 1 ≤ a.cps.size
  rw [← Array.length_toList]
  cases e : a.cps.toList with
  | nil => exact absurd e h.1
  | cons => simp
theorem tailS_cps (r : Int) : ∀ (l : List Str) (k : Int) (x : Str), (∀ a ∈ l, wordOk a.cps.toList) → (tailS r k l x).cps.toList = x.cps.toList ++ (psT r k l).flatMap fun q => q.1 ++ ins (fOf r) q.2
  | [], k, x, _ => by simp [tailS, psT]
  | a :: l, k, x, h => by
    show (tailS r (k + 1) l (x ++ (markS (r + k) ++ wordS r a))).cps.toList = _
    rw [tailS_cps r l _ _ fun b hb => h b (List.mem_cons_of_mem _ hb), PySem.Str.cps_append, PySem.Str.cps_append, Array.toList_append, Array.toList_append, wordS_cps r a (word_len (h a (List.mem_cons_self ..)))]
    simp [psT]
theorem psT_ok (r : Int) : ∀ (l : List Str) (k : Int), (∀ a ∈ l, wordOk a.cps.toList) → ∀ q ∈ psT r k l, markOk q.1 ∧ wordOk q.2
  | [], _, _, q, hq => nomatch hq
  | a :: l, k, h, q, hq => by
    rcases List.mem_cons.mp hq with rfl | hq
    · exact ⟨markS_ok _, h a (List.mem_cons_self ..)⟩
    · exact psT_ok r l (k + 1) (fun b hb => h b (List.mem_cons_of_mem _ hb)) q hq
theorem psT_words (r : Int) : ∀ (l : List Str) (k : Int), ((psT r k l).flatMap fun q => 95 :: q.2) = l.flatMap fun a => 95 :: a.cps.toList
  | [], _ => rfl
  | a :: l, k => by
    show (95 :: a.cps.toList) ++ (psT r (k + 1) l).flatMap _ = _
    rw [psT_words r l (k + 1)]
    rfl
theorem mul_marks {i n : Int} (h0 : 0 ≤ n) (h1 : n < 2) : ∀ c ∈ (Txt.mul (markS i) n).cps.toList, good c = false := by
  rcases mul_or (x := markS i) h0 h1 with e | e
  · rw [e]; intro c hc; exact nomatch hc
  · rw [e]; exact (markS_ok i).2
theorem norm_spelled {x : Str} (h : Ok x) (r : Int) : normS (spelled (Txt.split x us) r) = x := by
  cases e : Txt.split x us with
  | nil => have := h.one; rw [e] at this; exact absurd this (by decide)
  | cons a l =>
    have hw : ∀ b ∈ a :: l, wordOk b.cps.toList := fun b hb => (h.words b (by rw [e]; exact hb)).2
    apply str_ext
    rw [normS_cps, name_cps e]
    have ha := hw a (List.mem_cons_self ..)
    have hl : ∀ b ∈ l, wordOk b.cps.toList := fun b hb => hw b (List.mem_cons_of_mem _ hb)
    have hp := plain (fOf_ok r) (mul_marks (i := r) (PySem.W.fmod_lo (r.fdiv 32) (by decide)) (PySem.W.fmod_hi (r.fdiv 32) (n := 2) (by decide))) (mul_marks (i := r + 3) (PySem.W.fmod_lo (r.fdiv 64) (by decide)) (PySem.W.fmod_hi (r.fdiv 64) (n := 2) (by decide))) ha (psT_ok r l 0 hl)
    rw [psT_words] at hp
    rw [← hp]
    congr 2
    show ((Txt.mul (markS r) ((r.fdiv 32).fmod 2) ++ tailS r 0 l (wordS r a)) ++ Txt.mul (markS (r + 3)) ((r.fdiv 64).fmod 2)).cps.toList = _
    rw [PySem.Str.cps_append, PySem.Str.cps_append, Array.toList_append, Array.toList_append, tailS_cps r l 0 _ hl, wordS_cps r a (word_len ha)]
theorem norm_self {x : Str} (h : Ok x) : normS x = x := by
  cases e : Txt.split x us with
  | nil => have := h.one; rw [e] at this; exact absurd this (by decide)
  | cons a l =>
    have hw : ∀ b ∈ a :: l, wordOk b.cps.toList := fun b hb => (h.words b (by rw [e]; exact hb)).2
    apply str_ext
    rw [normS_cps, name_cps e]
    have ha := hw a (List.mem_cons_self ..)
    have hm : markOk [95] := ⟨List.cons_ne_nil _ _, fun c hc => by rw [List.mem_singleton.mp hc]; decide +kernel⟩
    have hp := plain (f := []) (m0 := []) (m1 := []) (w := a.cps.toList) (ps := l.map fun b => ([95], b.cps.toList)) (fun c hc => nomatch hc) (fun c hc => nomatch hc) (fun c hc => nomatch hc) ha (fun q hq => by
      obtain ⟨b, hb, rfl⟩ := List.mem_map.mp hq
      exact ⟨hm, hw b (List.mem_cons_of_mem _ hb)⟩)
    have hi : ∀ w : List Nat, ins [] w = w := fun w => by cases w <;> rfl
    have e1 : ((l.map fun b => (([95], b.cps.toList) : List Nat × List Nat)).flatMap fun q => q.1 ++ ins [] q.2) = l.flatMap fun b => 95 :: b.cps.toList := by
      rw [List.flatMap_map]
      exact congrArg (fun f => l.flatMap f) (funext fun b => by rw [hi]; rfl)
    have e2 : ((l.map fun b => (([95], b.cps.toList) : List Nat × List Nat)).flatMap fun q => 95 :: q.2) = l.flatMap fun b => 95 :: b.cps.toList := by
      rw [List.flatMap_map]
    rw [e1, e2, hi, List.nil_append, List.append_nil] at hp
    exact hp
theorem markS_len (i : Int) : (markS i).length ≤ 3 := len_tab (by decide +kernel)
theorem wordS_len {a : Str} (r : Int) (h : a.length ≤ 64) : (wordS r a).length ≤ 131 := by
  unfold wordS
  rw [PySem.Str.length_append, PySem.Str.length_append]
  have h1 := PyProof.Txt.length_slice_le a none (some 1)
  have h2 := PyProof.Txt.length_slice_le a (some 1) none
  have h3 : (forT.getD ((r.fdiv 8).fmod 4).toNat Str.empty).length ≤ 3 := len_tab (by decide +kernel)
  omega
theorem tailS_len (r : Int) : ∀ (l : List Str) (k : Int) (x : Str), (∀ a ∈ l, a.length ≤ 64) → (tailS r k l x).length ≤ x.length + 134 * l.length ∧ x.length ≤ (tailS r k l x).length
  | [], k, x, _ => ⟨by show x.length ≤ _; omega, by show x.length ≤ x.length; omega⟩
  | a :: l, k, x, h => by
    have ih := tailS_len r l (k + 1) (x ++ (markS (r + k) ++ wordS r a)) fun b hb => h b (List.mem_cons_of_mem _ hb)
    have e : tailS r k (a :: l) x = tailS r (k + 1) l (x ++ (markS (r + k) ++ wordS r a)) := rfl
    rw [e]
    rw [PySem.Str.length_append, PySem.Str.length_append] at ih
    have h1 := markS_len (r + k)
    have h2 := wordS_len r (h a (List.mem_cons_self ..))
    rw [List.length_cons]
    omega
theorem sp_len {x : Str} (h : Ok x) (r : Int) : (spelled (Txt.split x us) r).length ≤ 4096 ∧ (spelled (Txt.split x us) r).length ≠ 0 := by
  cases e : Txt.split x us with
  | nil => have := h.one; rw [e] at this; exact absurd this (by decide)
  | cons a l =>
    have hw : ∀ b ∈ a :: l, b.length ≤ 64 ∧ wordOk b.cps.toList := fun b hb => h.words b (by rw [e]; exact hb)
    have h5 := h.five
    rw [e, List.length_cons] at h5
    have ha := hw a (List.mem_cons_self ..)
    have ht := tailS_len r l 0 (wordS r a) fun b hb => (hw b (List.mem_cons_of_mem _ hb)).1
    have hw1 := wordS_len r ha.1
    have hw0 : 1 ≤ (wordS r a).length := by
      show 1 ≤ (wordS r a).cps.size
      rw [← Array.length_toList, wordS_cps r a (word_len ha.2)]
      unfold ins
      rw [List.length_append, List.length_append, List.length_take, Array.length_toList]
      have := word_len ha.2
      have e2 : a.cps.size = a.length := rfl
      omega
    have hm0 := len_mul1 (x := markS r) (PySem.W.fmod_lo (r.fdiv 32) (n := 2) (by decide)) (PySem.W.fmod_hi (r.fdiv 32) (n := 2) (by decide)) (markS_len r)
    have hm1 := len_mul1 (x := markS (r + 3)) (PySem.W.fmod_lo (r.fdiv 64) (n := 2) (by decide)) (PySem.W.fmod_hi (r.fdiv 64) (n := 2) (by decide)) (markS_len (r + 3))
    have es : spelled (a :: l) r = (Txt.mul (markS r) ((r.fdiv 32).fmod 2) ++ tailS r 0 l (wordS r a)) ++ Txt.mul (markS (r + 3)) ((r.fdiv 64).fmod 2) := rfl
    rw [es, PySem.Str.length_append, PySem.Str.length_append]
    omega
theorem prs_okB : (prs.all fun d => okC d.1.cps.toList && okC d.2.cps.toList) = true := by decide +kernel
theorem ok_pair {d : Str × Str} (h : d ∈ prs) : Ok d.1 ∧ Ok d.2 := by
  have h1 := List.all_eq_true.mp prs_okB d h
  rw [Bool.and_eq_true] at h1
  exact ⟨ok_of h1.1, ok_of h1.2⟩
theorem name_ok {x : Str} (h : x ∈ names) : Ok x := by
  obtain ⟨d, hd, rfl⟩ := List.mem_map.mp h
  exact (ok_pair hd).1
@[irreducible] def valOk (v : Str) : Prop := normS v = v ∧ v.length ≤ 4096
theorem vals_ok (P : Params) : valsAre valOk (ent P).toList := vals_of P fun d hd => by
  have h := (ok_pair hd).2
  unfold valOk
  exact ⟨norm_self h, Nat.le_trans h.len (by decide)⟩
@[irreducible] noncomputable def spelledT (x : Str) (r : Int) : Str := spelled (Txt.split x us) r
theorem norm_fix {x : Str} (h : x ∈ names) : normS x = x := norm_self (name_ok h)
theorem norm_text {x : Str} {r : Int} (h : x ∈ names) : normS (spelledT x r) = x := by unfold spelledT; exact norm_spelled (name_ok h) r
theorem text_len {x : Str} {r : Int} (h : x ∈ names) : (spelledT x r).length ≤ 4096 ∧ (spelledT x r).length ≠ 0 := by unfold spelledT; exact sp_len (name_ok h) r
theorem name_len {x : Str} (h : x ∈ names) : x.length ≤ 4096 := Nat.le_trans (name_ok h).len (by decide)
end Mine
end

section
open PySem PySem.W PyProof.Rows
set_option Elab.async false
set_option maxRecDepth 100000
set_option maxHeartbeats 8000000
namespace Mine
open PySem.Calls
theorem claim_mono {prog : Program} {w : World} {K : Frag} {p : Program} {loose : List Str} {mean : ExcName → Option Value} {mg mb : Str → Option Value} {f : Addr} {news : List (Addr × Obj)} {pre pre' : Prop} {vs : List Value} {R : Tok → Value}
    (H : CbClaim prog w K p loose mean mg mb f news [] pre vs R) (h : pre' → pre) : CbClaim prog w K p loose mean mg mb f news [] pre' vs R :=
  fun dp un gd cn cs a ccd cl outer A₀ base h₀ L m s Q E B F X N T hk hp => H dp un gd cn cs a ccd cl outer A₀ base h₀ L m s Q E B F X N T hk (h hp)
theorem claim_eq {prog : Program} {w : World} {K : Frag} {p : Program} {loose : List Str} {mean : ExcName → Option Value} {mg mb : Str → Option Value} {f : Addr} {news : List (Addr × Obj)} {pre pre' : Prop} {vs : List Value} {x y : Str}
    (H : CbClaim prog w K p loose mean mg mb f news [] pre vs (fun t => .str x t)) (h : pre' → pre ∧ x = y) : CbClaim prog w K p loose mean mg mb f news [] pre' vs (fun t => .str y t) :=
  fun dp un gd cn cs a ccd cl outer A₀ base h₀ L m s Q E B F X N T hk hp hd hu hret => H dp un gd cn cs a ccd cl outer A₀ base h₀ L m s Q E B F X N T hk (h hp).1 hd hu (by
    rw [(h hp).2]; exact hret)
section
variable (w : World) (mean : ExcName → Option Value) (mg mb : Str → Option Value) (news : List (Addr × Obj)) (x : Str) (t u : Tok) (r : Int)
theorem spelled_any : CbClaim PySem.Challenge.rw_in0204_01.row.prog w (hp w.params) vw (looseW vw [Str.ofString "aliases"]) mean mg mb 46 news [] (x ∈ names) [.str x t, .int r u] (fun t => .str (spelledT x r) t) := by
  by_cases hx : x ∈ names
  · have h := name_ok hx
    have e0 : spelledT x r = spelled (Txt.split x us) r := by unfold spelledT; rfl
    cases e : Txt.split x us with
    | nil => have := h.one; rw [e] at this; exact absurd this (by decide)
    | cons a1 l1 =>
      have hw : ∀ b ∈ a1 :: l1, b.length ≤ 64 := fun b hb => (h.words b (by rw [e]; exact hb)).1
      have h5 := h.five
      rw [e] at h5
      rw [e0, e]
      cases l1 with
      | nil => exact claim_mono (spelled_1 w mean mg mb news x a1 t u r) fun _ => ⟨e, h.len, hw _ (by simp)⟩
      | cons a2 l2 => cases l2 with
        | nil => exact claim_mono (spelled_2 w mean mg mb news x a1 a2 t u r) fun _ => ⟨e, h.len, hw _ (by simp), hw _ (by simp)⟩
        | cons a3 l3 => cases l3 with
          | nil => exact claim_mono (spelled_3 w mean mg mb news x a1 a2 a3 t u r) fun _ => ⟨e, h.len, hw _ (by simp), hw _ (by simp), hw _ (by simp)⟩
          | cons a4 l4 => cases l4 with
            | nil => exact claim_mono (spelled_4 w mean mg mb news x a1 a2 a3 a4 t u r) fun _ => ⟨e, h.len, hw _ (by simp), hw _ (by simp), hw _ (by simp), hw _ (by simp)⟩
            | cons a5 l5 => cases l5 with
              | nil => exact claim_mono (spelled_5 w mean mg mb news x a1 a2 a3 a4 a5 t u r) fun _ => ⟨e, h.len, hw _ (by simp), hw _ (by simp), hw _ (by simp), hw _ (by simp), hw _ (by simp)⟩
              | cons a6 l6 => exact absurd h5 (by simp)
  · intro dp un gd cn cs a ccd cl outer A₀ base h₀ L m s Q E B F X N T hk hp
    exact absurd hp hx
theorem norm_a : CbClaim PySem.Challenge.rw_in0204_01.row.prog w (hp w.params) vw (looseW vw [Str.ofString "aliases"]) mean mg mb 21 news [] (x ∈ names) [.str (spelledT x r) t] (fun t => .str x t) :=
  claim_eq (norm_contract w mean mg mb news _ t) fun h => ⟨(text_len h).1, norm_text h⟩
theorem norm_b : CbClaim PySem.Challenge.rw_in0204_01.row.prog w (hp w.params) vw (looseW vw [Str.ofString "aliases"]) mean mg mb 21 news [] (x ∈ names) [.str x t] (fun t => .str x t) :=
  claim_eq (norm_contract w mean mg mb news _ t) fun h => ⟨name_len h, norm_fix h⟩
theorem norm_c : CbClaim PySem.Challenge.rw_in0204_01.row.prog w (hp w.params) vw (looseW vw [Str.ofString "aliases"]) mean mg mb 21 news [] (x ∈ names ∧ Txt.isascii (spelledT x r) = true) [.bytes (octs (spelledT x r)) t] (fun t => .str x t) :=
  claim_eq (normb_contract w mean mg mb news _ t) fun h => ⟨⟨octs_low h.2, (by unfold octs; rw [Array.size_map]; exact (text_len h.1).2), (by unfold octs; rw [Array.size_map]; exact (text_len h.1).1)⟩, (by rw [textOf_octs h.2]; exact norm_text h.1)⟩
theorem norm_d : CbClaim PySem.Challenge.rw_in0204_01.row.prog w (hp w.params) vw (looseW vw [Str.ofString "aliases"]) mean mg mb 21 news [] (valOk x) [.str x t] (fun t => .str x t) :=
  claim_eq (norm_contract w mean mg mb news _ t) fun h => by unfold valOk at h; exact ⟨h.2, h.1⟩
end
local macro_rules | `(tactic| walk_at "call type:list") => `(tactic| (k_here; (with_reducible show wpAny _ _ (call (Value.type "list") [Value.ref 22]) _ _ _); refine' list_keys (K := hp _) ?k0 ?k1 ?k2 ?k3 (ent_at _) (ent_lit _) (ent_names _) names_nodup ?k4 ?k5 ?_; (case k0 => exact rfl); (case k1 => k_asm); (case k2 => k_asm); (case k3 => k_asm); (case k4 => decide); (case k5 => (rw [names_len]; decide)); intro B' c' h' tk' vsN hvsN F' N' l1; (try k_lt l1)))
local macro_rules | `(tactic| walk_at "exec For Name BinOp cons nil") => `(tactic| (k_here; (rename Fr _ _ _ _ => lF'); (with_unfolding_all refine' For_invVF lF' ?k1 ?k2 ?_; (case k1 => exact rfl); (case k2 => exact rfl); k_whole)))
local macro_rules | `(tactic| walk_at "call builtin:len") => `(tactic| (k_here; (with_reducible show wpAny _ _ (call (Value.builtin "len") [Value.ref _]) _ _ _); refine' len_strs ?k1 ?k2 (by assumption) names_lenI (by decide) ?_; (case k1 => k_asm); (case k2 => k_mem); intro t' tk'))
local macro_rules | `(tactic| walk_at "subscriptTail") => `(tactic| (k_here; (with_reducible show wpAny _ _ (subscriptTail _ _ (Value.ref _) (Value.int _ _)) _ _ _); refine' item_strs (ws := names) ?k1 ?k2 (by assumption) ?k3 ?k4 ?k5 ?_; (case k1 => k_asm); (case k2 => k_mem); (case k3 => l_fact); (case k4 => (rw [names_lenI]; l_fact)); (case k5 => l_fact); intro nm' t' hnm'))
local macro_rules | `(tactic| walk_at "own claim") => `(tactic| ((case k1 => k_asm); (case k2 => k_asm); (case k3 => k_asm); (case k4 => k_asm); (case k5 => k_asm); (case kK => first | exact rfl | assumption); (case kd => ktr_room); (case ku => ktr_units); intro t9 h9 tk9 F9 N9; (try dsimp only); (try k_fold)))
local macro_rules | `(tactic| walk_at "subscriptTail") => `(tactic| (k_here; (with_reducible show wpAny _ _ (subscriptTail _ _ (Value.ref 22) (Value.str _ _)) _ _ _); refine' item_table (p := valOk) ?tF ?tX (ent_at _) (ent_lit _) ?tx (vals_ok _) ?_; (case tF => k_asm); (case tX => k_asm); (case tx => (rw [ent_names]; assumption)); intro t' k' hv'))
local macro_rules | `(tactic| k_qdec) => `(tactic| decide +kernel)
theorem said1 : PySem.Challenge.rw_in0204_01.wellSaid = true := by
  unfold PySem.W.OpenLaw.wellSaid PySem.W.OpenRow.wellSaid PySem.W.OpenRow.partSaid PySem.W.looksOpen
  repeat' (with_reducible refine look_both ?_ ?_)
  all_goals decide +kernel
theorem real : PySem.Challenge.rw_in0204_01.Holds := by
  k_with "pyIter ref" => (k_of "number" => k_search (fun _ => True))
  k_with "table" => skip
  k_with "call ref" => (k_here; first
    | ((k_dflt (refine' spelled_any _ _ _ _ _ _ _ _ _ _ _ _ _ _ _ _ _ _ _ _ _ _ _ _ _ _ ?sA1 ?sA2 ?sA3 ?sA4 ?sA5 ?sAK ?sAp ?sAd ?sAu ?sAR)); (case sAp => assumption); (case sA1 => k_asm); (case sA2 => k_asm); (case sA3 => k_asm); (case sA4 => k_asm); (case sA5 => k_asm); (case sAK => first | exact rfl | assumption); (case sAd => ktr_room); (case sAu => ktr_units); intro t9 h9 tk9 F9 N9; (try dsimp only); (try k_fold))
    | ((k_dflt (refine' norm_a _ _ _ _ _ _ _ _ _ _ _ _ _ _ _ _ _ _ _ _ _ _ _ _ _ ?sB1 ?sB2 ?sB3 ?sB4 ?sB5 ?sBK ?sBp ?sBd ?sBu ?sBR)); (case sBp => assumption); (case sB1 => k_asm); (case sB2 => k_asm); (case sB3 => k_asm); (case sB4 => k_asm); (case sB5 => k_asm); (case sBK => first | exact rfl | assumption); (case sBd => ktr_room); (case sBu => ktr_units); intro t9 h9 tk9 F9 N9; (try dsimp only); (try k_fold))
    | ((k_dflt (refine' norm_b _ _ _ _ _ _ _ _ _ _ _ _ _ _ _ _ _ _ _ _ _ _ _ _ ?sC1 ?sC2 ?sC3 ?sC4 ?sC5 ?sCK ?sCp ?sCd ?sCu ?sCR)); (case sCp => assumption); (case sC1 => k_asm); (case sC2 => k_asm); (case sC3 => k_asm); (case sC4 => k_asm); (case sC5 => k_asm); (case sCK => first | exact rfl | assumption); (case sCd => ktr_room); (case sCu => ktr_units); intro t9 h9 tk9 F9 N9; (try dsimp only); (try k_fold))
    | ((k_dflt (refine' norm_c _ _ _ _ _ _ _ _ _ _ _ _ _ _ _ _ _ _ _ _ _ _ _ _ _ ?sD1 ?sD2 ?sD3 ?sD4 ?sD5 ?sDK ?sDp ?sDd ?sDu ?sDR)); (case sDp => exact And.intro (by assumption) (by assumption)); (case sD1 => k_asm); (case sD2 => k_asm); (case sD3 => k_asm); (case sD4 => k_asm); (case sD5 => k_asm); (case sDK => first | exact rfl | assumption); (case sDd => ktr_room); (case sDu => ktr_units); intro t9 h9 tk9 F9 N9; (try dsimp only); (try k_fold))
    | ((k_dflt (refine' norm_d _ _ _ _ _ _ _ _ _ _ _ _ _ _ _ _ _ _ _ _ _ _ _ _ ?sE1 ?sE2 ?sE3 ?sE4 ?sE5 ?sEK ?sEp ?sEd ?sEu ?sER)); (case sEp => assumption); (case sE1 => k_asm); (case sE2 => k_asm); (case sE3 => k_asm); (case sE4 => k_asm); (case sE5 => k_asm); (case sEK => first | exact rfl | assumption); (case sEd => ktr_room); (case sEu => ktr_units); intro t9 h9 tk9 F9 N9; (try dsimp only); (try k_fold))
    | ((k_dflt (refine' norm_d _ _ _ _ _ _ _ _ _ _ _ _ _ _ _ _ _ _ _ _ _ _ _ _ ?sF1 ?sF2 ?sF3 ?sF4 ?sF5 ?sFK ?sFp ?sFd ?sFu ?sFR)); (case sFp => assumption); (case sF1 => k_asm); (case sF2 => k_asm); (case sF3 => k_asm); (case sF4 => k_asm); (case sF5 => k_asm); (case sFK => first | exact rfl | assumption); (case sFd => ktr_room); (case sFu => ktr_units); intro t9 h9 tk9 F9 N9; (try dsimp only); (try k_fold)))
  k_with "getMethod str" => (k_here; (with_reducible show wpAny _ _ (getMethod _ (Str.ofString "encode") _) _ _ _); (with_reducible refine meth_encode ?_))
  k_with "call builtin:str.encode" => (k_here; refine str_encode (by assumption) (Nat.le_trans (text_len (by assumption)).1 (by decide)) ?_; intro tE kE)
  k_with "compareOp NotEq str str" => (k_here; refine ne_same ?_; intro kC)
  w_on; refine holds_law said1 fun said => ?_
  refine holds_open (q := vw) (loose := lo) (Xt := fun s => xlAt vw [] s && recOk (RowW.records PySem.Challenge.rw_in0204_01.row.toRowW) s) (XP := XL vw []) (Yf := Hook.obs (kHook hp has has_eq)) (Ya := Hook.val (kHook hp has has_eq)) (YP := Hook.says (kHook hp has has_eq)) (N := 8000) left (Hook.of (kHook hp has has_eq)) (Hook.keeps (kHook hp has has_eq)) (fun s e => xl_of s (Bool.and_eq_true_iff.mp e).1) XL.keeps (by rfl) (by rfl) (by rfl) (fun s e => recFacts_of (Bool.and_eq_true_iff.mp e).2) (by rfl) (by first | assumption | decide +kernel) (by decide +kernel) ⟨rfl, rfl, rfl, rfl, rfl, by decide +kernel⟩ ?hw ?hc
  case hw => w_witness2
  w_strict (k_go0; (all_goals try k_fold); k_steps)
end Mine
end
theorem PySem.Challenge.cw_in0204_01_holds : PySem.Challenge.rw_in0204_01.Holds := by
  exact Mine.real
