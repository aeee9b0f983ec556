import PyProof.Rows.All
import Wide.All
import OpenK.AllK
import Wide.FinOn
import Lean
import PySem.Challenge.RW_mq0481_01
open PySem PySem.W PyProof.Rows
set_option Elab.async false
section
open PySem PySem.W PyProof.Rows
set_option Elab.async false
namespace Mine
/-- a tree that ends by itself at the foot of the top, with the steps that it takes -/
def Goes (p : Program) (w : World) (n₀ : Nat) (ann : Option Value) (q : Pos) {α : Type} (n : Nat) (x : Sem α) (s : Shared) (a : α) (s' : Shared) : Prop :=
  ∀ (K : α → Sem Fin) (H : Value → Sem Fin) (gd : Bool → Bool) (lv : List Value → List Value) (c : Code) (pos : Pos) (N : Nat) (r : Shared),
    (∀ pos', topRun treeTable p w n₀ ann N s' ⟨K a, c, pos', [topFrame q]⟩ = some r) →
    topRun treeTable p w n₀ ann (n + N) s ⟨x.wrap K H gd lv, c, pos, [topFrame q]⟩ = some r
section
variable {p : Program} {w : World} {n₀ : Nat} {ann : Option Value} {q : Pos} {α β : Type}
theorem run_step {N : Nat} {s s' r : Shared} {t t' : Thread} (h1 : through t = false) (h2 : stepOk n₀ ann t = true)
    (h3 : step (denote treeTable) p w s t = .go s' t') (h : topRun treeTable p w n₀ ann N s' t' = some r) : topRun treeTable p w n₀ ann (N + 1) s t = some r := by
  unfold topRun
  rw [h1, h2, h3]
  exact h
theorem Goes.pure (a : α) (s : Shared) : Goes p w n₀ ann q 0 (pure a : Sem α) s a s := fun K H gd lv c pos N r h => by
  rw [Nat.zero_add]; exact h pos
theorem Goes.bind {x : Sem α} {f : α → Sem β} {s s₁ s₂ : Shared} {a : α} {b : β} {n m : Nat} (hx : Goes p w n₀ ann q n x s a s₁) (hf : Goes p w n₀ ann q m (f a) s₁ b s₂) :
    Goes p w n₀ ann q (n + m) (x >>= f) s b s₂ := fun K H gd lv c pos N r h => by
  rw [Sem.bind_eq_wrap', Sem.wrap_wrap, Nat.add_assoc]
  exact hx _ _ _ _ _ _ _ _ fun pos' => hf K H gd lv c pos' N r h
theorem Goes.holding {x : Sem α} {s s₁ : Shared} {a : α} {n : Nat} (vs : List Value) (hx : Goes p w n₀ ann q n x s a s₁) : Goes p w n₀ ann q n (holding vs x) s a s₁ := by
  unfold PySem.holding
  split
  · exact hx
  · intro K H gd lv c pos N r h
    rw [Sem.keep_eq_wrap, Sem.wrap_wrap]
    exact hx _ _ _ _ _ _ _ _ fun pos' => h pos'
theorem Goes.onRaise {x : Sem α} {s s₁ : Shared} {a : α} {n : Nat} {f : Value → Sem Unit} (hx : Goes p w n₀ ann q n x s a s₁) : Goes p w n₀ ann q n (x.onRaise f) s a s₁ := by
  intro K H gd lv c pos N r h
  rw [Sem.onRaise_eq_wrap, Sem.wrap_wrap]
  exact hx _ _ _ _ _ _ _ _ fun pos' => h pos'
theorem Goes.tryCatch {x : Sem α} {s s₁ : Shared} {a : α} {n : Nat} {f : Value → Sem α} (hx : Goes p w n₀ ann q n x s a s₁) : Goes p w n₀ ann q n (x.tryCatch f) s a s₁ := by
  intro K H gd lv c pos N r h
  rw [Sem.tryCatch_eq_wrap, Sem.wrap_wrap]
  exact hx _ _ _ _ _ _ _ _ fun pos' => h pos'
theorem Goes.rule (t : String) (s : Shared) : Goes p w n₀ ann q 1 (rule t) s () s := fun K H gd lv c pos N r h => by
  rw [Nat.add_comm]
  exact run_step rfl rfl rfl (h pos)
theorem Goes.at (t : Pos) (s : Shared) : Goes p w n₀ ann q 1 (standAt t) s () s := fun K H gd lv c pos N r h => by
  rw [Nat.add_comm]
  exact run_step rfl rfl rfl (h t)
theorem Goes.fresh (s : Shared) : Goes p w n₀ ann q 1 (fresh) s s.toks { s with toks := s.toks + 1 } := fun K H gd lv c pos N r h => by
  rw [Nat.add_comm]
  exact run_step rfl rfl rfl (h pos)
theorem Goes.ask (s : Shared) : Goes p w n₀ ann q 1 (ask) s ⟨p, w.params⟩ s := fun K H gd lv c pos N r h => by
  rw [Nat.add_comm]
  exact run_step rfl rfl rfl (h pos)
theorem Goes.point (s : Shared) : Goes p w n₀ ann q 1 (point) s () s := fun K H gd lv c pos N r h => by
  rw [Nat.add_comm]
  exact run_step rfl rfl rfl (h pos)
theorem Goes.alloc (o : Obj) (s : Shared) : Goes p w n₀ ann q 1 (alloc o) s s.heap.objs.size { s with heap := s.heap.push o } := fun K H gd lv c pos N r h => by
  rw [Nat.add_comm]
  exact run_step rfl rfl rfl (h pos)
theorem Goes.loadPart {a : Addr} {o : Obj} {s : Shared} (part : Option Value) (ho : s.heap.get? a = some o) : Goes p w n₀ ann q 1 (loadPart a part) s o s := fun K H gd lv c pos N r h => by
  rw [Nat.add_comm]
  refine run_step (s' := s) (t' := ⟨K o, c, pos, [topFrame q]⟩) rfl rfl ?_ (h pos)
  obtain ⟨heap, gens, drawn, toks, os⟩ := s
  simp only [PySem.loadPart, Sem.wrap, step]
  rw [show heap.get? a = some o from ho]
theorem Goes.load {a : Addr} {o : Obj} {s : Shared} (ho : s.heap.get? a = some o) : Goes p w n₀ ann q 1 (load a) s o s := Goes.loadPart none ho
theorem Goes.updatePart {a : Addr} {o : Obj} {s : Shared} (part : Option Value) (f : Obj → Obj) (ha : n₀ ≤ a) (ho : s.heap.get? a = some o) :
    Goes p w n₀ ann q 1 (updatePart a part f) s () { s with heap := s.heap.update a f } := fun K H gd lv c pos N r h => by
  rw [Nat.add_comm]
  refine run_step (s' := { s with heap := s.heap.update a f }) (t' := ⟨K (), c, pos, [topFrame q]⟩) rfl ?_ ?_ (h pos)
  · show (true && (Nat.ble n₀ a || a == mainNs || a == cStatics || ann == some (.ref a))) = true
    rw [Nat.ble_eq_true_of_le ha]; rfl
  · obtain ⟨heap, gens, drawn, toks, os⟩ := s
    simp only [PySem.updatePart, Sem.wrap, step]
    rw [if_pos (by rw [show heap.get? a = some o from ho]; rfl)]
/-- a call of a built-in that draws one number and hands it back -/
theorem Goes.call {f : Value} {args : List Value} {id : String} {args' : Args} {v : Tok → Value} (s : Shared)
    (h1 : denote treeTable (.call f ⟨args, []⟩) = .pure (.again (.builtin id args')))
    (h2 : denote treeTable (.builtin id args') = .fresh fun t => .pure (.done (.ret (v t))))
    (h3 : ∀ c pos st, Thread.calm ⟨.pure (.again (.builtin id args')), c, pos, st⟩ = true) :
    Goes p w n₀ ann q 4 (call f args) s (v s.toks) { s with toks := s.toks + 1 } := fun K H gd lv c pos N r h => by
  have e : (PySem.call f args : Sem Value) = .call (.call f ⟨args, []⟩) none false [] (fun r => (match r with | .ok x => Sem.pure x | .error e => .raise e : Sem Flow).bind fun f => match f with | .ret v => Sem.pure v | _ => unsupported "internal:call-without-return-value") := rfl
  rw [e]
  rw [show 4 + N = (((N + 1) + 1) + 1) + 1 by omega]
  obtain ⟨heap, gens, drawn, toks, os⟩ := s
  refine run_step rfl rfl rfl ?_
  rw [h1]
  refine run_step rfl ?_ rfl ?_
  · show ((Thread.calm _) && true) = true
    rw [h3]; rfl
  rw [h2]
  refine run_step rfl rfl rfl ?_
  refine run_step rfl rfl rfl ?_
  exact h _
end
end Mine
end
section
open PySem PySem.W PyProof.Rows
set_option Elab.async false
set_option maxRecDepth 100000
namespace Mine
section
variable {p : Program} {w : World} {n₀ : Nat} {ann : Option Value} {q : Pos} {α β : Type}
theorem Goes.n {x : Sem α} {s s' : Shared} {a : α} {n m : Nat} (h : Goes p w n₀ ann q n x s a s') (e : n = m) : Goes p w n₀ ann q m x s a s' := e ▸ h
theorem special_int (k : Int) (t : Tok) : specialOf (.int k t) "__hash__" = (pure (some (.builtin "int.__hash__")) : Sem (Option Value)) := by
  kernel_rfl
theorem bindSpecial_hash (k : Int) (t : Tok) : bindSpecial (.builtin "int.__hash__") (.int k t) = (pure (.builtin "int.__hash__", [.int k t]) : Sem (Value × List Value)) := by
  kernel_rfl
theorem den_hash1 (k : Int) (t : Tok) : denote treeTable (.call (.builtin "int.__hash__") ⟨[.int k t], []⟩) = .pure (.again (.builtin "int.__hash__" ⟨[.int k t], []⟩)) := by
  kernel_rfl
theorem den_hash2 (k : Int) (t : Tok) : denote treeTable (.builtin "int.__hash__" ⟨[.int k t], []⟩) = .fresh fun t => .pure (.done (.ret (.int (rawHash k) t))) := by
  kernel_rfl
theorem calm_hash (k : Int) (t : Tok) (c : Code) (pos : Pos) (st : List Frame) : Thread.calm ⟨.pure (.again (.builtin "int.__hash__" ⟨[.int k t], []⟩)), c, pos, st⟩ = true := by
  kernel_rfl
theorem goes_bindS (k : Int) (t : Tok) (s : Shared) : Goes p w n₀ ann q 1 (bindSpecialIfBound? (.int k t) "__hash__") s (some (.builtin "int.__hash__", [.int k t])) s := by
  unfold bindSpecialIfBound?
  rw [special_int, pure_bind]
  dsimp only
  rw [bindSpecial_hash]
  refine (Goes.bind (Goes.ask s) (m := 0) ?_).n rfl
  split
  · exact Goes.pure _ _
  · exact Goes.tryCatch (Goes.pure _ _)
theorem goes_hash (k : Int) (t : Tok) (s : Shared) : Goes p w n₀ ann q 5 (pyHash (.int k t)) s (hashInt k) { s with toks := s.toks + 1 } := by
  have hr := rawHash_range k
  show Goes p w n₀ ann q 5 (pyHashByItsType (.int k t)) s (hashInt k) _
  unfold pyHashByItsType
  rw [cRoomFor, if_neg (by exact Bool.false_ne_true), pure_bind, special_int, pure_bind]
  dsimp only
  rw [if_neg (by decide), pure_bind]
  try dsimp only
  rw [if_neg (by decide)]
  try dsimp only
  unfold callSpecialIfBoundUnlessNone?
  refine (Goes.bind (n := 5) (m := 0) (a := some (.int (rawHash k) s.toks)) (s₁ := { s with toks := s.toks + 1 }) (Goes.holding _ ?_) ?_).n rfl
  · refine (Goes.bind (goes_bindS k t s) (m := 4) ?_).n rfl
    dsimp only
    rw [if_neg (by decide)]
    refine (Goes.bind (n := 4) (m := 0) (Goes.call (v := fun u => .int (rawHash k) u) s (den_hash1 k t) (den_hash2 k t) (calm_hash k t)) ?_).n rfl
    exact Goes.pure _ _
  · dsimp only
    unfold pyHashByItsType.reduced
    rw [if_pos (by rw [decide_eq_true hr.1, decide_eq_true hr.2]; rfl)]
    exact Goes.pure _ _
theorem goes_dictEntries {d : Addr} {o : Obj} {es : Array DictEntry} {n : Nat} {s : Shared} (part : Option Value) (ho : s.heap.get? d = some o) (hd : o.data = .dict es n) :
    Goes p w n₀ ann q 1 (dictEntries d part) s es s := by
  unfold dictEntries
  refine (Goes.bind (Goes.loadPart part ho) (m := 0) ?_).n rfl
  rw [hd]
  exact Goes.pure _ _
theorem places_none {es : Array DictEntry} {h : Int} (hk : ∀ e ∈ es, e.hash ≠ h) : placesWithHash es.size (fun i => es[i]?.map (·.hash)) h = [] := by
  unfold placesWithHash
  rw [List.filter_eq_nil_iff]
  intro i hi
  have hi' : i < es.size := by simpa using hi
  simp only [Array.getElem?_eq_getElem hi', Option.map_some, beq_iff_eq, Option.some.injEq]
  exact hk _ (Array.getElem_mem hi')
theorem goes_dictFind {d : Addr} {o : Obj} {es : Array DictEntry} {n : Nat} {s : Shared} {k : Int} {t : Tok} {h : Int} (ho : s.heap.get? d = some o) (hd : o.data = .dict es n) (hk : ∀ e ∈ es, e.hash ≠ h) :
    Goes p w n₀ ann q 1 (dictFind d (.int k t) h) s none s := by
  unfold dictFind
  refine Goes.holding _ ?_
  refine (Goes.bind (goes_dictEntries _ ho hd) (m := 0) ?_).n rfl
  dsimp only
  rw [places_none hk, List.filterMap_nil, if_pos (by rfl)]
  exact Goes.bind (n := 0) (m := 0) (Goes.pure _ _) (Goes.pure _ _)
theorem goes_updateDictKeys {d : Addr} {o : Obj} {es : Array DictEntry} {n : Nat} {s : Shared} (f : Array DictEntry → Array DictEntry) (part : Option Value) (ho : s.heap.get? d = some o) (hd : o.data = .dict es n) (ha : n₀ ≤ d)
    (hz : (f es).size ≤ sizeLine) :
    Goes p w n₀ ann q 3 (updateDictKeys d f part) s () { s with heap := s.heap.update d (Obj.mapDictKeys f) } := by
  unfold updateDictKeys
  refine (Goes.bind (Goes.loadPart part ho) (m := 2) ?_).n rfl
  rw [hd]
  dsimp only
  refine (Goes.bind (Goes.updatePart part _ ha ho) (m := 1) ?_).n rfl
  unfold lookBehind
  refine (Goes.bind (Goes.loadPart part (Heap.get?_update_self _ ho (Obj.isFreed_of_dict (Obj.data_mapDictKeys hd f)))) (m := 0) ?_).n rfl
  rw [Obj.data_mapDictKeys hd f]
  have : (Data.dict (f es) (n + 1)).pastItsLine = none := by
    simp only [Data.pastItsLine]
    rw [if_neg (by omega)]
  rw [this]
  exact Goes.pure _ _
end
end Mine
end
section
open PySem PySem.W PyProof.Rows
set_option Elab.async false
set_option maxRecDepth 100000
namespace Mine
/-- a dict's object -/
abbrev dObj (es : List DictEntry) (n : Nat) : Obj := { cls := .type "dict", data := .dict es.toArray n }
/-- a heap with more objects behind it -/
def hp (h : Heap) (l : List Obj) : Heap := ⟨h.objs ++ l.toArray, h.life⟩
theorem hp_push (h : Heap) (l : List Obj) (o : Obj) : (hp h l).push o = hp h (l ++ [o]) := by
  simp [hp, Heap.push]
theorem hp_size (h : Heap) (l : List Obj) : (hp h l).objs.size = h.objs.size + l.length := by
  simp [hp]
theorem hp_get {h : Heap} {a b : List Obj} {o : Obj} (ho : o.isFreed = false) : (hp h (a ++ o :: b)).get? (h.objs.size + a.length) = some o := by
  refine Heap.get?_some_iff.mpr ⟨?_, ho⟩
  simp only [hp]
  rw [Array.getElem?_append_right (by omega)]
  simp
theorem hp_update {h : Heap} {a b : List Obj} {o : Obj} (f : Obj → Obj) : (hp h (a ++ o :: b)).update (h.objs.size + a.length) f = hp h (a ++ f o :: b) := by
  have : (hp h (a ++ o :: b)).objs.modify (h.objs.size + a.length) f = (hp h (a ++ f o :: b)).objs := by
    apply Array.ext_getElem?
    intro i
    rw [Array.getElem?_modify]
    simp only [hp]
    by_cases hi : h.objs.size + a.length = i
    · subst hi
      rw [if_pos rfl, Array.getElem?_append_right (by omega), Array.getElem?_append_right (by omega)]
      simp
    · rw [if_neg hi]
      by_cases hl : i < h.objs.size
      · rw [Array.getElem?_append_left hl, Array.getElem?_append_left hl]
      · rw [Array.getElem?_append_right (by omega), Array.getElem?_append_right (by omega)]
        simp only [List.getElem?_toArray]
        by_cases hj : i - h.objs.size < a.length
        · rw [List.getElem?_append_left hj, List.getElem?_append_left hj]
        · rw [List.getElem?_append_right (by omega), List.getElem?_append_right (by omega)]
          obtain ⟨k, hk⟩ : ∃ k, i - h.objs.size - a.length = k + 1 := ⟨i - h.objs.size - a.length - 1, by omega⟩
          rw [hk]; rfl
  exact congrArg (Heap.mk · h.life) this
/-- rising keys from b on, all of them below the hash's modulus -/
def Rising : Int → List (Int × Str) → Prop
  | _, [] => True
  | b, (k, _) :: r => b ≤ k ∧ k < 2 ^ 60 ∧ Rising (k + 1) r
def rising : Int → List (Int × Str) → Bool
  | _, [] => true
  | b, (k, _) :: r => decide (b ≤ k) && decide (k < 2 ^ 60) && rising (k + 1) r
theorem rising_iff : ∀ {l : List (Int × Str)} {b : Int}, rising b l = true → Rising b l
  | [], _, _ => trivial
  | (k, _) :: r, b, h => by
    simp only [rising, Bool.and_eq_true, decide_eq_true_eq] at h
    exact ⟨h.1.1, h.1.2, rising_iff h.2⟩
theorem hashInt_small {k : Int} (h0 : 0 ≤ k) (h1 : k < 2 ^ 60) : hashInt k = k := by
  have e : rawHash k = k := by
    simp only [rawHash]
    have e1 : ((k.natAbs : Int) % ((2 ^ 61 - 1 : Nat) : Int)) = k := by
      rw [Int.emod_eq_of_lt (by omega) (by omega)]; omega
    rw [if_neg (by omega : ¬ k < 0), e1]
    have : (k == -1) = false := by simp; omega
    rw [this]; rfl
  unfold hashInt
  rw [e]
  have : (k == -1) = false := by simp; omega
  rw [this]; rfl
def ents : Nat → List (Int × Str) → List DictEntry
  | _, [] => []
  | t, (k, v) :: r => ⟨hashInt k, .int k t, .str v (t + 1)⟩ :: ents (t + 3) r
def ents2 : Nat → List (Int × Str) → List DictEntry
  | _, [] => []
  | t, (k, v) :: r => ⟨hashInt k, .int k t, .str v (t + 1)⟩ :: ents2 (t + 2) r
theorem ents_length : ∀ (l : List (Int × Str)) (t : Nat), (ents t l).length = l.length
  | [], _ => rfl
  | (_, _) :: r, t => by simp [ents, ents_length r]
theorem ents2_length : ∀ (l : List (Int × Str)) (t : Nat), (ents2 t l).length = l.length
  | [], _ => rfl
  | (_, _) :: r, t => by simp [ents2, ents2_length r]
/-- entries with rising hashes from b on -/
def EUp : Int → List DictEntry → Prop
  | _, [] => True
  | b, e :: r => b ≤ e.hash ∧ (∃ k t, e.key = .int k t) ∧ EUp (e.hash + 1) r
theorem ents_up : ∀ {l : List (Int × Str)} {b : Int} {t : Nat}, 0 ≤ b → Rising b l → EUp b (ents t l)
  | [], _, _, _, _ => trivial
  | (k, v) :: r, b, t, h0, h => by
    obtain ⟨h1, h2, h3⟩ := h
    have e := hashInt_small (show 0 ≤ k by omega) h2
    refine ⟨?_, ⟨k, t, rfl⟩, ?_⟩
    · show b ≤ hashInt k; rw [e]; exact h1
    · show EUp (hashInt k + 1) _; rw [e]; exact ents_up (by omega) h3
theorem ents2_up : ∀ {l : List (Int × Str)} {b : Int} {t : Nat}, 0 ≤ b → Rising b l → EUp b (ents2 t l)
  | [], _, _, _, _ => trivial
  | (k, v) :: r, b, t, h0, h => by
    obtain ⟨h1, h2, h3⟩ := h
    have e := hashInt_small (show 0 ≤ k by omega) h2
    refine ⟨?_, ⟨k, t, rfl⟩, ?_⟩
    · show b ≤ hashInt k; rw [e]; exact h1
    · show EUp (hashInt k + 1) _; rw [e]; exact ents2_up (by omega) h3
section
variable {p : Program} {w : World} {n₀ : Nat} {ann : Option Value} {q : Pos} {α β : Type}
/-- a tree that writes an int's or a text's constant -/
def PairOk (p : Program) (w : World) (n₀ : Nat) (ann : Option Value) (q : Pos) (x : Sem Value × Sem Value) (i : Int × Str) : Prop :=
  (∀ s, Goes p w n₀ ann q 1 x.1 s (.int i.1 s.toks) { s with toks := s.toks + 1 }) ∧ (∀ s, Goes p w n₀ ann q 2 x.2 s (.str i.2 s.toks) { s with toks := s.toks + 1 })
theorem goes_dictSetHashed {d : Addr} {o : Obj} {es : Array DictEntry} {n : Nat} {s : Shared} {k : Int} {t : Tok} {h : Int} {v : Value} (ho : s.heap.get? d = some o) (hd : o.data = .dict es n) (hk : ∀ e ∈ es, e.hash ≠ h) (ha : n₀ ≤ d)
    (hz : es.size < sizeLine) : Goes p w n₀ ann q 5 (dictSetHashed d (.int k t) h v) s () { s with heap := s.heap.update d (Obj.mapDictKeys (·.push ⟨h, .int k t, v⟩)) } := by
  unfold dictSetHashed
  refine Goes.holding _ ?_
  refine (Goes.bind (goes_dictFind ho hd hk) (m := 4) ?_).n rfl
  dsimp only
  refine (Goes.bind (Goes.rule _ _) (m := 3) ?_).n rfl
  exact goes_updateDictKeys _ _ ho hd ha (by rw [Array.size_push]; omega)
theorem goes_dictSet {d : Addr} {o : Obj} {es : Array DictEntry} {n : Nat} {s : Shared} {k : Int} {t : Tok} {v : Value} (ho : s.heap.get? d = some o) (hd : o.data = .dict es n) (hk : ∀ e ∈ es, e.hash ≠ hashInt k) (ha : n₀ ≤ d)
    (hz : es.size < sizeLine) : Goes p w n₀ ann q 10 (dictSet d (.int k t) v) s () { s with heap := s.heap.update d (Obj.mapDictKeys (·.push ⟨hashInt k, .int k t, v⟩)), toks := s.toks + 1 } := by
  unfold dictSet
  refine Goes.holding _ ?_
  refine (Goes.bind (goes_hash k t s) (m := 5) ?_).n rfl
  exact goes_dictSetHashed (s := { s with toks := s.toks + 1 }) ho hd hk ha hz
end
end Mine
end
section
open PySem PySem.W PyProof.Rows
set_option Elab.async false
set_option maxRecDepth 100000
namespace Mine
section
variable {p : Program} {w : World} {n₀ : Nat} {ann : Option Value} {q : Pos} {α β : Type}
theorem hp_get' {h : Heap} {a b : List Obj} {o : Obj} {d : Addr} (hd : d = h.objs.size + a.length) (ho : o.isFreed = false) : (hp h (a ++ o :: b)).get? d = some o := hd ▸ hp_get ho
theorem hp_update' {h : Heap} {a b : List Obj} {o : Obj} {d : Addr} (f : Obj → Obj) (hd : d = h.objs.size + a.length) : (hp h (a ++ o :: b)).update d f = hp h (a ++ f o :: b) := hd ▸ hp_update f
theorem Goes.s {x : Sem α} {s s' s'' : Shared} {a : α} {n : Nat} (h : Goes p w n₀ ann q n x s a s') (e : s' = s'') : Goes p w n₀ ann q n x s a s'' := e ▸ h
inductive All2 {α β : Type} (R : α → β → Prop) : List α → List β → Prop
  | nil : All2 R [] []
  | cons {a b l m} : R a b → All2 R l m → All2 R (a :: l) (b :: m)
/-- the loop of a long display -/
theorem goes_fill {h : Heap} {d : Addr} (ha : n₀ ≤ d) (a : List Obj) (hda : d = h.objs.size + a.length) (s : Shared) : ∀ {pairs : List (Sem Value × Sem Value)} {items : List (Int × Str)} {acc : List DictEntry} {n t : Nat} {b : Int},
    All2 (PairOk p w n₀ ann q) pairs items → 0 ≤ b → (∀ e ∈ acc, e.hash < b) → Rising b items → acc.length + items.length ≤ 100000 →
    Goes p w n₀ ann q (13 * items.length) (forIn pairs PUnit.unit fun (x : Sem Value × Sem Value) (_ : PUnit) => (do
        let kv ← x.1
        let vv ← holding [kv] x.2
        holding [kv, vv] (dictSet d kv vv)
        pure (ForInStep.yield PUnit.unit) : Sem (ForInStep PUnit))) { s with heap := hp h (a ++ [dObj acc n]), toks := t } PUnit.unit
      { s with heap := hp h (a ++ [dObj (acc ++ ents t items) (n + items.length)]), toks := t + 3 * items.length }
  | _, _, acc, n, t, b, .nil, _, _, _, _ => by
    rw [List.forIn_nil]
    simp only [ents, List.append_nil, List.length_nil, Nat.mul_zero, Nat.add_zero]
    exact Goes.pure _ _
  | _, (k, v) :: items, acc, n, t, b, .cons (a := x) (l := pairs) hx hr, h0, hacc, hup, hz => by
    obtain ⟨u1, u2, u3⟩ := hup
    have e := hashInt_small (show 0 ≤ k by omega) u2
    rw [List.forIn_cons]
    rw [List.length_cons] at hz
    refine (Goes.bind (n := 13) (m := 13 * items.length) (a := ForInStep.yield PUnit.unit)
      (s₁ := { s with heap := hp h (a ++ [dObj (acc ++ [⟨hashInt k, .int k t, .str v (t + 1)⟩]) (n + 1)]), toks := t + 3 }) ?_ ?_).n (by rw [List.length_cons]; omega)
    · have hset : Goes p w n₀ ann q 10 (dictSet d (.int k t) (.str v (t + 1))) { s with heap := hp h (a ++ [dObj acc n]), toks := t + 2 } ()
          { s with heap := hp h (a ++ [dObj (acc ++ [⟨hashInt k, .int k t, .str v (t + 1)⟩]) (n + 1)]), toks := t + 3 } := by
        refine (goes_dictSet (s := { s with heap := hp h (a ++ [dObj acc n]), toks := t + 2 }) (o := dObj acc n) (es := acc.toArray) (n := n) (hp_get' hda rfl) rfl (fun z hz' => ?_) ha ?_).s ?_
        · have := hacc z (by simpa using hz')
          rw [e]; omega
        · have : sizeLine = 16777216 := rfl
          simp only [List.size_toArray]; omega
        · show Shared.mk ((hp h (a ++ [dObj acc n])).update d _) _ _ _ _ = _
          rw [hp_update' _ hda]
          have : Obj.mapDictKeys (·.push ⟨hashInt k, .int k t, .str v (t + 1)⟩) (dObj acc n) = dObj (acc ++ [⟨hashInt k, .int k t, .str v (t + 1)⟩]) (n + 1) := by
            simp [Obj.mapDictKeys, dObj]
          rw [← this]
      refine (Goes.bind (n := 1) (m := 12) (hx.1 _) ?_).n rfl
      refine (Goes.bind (n := 2) (m := 10) (Goes.holding _ (hx.2 _)) ?_).n rfl
      refine (Goes.bind (n := 10) (m := 0) (Goes.holding _ hset) ?_).n rfl
      exact Goes.pure _ _
    · have := goes_fill ha a hda s (acc := acc ++ [⟨hashInt k, .int k t, .str v (t + 1)⟩]) (n := n + 1) (t := t + 3) (b := k + 1) hr (by omega) (fun z hz' => by
        rcases List.mem_append.mp hz' with q | q
        · have := hacc z q; omega
        · rw [List.mem_singleton.mp q]; show hashInt k < k + 1; rw [e]; omega) u3 (by rw [List.length_append, List.length_singleton]; omega)
      simp only [ents, List.length_cons]
      rw [show acc ++ ⟨hashInt k, .int k t, .str v (t + 1)⟩ :: ents (t + 3) items = acc ++ [⟨hashInt k, .int k t, .str v (t + 1)⟩] ++ ents (t + 3) items by simp,
        show n + (items.length + 1) = n + 1 + items.length by omega, show t + 3 * (items.length + 1) = t + 3 + 3 * items.length by omega]
      exact this
theorem goes_subDict {h : Heap} {a : List Obj} {s : Shared} {t : Nat} {pairs : List (Sem Value × Sem Value)} {items : List (Int × Str)} {b : Int} (ha : n₀ ≤ h.objs.size)
    (hp' : All2 (PairOk p w n₀ ann q) pairs items) (hl : ¬ pairs.length ≤ 15) (hl2 : items.length ≤ 1000) (h0 : 0 ≤ b) (hup : Rising b items) :
    Goes p w n₀ ann q (2 + 13 * items.length) (subDict pairs) { s with heap := hp h a, toks := t } (h.objs.size + a.length)
      { s with heap := hp h (a ++ [dObj (ents t items) items.length]), toks := t + 3 * items.length } := by
  unfold subDict
  refine (Goes.bind (n := 1) (m := 1 + 13 * items.length) (Goes.alloc _ _) ?_).n (by omega)
  dsimp only
  rw [hp_push, hp_size]
  refine (Goes.bind (n := 1 + 13 * items.length) (m := 0) (a := PUnit.unit) (s₁ := { s with heap := hp h (a ++ [dObj (ents t items) items.length]), toks := t + 3 * items.length }) (Goes.holding _ ?_) ?_).n rfl
  case refine_2 => exact Goes.pure _ _
  rw [if_neg hl]
  refine Goes.bind (Goes.rule _ _) ?_
  refine (Goes.bind (n := 13 * items.length) (m := 0) (a := PUnit.unit) (s₁ := { s with heap := hp h (a ++ [dObj (ents t items) items.length]), toks := t + 3 * items.length }) ?_ ?_).n rfl
  case refine_2 => exact Goes.pure _ _
  have := goes_fill (p := p) (w := w) (ann := ann) (q := q) (d := h.objs.size + a.length) (show n₀ ≤ h.objs.size + a.length by omega) a rfl s (acc := []) (n := 0) (t := t) (b := b) hp' h0 (fun e he => nomatch he) hup (by rw [List.length_nil]; omega)
  rw [List.nil_append, Nat.zero_add] at this
  exact this
end
end Mine
end
section
open PySem PySem.W PyProof.Rows
set_option Elab.async false
set_option maxRecDepth 100000
namespace Mine
section
variable {p : Program} {w : World} {n₀ : Nat} {ann : Option Value} {q : Pos} {α β : Type}
def vals : Nat → List (Int × Str) → List (Value × Value)
  | _, [] => []
  | t, (k, v) :: r => (.int k t, .str v (t + 1)) :: vals (t + 2) r
theorem vals_length : ∀ (l : List (Int × Str)) (t : Nat), (vals t l).length = l.length
  | [], _ => rfl
  | (_, _) :: r, t => by simp [vals, vals_length r]
theorem goes_evalPairs (s : Shared) : ∀ {pairs : List (Sem Value × Sem Value)} {items : List (Int × Str)} {t : Nat}, All2 (PairOk p w n₀ ann q) pairs items →
    Goes p w n₀ ann q (3 * items.length) (evalPairs pairs) { s with toks := t } (vals t items) { s with toks := t + 2 * items.length }
  | _, _, t, .nil => Goes.pure _ _
  | _, (k, v) :: items, t, .cons (a := x) (l := pairs) hx hr => by
    have ih := goes_evalPairs s (t := t + 2) hr
    rw [evalPairs]
    refine (Goes.bind (n := 1) (m := 2 + 3 * items.length) (hx.1 _) ?_).n (by rw [List.length_cons]; omega)
    refine Goes.bind (n := 2) (Goes.holding _ (hx.2 _)) ?_
    refine (Goes.bind (n := 3 * items.length) (m := 0) (Goes.holding _ ih) ?_).n rfl
    refine (Goes.pure _ _).s ?_
    rw [List.length_cons, show t + 2 * (items.length + 1) = t + 2 + 2 * items.length by omega]
theorem goes_fill2 {h : Heap} {d : Addr} (ha : n₀ ≤ d) (a : List Obj) (hda : d = h.objs.size + a.length) (s : Shared) : ∀ {items : List (Int × Str)} {acc : List DictEntry} {n t u : Nat} {b : Int},
    0 ≤ b → (∀ e ∈ acc, e.hash < b) → Rising b items → acc.length + items.length ≤ 100000 →
    Goes p w n₀ ann q (10 * items.length) (forIn (vals t items) PUnit.unit fun (x : Value × Value) (_ : PUnit) => (do
        dictSet d x.1 x.2
        pure (ForInStep.yield PUnit.unit) : Sem (ForInStep PUnit))) { s with heap := hp h (a ++ [dObj acc n]), toks := u } PUnit.unit
      { s with heap := hp h (a ++ [dObj (acc ++ ents2 t items) (n + items.length)]), toks := u + items.length }
  | [], acc, n, t, u, b, _, _, _, _ => by
    rw [vals, List.forIn_nil]
    simp only [ents2, List.append_nil, List.length_nil, Nat.mul_zero, Nat.add_zero]
    exact Goes.pure _ _
  | (k, v) :: items, acc, n, t, u, b, h0, hacc, hup, hz => by
    obtain ⟨u1, u2, u3⟩ := hup
    have e := hashInt_small (show 0 ≤ k by omega) u2
    rw [vals, List.forIn_cons]
    rw [List.length_cons] at hz
    refine (Goes.bind (n := 10) (m := 10 * items.length) (a := ForInStep.yield PUnit.unit)
      (s₁ := { s with heap := hp h (a ++ [dObj (acc ++ [⟨hashInt k, .int k t, .str v (t + 1)⟩]) (n + 1)]), toks := u + 1 }) ?_ ?_).n (by rw [List.length_cons]; omega)
    · have hset : Goes p w n₀ ann q 10 (dictSet d (.int k t) (.str v (t + 1))) { s with heap := hp h (a ++ [dObj acc n]), toks := u } ()
          { s with heap := hp h (a ++ [dObj (acc ++ [⟨hashInt k, .int k t, .str v (t + 1)⟩]) (n + 1)]), toks := u + 1 } := by
        refine (goes_dictSet (s := { s with heap := hp h (a ++ [dObj acc n]), toks := u }) (o := dObj acc n) (es := acc.toArray) (n := n) (hp_get' hda rfl) rfl (fun z hz' => ?_) ha ?_).s ?_
        · have := hacc z (by simpa using hz')
          rw [e]; omega
        · have : sizeLine = 16777216 := rfl
          simp only [List.size_toArray]; omega
        · show Shared.mk ((hp h (a ++ [dObj acc n])).update d _) _ _ _ _ = _
          rw [hp_update' _ hda]
          have : Obj.mapDictKeys (·.push ⟨hashInt k, .int k t, .str v (t + 1)⟩) (dObj acc n) = dObj (acc ++ [⟨hashInt k, .int k t, .str v (t + 1)⟩]) (n + 1) := by
            simp [Obj.mapDictKeys, dObj]
          rw [← this]
      refine (Goes.bind (n := 10) (m := 0) hset ?_).n rfl
      exact Goes.pure _ _
    · have := goes_fill2 ha a hda s (items := items) (acc := acc ++ [⟨hashInt k, .int k t, .str v (t + 1)⟩]) (n := n + 1) (t := t + 2) (u := u + 1) (b := k + 1) (by omega) (fun z hz' => by
        rcases List.mem_append.mp hz' with q | q
        · have := hacc z q; omega
        · rw [List.mem_singleton.mp q]; show hashInt k < k + 1; rw [e]; omega) u3 (by rw [List.length_append, List.length_singleton]; omega)
      simp only [ents2, List.length_cons]
      rw [show acc ++ ⟨hashInt k, .int k t, .str v (t + 1)⟩ :: ents2 (t + 2) items = acc ++ [⟨hashInt k, .int k t, .str v (t + 1)⟩] ++ ents2 (t + 2) items by simp,
        show n + (items.length + 1) = n + 1 + items.length by omega, show u + (items.length + 1) = u + 1 + items.length by omega]
      exact this
theorem goes_subDict2 {h : Heap} {a : List Obj} {s : Shared} {t : Nat} {pairs : List (Sem Value × Sem Value)} {items : List (Int × Str)} {b : Int} (ha : n₀ ≤ h.objs.size)
    (hp' : All2 (PairOk p w n₀ ann q) pairs items) (hl : pairs.length ≤ 15) (hl2 : items.length ≤ 1000) (h0 : 0 ≤ b) (hup : Rising b items) :
    Goes p w n₀ ann q (1 + 13 * items.length) (subDict pairs) { s with heap := hp h a, toks := t } (h.objs.size + a.length)
      { s with heap := hp h (a ++ [dObj (ents2 t items) items.length]), toks := t + 3 * items.length } := by
  unfold subDict
  refine (Goes.bind (n := 1) (m := 13 * items.length) (Goes.alloc _ _) ?_).n (by omega)
  dsimp only
  rw [hp_push, hp_size]
  refine (Goes.bind (n := 13 * items.length) (m := 0) (a := PUnit.unit) (s₁ := { s with heap := hp h (a ++ [dObj (ents2 t items) items.length]), toks := t + 3 * items.length }) (Goes.holding _ ?_) ?_).n rfl
  case refine_2 => exact Goes.pure _ _
  rw [if_pos hl]
  refine (Goes.bind (n := 3 * items.length) (m := 10 * items.length) (goes_evalPairs { s with heap := hp h (a ++ [dObj [] 0]) } (t := t) hp') ?_).n (by omega)
  refine Goes.holding _ ?_
  have := goes_fill2 (p := p) (w := w) (ann := ann) (q := q) (d := h.objs.size + a.length) (show n₀ ≤ h.objs.size + a.length by omega) a rfl s (items := items) (acc := []) (n := 0) (t := t) (u := t + 2 * items.length) (b := b) h0 (fun e he => nomatch he) hup (by rw [List.length_nil]; omega)
  rw [List.nil_append, Nat.zero_add, show t + 2 * items.length + items.length = t + 3 * items.length by omega] at this
  refine (Goes.bind (n := 10 * items.length) (m := 0) this ?_).n rfl
  exact Goes.pure _ _
theorem subtype_dict : isSubtype (.type "dict") (.type "dict") = (pure true : Sem Bool) := by kernel_rfl
theorem lookup_dict_iter : typeLookup (.type "dict") "__iter__" = (pure (some (.builtin "dict.__iter__")) : Sem (Option Value)) := by kernel_rfl
theorem goes_dictPut {d : Addr} {o : Obj} {es : Array DictEntry} {n : Nat} {s : Shared} {k : Int} {t : Tok} {h : Int} {v : Value} (ho : s.heap.get? d = some o) (hd : o.data = .dict es n) (hk : ∀ e ∈ es, e.hash ≠ h) (ha : n₀ ≤ d)
    (hz : es.size < sizeLine) : Goes p w n₀ ann q 4 (dictPut d h (.int k t) v) s () { s with heap := s.heap.update d (Obj.mapDictKeys (·.push ⟨h, .int k t, v⟩)) } := by
  unfold dictPut
  refine (Goes.bind (goes_dictFind ho hd hk) (m := 3) ?_).n rfl
  dsimp only
  exact goes_updateDictKeys _ _ ho hd ha (by rw [Array.size_push]; omega)
theorem goes_dictEpoch {d : Addr} {o : Obj} {es : Array DictEntry} {n : Nat} {s : Shared} (part : Option Value) (ho : s.heap.get? d = some o) (hd : o.data = .dict es n) :
    Goes p w n₀ ann q 1 (dictEpoch d part) s n s := by
  unfold dictEpoch
  refine (Goes.bind (Goes.loadPart part ho) (m := 0) ?_).n rfl
  rw [hd]
  exact Goes.pure _ _
end
end Mine
end
section
open PySem PySem.W PyProof.Rows
set_option Elab.async false
set_option maxRecDepth 100000
namespace Mine
section
variable {p : Program} {w : World} {n₀ : Nat} {ann : Option Value} {q : Pos} {α β : Type}
theorem ne1 {a d x y : Nat} (h1 : d = x) (h2 : a = x + (y + 1)) (h3 : 1 ≤ d) : a ≠ 1 := by omega
theorem goes_isInstance {a : Addr} {o : Obj} {s : Shared} (ho : s.heap.get? a = some o) (hc : o.cls = .type "dict") : Goes p w n₀ ann q 1 (isInstance (.ref a) (.type "dict")) s true s := by
  unfold isInstance
  refine (Goes.bind (n := 1) (m := 0) (a := .type "dict") (s₁ := s) ?_ ?_).n rfl
  · show Goes p w n₀ ann q 1 (loadPart a (some headPart) >>= fun o => pure o.cls) s _ s
    refine (Goes.bind (Goes.loadPart _ ho) (m := 0) ?_).n rfl
    rw [hc]
    exact Goes.pure _ _
  · rw [subtype_dict]; exact Goes.pure _ _
theorem goes_special {a : Addr} {o : Obj} {s : Shared} (ho : s.heap.get? a = some o) (hc : o.cls = .type "dict") : Goes p w n₀ ann q 1 (specialOf (.ref a) "__iter__") s (some (.builtin "dict.__iter__")) s := by
  unfold specialOf
  refine (Goes.bind (n := 1) (m := 0) (a := .type "dict") (s₁ := s) ?_ ?_).n rfl
  · show Goes p w n₀ ann q 1 (loadPart a (some headPart) >>= fun o => pure o.cls) s _ s
    refine (Goes.bind (Goes.loadPart _ ho) (m := 0) ?_).n rfl
    rw [hc]
    exact Goes.pure _ _
  · rw [lookup_dict_iter]; exact Goes.pure _ _
theorem goes_mergeLoop {h : Heap} {d a : Addr} (ha : n₀ ≤ d) (hd : d = h.objs.size) (M : List DictEntry) (n : Nat) (subs : List Obj) (E : List DictEntry) (nE : Nat) (haa : a = h.objs.size + (subs.length + 1)) (s : Shared) (hzM : M.length + E.length ≤ 100000)
    (f : Nat → PUnit → Sem (ForInStep PUnit))
    (hf : ∀ i (s₁ s₂ : Shared) e, E[i]? = some e → s₁.heap.get? a = some (dObj E nE) → s₂.heap.get? a = some (dObj E nE) → Goes p w n₀ ann q 4 (dictPut d e.hash e.key e.val) s₁ () s₂ → Goes p w n₀ ann q 6 (f i PUnit.unit) s₁ (.yield PUnit.unit) s₂) :
    ∀ (rest done : List DictEntry) (b : Int), E = done ++ rest → EUp b rest → (∀ e ∈ M ++ done, e.hash < b) →
    Goes p w n₀ ann q (6 * rest.length) (forIn (List.range' done.length rest.length) PUnit.unit f)
      { s with heap := hp h (dObj (M ++ done) (n + done.length) :: (subs ++ [dObj E nE])) } PUnit.unit
      { s with heap := hp h (dObj (M ++ E) (n + E.length) :: (subs ++ [dObj E nE])) }
  | [], done, b, hE, _, _ => by
    rw [List.append_nil] at hE
    subst hE
    simp only [List.length_nil, List.range'_zero, List.forIn_nil]
    exact Goes.pure _ _
  | e :: rest, done, b, hE, hup, hlt => by
    obtain ⟨u1, ⟨k, t, hk⟩, u3⟩ := hup
    rw [List.length_cons, List.range'_succ, List.forIn_cons]
    have get2 : ∀ (o : Obj), (hp h (o :: (subs ++ [dObj E nE]))).get? a = some (dObj E nE) := fun o => by
      have := hp_get' (h := h) (a := o :: subs) (b := []) (o := dObj E nE) (d := a) (by rw [haa, List.length_cons]) rfl
      simpa using this
    have hlen : E.length = done.length + (rest.length + 1) := by rw [hE, List.length_append, List.length_cons]
    refine (Goes.bind (n := 6) (m := 6 * rest.length) (a := ForInStep.yield PUnit.unit)
      (s₁ := { s with heap := hp h (dObj (M ++ (done ++ [e])) (n + (done ++ [e]).length) :: (subs ++ [dObj E nE])) }) ?_ ?_).n (by omega)
    · refine hf done.length _ _ e (by rw [hE]; simp) (get2 _) (get2 _) ?_
      rw [hk]
      refine (goes_dictPut (s := { s with heap := hp h (dObj (M ++ done) (n + done.length) :: (subs ++ [dObj E nE])) }) (o := dObj (M ++ done) (n + done.length)) (es := (M ++ done).toArray) (n := n + done.length) ?_ rfl (fun z hz' => ?_) ha ?_).s ?_
      · exact hp_get' (a := []) (by rw [hd]; rfl) rfl
      · have := hlt z (by simpa using hz'); omega
      · have : sizeLine = 16777216 := rfl
        simp only [List.size_toArray, List.length_append]; omega
      · show Shared.mk ((hp h (dObj (M ++ done) (n + done.length) :: (subs ++ [dObj E nE]))).update d _) _ _ _ _ = _
        have := hp_update' (h := h) (a := []) (b := subs ++ [dObj E nE]) (o := dObj (M ++ done) (n + done.length)) (d := d) (Obj.mapDictKeys (·.push ⟨e.hash, .int k t, e.val⟩)) (by rw [hd]; rfl)
        rw [List.nil_append] at this
        rw [this, List.nil_append]
        have : Obj.mapDictKeys (·.push ⟨e.hash, .int k t, e.val⟩) (dObj (M ++ done) (n + done.length)) = dObj (M ++ (done ++ [e])) (n + (done ++ [e]).length) := by
          rw [← hk]
          simp [Obj.mapDictKeys, dObj, Nat.add_assoc]
        rw [← this]
    · have := goes_mergeLoop ha hd M n subs E nE haa s hzM f hf rest (done ++ [e]) (e.hash + 1) (by rw [hE]; simp) u3 (fun z hz' => by
        rw [← List.append_assoc] at hz'
        rcases List.mem_append.mp hz' with q | q
        · have := hlt z q; omega
        · rw [List.mem_singleton.mp q]; omega)
      rw [List.length_append, List.length_singleton] at this ⊢
      exact this
theorem goes_merge {h : Heap} {d a : Addr} (ha : n₀ ≤ d) (hd : d = h.objs.size) (M : List DictEntry) (n : Nat) (subs : List Obj) (E : List DictEntry) (nE : Nat) (haa : a = h.objs.size + (subs.length + 1)) (s : Shared) (hzM : M.length + E.length ≤ 100000)
    (hM : M ≠ []) (hd1 : 1 ≤ d) {b : Int} (hup : EUp b E) (hlt : ∀ e ∈ M, e.hash < b) :
    Goes p w n₀ ann q (5 + 6 * E.length) (mergeMapping d (.ref a) false)
      { s with heap := hp h (dObj M n :: (subs ++ [dObj E nE])) } ()
      { s with heap := hp h (dObj (M ++ E) (n + E.length) :: (subs ++ [dObj E nE])) } := by
  have get2 : ∀ (o : Obj), (hp h (o :: (subs ++ [dObj E nE]))).get? a = some (dObj E nE) := fun o => by
    have := hp_get' (h := h) (a := o :: subs) (b := []) (o := dObj E nE) (d := a) (by rw [haa, List.length_cons]) rfl
    simpa using this
  have get1 : (hp h (dObj M n :: (subs ++ [dObj E nE]))).get? d = some (dObj M n) := hp_get' (a := []) (by rw [hd]; rfl) rfl
  have S2 : ∀ (o : Obj), Shared.heap { s with heap := hp h (o :: (subs ++ [dObj E nE])) } = hp h (o :: (subs ++ [dObj E nE])) := fun _ => rfl
  have gI : Goes p w n₀ ann q 1 (isInstance (.ref a) (.type "dict")) { s with heap := hp h (dObj M n :: (subs ++ [dObj E nE])) } true { s with heap := hp h (dObj M n :: (subs ++ [dObj E nE])) } := goes_isInstance (o := dObj E nE) (get2 _) rfl
  have gS : Goes p w n₀ ann q 1 (specialOf (.ref a) "__iter__") { s with heap := hp h (dObj M n :: (subs ++ [dObj E nE])) } (some (.builtin "dict.__iter__")) { s with heap := hp h (dObj M n :: (subs ++ [dObj E nE])) } := goes_special (o := dObj E nE) (get2 _) rfl
  have gM : Goes p w n₀ ann q 1 (dictEntries d) { s with heap := hp h (dObj M n :: (subs ++ [dObj E nE])) } M.toArray { s with heap := hp h (dObj M n :: (subs ++ [dObj E nE])) } := goes_dictEntries (o := dObj M n) (n := n) none get1 rfl
  have gE : ∀ (s₁ : Shared), s₁.heap.get? a = some (dObj E nE) → Goes p w n₀ ann q 1 (dictEntries a) s₁ E.toArray s₁ := fun s₁ g => goes_dictEntries (o := dObj E nE) (n := nE) none g rfl
  have gP : ∀ (s₁ : Shared), s₁.heap.get? a = some (dObj E nE) → Goes p w n₀ ann q 1 (dictEpoch a) s₁ nE s₁ := fun s₁ g => goes_dictEpoch (o := dObj E nE) (es := E.toArray) none g rfl
  unfold mergeMapping
  refine (Goes.bind (n := 1) (m := 4 + 6 * E.length) gI ?_).n (by omega)
  rw [if_pos rfl]
  refine (Goes.bind (n := 1) (m := 3 + 6 * E.length) gS ?_).n (by omega)
  rw [pure_bind, beq_self_eq_true]
  dsimp only
  have hsm : ¬ (a == sysModules) = true := by
    rw [beq_iff_eq]
    exact ne1 hd haa hd1
  rw [if_neg hsm]
  refine (Goes.bind (n := 1) (m := 2 + 6 * E.length) gM ?_).n (by omega)
  rw [if_neg (by simpa using hM)]
  refine (Goes.bind (n := 1) (m := 1 + 6 * E.length) (gE _ (get2 _)) ?_).n (by omega)
  refine (Goes.bind (n := 1) (m := 6 * E.length) (gP _ (get2 _)) ?_).n (by omega)
  rw [show E.toArray.size = E.length from rfl, List.range_eq_range']
  refine (Goes.bind (n := 6 * E.length) (m := 0) (a := PUnit.unit) (s₁ := { s with heap := hp h (dObj (M ++ E) (n + E.length) :: (subs ++ [dObj E nE])) }) ?_ ?_).n rfl
  case refine_2 => exact Goes.pure _ _
  have key : ∀ (f : Nat → PUnit → Sem (ForInStep PUnit)), (∀ i (s₁ s₂ : Shared) e, E[i]? = some e → s₁.heap.get? a = some (dObj E nE) → s₂.heap.get? a = some (dObj E nE) → Goes p w n₀ ann q 4 (dictPut d e.hash e.key e.val) s₁ () s₂ → Goes p w n₀ ann q 6 (f i PUnit.unit) s₁ (.yield PUnit.unit) s₂) →
      Goes p w n₀ ann q (6 * E.length) (forIn (List.range' 0 E.length) PUnit.unit f) { s with heap := hp h (dObj M n :: (subs ++ [dObj E nE])) } PUnit.unit { s with heap := hp h (dObj (M ++ E) (n + E.length) :: (subs ++ [dObj E nE])) } := fun f hf => by
    have := goes_mergeLoop (p := p) (w := w) (ann := ann) (q := q) ha hd M n subs E nE haa s hzM f hf E [] b rfl hup (by simpa using hlt)
    rw [List.append_nil] at this
    exact this
  refine key _ ?_
  · intro i s₁ s₂ e he g1 g2 hput
    refine (Goes.bind (n := 1) (m := 5) (gE _ g1) ?_).n rfl
    rw [show E.toArray[i]? = some e by simpa using he]
    dsimp only
    refine (Goes.bind (n := 4) (m := 1) (a := ()) (s₁ := s₂) (Goes.holding _ ?_) ?_).n rfl
    · exact hput
    · refine (Goes.bind (n := 1) (m := 0) (gP _ g2) ?_).n rfl
      rw [if_neg (by simp)]
      exact Goes.pure _ _
end
end Mine
end
section
open PySem PySem.W PyProof.Rows
set_option Elab.async false
set_option maxRecDepth 100000
namespace Mine
abbrev SP := Sem Value × Sem Value
abbrev LoopF := (Option (Sem Value) × Sem Value) → (Option Addr × List SP) → Sem (ForInStep (Option Addr × List SP))
abbrev asItem (p : SP) : Option (Sem Value) × Sem Value := (some p.1, p.2)
/-- the least bound that lies above all the keys -/
def upTo : Int → List (Int × Str) → Int
  | b, [] => b
  | _, (k, _) :: r => upTo (k + 1) r
theorem upTo_le : ∀ {l : List (Int × Str)} {b : Int}, Rising b l → b ≤ upTo b l
  | [], _, _ => Int.le_refl _
  | (k, _) :: r, b, ⟨h1, _, h3⟩ => by have := upTo_le h3; show b ≤ upTo (k + 1) r; omega
theorem Rising.split : ∀ {l r : List (Int × Str)} {b : Int}, Rising b (l ++ r) → Rising b l ∧ Rising (upTo b l) r
  | [], _, _, h => ⟨trivial, h⟩
  | (_, _) :: _, _, _, ⟨h1, h2, h3⟩ => ⟨⟨h1, h2, (Rising.split h3).1⟩, (Rising.split h3).2⟩
theorem ents_lt : ∀ {l : List (Int × Str)} {b : Int} {t : Nat}, 0 ≤ b → Rising b l → ∀ e ∈ ents t l, e.hash < upTo b l
  | [], _, _, _, _, _, h => nomatch h
  | (k, v) :: r, b, t, h0, ⟨h1, h2, h3⟩, e, he => by
    rcases List.mem_cons.mp he with q | q
    · subst q
      show hashInt k < upTo (k + 1) r
      rw [hashInt_small (by omega) h2]
      have := upTo_le h3; omega
    · exact ents_lt (by omega) h3 e q
section
variable {p : Program} {w : World} {n₀ : Nat} {ann : Option Value} {q : Pos} {α β : Type}
theorem All2.length {α β : Type} {R : α → β → Prop} : ∀ {l : List α} {m : List β}, All2 R l m → l.length = m.length
  | _, _, .nil => rfl
  | _, _, .cons _ h => by rw [List.length_cons, List.length_cons, h.length]
theorem gather {f : LoopF} (hg : ∀ (p : SP) main run, run.length + 1 < 17 → f (asItem p) (main, run) = pure (.yield (main, run ++ [p]))) :
    ∀ (c run : List SP) (main : Option Addr) (rest : List (Option (Sem Value) × Sem Value)), run.length + c.length < 17 → forIn (c.map asItem ++ rest) (main, run) f = forIn rest (main, run ++ c) f
  | [], run, main, rest, _ => by simp
  | p :: c, run, main, rest, h => by
    rw [List.length_cons] at h
    rw [List.map_cons, List.cons_append, List.forIn_cons, hg p main run (by omega), pure_bind]
    have := gather hg c (run ++ [p]) main rest (by rw [List.length_append, List.length_singleton]; omega)
    simpa using this
/-- what the loop's step does at a full run -/
structure StepOk (p : Program) (w : World) (n₀ : Nat) (ann : Option Value) (q : Pos) (f : LoopF) : Prop where
  gather : ∀ (x : SP) main run, run.length + 1 < 17 → f (asItem x) (main, run) = pure (.yield (main, run ++ [x]))
  first : ∀ (x : SP) run s s₁ a n, run.length + 1 = 17 → Goes p w n₀ ann q n (subDict (run ++ [x])) s a s₁ → Goes p w n₀ ann q n (f (asItem x) (none, run)) s (.yield (some a, [])) s₁
  more : ∀ (x : SP) d run s s₁ s₂ a n m, run.length + 1 = 17 → Goes p w n₀ ann q n (subDict (run ++ [x])) s a s₁ → Goes p w n₀ ann q m (mergeMapping d (.ref a) false) s₁ () s₂ → Goes p w n₀ ann q (n + m) (f (asItem x) (some d, run)) s (.yield (some d, [])) s₂
theorem chunk_last {c : List SP} (h : c.length = 17) : ∃ c' x, c = c' ++ [x] ∧ c'.length + 1 = 17 := by
  have hne : c ≠ [] := by intro e; rw [e] at h; cases h
  refine ⟨c.dropLast, c.getLast hne, (List.dropLast_concat_getLast hne).symm, ?_⟩
  rw [List.length_dropLast]; omega
theorem goes_chunk {f : LoopF} (F : StepOk p w n₀ ann q f) {h : Heap} {d : Addr} (ha : n₀ ≤ d) (hd : d = h.objs.size) (hd1 : 1 ≤ d) {s s' : Shared} {M : List DictEntry} {n : Nat} {subs : List Obj} {t : Nat} {c : List SP} {items : List (Int × Str)} {b : Int}
    {rest : List (Option (Sem Value) × Sem Value)} {r : Option Addr × List SP} {m : Nat}
    (hc : All2 (PairOk p w n₀ ann q) c items) (h17 : items.length = 17) (h0 : 0 ≤ b) (hup : Rising b items) (hM : M ≠ []) (hlt : ∀ e ∈ M, e.hash < b) (hz : M.length ≤ 50000)
    (hrest : Goes p w n₀ ann q m (forIn rest (some d, []) f) { s with heap := hp h (dObj (M ++ ents t items) (n + 17) :: (subs ++ [dObj (ents t items) 17])), toks := t + 51 } r s') :
    Goes p w n₀ ann q (330 + m) (forIn (c.map asItem ++ rest) (some d, []) f) { s with heap := hp h (dObj M n :: subs), toks := t } r s' := by
  have hcl := hc.length
  obtain ⟨c', x, rfl, hl⟩ := chunk_last (hcl.trans h17)
  rw [List.map_append, List.append_assoc, gather F.gather c' [] (some d) _ (by rw [List.length_nil]; omega), List.nil_append]
  show Goes p w n₀ ann q (330 + m) (forIn (asItem x :: rest) (some d, c') f) _ r s'
  rw [List.forIn_cons]
  refine (Goes.bind (n := 330) (m := m) (a := .yield (some d, [])) (s₁ := { s with heap := hp h (dObj (M ++ ents t items) (n + 17) :: (subs ++ [dObj (ents t items) 17])), toks := t + 51 }) ?_ ?_)
  case refine_2 => exact hrest
  have g1 := goes_subDict (p := p) (w := w) (ann := ann) (q := q) (h := h) (a := dObj M n :: subs) (s := s) (t := t) (b := b) (hd ▸ ha) hc (by omega) (by omega) h0 hup
  rw [h17] at g1
  have g2 := goes_merge (p := p) (w := w) (ann := ann) (q := q) (h := h) (d := d) (a := h.objs.size + (dObj M n :: subs).length) ha hd M n subs (ents t items) 17 (by rw [List.length_cons]) { s with toks := t + 51 } (by rw [ents_length]; omega) hM hd1 (b := b) (ents_up h0 hup) hlt
  rw [ents_length, h17] at g2
  exact (F.more x d c' _ _ _ _ (2 + 13 * 17) (5 + 6 * 17) hl g1 g2).n rfl
/-- the main dict's entries, the other dicts and the numbers drawn behind all the full runs -/
def mains : Nat → List (List (Int × Str)) → List DictEntry
  | _, [] => []
  | t, c :: cs => ents t c ++ mains (t + 51) cs
def subsOf : Nat → List (List (Int × Str)) → List Obj
  | _, [] => []
  | t, c :: cs => dObj (ents t c) 17 :: subsOf (t + 51) cs
theorem goes_chunks {f : LoopF} (F : StepOk p w n₀ ann q f) {h : Heap} {d : Addr} (ha : n₀ ≤ d) (hd : d = h.objs.size) (hd1 : 1 ≤ d) {s s' : Shared} {rest : List (Option (Sem Value) × Sem Value)} {r : Option Addr × List SP} {m : Nat} :
    ∀ {ps : List (List SP)} {cs : List (List (Int × Str))} {M : List DictEntry} {n : Nat} {subs : List Obj} {t : Nat} {b : Int},
    All2 (All2 (PairOk p w n₀ ann q)) ps cs → (∀ c ∈ cs, c.length = 17) → 0 ≤ b → Rising b cs.flatten → M ≠ [] → (∀ e ∈ M, e.hash < b) → M.length + 17 * cs.length ≤ 50000 →
    Goes p w n₀ ann q m (forIn rest (some d, []) f) { s with heap := hp h (dObj (M ++ mains t cs) (n + 17 * cs.length) :: (subs ++ subsOf t cs)), toks := t + 51 * cs.length } r s' →
    Goes p w n₀ ann q (330 * cs.length + m) (forIn (ps.flatten.map asItem ++ rest) (some d, []) f) { s with heap := hp h (dObj M n :: subs), toks := t } r s'
  | _, _, M, n, subs, t, b, .nil, _, _, _, _, _, _, hr => by
    simp only [mains, subsOf, List.append_nil, List.length_nil, Nat.mul_zero, Nat.add_zero, Nat.zero_add, List.flatten_nil, List.map_nil, List.nil_append] at hr ⊢
    exact hr
  | _, _, M, n, subs, t, b, .cons (a := c) (b := items) (l := ps) (m := cs) hc hcs, h17, h0, hup, hM, hlt, hz, hr => by
    rw [List.flatten_cons] at hup
    obtain ⟨u1, u2⟩ := hup.split
    rw [List.length_cons] at hz
    have hl := h17 items (.head _)
    rw [List.flatten_cons, List.map_append, List.append_assoc, List.length_cons, show 330 * (cs.length + 1) + m = 330 + (330 * cs.length + m) by omega]
    refine goes_chunk F ha hd hd1 hc hl h0 u1 hM hlt (by omega) ?_
    refine goes_chunks F ha hd hd1 hcs (fun c hc => h17 c (.tail _ hc)) (b := upTo b items) (by have := upTo_le u1; omega) u2 (by simp [hM]) (fun e he => ?_) (by rw [List.length_append, ents_length]; omega) ?_
    · rcases List.mem_append.mp he with q | q
      · have := hlt e q
        have := upTo_le u1; omega
      · exact ents_lt h0 u1 e q
    · simp only [mains, subsOf, List.length_cons] at hr
      rw [show M ++ ents t items ++ mains (t + 51) cs = M ++ (ents t items ++ mains (t + 51) cs) by simp, show subs ++ [dObj (ents t items) 17] ++ subsOf (t + 51) cs = subs ++ dObj (ents t items) 17 :: subsOf (t + 51) cs by simp,
        show n + 17 + 17 * cs.length = n + 17 * (cs.length + 1) by omega, show t + 51 + 51 * cs.length = t + 51 * (cs.length + 1) by omega]
      exact hr
end
end Mine
end
section
open PySem PySem.W PyProof.Rows
set_option Elab.async false
set_option maxRecDepth 100000
namespace Mine
section
variable {p : Program} {w : World} {n₀ : Nat} {ann : Option Value} {q : Pos} {α β : Type}
theorem goes_loop {f : LoopF} (F : StepOk p w n₀ ann q f) {h : Heap} {d : Addr} (ha : n₀ ≤ d) (hd : d = h.objs.size) (hd1 : 1 ≤ d) {s : Shared} {t : Nat} {c0 lastp : List SP} {i0 : List (Int × Str)}
    {ps : List (List SP)} {cs : List (List (Int × Str))} (h0c : All2 (PairOk p w n₀ ann q) c0 i0) (h0l : i0.length = 17) (hcs : All2 (All2 (PairOk p w n₀ ann q)) ps cs) (h17 : ∀ c ∈ cs, c.length = 17) (hup : Rising 0 (i0 ++ cs.flatten)) (hz : 17 * cs.length ≤ 40000)
    (hlast : lastp.length < 17) :
    Goes p w n₀ ann q (223 + 330 * cs.length) (forIn (c0.map asItem ++ (ps.flatten.map asItem ++ lastp.map asItem)) (none, []) f) { s with heap := hp h [], toks := t } (some d, lastp)
      { s with heap := hp h (dObj (ents t i0 ++ mains (t + 51) cs) (17 + 17 * cs.length) :: subsOf (t + 51) cs), toks := t + 51 + 51 * cs.length } := by
  obtain ⟨u1, u2⟩ := hup.split
  have hcl := h0c.length
  obtain ⟨c', x, rfl, hl⟩ := chunk_last (hcl.trans h0l)
  rw [List.map_append, List.append_assoc, gather F.gather c' [] none _ (by rw [List.length_nil]; omega), List.nil_append]
  show Goes p w n₀ ann q (223 + 330 * cs.length) (forIn (asItem x :: (ps.flatten.map asItem ++ lastp.map asItem)) (none, c') f) _ _ _
  rw [List.forIn_cons]
  refine (Goes.bind (n := 223) (m := 330 * cs.length) (a := .yield (some d, [])) (s₁ := { s with heap := hp h [dObj (ents t i0) 17], toks := t + 51 }) ?_ ?_)
  · have g1 := goes_subDict (p := p) (w := w) (ann := ann) (q := q) (h := h) (a := []) (s := s) (t := t) (b := 0) (hd ▸ ha) h0c (by omega) (by omega) (Int.le_refl _) u1
    rw [h0l] at g1
    subst hd
    exact F.first x c' _ _ _ (2 + 13 * 17) hl g1
  · have g := goes_chunks F ha hd hd1 (s := s) (rest := lastp.map asItem) (r := (some d, lastp)) (m := 0) (M := ents t i0) (n := 17) (subs := []) (t := t + 51) (b := upTo 0 i0) hcs h17 (upTo_le u1) u2
      (by intro e; have := ents_length i0 t; rw [e, h0l] at this; cases this) (ents_lt (Int.le_refl _) u1) (by rw [ents_length]; omega)
      (s' := { s with heap := hp h (dObj (ents t i0 ++ mains (t + 51) cs) (17 + 17 * cs.length) :: subsOf (t + 51) cs), toks := t + 51 + 51 * cs.length })
      (by
        have e := gather F.gather lastp [] (some d) [] (by rw [List.length_nil]; omega)
        rw [List.append_nil, List.nil_append] at e
        rw [e, List.forIn_nil, List.nil_append]
        exact Goes.pure _ _)
    exact g
theorem goes_display {h : Heap} {d : Addr} (ha : n₀ ≤ d) (hd : d = h.objs.size) (hd1 : 1 ≤ d) {s : Shared} {t : Nat} {c0 lastp : List SP} {i0 li : List (Int × Str)}
    {ps : List (List SP)} {cs : List (List (Int × Str))} (h0c : All2 (PairOk p w n₀ ann q) c0 i0) (h0l : i0.length = 17) (hcs : All2 (All2 (PairOk p w n₀ ann q)) ps cs) (h17 : ∀ c ∈ cs, c.length = 17)
    (hl : All2 (PairOk p w n₀ ann q) lastp li) (hll : li.length ≤ 15) (hl1 : li ≠ []) (hup : Rising 0 (i0 ++ cs.flatten ++ li)) (hz : 17 * cs.length ≤ 40000) :
    Goes p w n₀ ann q (223 + 330 * cs.length + (6 + 19 * li.length)) (dictDisplay (c0.map asItem ++ (ps.flatten.map asItem ++ lastp.map asItem))) { s with heap := hp h [], toks := t } (.ref d)
      { s with heap := hp h (dObj (ents t i0 ++ mains (t + 51) cs ++ ents2 (t + 51 + 51 * cs.length) li) (17 + 17 * cs.length + li.length) :: (subsOf (t + 51) cs ++ [dObj (ents2 (t + 51 + 51 * cs.length) li) li.length])), toks := t + 51 + 51 * cs.length + 3 * li.length } := by
  obtain ⟨v1, v2⟩ := hup.split
  have hml : ∀ (cs : List (List (Int × Str))) (t : Nat), (∀ c ∈ cs, c.length = 17) → (mains t cs).length = 17 * cs.length := by
    intro cs
    induction cs with
    | nil => intro t _; rfl
    | cons c cs ih => intro t h; rw [mains, List.length_append, ents_length, h c (.head _), ih _ (fun x hx => h x (.tail _ hx)), List.length_cons]; omega
  have hsl : ∀ (cs : List (List (Int × Str))) (t : Nat), (subsOf t cs).length = cs.length := by
    intro cs
    induction cs with
    | nil => intro t; rfl
    | cons c cs ih => intro t; rw [subsOf, List.length_cons, ih, List.length_cons]
  have hmlt : ∀ (cs : List (List (Int × Str))) (t : Nat) (b : Int), 0 ≤ b → Rising b cs.flatten → ∀ e ∈ mains t cs, e.hash < upTo b cs.flatten := by
    intro cs
    induction cs with
    | nil => intro t b _ _ e he; exact nomatch he
    | cons c cs ih =>
      intro t b h0 hr e he
      rw [List.flatten_cons] at hr ⊢
      obtain ⟨r1, r2⟩ := hr.split
      have e3 : ∀ (l r : List (Int × Str)) (b : Int), upTo b (l ++ r) = upTo (upTo b l) r := by
        intro l
        induction l with
        | nil => intro r b; rfl
        | cons x l ih => intro r b; exact ih r _
      rw [e3]
      have l1 := upTo_le r1
      have l2 := upTo_le r2
      rw [mains] at he
      rcases List.mem_append.mp he with q | q
      · have := ents_lt h0 r1 e q; omega
      · exact ih _ _ (by omega) r2 e q
  have hll' : (li.length = 0) → False := fun e => hl1 (List.eq_nil_of_length_eq_zero e)
  have hlp := hl.length
  unfold dictDisplay
  dsimp only
  refine Goes.bind (goes_loop (lastp := lastp) ⟨fun x main run hr => ?_, fun x run s s₁ a n hr g => ?_, fun x d run s s₁ s₂ a n m hr g g' => ?_⟩ ha hd hd1 h0c h0l hcs h17 v1 hz (by omega)) ?_
  · have hne : ((run ++ [(x.1, x.2)]).length == 17) = false := by simp; omega
    simp only [hne, Bool.false_eq_true, if_false]
  · have hne : ((run ++ [(x.1, x.2)]).length == 17) = true := by simp; omega
    have hem : ¬ (run ++ [(x.1, x.2)]).isEmpty = true := by simp
    simp only [hne, if_true]
    rw [if_neg hem]
    try dsimp only
    refine (Goes.bind (n := n) (m := 0) (a := some a) (s₁ := s₁) ?_ ?_).n rfl
    · refine (Goes.bind (n := n) (m := 0) g ?_).n rfl
      exact Goes.pure _ _
    · exact Goes.pure _ _
  · have hne : ((run ++ [(x.1, x.2)]).length == 17) = true := by simp; omega
    have hem : ¬ (run ++ [(x.1, x.2)]).isEmpty = true := by simp
    simp only [hne, if_true]
    rw [if_neg hem]
    try dsimp only
    refine (Goes.bind (n := n + m) (m := 0) (a := some d) (s₁ := s₂) ?_ ?_).n rfl
    · refine Goes.bind (n := n) (Goes.holding _ g) ?_
      refine (Goes.bind (n := m) (m := 0) (Goes.onRaise (Goes.holding _ g')) ?_).n rfl
      exact Goes.pure _ _
    · exact Goes.pure _ _
  · dsimp only
    have hem : ¬ lastp.isEmpty = true := by
      intro e
      rw [List.isEmpty_iff] at e
      rw [e] at hlp
      exact hll' hlp.symm
    rw [if_neg hem]
    try dsimp only
    have w1 : 0 ≤ upTo 0 (i0 ++ cs.flatten) := upTo_le v1
    obtain ⟨x1, x2⟩ := v1.split
    have hM : (ents t i0 ++ mains (t + 51) cs).length = 17 + 17 * cs.length := by rw [List.length_append, ents_length, h0l, hml _ _ h17]
    have g1 := goes_subDict2 (p := p) (w := w) (ann := ann) (q := q) (h := h) (a := dObj (ents t i0 ++ mains (t + 51) cs) (17 + 17 * cs.length) :: subsOf (t + 51) cs) (s := s) (t := t + 51 + 51 * cs.length) (b := upTo 0 (i0 ++ cs.flatten)) (hd ▸ ha) hl (by omega) (by omega) w1 v2
    have g2 := goes_merge (p := p) (w := w) (ann := ann) (q := q) (h := h) (d := d) (a := h.objs.size + (dObj (ents t i0 ++ mains (t + 51) cs) (17 + 17 * cs.length) :: subsOf (t + 51) cs).length) ha hd (ents t i0 ++ mains (t + 51) cs) (17 + 17 * cs.length) (subsOf (t + 51) cs)
      (ents2 (t + 51 + 51 * cs.length) li) li.length (by rw [List.length_cons]) { s with toks := t + 51 + 51 * cs.length + 3 * li.length } (by rw [ents2_length, hM]; omega) (by intro e; rw [e] at hM; simp at hM; omega) hd1 (b := upTo 0 (i0 ++ cs.flatten)) (ents2_up w1 v2)
      (fun e he => by
        have e3 : ∀ (l r : List (Int × Str)) (b : Int), upTo b (l ++ r) = upTo (upTo b l) r := by
          intro l
          induction l with
          | nil => intro r b; rfl
          | cons x l ih => intro r b; exact ih r _
        have l1 := upTo_le x1
        have l2 := upTo_le x2
        rw [e3]
        rcases List.mem_append.mp he with q | q
        · have := ents_lt (Int.le_refl _) x1 e q; omega
        · exact hmlt _ _ _ l1 x2 e q)
    rw [ents2_length] at g2
    refine (Goes.bind (n := 6 + 19 * li.length) (m := 0) (a := some d) (s₁ := { s with heap := hp h (dObj (ents t i0 ++ mains (t + 51) cs ++ ents2 (t + 51 + 51 * cs.length) li) (17 + 17 * cs.length + li.length) :: (subsOf (t + 51) cs ++ [dObj (ents2 (t + 51 + 51 * cs.length) li) li.length])), toks := t + 51 + 51 * cs.length + 3 * li.length }) ?_ ?_).n rfl
    · refine (Goes.bind (n := 1 + 13 * li.length) (m := 5 + 6 * li.length) (Goes.holding _ g1) ?_).n (by omega)
      refine (Goes.bind (n := 5 + 6 * li.length) (m := 0) (Goes.onRaise (Goes.holding _ g2)) ?_).n rfl
      exact Goes.pure _ _
    · exact Goes.pure _ _
end
end Mine
end
section
open PySem PySem.W PyProof.Rows
set_option Elab.async false
set_option maxRecDepth 100000
namespace Mine
abbrev pw : Program := PySem.Challenge.pw_mq0481_01
def stN (i : Nat) : Stmt := (behindTheImports pw)[i]?.getD (.Pass default)
def fPar : Stmt → Arguments
  | .FunctionDef _ a .. => a
  | _ => ⟨[], [], none, [], [], none, []⟩
def fBody : Stmt → FuncBody
  | .FunctionDef _ _ b .. => .stmts b
  | _ => default
def fScope : Stmt → Scope
  | .FunctionDef _ _ _ _ _ _ s .. => s
  | _ => default
def env : Env := { scope := pw.main.scope, locals := mainNs, globals := mainNs, cells := [], code := .ref 13, frame := some 14 }
def cE : Code := .body (behindTheImports pw) env
abbrev q0 : Pos := ⟨0, 0, 0, 0⟩
abbrev ann0 : Option Value := some (.ref 6)
def dKeys : Stmt → List (Option Expr)
  | .Assign _ (.Dict ks _ _) _ => ks
  | _ => []
def dVals : Stmt → List Expr
  | .Assign _ (.Dict _ vs _) _ => vs
  | _ => []
def itemsOf : List (Option Expr) → List Expr → List (Int × Str)
  | some (.Constant (.int k) _ _) :: ks, .Constant (.str v) _ _ :: vs => (k, v) :: itemsOf ks vs
  | _, _ => []
def okOf : List (Option Expr) → List Expr → Bool
  | [], [] => true
  | some (.Constant (.int _) _ _) :: ks, .Constant (.str _) _ _ :: vs => okOf ks vs
  | _, _ => false
def items : List (Int × Str) := itemsOf (dKeys (stN 3)) (dVals (stN 3))
def chunks {α : Type} : Nat → List α → List (List α)
  | 0, _ => []
  | n + 1, l => l.take 17 :: chunks n (l.drop 17)
theorem chunks_flat {α : Type} : ∀ (n : Nat) (l : List α), (chunks n l).flatten = l.take (17 * n)
  | 0, l => by simp [chunks]
  | n + 1, l => by
    rw [chunks, List.flatten_cons, chunks_flat n, show 17 * (n + 1) = 17 + 17 * n by omega, List.take_add]
theorem chunks_len {α : Type} : ∀ (n : Nat) (l : List α), (chunks n l).length = n
  | 0, _ => rfl
  | n + 1, l => by rw [chunks, List.length_cons, chunks_len n]
theorem chunks_17 {α : Type} : ∀ (n : Nat) (l : List α), 17 * n ≤ l.length → ∀ c ∈ chunks n l, c.length = 17
  | 0, _, _, _, h => nomatch h
  | n + 1, l, hl, c, h => by
    rcases List.mem_cons.mp h with e | e
    · rw [e, List.length_take]; omega
    · exact chunks_17 n _ (by rw [List.length_drop]; omega) c e
theorem All2.take {α β : Type} {R : α → β → Prop} : ∀ (n : Nat) {l : List α} {m : List β}, All2 R l m → All2 R (l.take n) (m.take n)
  | 0, _, _, _ => .nil
  | _ + 1, _, _, .nil => .nil
  | n + 1, _, _, .cons h t => .cons h (t.take n)
theorem All2.drop {α β : Type} {R : α → β → Prop} : ∀ (n : Nat) {l : List α} {m : List β}, All2 R l m → All2 R (l.drop n) (m.drop n)
  | 0, _, _, h => h
  | _ + 1, _, _, .nil => .nil
  | n + 1, _, _, .cons _ t => t.drop n
theorem All2.chunks {α β : Type} {R : α → β → Prop} : ∀ (n : Nat) {l : List α} {m : List β}, All2 R l m → All2 (All2 R) (chunks n l) (chunks n m)
  | 0, _, _, _ => .nil
  | n + 1, _, _, h => .cons (h.take 17) (All2.chunks n (h.drop 17))
section
variable {p : Program} {w : World} {n₀ : Nat} {ann : Option Value} {q : Pos}
theorem pairs_of {env : Env} {pos : Pos} : ∀ {ks : List (Option Expr)} {vs : List Expr}, okOf ks vs = true →
    ∃ pairs : List SP, (evalEachOpt ks env).zip ((evalEach vs env).map fun v => do let x ← v; standAt pos; pure x) = pairs.map asItem ∧ All2 (PairOk p w n₀ ann q) pairs (itemsOf ks vs)
  | [], [], _ => ⟨[], rfl, .nil⟩
  | some (.Constant (.int k) a b) :: ks, .Constant (.str v) c d :: vs, h => by
    obtain ⟨pairs, e, r⟩ := pairs_of (env := env) (pos := pos) (ks := ks) (vs := vs) h
    refine ⟨(mkInt k, do let x ← mkText v; standAt pos; pure x) :: pairs, ?_, .cons ⟨fun s => ?_, fun s => ?_⟩ r⟩
    · rw [List.map_cons, ← e]
      rfl
    · refine (Goes.bind (Goes.fresh s) (m := 0) ?_).n rfl
      exact Goes.pure _ _
    · refine (Goes.bind (n := 1) (m := 1) (a := .str v s.toks) (s₁ := { s with toks := s.toks + 1 }) ?_ ?_).n rfl
      · refine (Goes.bind (Goes.fresh s) (m := 0) ?_).n rfl
        exact Goes.pure _ _
      · refine (Goes.bind (Goes.at _ _) (m := 0) ?_).n rfl
        exact Goes.pure _ _
end
theorem items_ok : okOf (dKeys (stN 3)) (dVals (stN 3)) = true := by decide +kernel
theorem items_len : items.length = 650 := by decide +kernel
theorem items_up : rising 0 items = true := by decide +kernel
/-- the 37 full runs behind the first one; the last run -/
def runs37 : List (List (Int × Str)) := chunks 37 (items.drop 17)
def i0 : List (Int × Str) := items.take 17
def li : List (Int × Str) := (items.drop 17).drop 629
def main33 : Obj := dObj (ents 256 i0 ++ mains 307 runs37 ++ ents2 2194 li) 650
def subList : List Obj := subsOf 307 runs37 ++ [dObj (ents2 2194 li) 4]
def subAt (i : Nat) : Obj := subList.getD i default
end Mine
end
section
open PySem PySem.W PyProof.Rows
set_option Elab.async false
set_option maxRecDepth 100000
set_option linter.unusedVariables false
namespace Mine
noncomputable section
def oA_11 : Params → Obj := fun P => { cls := (.type "tuple"), dict := none, data := .seq (List.toArray []) 0, slots := List.toArray [] }
def oA_12 : Params → Obj := fun P => { cls := .none, dict := none, data := .fields (List.toArray []), slots := List.toArray [] }
def oA_13 : Params → Obj := fun P => { cls := (.type "code"), dict := none, data := .fields (List.toArray [(.str (Str.ofString "<module>") 182), (.str (Str.ofString "<module>") 183), (.str (Str.ofString "/claim/cut.py") 184), (.int (1) 0), (.int (0) 0), (.int (0) 0), (.int (0) 0), (.int (0) 0), (.ref 11), (.bool false), (.int (181) 0), (.ref 12), .none, .none, .none, .none, (.int (185) 0), (.int (1) 0), (.str (Str.ofString "/claim/cut.py") 186)]), slots := List.toArray [] }
def oA_14 : Params → Obj := fun P => { cls := (.type "frame"), dict := none, data := .plain, slots := List.toArray [some (.ref 13), some (.ref 3), some (.ref 3), none, some (.str (Str.ofString "__main__") 164), none, some (.ref 0)] }
def tA : Params → BT := fun P => (.node (boot_o_0 P) (.node (boot_o_1 P) (.node (boot_o_3 P) (.node (boot_o_7 P) .nil .nil) (.node (oA_11 P) .nil .nil)) (.node (boot_o_5 P) (.node (boot_o_9 P) .nil .nil) (.node (oA_13 P) .nil .nil))) (.node (boot_o_2 P) (.node (boot_o_4 P) (.node (boot_o_8 P) .nil .nil) (.node (oA_12 P) .nil .nil)) (.node (boot_o_6 P) (.node (boot_o_10 P) .nil .nil) (.node (oA_14 P) .nil .nil))))
def hA : Params → Heap := fun P => ⟨List.toArray [boot_o_0 P, boot_o_1 P, boot_o_2 P, boot_o_3 P, boot_o_4 P, boot_o_5 P, boot_o_6 P, boot_o_7 P, boot_o_8 P, boot_o_9 P, boot_o_10 P, oA_11 P, oA_12 P, oA_13 P, oA_14 P], {}⟩
-- A: objects 15, toks 187
def oB1_3 : Params → Obj := fun P => { cls := (.type "dict"), dict := none, data := .dict (List.toArray [⟨PyData.keyHash P (Str.ofString "__name__"), (.str (Str.ofString "__name__") 165), (.str (Str.ofString "cpy313.stringprep") 187)⟩, ⟨PyData.keyHash P (Str.ofString "__doc__"), (.str (Str.ofString "__doc__") 166), .none⟩, ⟨PyData.keyHash P (Str.ofString "__package__"), (.str (Str.ofString "__package__") 167), .none⟩, ⟨PyData.keyHash P (Str.ofString "__loader__"), (.str (Str.ofString "__loader__") 168), (.builtin "__main__.__loader__#opaque")⟩, ⟨PyData.keyHash P (Str.ofString "__spec__"), (.str (Str.ofString "__spec__") 169), .none⟩, ⟨PyData.keyHash P (Str.ofString "__annotations__"), (.str (Str.ofString "__annotations__") 170), (.ref 6)⟩, ⟨PyData.keyHash P (Str.ofString "__builtins__"), (.str (Str.ofString "__builtins__") 171), (.ref 4)⟩, ⟨PyData.keyHash P (Str.ofString "__file__"), (.str (Str.ofString "__file__") 173), (.str (Str.ofString "/claim/cut.py") 172)⟩, ⟨PyData.keyHash P (Str.ofString "__cached__"), (.str (Str.ofString "__cached__") 174), .none⟩]) 9, slots := List.toArray [] }
def tB1 : Params → BT := fun P => (.node (boot_o_0 P) (.node (boot_o_1 P) (.node (oB1_3 P) (.node (boot_o_7 P) .nil .nil) (.node (oA_11 P) .nil .nil)) (.node (boot_o_5 P) (.node (boot_o_9 P) .nil .nil) (.node (oA_13 P) .nil .nil))) (.node (boot_o_2 P) (.node (boot_o_4 P) (.node (boot_o_8 P) .nil .nil) (.node (oA_12 P) .nil .nil)) (.node (boot_o_6 P) (.node (boot_o_10 P) .nil .nil) (.node (oA_14 P) .nil .nil))))
def hB1 : Params → Heap := fun P => ⟨List.toArray [boot_o_0 P, boot_o_1 P, boot_o_2 P, oB1_3 P, boot_o_4 P, boot_o_5 P, boot_o_6 P, boot_o_7 P, boot_o_8 P, boot_o_9 P, boot_o_10 P, oA_11 P, oA_12 P, oA_13 P, oA_14 P], {}⟩
-- B1: objects 15, toks 189
def oB2_3 : Params → Obj := fun P => { cls := (.type "dict"), dict := none, data := .dict (List.toArray [⟨PyData.keyHash P (Str.ofString "__name__"), (.str (Str.ofString "__name__") 165), (.str (Str.ofString "cpy313.stringprep") 187)⟩, ⟨PyData.keyHash P (Str.ofString "__doc__"), (.str (Str.ofString "__doc__") 166), .none⟩, ⟨PyData.keyHash P (Str.ofString "__package__"), (.str (Str.ofString "__package__") 167), .none⟩, ⟨PyData.keyHash P (Str.ofString "__loader__"), (.str (Str.ofString "__loader__") 168), (.builtin "__main__.__loader__#opaque")⟩, ⟨PyData.keyHash P (Str.ofString "__spec__"), (.str (Str.ofString "__spec__") 169), .none⟩, ⟨PyData.keyHash P (Str.ofString "__annotations__"), (.str (Str.ofString "__annotations__") 170), (.ref 6)⟩, ⟨PyData.keyHash P (Str.ofString "__builtins__"), (.str (Str.ofString "__builtins__") 171), (.ref 4)⟩, ⟨PyData.keyHash P (Str.ofString "__file__"), (.str (Str.ofString "__file__") 173), (.str (Str.ofString "/claim/cut.py") 172)⟩, ⟨PyData.keyHash P (Str.ofString "__cached__"), (.str (Str.ofString "__cached__") 174), .none⟩, ⟨PyData.keyHash P (Str.ofString "b1_set"), (.str (Str.ofString "b1_set") 248), (.ref 22)⟩]) 10, slots := List.toArray [] }
def oB2_15 : Params → Obj := fun P => { cls := (.type "list"), dict := none, data := .seq (List.toArray [(.int (173) 189), (.int (847) 190), (.int (6150) 191), (.int (6155) 192), (.int (6156) 193), (.int (6157) 194), (.int (8203) 195), (.int (8204) 196), (.int (8205) 197), (.int (8288) 198), (.int (65279) 199)]) 0, slots := List.toArray [] }
def oB2_16 : Params → Obj := fun P => { cls := (.type "range"), dict := none, data := .fields (List.toArray [(.int (65024) 200), (.int (65040) 201), (.int (1) 202)]), slots := List.toArray [] }
def oB2_17 : Params → Obj := fun P => { cls := (.type "list"), dict := none, data := .seq (List.toArray [(.int (65024) 205), (.int (65025) 206), (.int (65026) 207), (.int (65027) 208), (.int (65028) 209), (.int (65029) 210), (.int (65030) 211), (.int (65031) 212), (.int (65032) 213), (.int (65033) 214), (.int (65034) 215), (.int (65035) 216), (.int (65036) 217), (.int (65037) 218), (.int (65038) 219), (.int (65039) 220)]) 18, slots := List.toArray [] }
def oB2_18 : Params → Obj := fun P => { cls := (.type "range_iterator"), dict := none, data := .fields (List.toArray [(.int (65040) 0), (.int (0) 0), (.int (1) 0)]), slots := List.toArray [] }
def oB2_19 : Params → Obj := fun P => { cls := (.type "tuple"), dict := none, data := .seq (List.toArray []) 0, slots := List.toArray [] }
def oB2_20 : Params → Obj := fun P => { cls := (.type "StopIteration"), dict := none, data := .fields (List.toArray [(.ref 19), .none, .none, .none, (.bool false), .none]), slots := List.toArray [] }
def oB2_21 : Params → Obj := fun P => { cls := (.type "list"), dict := none, data := .seq (List.toArray [(.int (173) 189), (.int (847) 190), (.int (6150) 191), (.int (6155) 192), (.int (6156) 193), (.int (6157) 194), (.int (8203) 195), (.int (8204) 196), (.int (8205) 197), (.int (8288) 198), (.int (65279) 199), (.int (65024) 205), (.int (65025) 206), (.int (65026) 207), (.int (65027) 208), (.int (65028) 209), (.int (65029) 210), (.int (65030) 211), (.int (65031) 212), (.int (65032) 213), (.int (65033) 214), (.int (65034) 215), (.int (65035) 216), (.int (65036) 217), (.int (65037) 218), (.int (65038) 219), (.int (65039) 220)]) 0, slots := List.toArray [] }
def oB2_22 : Params → Obj := fun P => { cls := (.type "set"), dict := none, data := .set (List.toArray [(65024, (.int (65024) 205)), (65025, (.int (65025) 206)), (65026, (.int (65026) 207)), (65027, (.int (65027) 208)), (65028, (.int (65028) 209)), (65029, (.int (65029) 210)), (6150, (.int (6150) 191)), (65030, (.int (65030) 211)), (65031, (.int (65031) 212)), (65032, (.int (65032) 213)), (65033, (.int (65033) 214)), (6155, (.int (6155) 192)), (6156, (.int (6156) 193)), (6157, (.int (6157) 194)), (8203, (.int (8203) 195)), (8204, (.int (8204) 196)), (8205, (.int (8205) 197)), (65034, (.int (65034) 215)), (65035, (.int (65035) 216)), (65036, (.int (65036) 217)), (65037, (.int (65037) 218)), (65038, (.int (65038) 219)), (65039, (.int (65039) 220)), (173, (.int (173) 189)), (847, (.int (847) 190)), (8288, (.int (8288) 198)), (65279, (.int (65279) 199))]) 29 { mask := 127, place := List.toArray [0, 1, 2, 3, 4, 5, 6, 7, 8, 9, 10, 11, 12, 13, 14, 15, 16, 17, 18, 19, 20, 21, 22, 45, 79, 96, 127], dummies := List.toArray [], finger := 0, led := !P.followText "set-order", moves := 2, plain := true }, slots := List.toArray [] }
def oB2_23 : Params → Obj := fun P => { cls := (.type "list_iterator"), dict := none, data := .fields (List.toArray [.none, (.int (27) 0)]), slots := List.toArray [] }
def oB2_24 : Params → Obj := fun P => { cls := (.type "tuple"), dict := none, data := .seq (List.toArray []) 0, slots := List.toArray [] }
def oB2_25 : Params → Obj := fun P => { cls := (.type "StopIteration"), dict := none, data := .fields (List.toArray [(.ref 24), .none, .none, .none, (.bool false), .none]), slots := List.toArray [] }
def tB2 : Params → BT := fun P => (.node (boot_o_0 P) (.node (boot_o_1 P) (.node (oB2_3 P) (.node (boot_o_7 P) (.node (oB2_15 P) .nil .nil) (.node (oB2_23 P) .nil .nil)) (.node (oA_11 P) (.node (oB2_19 P) .nil .nil) .nil)) (.node (boot_o_5 P) (.node (boot_o_9 P) (.node (oB2_17 P) .nil .nil) (.node (oB2_25 P) .nil .nil)) (.node (oA_13 P) (.node (oB2_21 P) .nil .nil) .nil))) (.node (boot_o_2 P) (.node (boot_o_4 P) (.node (boot_o_8 P) (.node (oB2_16 P) .nil .nil) (.node (oB2_24 P) .nil .nil)) (.node (oA_12 P) (.node (oB2_20 P) .nil .nil) .nil)) (.node (boot_o_6 P) (.node (boot_o_10 P) (.node (oB2_18 P) .nil .nil) .nil) (.node (oA_14 P) (.node (oB2_22 P) .nil .nil) .nil))))
def hB2 : Params → Heap := fun P => ⟨List.toArray [boot_o_0 P, boot_o_1 P, boot_o_2 P, oB2_3 P, boot_o_4 P, boot_o_5 P, boot_o_6 P, boot_o_7 P, boot_o_8 P, boot_o_9 P, boot_o_10 P, oA_11 P, oA_12 P, oA_13 P, oA_14 P, oB2_15 P, oB2_16 P, oB2_17 P, oB2_18 P, oB2_19 P, oB2_20 P, oB2_21 P, oB2_22 P, oB2_23 P, oB2_24 P, oB2_25 P], {}⟩
-- B2: objects 26, toks 249
def oB3_3 : Params → Obj := fun P => { cls := (.type "dict"), dict := none, data := .dict (List.toArray [⟨PyData.keyHash P (Str.ofString "__name__"), (.str (Str.ofString "__name__") 165), (.str (Str.ofString "cpy313.stringprep") 187)⟩, ⟨PyData.keyHash P (Str.ofString "__doc__"), (.str (Str.ofString "__doc__") 166), .none⟩, ⟨PyData.keyHash P (Str.ofString "__package__"), (.str (Str.ofString "__package__") 167), .none⟩, ⟨PyData.keyHash P (Str.ofString "__loader__"), (.str (Str.ofString "__loader__") 168), (.builtin "__main__.__loader__#opaque")⟩, ⟨PyData.keyHash P (Str.ofString "__spec__"), (.str (Str.ofString "__spec__") 169), .none⟩, ⟨PyData.keyHash P (Str.ofString "__annotations__"), (.str (Str.ofString "__annotations__") 170), (.ref 6)⟩, ⟨PyData.keyHash P (Str.ofString "__builtins__"), (.str (Str.ofString "__builtins__") 171), (.ref 4)⟩, ⟨PyData.keyHash P (Str.ofString "__file__"), (.str (Str.ofString "__file__") 173), (.str (Str.ofString "/claim/cut.py") 172)⟩, ⟨PyData.keyHash P (Str.ofString "__cached__"), (.str (Str.ofString "__cached__") 174), .none⟩, ⟨PyData.keyHash P (Str.ofString "b1_set"), (.str (Str.ofString "b1_set") 248), (.ref 22)⟩, ⟨PyData.keyHash P (Str.ofString "in_table_b1"), (.str (Str.ofString "in_table_b1") 255), (.ref 32)⟩]) 11, slots := List.toArray [] }
def oB3_12 : Params → Obj := fun P => { cls := .none, dict := none, data := .fields (List.toArray [(.int (3) 0), (.int (0) 0), (.ref 31)]), slots := List.toArray [] }
def oB3_26 : Params → Obj := fun P => { cls := (.type "tuple"), dict := none, data := .seq (List.toArray []) 0, slots := List.toArray [] }
def oB3_27 : Params → Obj := fun P => { cls := .none, dict := none, data := .fields (List.toArray []), slots := List.toArray [] }
def oB3_28 : Params → Obj := fun P => { cls := (.type "tuple"), dict := none, data := .seq (List.toArray [(.str (Str.ofString "code") 252)]) 0, slots := List.toArray [] }
def oB3_29 : Params → Obj := fun P => { cls := (.type "tuple"), dict := none, data := .seq (List.toArray []) 0, slots := List.toArray [] }
def oB3_30 : Params → Obj := fun P => { cls := .none, dict := none, data := .func { name := Str.ofString "in_table_b1", qualname := Str.ofString "in_table_b1", params := fPar (stN 2), body := fBody (stN 2), scope := fScope (stN 2), globals := 0, closure := [], defaults := .none, kwdefaults := .none, doc := .none, pyModule := .none, annotations := none, code := .none, closureTuple := .none, builtins := 0 }, slots := List.toArray [] }
def oB3_31 : Params → Obj := fun P => { cls := (.type "code"), dict := none, data := .fields (List.toArray [(.str (Str.ofString "in_table_b1") 249), (.str (Str.ofString "in_table_b1") 250), (.str (Str.ofString "/claim/cut.py") 251), (.int (3) 0), (.int (1) 0), (.int (0) 0), (.int (0) 0), (.int (3) 0), (.ref 26), (.bool true), (.int (181) 0), (.ref 27), .none, (.ref 28), (.ref 29), (.ref 30), (.int (253) 0), (.int (3) 0), (.str (Str.ofString "/claim/cut.py") 254)]), slots := List.toArray [] }
def oB3_32 : Params → Obj := fun P => { cls := (.type "function"), dict := none, data := .func { name := Str.ofString "in_table_b1", qualname := Str.ofString "in_table_b1", params := fPar (stN 2), body := fBody (stN 2), scope := fScope (stN 2), globals := 3, closure := [], defaults := .none, kwdefaults := .none, doc := .none, pyModule := (.str (Str.ofString "cpy313.stringprep") 187), annotations := none, code := (.ref 31), closureTuple := .none, builtins := 0 }, slots := List.toArray [] }
def tB3 : Params → BT := fun P => (.node (boot_o_0 P) (.node (boot_o_1 P) (.node (oB3_3 P) (.node (boot_o_7 P) (.node (oB2_15 P) (.node (oB3_31 P) .nil .nil) .nil) (.node (oB2_23 P) .nil .nil)) (.node (oA_11 P) (.node (oB2_19 P) .nil .nil) (.node (oB3_27 P) .nil .nil))) (.node (boot_o_5 P) (.node (boot_o_9 P) (.node (oB2_17 P) .nil .nil) (.node (oB2_25 P) .nil .nil)) (.node (oA_13 P) (.node (oB2_21 P) .nil .nil) (.node (oB3_29 P) .nil .nil)))) (.node (boot_o_2 P) (.node (boot_o_4 P) (.node (boot_o_8 P) (.node (oB2_16 P) (.node (oB3_32 P) .nil .nil) .nil) (.node (oB2_24 P) .nil .nil)) (.node (oB3_12 P) (.node (oB2_20 P) .nil .nil) (.node (oB3_28 P) .nil .nil))) (.node (boot_o_6 P) (.node (boot_o_10 P) (.node (oB2_18 P) .nil .nil) (.node (oB3_26 P) .nil .nil)) (.node (oA_14 P) (.node (oB2_22 P) .nil .nil) (.node (oB3_30 P) .nil .nil)))))
def hB3 : Params → Heap := fun P => ⟨List.toArray [boot_o_0 P, boot_o_1 P, boot_o_2 P, oB3_3 P, boot_o_4 P, boot_o_5 P, boot_o_6 P, boot_o_7 P, boot_o_8 P, boot_o_9 P, boot_o_10 P, oA_11 P, oB3_12 P, oA_13 P, oA_14 P, oB2_15 P, oB2_16 P, oB2_17 P, oB2_18 P, oB2_19 P, oB2_20 P, oB2_21 P, oB2_22 P, oB2_23 P, oB2_24 P, oB2_25 P, oB3_26 P, oB3_27 P, oB3_28 P, oB3_29 P, oB3_30 P, oB3_31 P, oB3_32 P], {}⟩
-- B3: objects 33, toks 256
def oB4_3 : Params → Obj := fun P => { cls := (.type "dict"), dict := none, data := .dict (List.toArray [⟨PyData.keyHash P (Str.ofString "__name__"), (.str (Str.ofString "__name__") 165), (.str (Str.ofString "cpy313.stringprep") 187)⟩, ⟨PyData.keyHash P (Str.ofString "__doc__"), (.str (Str.ofString "__doc__") 166), .none⟩, ⟨PyData.keyHash P (Str.ofString "__package__"), (.str (Str.ofString "__package__") 167), .none⟩, ⟨PyData.keyHash P (Str.ofString "__loader__"), (.str (Str.ofString "__loader__") 168), (.builtin "__main__.__loader__#opaque")⟩, ⟨PyData.keyHash P (Str.ofString "__spec__"), (.str (Str.ofString "__spec__") 169), .none⟩, ⟨PyData.keyHash P (Str.ofString "__annotations__"), (.str (Str.ofString "__annotations__") 170), (.ref 6)⟩, ⟨PyData.keyHash P (Str.ofString "__builtins__"), (.str (Str.ofString "__builtins__") 171), (.ref 4)⟩, ⟨PyData.keyHash P (Str.ofString "__file__"), (.str (Str.ofString "__file__") 173), (.str (Str.ofString "/claim/cut.py") 172)⟩, ⟨PyData.keyHash P (Str.ofString "__cached__"), (.str (Str.ofString "__cached__") 174), .none⟩, ⟨PyData.keyHash P (Str.ofString "b1_set"), (.str (Str.ofString "b1_set") 248), (.ref 22)⟩, ⟨PyData.keyHash P (Str.ofString "in_table_b1"), (.str (Str.ofString "in_table_b1") 255), (.ref 32)⟩, ⟨PyData.keyHash P (Str.ofString "b3_exceptions"), (.str (Str.ofString "b3_exceptions") 2206), (.ref 33)⟩]) 12, slots := List.toArray [] }
def oB4_33 : Params → Obj := fun _ => main33
def oB4_34 : Params → Obj := fun _ => subAt 0
def oB4_35 : Params → Obj := fun _ => subAt 1
def oB4_36 : Params → Obj := fun _ => subAt 2
def oB4_37 : Params → Obj := fun _ => subAt 3
def oB4_38 : Params → Obj := fun _ => subAt 4
def oB4_39 : Params → Obj := fun _ => subAt 5
def oB4_40 : Params → Obj := fun _ => subAt 6
def oB4_41 : Params → Obj := fun _ => subAt 7
def oB4_42 : Params → Obj := fun _ => subAt 8
def oB4_43 : Params → Obj := fun _ => subAt 9
def oB4_44 : Params → Obj := fun _ => subAt 10
def oB4_45 : Params → Obj := fun _ => subAt 11
def oB4_46 : Params → Obj := fun _ => subAt 12
def oB4_47 : Params → Obj := fun _ => subAt 13
def oB4_48 : Params → Obj := fun _ => subAt 14
def oB4_49 : Params → Obj := fun _ => subAt 15
def oB4_50 : Params → Obj := fun _ => subAt 16
def oB4_51 : Params → Obj := fun _ => subAt 17
def oB4_52 : Params → Obj := fun _ => subAt 18
def oB4_53 : Params → Obj := fun _ => subAt 19
def oB4_54 : Params → Obj := fun _ => subAt 20
def oB4_55 : Params → Obj := fun _ => subAt 21
def oB4_56 : Params → Obj := fun _ => subAt 22
def oB4_57 : Params → Obj := fun _ => subAt 23
def oB4_58 : Params → Obj := fun _ => subAt 24
def oB4_59 : Params → Obj := fun _ => subAt 25
def oB4_60 : Params → Obj := fun _ => subAt 26
def oB4_61 : Params → Obj := fun _ => subAt 27
def oB4_62 : Params → Obj := fun _ => subAt 28
def oB4_63 : Params → Obj := fun _ => subAt 29
def oB4_64 : Params → Obj := fun _ => subAt 30
def oB4_65 : Params → Obj := fun _ => subAt 31
def oB4_66 : Params → Obj := fun _ => subAt 32
def oB4_67 : Params → Obj := fun _ => subAt 33
def oB4_68 : Params → Obj := fun _ => subAt 34
def oB4_69 : Params → Obj := fun _ => subAt 35
def oB4_70 : Params → Obj := fun _ => subAt 36
def oB4_71 : Params → Obj := fun _ => subAt 37
def tB4 : Params → BT := fun P => (.node (boot_o_0 P) (.node (boot_o_1 P) (.node (oB4_3 P) (.node (boot_o_7 P) (.node (oB2_15 P) (.node (oB3_31 P) (.node (oB4_63 P) .nil .nil) .nil) (.node (oB4_47 P) .nil .nil)) (.node (oB2_23 P) (.node (oB4_39 P) (.node (oB4_71 P) .nil .nil) .nil) (.node (oB4_55 P) .nil .nil))) (.node (oA_11 P) (.node (oB2_19 P) (.node (oB4_35 P) (.node (oB4_67 P) .nil .nil) .nil) (.node (oB4_51 P) .nil .nil)) (.node (oB3_27 P) (.node (oB4_43 P) .nil .nil) (.node (oB4_59 P) .nil .nil)))) (.node (boot_o_5 P) (.node (boot_o_9 P) (.node (oB2_17 P) (.node (oB4_33 P) (.node (oB4_65 P) .nil .nil) .nil) (.node (oB4_49 P) .nil .nil)) (.node (oB2_25 P) (.node (oB4_41 P) .nil .nil) (.node (oB4_57 P) .nil .nil))) (.node (oA_13 P) (.node (oB2_21 P) (.node (oB4_37 P) (.node (oB4_69 P) .nil .nil) .nil) (.node (oB4_53 P) .nil .nil)) (.node (oB3_29 P) (.node (oB4_45 P) .nil .nil) (.node (oB4_61 P) .nil .nil))))) (.node (boot_o_2 P) (.node (boot_o_4 P) (.node (boot_o_8 P) (.node (oB2_16 P) (.node (oB3_32 P) (.node (oB4_64 P) .nil .nil) .nil) (.node (oB4_48 P) .nil .nil)) (.node (oB2_24 P) (.node (oB4_40 P) .nil .nil) (.node (oB4_56 P) .nil .nil))) (.node (oB3_12 P) (.node (oB2_20 P) (.node (oB4_36 P) (.node (oB4_68 P) .nil .nil) .nil) (.node (oB4_52 P) .nil .nil)) (.node (oB3_28 P) (.node (oB4_44 P) .nil .nil) (.node (oB4_60 P) .nil .nil)))) (.node (boot_o_6 P) (.node (boot_o_10 P) (.node (oB2_18 P) (.node (oB4_34 P) (.node (oB4_66 P) .nil .nil) .nil) (.node (oB4_50 P) .nil .nil)) (.node (oB3_26 P) (.node (oB4_42 P) .nil .nil) (.node (oB4_58 P) .nil .nil))) (.node (oA_14 P) (.node (oB2_22 P) (.node (oB4_38 P) (.node (oB4_70 P) .nil .nil) .nil) (.node (oB4_54 P) .nil .nil)) (.node (oB3_30 P) (.node (oB4_46 P) .nil .nil) (.node (oB4_62 P) .nil .nil))))))
def hB4 : Params → Heap := fun P => ⟨List.toArray [boot_o_0 P, boot_o_1 P, boot_o_2 P, oB4_3 P, boot_o_4 P, boot_o_5 P, boot_o_6 P, boot_o_7 P, boot_o_8 P, boot_o_9 P, boot_o_10 P, oA_11 P, oB3_12 P, oA_13 P, oA_14 P, oB2_15 P, oB2_16 P, oB2_17 P, oB2_18 P, oB2_19 P, oB2_20 P, oB2_21 P, oB2_22 P, oB2_23 P, oB2_24 P, oB2_25 P, oB3_26 P, oB3_27 P, oB3_28 P, oB3_29 P, oB3_30 P, oB3_31 P, oB3_32 P, oB4_33 P, oB4_34 P, oB4_35 P, oB4_36 P, oB4_37 P, oB4_38 P, oB4_39 P, oB4_40 P, oB4_41 P, oB4_42 P, oB4_43 P, oB4_44 P, oB4_45 P, oB4_46 P, oB4_47 P, oB4_48 P, oB4_49 P, oB4_50 P, oB4_51 P, oB4_52 P, oB4_53 P, oB4_54 P, oB4_55 P, oB4_56 P, oB4_57 P, oB4_58 P, oB4_59 P, oB4_60 P, oB4_61 P, oB4_62 P, oB4_63 P, oB4_64 P, oB4_65 P, oB4_66 P, oB4_67 P, oB4_68 P, oB4_69 P, oB4_70 P, oB4_71 P], {}⟩
-- B4: objects 72, toks 2207
def oB5_3 : Params → Obj := fun P => { cls := (.type "dict"), dict := none, data := .dict (List.toArray [⟨PyData.keyHash P (Str.ofString "__name__"), (.str (Str.ofString "__name__") 165), (.str (Str.ofString "law_mq0481_01") 2215)⟩, ⟨PyData.keyHash P (Str.ofString "__doc__"), (.str (Str.ofString "__doc__") 166), .none⟩, ⟨PyData.keyHash P (Str.ofString "__package__"), (.str (Str.ofString "__package__") 167), .none⟩, ⟨PyData.keyHash P (Str.ofString "__loader__"), (.str (Str.ofString "__loader__") 168), (.builtin "__main__.__loader__#opaque")⟩, ⟨PyData.keyHash P (Str.ofString "__spec__"), (.str (Str.ofString "__spec__") 169), .none⟩, ⟨PyData.keyHash P (Str.ofString "__annotations__"), (.str (Str.ofString "__annotations__") 170), (.ref 6)⟩, ⟨PyData.keyHash P (Str.ofString "__builtins__"), (.str (Str.ofString "__builtins__") 171), (.ref 4)⟩, ⟨PyData.keyHash P (Str.ofString "__file__"), (.str (Str.ofString "__file__") 173), (.str (Str.ofString "/claim/cut.py") 172)⟩, ⟨PyData.keyHash P (Str.ofString "__cached__"), (.str (Str.ofString "__cached__") 174), .none⟩, ⟨PyData.keyHash P (Str.ofString "b1_set"), (.str (Str.ofString "b1_set") 248), (.ref 22)⟩, ⟨PyData.keyHash P (Str.ofString "in_table_b1"), (.str (Str.ofString "in_table_b1") 255), (.ref 32)⟩, ⟨PyData.keyHash P (Str.ofString "b3_exceptions"), (.str (Str.ofString "b3_exceptions") 2206), (.ref 33)⟩, ⟨PyData.keyHash P (Str.ofString "map_table_b3"), (.str (Str.ofString "map_table_b3") 2214), (.ref 78)⟩, ⟨PyData.keyHash P (Str.ofString "_law_words"), (.str (Str.ofString "_law_words") 2225), (.ref 85)⟩, ⟨PyData.keyHash P (Str.ofString "_law_mathematical"), (.str (Str.ofString "_law_mathematical") 2235), (.ref 92)⟩, ⟨PyData.keyHash P (Str.ofString "_law_hidden"), (.str (Str.ofString "_law_hidden") 2244), (.ref 99)⟩, ⟨PyData.keyHash P (Str.ofString "_law_sign"), (.str (Str.ofString "_law_sign") 2255), (.ref 106)⟩, ⟨PyData.keyHash P (Str.ofString "_law_small"), (.str (Str.ofString "_law_small") 2263), (.ref 113)⟩, ⟨PyData.keyHash P (Str.ofString "_law_told"), (.str (Str.ofString "_law_told") 2269), (.ref 118)⟩, ⟨PyData.keyHash P (Str.ofString "law"), (.str (Str.ofString "law") 2275), (.ref 123)⟩]) 20, slots := List.toArray [] }
def oB5_12 : Params → Obj := fun P => { cls := .none, dict := none, data := .fields (List.toArray [(.int (3) 0), (.int (0) 0), (.ref 31), (.int (6) 0), (.int (0) 0), (.ref 77), (.int (12) 0), (.int (0) 0), (.ref 84), (.int (17) 0), (.int (0) 0), (.ref 91), (.int (39) 0), (.int (0) 0), (.ref 98), (.int (44) 0), (.int (0) 0), (.ref 105), (.int (58) 0), (.int (0) 0), (.ref 112), (.int (67) 0), (.int (0) 0), (.ref 117), (.int (72) 0), (.int (0) 0), (.ref 122)]), slots := List.toArray [] }
def oB5_72 : Params → Obj := fun P => { cls := (.type "tuple"), dict := none, data := .seq (List.toArray []) 0, slots := List.toArray [] }
def oB5_73 : Params → Obj := fun P => { cls := .none, dict := none, data := .fields (List.toArray []), slots := List.toArray [] }
def oB5_74 : Params → Obj := fun P => { cls := (.type "tuple"), dict := none, data := .seq (List.toArray [(.str (Str.ofString "code") 2210), (.str (Str.ofString "r") 2211)]) 0, slots := List.toArray [] }
def oB5_75 : Params → Obj := fun P => { cls := (.type "tuple"), dict := none, data := .seq (List.toArray []) 0, slots := List.toArray [] }
def oB5_76 : Params → Obj := fun P => { cls := .none, dict := none, data := .func { name := Str.ofString "map_table_b3", qualname := Str.ofString "map_table_b3", params := fPar (stN 4), body := fBody (stN 4), scope := fScope (stN 4), globals := 0, closure := [], defaults := .none, kwdefaults := .none, doc := .none, pyModule := .none, annotations := none, code := .none, closureTuple := .none, builtins := 0 }, slots := List.toArray [] }
def oB5_77 : Params → Obj := fun P => { cls := (.type "code"), dict := none, data := .fields (List.toArray [(.str (Str.ofString "map_table_b3") 2207), (.str (Str.ofString "map_table_b3") 2208), (.str (Str.ofString "/claim/cut.py") 2209), (.int (6) 0), (.int (1) 0), (.int (0) 0), (.int (0) 0), (.int (3) 0), (.ref 72), (.bool true), (.int (181) 0), (.ref 73), .none, (.ref 74), (.ref 75), (.ref 76), (.int (2212) 0), (.int (6) 0), (.str (Str.ofString "/claim/cut.py") 2213)]), slots := List.toArray [] }
def oB5_78 : Params → Obj := fun P => { cls := (.type "function"), dict := none, data := .func { name := Str.ofString "map_table_b3", qualname := Str.ofString "map_table_b3", params := fPar (stN 4), body := fBody (stN 4), scope := fScope (stN 4), globals := 3, closure := [], defaults := .none, kwdefaults := .none, doc := .none, pyModule := (.str (Str.ofString "cpy313.stringprep") 187), annotations := none, code := (.ref 77), closureTuple := .none, builtins := 0 }, slots := List.toArray [] }
def oB5_79 : Params → Obj := fun P => { cls := (.type "tuple"), dict := none, data := .seq (List.toArray []) 0, slots := List.toArray [] }
def oB5_80 : Params → Obj := fun P => { cls := .none, dict := none, data := .fields (List.toArray []), slots := List.toArray [] }
def oB5_81 : Params → Obj := fun P => { cls := (.type "tuple"), dict := none, data := .seq (List.toArray [(.str (Str.ofString "squares") 2220), (.str (Str.ofString "letterlike") 2221), (.str (Str.ofString "ligatures") 2222)]) 0, slots := List.toArray [] }
def oB5_82 : Params → Obj := fun P => { cls := (.type "tuple"), dict := none, data := .seq (List.toArray []) 0, slots := List.toArray [] }
def oB5_83 : Params → Obj := fun P => { cls := .none, dict := none, data := .func { name := Str.ofString "_law_words", qualname := Str.ofString "_law_words", params := fPar (stN 6), body := fBody (stN 6), scope := fScope (stN 6), globals := 0, closure := [], defaults := .none, kwdefaults := .none, doc := .none, pyModule := .none, annotations := none, code := .none, closureTuple := .none, builtins := 0 }, slots := List.toArray [] }
def oB5_84 : Params → Obj := fun P => { cls := (.type "code"), dict := none, data := .fields (List.toArray [(.str (Str.ofString "_law_words") 2217), (.str (Str.ofString "_law_words") 2218), (.str (Str.ofString "/claim/cut.py") 2219), (.int (12) 0), (.int (0) 0), (.int (0) 0), (.int (0) 0), (.int (3) 0), (.ref 79), (.bool true), (.int (181) 0), (.ref 80), .none, (.ref 81), (.ref 82), (.ref 83), (.int (2223) 0), (.int (12) 0), (.str (Str.ofString "/claim/cut.py") 2224)]), slots := List.toArray [] }
def oB5_85 : Params → Obj := fun P => { cls := (.type "function"), dict := none, data := .func { name := Str.ofString "_law_words", qualname := Str.ofString "_law_words", params := fPar (stN 6), body := fBody (stN 6), scope := fScope (stN 6), globals := 3, closure := [], defaults := .none, kwdefaults := .none, doc := .none, pyModule := (.str (Str.ofString "law_mq0481_01") 2215), annotations := none, code := (.ref 84), closureTuple := .none, builtins := 0 }, slots := List.toArray [] }
def oB5_86 : Params → Obj := fun P => { cls := (.type "tuple"), dict := none, data := .seq (List.toArray []) 0, slots := List.toArray [] }
def oB5_87 : Params → Obj := fun P => { cls := .none, dict := none, data := .fields (List.toArray []), slots := List.toArray [] }
def oB5_88 : Params → Obj := fun P => { cls := (.type "tuple"), dict := none, data := .seq (List.toArray [(.str (Str.ofString "place") 2229), (.str (Str.ofString "face") 2230), (.str (Str.ofString "letter") 2231), (.str (Str.ofString "gone") 2232)]) 0, slots := List.toArray [] }
def oB5_89 : Params → Obj := fun P => { cls := (.type "tuple"), dict := none, data := .seq (List.toArray []) 0, slots := List.toArray [] }
def oB5_90 : Params → Obj := fun P => { cls := .none, dict := none, data := .func { name := Str.ofString "_law_mathematical", qualname := Str.ofString "_law_mathematical", params := fPar (stN 7), body := fBody (stN 7), scope := fScope (stN 7), globals := 0, closure := [], defaults := .none, kwdefaults := .none, doc := .none, pyModule := .none, annotations := none, code := .none, closureTuple := .none, builtins := 0 }, slots := List.toArray [] }
def oB5_91 : Params → Obj := fun P => { cls := (.type "code"), dict := none, data := .fields (List.toArray [(.str (Str.ofString "_law_mathematical") 2226), (.str (Str.ofString "_law_mathematical") 2227), (.str (Str.ofString "/claim/cut.py") 2228), (.int (17) 0), (.int (1) 0), (.int (0) 0), (.int (0) 0), (.int (3) 0), (.ref 86), (.bool true), (.int (181) 0), (.ref 87), .none, (.ref 88), (.ref 89), (.ref 90), (.int (2233) 0), (.int (17) 0), (.str (Str.ofString "/claim/cut.py") 2234)]), slots := List.toArray [] }
def oB5_92 : Params → Obj := fun P => { cls := (.type "function"), dict := none, data := .func { name := Str.ofString "_law_mathematical", qualname := Str.ofString "_law_mathematical", params := fPar (stN 7), body := fBody (stN 7), scope := fScope (stN 7), globals := 3, closure := [], defaults := .none, kwdefaults := .none, doc := .none, pyModule := (.str (Str.ofString "law_mq0481_01") 2215), annotations := none, code := (.ref 91), closureTuple := .none, builtins := 0 }, slots := List.toArray [] }
def oB5_93 : Params → Obj := fun P => { cls := (.type "tuple"), dict := none, data := .seq (List.toArray []) 0, slots := List.toArray [] }
def oB5_94 : Params → Obj := fun P => { cls := .none, dict := none, data := .fields (List.toArray []), slots := List.toArray [] }
def oB5_95 : Params → Obj := fun P => { cls := (.type "tuple"), dict := none, data := .seq (List.toArray [(.str (Str.ofString "which") 2239), (.str (Str.ofString "first") 2240), (.str (Str.ofString "many") 2241)]) 0, slots := List.toArray [] }
def oB5_96 : Params → Obj := fun P => { cls := (.type "tuple"), dict := none, data := .seq (List.toArray []) 0, slots := List.toArray [] }
def oB5_97 : Params → Obj := fun P => { cls := .none, dict := none, data := .func { name := Str.ofString "_law_hidden", qualname := Str.ofString "_law_hidden", params := fPar (stN 8), body := fBody (stN 8), scope := fScope (stN 8), globals := 0, closure := [], defaults := .none, kwdefaults := .none, doc := .none, pyModule := .none, annotations := none, code := .none, closureTuple := .none, builtins := 0 }, slots := List.toArray [] }
def oB5_98 : Params → Obj := fun P => { cls := (.type "code"), dict := none, data := .fields (List.toArray [(.str (Str.ofString "_law_hidden") 2236), (.str (Str.ofString "_law_hidden") 2237), (.str (Str.ofString "/claim/cut.py") 2238), (.int (39) 0), (.int (1) 0), (.int (0) 0), (.int (0) 0), (.int (3) 0), (.ref 93), (.bool true), (.int (181) 0), (.ref 94), .none, (.ref 95), (.ref 96), (.ref 97), (.int (2242) 0), (.int (39) 0), (.str (Str.ofString "/claim/cut.py") 2243)]), slots := List.toArray [] }
def oB5_99 : Params → Obj := fun P => { cls := (.type "function"), dict := none, data := .func { name := Str.ofString "_law_hidden", qualname := Str.ofString "_law_hidden", params := fPar (stN 8), body := fBody (stN 8), scope := fScope (stN 8), globals := 3, closure := [], defaults := .none, kwdefaults := .none, doc := .none, pyModule := (.str (Str.ofString "law_mq0481_01") 2215), annotations := none, code := (.ref 98), closureTuple := .none, builtins := 0 }, slots := List.toArray [] }
def oB5_100 : Params → Obj := fun P => { cls := (.type "tuple"), dict := none, data := .seq (List.toArray []) 0, slots := List.toArray [] }
def oB5_101 : Params → Obj := fun P => { cls := .none, dict := none, data := .fields (List.toArray []), slots := List.toArray [] }
def oB5_102 : Params → Obj := fun P => { cls := (.type "tuple"), dict := none, data := .seq (List.toArray [(.str (Str.ofString "block") 2248), (.str (Str.ofString "place") 2249), (.str (Str.ofString "words") 2250), (.str (Str.ofString "named") 2251), (.str (Str.ofString "spot") 2252)]) 0, slots := List.toArray [] }
def oB5_103 : Params → Obj := fun P => { cls := (.type "tuple"), dict := none, data := .seq (List.toArray []) 0, slots := List.toArray [] }
def oB5_104 : Params → Obj := fun P => { cls := .none, dict := none, data := .func { name := Str.ofString "_law_sign", qualname := Str.ofString "_law_sign", params := fPar (stN 9), body := fBody (stN 9), scope := fScope (stN 9), globals := 0, closure := [], defaults := .none, kwdefaults := .none, doc := .none, pyModule := .none, annotations := none, code := .none, closureTuple := .none, builtins := 0 }, slots := List.toArray [] }
def oB5_105 : Params → Obj := fun P => { cls := (.type "code"), dict := none, data := .fields (List.toArray [(.str (Str.ofString "_law_sign") 2245), (.str (Str.ofString "_law_sign") 2246), (.str (Str.ofString "/claim/cut.py") 2247), (.int (44) 0), (.int (3) 0), (.int (0) 0), (.int (0) 0), (.int (3) 0), (.ref 100), (.bool true), (.int (181) 0), (.ref 101), .none, (.ref 102), (.ref 103), (.ref 104), (.int (2253) 0), (.int (44) 0), (.str (Str.ofString "/claim/cut.py") 2254)]), slots := List.toArray [] }
def oB5_106 : Params → Obj := fun P => { cls := (.type "function"), dict := none, data := .func { name := Str.ofString "_law_sign", qualname := Str.ofString "_law_sign", params := fPar (stN 9), body := fBody (stN 9), scope := fScope (stN 9), globals := 3, closure := [], defaults := .none, kwdefaults := .none, doc := .none, pyModule := (.str (Str.ofString "law_mq0481_01") 2215), annotations := none, code := (.ref 105), closureTuple := .none, builtins := 0 }, slots := List.toArray [] }
def oB5_107 : Params → Obj := fun P => { cls := (.type "tuple"), dict := none, data := .seq (List.toArray []) 0, slots := List.toArray [] }
def oB5_108 : Params → Obj := fun P => { cls := .none, dict := none, data := .fields (List.toArray []), slots := List.toArray [] }
def oB5_109 : Params → Obj := fun P => { cls := (.type "tuple"), dict := none, data := .seq (List.toArray [(.str (Str.ofString "sign") 2259), (.str (Str.ofString "spot") 2260)]) 0, slots := List.toArray [] }
def oB5_110 : Params → Obj := fun P => { cls := (.type "tuple"), dict := none, data := .seq (List.toArray []) 0, slots := List.toArray [] }
def oB5_111 : Params → Obj := fun P => { cls := .none, dict := none, data := .func { name := Str.ofString "_law_small", qualname := Str.ofString "_law_small", params := fPar (stN 10), body := fBody (stN 10), scope := fScope (stN 10), globals := 0, closure := [], defaults := .none, kwdefaults := .none, doc := .none, pyModule := .none, annotations := none, code := .none, closureTuple := .none, builtins := 0 }, slots := List.toArray [] }
def oB5_112 : Params → Obj := fun P => { cls := (.type "code"), dict := none, data := .fields (List.toArray [(.str (Str.ofString "_law_small") 2256), (.str (Str.ofString "_law_small") 2257), (.str (Str.ofString "/claim/cut.py") 2258), (.int (58) 0), (.int (1) 0), (.int (0) 0), (.int (0) 0), (.int (3) 0), (.ref 107), (.bool true), (.int (181) 0), (.ref 108), .none, (.ref 109), (.ref 110), (.ref 111), (.int (2261) 0), (.int (58) 0), (.str (Str.ofString "/claim/cut.py") 2262)]), slots := List.toArray [] }
def oB5_113 : Params → Obj := fun P => { cls := (.type "function"), dict := none, data := .func { name := Str.ofString "_law_small", qualname := Str.ofString "_law_small", params := fPar (stN 10), body := fBody (stN 10), scope := fScope (stN 10), globals := 3, closure := [], defaults := .none, kwdefaults := .none, doc := .none, pyModule := (.str (Str.ofString "law_mq0481_01") 2215), annotations := none, code := (.ref 112), closureTuple := .none, builtins := 0 }, slots := List.toArray [] }
def oB5_114 : Params → Obj := fun P => { cls := (.type "tuple"), dict := none, data := .seq (List.toArray []) 0, slots := List.toArray [] }
def oB5_115 : Params → Obj := fun P => { cls := .none, dict := none, data := .fields (List.toArray []), slots := List.toArray [] }
def oB5_116 : Params → Obj := fun P => { cls := .none, dict := none, data := .func { name := Str.ofString "_law_told", qualname := Str.ofString "_law_told", params := fPar (stN 11), body := fBody (stN 11), scope := fScope (stN 11), globals := 0, closure := [], defaults := .none, kwdefaults := .none, doc := .none, pyModule := .none, annotations := none, code := .none, closureTuple := .none, builtins := 0 }, slots := List.toArray [] }
def oB5_117 : Params → Obj := fun P => { cls := (.type "code"), dict := none, data := .fields (List.toArray [(.str (Str.ofString "_law_told") 2264), (.str (Str.ofString "_law_told") 2265), (.str (Str.ofString "/claim/cut.py") 2266), (.int (67) 0), (.int (2) 0), (.int (0) 0), (.int (0) 0), (.int (3) 0), (.ref 114), (.bool true), (.int (181) 0), (.ref 115), .none, .none, .none, (.ref 116), (.int (2267) 0), (.int (67) 0), (.str (Str.ofString "/claim/cut.py") 2268)]), slots := List.toArray [] }
def oB5_118 : Params → Obj := fun P => { cls := (.type "function"), dict := none, data := .func { name := Str.ofString "_law_told", qualname := Str.ofString "_law_told", params := fPar (stN 11), body := fBody (stN 11), scope := fScope (stN 11), globals := 3, closure := [], defaults := .none, kwdefaults := .none, doc := .none, pyModule := (.str (Str.ofString "law_mq0481_01") 2215), annotations := none, code := (.ref 117), closureTuple := .none, builtins := 0 }, slots := List.toArray [] }
def oB5_119 : Params → Obj := fun P => { cls := (.type "tuple"), dict := none, data := .seq (List.toArray []) 0, slots := List.toArray [] }
def oB5_120 : Params → Obj := fun P => { cls := .none, dict := none, data := .fields (List.toArray []), slots := List.toArray [] }
def oB5_121 : Params → Obj := fun P => { cls := .none, dict := none, data := .func { name := Str.ofString "law", qualname := Str.ofString "law", params := fPar (stN 12), body := fBody (stN 12), scope := fScope (stN 12), globals := 0, closure := [], defaults := .none, kwdefaults := .none, doc := .none, pyModule := .none, annotations := none, code := .none, closureTuple := .none, builtins := 0 }, slots := List.toArray [] }
def oB5_122 : Params → Obj := fun P => { cls := (.type "code"), dict := none, data := .fields (List.toArray [(.str (Str.ofString "law") 2270), (.str (Str.ofString "law") 2271), (.str (Str.ofString "/claim/cut.py") 2272), (.int (72) 0), (.int (1) 0), (.int (0) 0), (.int (0) 0), (.int (3) 0), (.ref 119), (.bool true), (.int (181) 0), (.ref 120), .none, .none, .none, (.ref 121), (.int (2273) 0), (.int (72) 0), (.str (Str.ofString "/claim/cut.py") 2274)]), slots := List.toArray [] }
def oB5_123 : Params → Obj := fun P => { cls := (.type "function"), dict := none, data := .func { name := Str.ofString "law", qualname := Str.ofString "law", params := fPar (stN 12), body := fBody (stN 12), scope := fScope (stN 12), globals := 3, closure := [], defaults := .none, kwdefaults := .none, doc := .none, pyModule := (.str (Str.ofString "law_mq0481_01") 2215), annotations := none, code := (.ref 122), closureTuple := .none, builtins := 0 }, slots := List.toArray [] }
def tB5 : Params → BT := fun P => (.node (boot_o_0 P) (.node (boot_o_1 P) (.node (oB5_3 P) (.node (boot_o_7 P) (.node (oB2_15 P) (.node (oB3_31 P) (.node (oB4_63 P) .nil .nil) (.node (oB5_95 P) .nil .nil)) (.node (oB4_47 P) (.node (oB5_79 P) .nil .nil) (.node (oB5_111 P) .nil .nil))) (.node (oB2_23 P) (.node (oB4_39 P) (.node (oB4_71 P) .nil .nil) (.node (oB5_103 P) .nil .nil)) (.node (oB4_55 P) (.node (oB5_87 P) .nil .nil) (.node (oB5_119 P) .nil .nil)))) (.node (oA_11 P) (.node (oB2_19 P) (.node (oB4_35 P) (.node (oB4_67 P) .nil .nil) (.node (oB5_99 P) .nil .nil)) (.node (oB4_51 P) (.node (oB5_83 P) .nil .nil) (.node (oB5_115 P) .nil .nil))) (.node (oB3_27 P) (.node (oB4_43 P) (.node (oB5_75 P) .nil .nil) (.node (oB5_107 P) .nil .nil)) (.node (oB4_59 P) (.node (oB5_91 P) .nil .nil) (.node (oB5_123 P) .nil .nil))))) (.node (boot_o_5 P) (.node (boot_o_9 P) (.node (oB2_17 P) (.node (oB4_33 P) (.node (oB4_65 P) .nil .nil) (.node (oB5_97 P) .nil .nil)) (.node (oB4_49 P) (.node (oB5_81 P) .nil .nil) (.node (oB5_113 P) .nil .nil))) (.node (oB2_25 P) (.node (oB4_41 P) (.node (oB5_73 P) .nil .nil) (.node (oB5_105 P) .nil .nil)) (.node (oB4_57 P) (.node (oB5_89 P) .nil .nil) (.node (oB5_121 P) .nil .nil)))) (.node (oA_13 P) (.node (oB2_21 P) (.node (oB4_37 P) (.node (oB4_69 P) .nil .nil) (.node (oB5_101 P) .nil .nil)) (.node (oB4_53 P) (.node (oB5_85 P) .nil .nil) (.node (oB5_117 P) .nil .nil))) (.node (oB3_29 P) (.node (oB4_45 P) (.node (oB5_77 P) .nil .nil) (.node (oB5_109 P) .nil .nil)) (.node (oB4_61 P) (.node (oB5_93 P) .nil .nil) .nil))))) (.node (boot_o_2 P) (.node (boot_o_4 P) (.node (boot_o_8 P) (.node (oB2_16 P) (.node (oB3_32 P) (.node (oB4_64 P) .nil .nil) (.node (oB5_96 P) .nil .nil)) (.node (oB4_48 P) (.node (oB5_80 P) .nil .nil) (.node (oB5_112 P) .nil .nil))) (.node (oB2_24 P) (.node (oB4_40 P) (.node (oB5_72 P) .nil .nil) (.node (oB5_104 P) .nil .nil)) (.node (oB4_56 P) (.node (oB5_88 P) .nil .nil) (.node (oB5_120 P) .nil .nil)))) (.node (oB5_12 P) (.node (oB2_20 P) (.node (oB4_36 P) (.node (oB4_68 P) .nil .nil) (.node (oB5_100 P) .nil .nil)) (.node (oB4_52 P) (.node (oB5_84 P) .nil .nil) (.node (oB5_116 P) .nil .nil))) (.node (oB3_28 P) (.node (oB4_44 P) (.node (oB5_76 P) .nil .nil) (.node (oB5_108 P) .nil .nil)) (.node (oB4_60 P) (.node (oB5_92 P) .nil .nil) .nil)))) (.node (boot_o_6 P) (.node (boot_o_10 P) (.node (oB2_18 P) (.node (oB4_34 P) (.node (oB4_66 P) .nil .nil) (.node (oB5_98 P) .nil .nil)) (.node (oB4_50 P) (.node (oB5_82 P) .nil .nil) (.node (oB5_114 P) .nil .nil))) (.node (oB3_26 P) (.node (oB4_42 P) (.node (oB5_74 P) .nil .nil) (.node (oB5_106 P) .nil .nil)) (.node (oB4_58 P) (.node (oB5_90 P) .nil .nil) (.node (oB5_122 P) .nil .nil)))) (.node (oA_14 P) (.node (oB2_22 P) (.node (oB4_38 P) (.node (oB4_70 P) .nil .nil) (.node (oB5_102 P) .nil .nil)) (.node (oB4_54 P) (.node (oB5_86 P) .nil .nil) (.node (oB5_118 P) .nil .nil))) (.node (oB3_30 P) (.node (oB4_46 P) (.node (oB5_78 P) .nil .nil) (.node (oB5_110 P) .nil .nil)) (.node (oB4_62 P) (.node (oB5_94 P) .nil .nil) .nil))))))
def hB5 : Params → Heap := fun P => ⟨List.toArray [boot_o_0 P, boot_o_1 P, boot_o_2 P, oB5_3 P, boot_o_4 P, boot_o_5 P, boot_o_6 P, boot_o_7 P, boot_o_8 P, boot_o_9 P, boot_o_10 P, oA_11 P, oB5_12 P, oA_13 P, oA_14 P, oB2_15 P, oB2_16 P, oB2_17 P, oB2_18 P, oB2_19 P, oB2_20 P, oB2_21 P, oB2_22 P, oB2_23 P, oB2_24 P, oB2_25 P, oB3_26 P, oB3_27 P, oB3_28 P, oB3_29 P, oB3_30 P, oB3_31 P, oB3_32 P, oB4_33 P, oB4_34 P, oB4_35 P, oB4_36 P, oB4_37 P, oB4_38 P, oB4_39 P, oB4_40 P, oB4_41 P, oB4_42 P, oB4_43 P, oB4_44 P, oB4_45 P, oB4_46 P, oB4_47 P, oB4_48 P, oB4_49 P, oB4_50 P, oB4_51 P, oB4_52 P, oB4_53 P, oB4_54 P, oB4_55 P, oB4_56 P, oB4_57 P, oB4_58 P, oB4_59 P, oB4_60 P, oB4_61 P, oB4_62 P, oB4_63 P, oB4_64 P, oB4_65 P, oB4_66 P, oB4_67 P, oB4_68 P, oB4_69 P, oB4_70 P, oB4_71 P, oB5_72 P, oB5_73 P, oB5_74 P, oB5_75 P, oB5_76 P, oB5_77 P, oB5_78 P, oB5_79 P, oB5_80 P, oB5_81 P, oB5_82 P, oB5_83 P, oB5_84 P, oB5_85 P, oB5_86 P, oB5_87 P, oB5_88 P, oB5_89 P, oB5_90 P, oB5_91 P, oB5_92 P, oB5_93 P, oB5_94 P, oB5_95 P, oB5_96 P, oB5_97 P, oB5_98 P, oB5_99 P, oB5_100 P, oB5_101 P, oB5_102 P, oB5_103 P, oB5_104 P, oB5_105 P, oB5_106 P, oB5_107 P, oB5_108 P, oB5_109 P, oB5_110 P, oB5_111 P, oB5_112 P, oB5_113 P, oB5_114 P, oB5_115 P, oB5_116 P, oB5_117 P, oB5_118 P, oB5_119 P, oB5_120 P, oB5_121 P, oB5_122 P, oB5_123 P], {}⟩
-- B5: objects 124, toks 2276
end
end Mine
end
section
open PySem PySem.W PyProof.Rows
set_option Elab.async false
set_option maxRecDepth 100000
namespace Mine
abbrev pos1 : Pos := ⟨1, 0, 1, 8⟩
abbrev pos2 : Pos := ⟨2, 0, 2, 6⟩
abbrev pos3 : Pos := ⟨3, 0, 4, 30⟩
theorem run1 (w : World) (os : OsState) : segRunT treeTable pw w 11 ann0 1 10 ⟨tA w.params, 15, {}, #[], {}, 187, os⟩ (piecesOf [stN 0] env cE q0 [topFrame q0]) = some (.next, ⟨tB1 w.params, 15, {}, #[], {}, 189, os⟩, cE, pos1) := by
  kernel_rfl
theorem run3 (w : World) (os : OsState) : segRunT treeTable pw w 11 ann0 1 30 ⟨tB2 w.params, 26, {}, #[], {}, 249, os⟩ (piecesOf [stN 2] env cE pos2 [topFrame q0]) = some (.next, ⟨tB3 w.params, 33, {}, #[], {}, 256, os⟩, cE, pos3) := by
  kernel_rfl
end Mine
end
section
open PySem PySem.W PyProof.Rows
set_option Elab.async false
set_option maxRecDepth 100000
namespace Mine
def Run2 (w : World) : Prop := ∀ os : OsState, segRunT treeTable pw w 11 ann0 1 999 ⟨tB1 w.params, 15, {}, #[], {}, 189, os⟩ (piecesOf [stN 1] env cE pos1 [topFrame q0]) = some (.next, ⟨tB2 w.params, 26, {}, #[], {}, 249, os⟩, cE, pos2)
theorem run2ff (w : World) : Run2 ((w.withFollow "special-get-raises" false).withFollow "set-order" false) := by
  intro os
  unfold piecesOf
  rw [PySem.W.Fast.te10110043849684766642, PySem.W.Fast.te14364793385576792824, PySem.W.Fast.te12563942051412417395]
  kernel_rfl
theorem run2ft (w : World) : Run2 ((w.withFollow "special-get-raises" false).withFollow "set-order" true) := by
  intro os
  unfold piecesOf
  rw [PySem.W.Fast.te10110043849684766642, PySem.W.Fast.te14364793385576792824, PySem.W.Fast.te12563942051412417395]
  kernel_rfl
theorem run2tf (w : World) : Run2 ((w.withFollow "special-get-raises" true).withFollow "set-order" false) := by
  intro os
  unfold piecesOf
  rw [PySem.W.Fast.te10110043849684766642, PySem.W.Fast.te14364793385576792824, PySem.W.Fast.te12563942051412417395]
  kernel_rfl
theorem run2tt (w : World) : Run2 ((w.withFollow "special-get-raises" true).withFollow "set-order" true) := by
  intro os
  unfold piecesOf
  rw [PySem.W.Fast.te10110043849684766642, PySem.W.Fast.te14364793385576792824, PySem.W.Fast.te12563942051412417395]
  kernel_rfl
theorem run2 (w : World) : Run2 w :=
  byRow2 "set-order" (P := Run2) (fun w => byRow2 "special-get-raises" (P := fun w => Run2 (w.withFollow "set-order" false)) run2ff run2tf w) (fun w => byRow2 "special-get-raises" (P := fun w => Run2 (w.withFollow "set-order" true)) run2ft run2tt w) w
end Mine
end
section
open PySem PySem.W PyProof.Rows
set_option Elab.async false
set_option maxRecDepth 100000
namespace Mine
theorem runPre (w : World) (os : OsState) : topGo treeTable pw w 11 ann0 12 ⟨boot_heap w.params, Array.mk [], boot_drawn, boot_toks, os⟩ (topStub pw) = some (⟨hA w.params, #[], {}, 187, os⟩, ⟨denote treeTable cE, cE, q0, [topFrame q0]⟩) := by
  kernel_rfl
theorem runBlock (w : World) (os : OsState) : segRun treeTable pw w 11 ann0 1 1 ⟨hA w.params, #[], {}, 187, os⟩ (blockOf (behindTheImports pw) env cE q0 [topFrame q0]) = some (.next, SharedT.abs ⟨tA w.params, 15, {}, #[], {}, 187, os⟩, cE, q0) := by
  kernel_rfl
abbrev pos5 : Pos := ⟨72, 0, 86, 90⟩
abbrev rest5 : List Stmt := [stN 4, stN 5, stN 6, stN 7, stN 8, stN 9, stN 10, stN 11, stN 12]
theorem run5 (w : World) (os : OsState) (pos : Pos) : segRunT treeTable pw w 11 ann0 1 249 ⟨tB4 w.params, 72, {}, #[], {}, 2207, os⟩ (piecesOf rest5 env cE pos [topFrame q0]) = some (.next, ⟨tB5 w.params, 124, {}, #[], {}, 2276, os⟩, cE, pos5) := by
  unfold piecesOf
  rw [PySem.W.Fast.te10110043849684766642, PySem.W.Fast.te14364793385576792824, PySem.W.Fast.te12563942051412417395]
  kernel_rfl
theorem runFin (w : World) (os : OsState) : topRun treeTable pw w 11 ann0 2 (SharedT.abs ⟨tB5 w.params, 124, {}, #[], {}, 2276, os⟩) ⟨doneF .next, cE, pos5, [topFrame q0]⟩ = some ⟨hB5 w.params, #[], {}, 2276, os⟩ := by
  kernel_rfl
end Mine
end
section
open PySem PySem.W PyProof.Rows
set_option Elab.async false
set_option maxRecDepth 100000
namespace Mine
def insAll : BT → Nat → List Obj → BT
  | t, _, [] => t
  | t, n, o :: l => insAll (t.ins n o) (n + 1) l
def insOk : BT → Nat → List Obj → Bool
  | _, _, [] => true
  | t, n, o :: l => ((t.ins n o).get n).isSome && insOk (t.ins n o) (n + 1) l
theorem hp_nil (h : Heap) : hp h [] = h := by
  obtain ⟨os, l⟩ := h
  simp [hp]
theorem hp_cons (h : Heap) (o : Obj) (l : List Obj) : hp (h.push o) l = hp h (o :: l) := by
  simp [hp, Heap.push]
theorem hp_abs : ∀ {l : List Obj} {t : BT} {n : Nat} {life : Life}, insOk t n l = true → hp (absHeap t n life) l = absHeap (insAll t n l) (n + l.length) life
  | [], t, n, life, _ => hp_nil _
  | o :: l, t, n, life, h => by
    obtain ⟨h1, h2⟩ := Bool.and_eq_true_iff.mp h
    rw [← hp_cons, ← absHeap_ins h1, hp_abs h2, insAll, List.length_cons, Nat.add_assoc, Nat.add_comm 1]
def dTargets : Stmt → List Expr
  | .Assign ts _ _ => ts
  | _ => []
def dPos : Stmt → Pos
  | .Assign _ (.Dict _ _ p) _ => p
  | _ => default
def aPos : Stmt → Pos
  | .Assign _ _ p => p
  | _ => default
theorem st3_eq : stN 3 = .Assign (dTargets (stN 3)) (.Dict (dKeys (stN 3)) (dVals (stN 3)) (dPos (stN 3))) (aPos (stN 3)) := by kernel_rfl
theorem swaps3 : swapsWithSole (dTargets (stN 3)) (.Dict (dKeys (stN 3)) (dVals (stN 3)) (dPos (stN 3))) (aPos (stN 3)).line env = (pure false : Sem Bool) := by kernel_rfl
def suffix3 (v : Value) : Sem Flow := swappedStores (dTargets (stN 3)) (.Dict (dKeys (stN 3)) (dVals (stN 3)) (dPos (stN 3))) env >>= fun r => assignStores env v r ((assignEach (dTargets (stN 3)) env).map (·.2))
theorem exec3 : exec (stN 3) env = (standAt (aPos (stN 3)) >>= fun _ => eval (.Dict (dKeys (stN 3)) (dVals (stN 3)) (dPos (stN 3))) env >>= suffix3) := by
  rw [st3_eq, arm_exec_Assign]
  rw [← st3_eq, swaps3]
  rfl
theorem ins_ok (P : Params) : insOk (tB3 P) 33 (main33 :: subList) = true := by kernel_rfl
theorem sub_len : (main33 :: subList).length = 39 := by decide +kernel
theorem runSuffix (w : World) (os : OsState) (pos : Pos) : segRunT treeTable pw w 11 ann0 1 8 ⟨insAll (tB3 w.params) 33 (main33 :: subList), 72, {}, #[], {}, 2206, os⟩ ⟨(suffix3 (.ref 33)).wrap doneF deadEnd id id, cE, pos, [topFrame q0]⟩ =
    some (.next, ⟨tB4 w.params, 72, {}, #[], {}, 2207, os⟩, cE, ⟨5, 0, 5, 13⟩) := by
  kernel_rfl
end Mine
end
section
open PySem PySem.W PyProof.Rows
set_option Elab.async false
set_option maxRecDepth 100000
namespace Mine
theorem goes_dict3 (w : World) (os : OsState) : Goes pw w 11 ann0 q0 12516 (eval (.Dict (dKeys (stN 3)) (dVals (stN 3)) (dPos (stN 3))) env) (SharedT.abs ⟨tB3 w.params, 33, {}, #[], {}, 256, os⟩) (.ref 33)
    (SharedT.abs ⟨insAll (tB3 w.params) 33 (main33 :: subList), 72, {}, #[], {}, 2206, os⟩) := by
  rw [arm_eval_Dict]
  obtain ⟨pairs, e, r⟩ := pairs_of (p := pw) (w := w) (n₀ := 11) (ann := ann0) (q := q0) (env := env) (pos := dPos (stN 3)) items_ok
  rw [e]
  have hlen : pairs.length = 650 := r.length.trans items_len
  have cut : pairs.map asItem = (pairs.take 17).map asItem ++ (((chunks 37 (pairs.drop 17)).flatten).map asItem ++ ((pairs.drop 17).drop 629).map asItem) := by
    rw [chunks_flat, ← List.map_append, List.take_append_drop, ← List.map_append, List.take_append_drop]
  have up : Rising 0 (i0 ++ runs37.flatten ++ li) := by
    have : i0 ++ runs37.flatten ++ li = items := by
      unfold i0 runs37 li
      rw [chunks_flat, List.append_assoc, List.take_append_drop, List.take_append_drop]
    rw [this]
    exact rising_iff items_up
  have hsz : (absHeap (tB3 w.params) 33 ({} : Life)).objs.size = 33 := absHeap_size _ _ _
  have l0 : i0.length = 17 := by unfold i0; rw [List.length_take, items_len]; rfl
  have ll : li.length = 4 := by unfold li; rw [List.length_drop, List.length_drop, items_len]
  have lr : runs37.length = 37 := chunks_len _ _
  have g := goes_display (p := pw) (w := w) (n₀ := 11) (ann := ann0) (q := q0) (h := absHeap (tB3 w.params) 33 {}) (d := 33) (by decide) hsz.symm (by decide) (s := ⟨{}, #[], {}, 0, os⟩) (t := 256)
    (c0 := pairs.take 17) (lastp := (pairs.drop 17).drop 629) (i0 := i0) (li := li) (ps := chunks 37 (pairs.drop 17)) (cs := runs37) (r.take 17) l0 ((r.drop 17).chunks 37) (chunks_17 _ _ (by rw [List.length_drop]; show 17 * 37 ≤ items.length - 17; rw [items_len]; decide))
    ((r.drop 17).drop 629) (by omega) (by intro e; rw [e] at ll; cases ll) up (by omega)
  rw [← cut, ll, lr, hp_nil] at g
  refine (Goes.bind (Goes.at _ _) (m := 12515) ?_).n rfl
  have e1 := hp_abs (life := {}) (ins_ok w.params)
  rw [sub_len, show 33 + 39 = 72 from rfl] at e1
  have e2 : (SharedT.abs ⟨insAll (tB3 w.params) 33 (main33 :: subList), 72, {}, #[], {}, 2206, os⟩) = ⟨hp (absHeap (tB3 w.params) 33 {}) (main33 :: subList), #[], {}, 2206, os⟩ := by
    rw [e1, SharedT.abs]
  have e3 : (SharedT.abs ⟨tB3 w.params, 33, {}, #[], {}, 256, os⟩) = ⟨absHeap (tB3 w.params) 33 {}, #[], {}, 256, os⟩ := by
    rw [SharedT.abs]
  rw [e2, e3]
  rw [show 256 + 51 = 307 from rfl, show 307 + 51 * 37 = 2194 from rfl, show 2194 + 3 * 4 = 2206 from rfl, show 17 + 17 * 37 + 4 = 650 from rfl, show 223 + 330 * 37 + (6 + 19 * 4) = 12515 from rfl] at g
  unfold main33 subList
  exact g
theorem run4 (w : World) (os : OsState) {rest : List Stmt} {N : Nat} {r : Shared} (pos : Pos)
    (h : topRun treeTable pw w 11 ann0 N (SharedT.abs ⟨tB4 w.params, 72, {}, #[], {}, 2207, os⟩) (restOf rest env cE ⟨5, 0, 5, 13⟩ [topFrame q0]) = some r) :
    topRun treeTable pw w 11 ann0 (12517 + (8 + N)) (SharedT.abs ⟨tB3 w.params, 33, {}, #[], {}, 256, os⟩) (restOf (stN 3 :: rest) env cE pos [topFrame q0]) = some r := by
  unfold restOf
  rw [execs_cons_wrap, exec3]
  rw [Sem.bind_eq_wrap', Sem.wrap_wrap]
  have g1 := Goes.at (p := pw) (w := w) (n₀ := 11) (ann := ann0) (q := q0) (aPos (stN 3)) (SharedT.abs ⟨tB3 w.params, 33, {}, #[], {}, 256, os⟩)
  rw [show 12517 + (8 + N) = 1 + (12516 + (8 + N)) by omega]
  refine g1 _ _ _ _ _ _ _ _ fun pos' => ?_
  rw [Sem.bind_eq_wrap', Sem.wrap_wrap]
  refine goes_dict3 w os _ _ _ _ _ _ _ _ fun pos'' => ?_
  obtain ⟨a, ha, hN⟩ := seg_top (tb := treeTable) (p := pw) (w := w) (n₀ := 11) (ann := ann0) (res := id) (B := [topFrame q0]) (gd := id) (lv := id)
    (K' := fun f => match f with | .next => (execs rest env).wrap doneF (leaveH env) id id | f => doneF f) (H' := leaveH env) rfl 8 _ ⟨(suffix3 (.ref 33)).wrap doneF deadEnd id id, cE, pos'', [topFrame q0]⟩
    ⟨(suffix3 (.ref 33)).wrap (fun f => match f with | .next => (execs rest env).wrap doneF (leaveH env) id id | f => doneF f) (leaveH env) id id, cE, pos'', [topFrame q0]⟩ _ _ _ _ ⟨rfl, rfl, .inl ⟨rfl, rfl, _, rfl, rfl⟩⟩ (segRun_of (runSuffix w os pos''))
  obtain rfl : a = .next := ha
  exact hN N r h
theorem body_eq : behindTheImports pw = [stN 0] ++ ([stN 1] ++ ([stN 2] ++ (stN 3 :: (rest5 ++ [])))) := by kernel_rfl
theorem runAll (w : World) (os : OsState) : topRun treeTable pw w 11 ann0 (12 + (1 + (10 + (999 + (30 + (12517 + (8 + (249 + 2)))))))) ⟨boot_heap w.params, Array.mk [], boot_drawn, boot_toks, os⟩ (topStub pw) = some ⟨hB5 w.params, #[], {}, 2276, os⟩ := by
  refine go_top (runPre w os) ?_
  refine piece_block (env := env) (runBlock w os) ?_
  rw [body_eq]
  refine piece_app (segRun_of (run1 w os)) ?_
  refine piece_app (segRun_of (run2 w os)) ?_
  refine piece_app (segRun_of (run3 w os)) ?_
  refine run4 w os _ ?_
  refine piece_app (segRun_of (run5 w os _)) ?_
  exact piece_nil (runFin w os)
end Mine
end
section
open PySem PySem.W PyProof.Rows
set_option Elab.async false
set_option maxRecDepth 100000
set_option linter.unusedVariables false
namespace Mine
noncomputable section
def kRaw : Params → Frag := fun P => [(2, boot_o_2 P), (3, oB5_3 P), (6, boot_o_6 P), (22, oB2_22 P), (26, oB3_26 P), (28, oB3_28 P), (29, oB3_29 P), (31, oB3_31 P), (32, oB3_32 P), (33, oB4_33 P), (72, oB5_72 P), (74, oB5_74 P), (75, oB5_75 P), (77, oB5_77 P), (78, oB5_78 P), (79, oB5_79 P), (81, oB5_81 P), (82, oB5_82 P), (84, oB5_84 P), (85, oB5_85 P), (86, oB5_86 P), (88, oB5_88 P), (89, oB5_89 P), (91, oB5_91 P), (92, oB5_92 P), (93, oB5_93 P), (95, oB5_95 P), (96, oB5_96 P), (98, oB5_98 P), (99, oB5_99 P), (100, oB5_100 P), (102, oB5_102 P), (103, oB5_103 P), (105, oB5_105 P), (106, oB5_106 P), (107, oB5_107 P), (109, oB5_109 P), (110, oB5_110 P), (112, oB5_112 P), (113, oB5_113 P), (114, oB5_114 P), (117, oB5_117 P), (118, oB5_118 P), (119, oB5_119 P), (122, oB5_122 P), (123, oB5_123 P)]
set_option maxHeartbeats 0 in
def kTop : Params → Frag := fun P => (fun (x : Frag) (_ : x = kRaw P) => x) (
    (nat_lit 2, boot_o_2 P) ::
    (nat_lit 3, { cls := (.type "dict"), dict := none, data := .dict (List.toArray [⟨PyData.keyHash P (Str.ofString "__name__"), (.str (Str.ofString "__name__") 165), (.str (Str.ofString "law_mq0481_01") 2215)⟩, ⟨PyData.keyHash P (Str.ofString "__doc__"), (.str (Str.ofString "__doc__") 166), .none⟩, ⟨PyData.keyHash P (Str.ofString "__package__"), (.str (Str.ofString "__package__") 167), .none⟩, ⟨PyData.keyHash P (Str.ofString "__loader__"), (.str (Str.ofString "__loader__") 168), (.builtin "__main__.__loader__#opaque")⟩, ⟨PyData.keyHash P (Str.ofString "__spec__"), (.str (Str.ofString "__spec__") 169), .none⟩, ⟨PyData.keyHash P (Str.ofString "__annotations__"), (.str (Str.ofString "__annotations__") 170), (.ref 6)⟩, ⟨PyData.keyHash P (Str.ofString "__builtins__"), (.str (Str.ofString "__builtins__") 171), (.ref 4)⟩, ⟨PyData.keyHash P (Str.ofString "__file__"), (.str (Str.ofString "__file__") 173), (.str (Str.ofString "/claim/cut.py") 172)⟩, ⟨PyData.keyHash P (Str.ofString "__cached__"), (.str (Str.ofString "__cached__") 174), .none⟩, ⟨PyData.keyHash P (Str.ofString "b1_set"), (.str (Str.ofString "b1_set") 248), (.ref 22)⟩, ⟨PyData.keyHash P (Str.ofString "in_table_b1"), (.str (Str.ofString "in_table_b1") 255), (.ref 32)⟩, ⟨PyData.keyHash P (Str.ofString "b3_exceptions"), (.str (Str.ofString "b3_exceptions") 2206), (.ref 33)⟩, ⟨PyData.keyHash P (Str.ofString "map_table_b3"), (.str (Str.ofString "map_table_b3") 2214), (.ref 78)⟩, ⟨PyData.keyHash P (Str.ofString "_law_words"), (.str (Str.ofString "_law_words") 2225), (.ref 85)⟩, ⟨PyData.keyHash P (Str.ofString "_law_mathematical"), (.str (Str.ofString "_law_mathematical") 2235), (.ref 92)⟩, ⟨PyData.keyHash P (Str.ofString "_law_hidden"), (.str (Str.ofString "_law_hidden") 2244), (.ref 99)⟩, ⟨PyData.keyHash P (Str.ofString "_law_sign"), (.str (Str.ofString "_law_sign") 2255), (.ref 106)⟩, ⟨PyData.keyHash P (Str.ofString "_law_small"), (.str (Str.ofString "_law_small") 2263), (.ref 113)⟩, ⟨PyData.keyHash P (Str.ofString "_law_told"), (.str (Str.ofString "_law_told") 2269), (.ref 118)⟩, ⟨PyData.keyHash P (Str.ofString "law"), (.str (Str.ofString "law") 2275), (.ref 123)⟩]) 20, slots := List.toArray [] }) ::
    (nat_lit 6, boot_o_6 P) ::
    (nat_lit 22, { cls := (.type "set"), dict := none, data := .set (List.toArray [(65024, (.int (65024) 205)), (65025, (.int (65025) 206)), (65026, (.int (65026) 207)), (65027, (.int (65027) 208)), (65028, (.int (65028) 209)), (65029, (.int (65029) 210)), (6150, (.int (6150) 191)), (65030, (.int (65030) 211)), (65031, (.int (65031) 212)), (65032, (.int (65032) 213)), (65033, (.int (65033) 214)), (6155, (.int (6155) 192)), (6156, (.int (6156) 193)), (6157, (.int (6157) 194)), (8203, (.int (8203) 195)), (8204, (.int (8204) 196)), (8205, (.int (8205) 197)), (65034, (.int (65034) 215)), (65035, (.int (65035) 216)), (65036, (.int (65036) 217)), (65037, (.int (65037) 218)), (65038, (.int (65038) 219)), (65039, (.int (65039) 220)), (173, (.int (173) 189)), (847, (.int (847) 190)), (8288, (.int (8288) 198)), (65279, (.int (65279) 199))]) 29 { mask := 127, place := List.toArray [0, 1, 2, 3, 4, 5, 6, 7, 8, 9, 10, 11, 12, 13, 14, 15, 16, 17, 18, 19, 20, 21, 22, 45, 79, 96, 127], dummies := List.toArray [], finger := 0, led := !P.followText "set-order", moves := 2, plain := true }, slots := List.toArray [] }) ::
    (nat_lit 26, { cls := (.type "tuple"), dict := none, data := .seq (List.toArray []) 0, slots := List.toArray [] }) ::
    (nat_lit 28, { cls := (.type "tuple"), dict := none, data := .seq (List.toArray [(.str (Str.ofString "code") 252)]) 0, slots := List.toArray [] }) ::
    (nat_lit 29, { cls := (.type "tuple"), dict := none, data := .seq (List.toArray []) 0, slots := List.toArray [] }) ::
    (nat_lit 31, { cls := (.type "code"), dict := none, data := .fields (List.toArray [(.str (Str.ofString "in_table_b1") 249), (.str (Str.ofString "in_table_b1") 250), (.str (Str.ofString "/claim/cut.py") 251), (.int (3) 0), (.int (1) 0), (.int (0) 0), (.int (0) 0), (.int (3) 0), (.ref 26), (.bool true), (.int (181) 0), (.ref 27), .none, (.ref 28), (.ref 29), (.ref 30), (.int (253) 0), (.int (3) 0), (.str (Str.ofString "/claim/cut.py") 254)]), slots := List.toArray [] }) ::
    (nat_lit 32, Obj.mk _ _ (.func ⟨_, _, ⟨_, _, _, _, _, _, _⟩, .stmts _, ⟨_, _, _, _, _⟩, _, _, _, _, _, _, _, _, _, _⟩) _) ::
    (nat_lit 33, oB4_33 P) ::
    (nat_lit 72, { cls := (.type "tuple"), dict := none, data := .seq (List.toArray []) 0, slots := List.toArray [] }) ::
    (nat_lit 74, { cls := (.type "tuple"), dict := none, data := .seq (List.toArray [(.str (Str.ofString "code") 2210), (.str (Str.ofString "r") 2211)]) 0, slots := List.toArray [] }) ::
    (nat_lit 75, { cls := (.type "tuple"), dict := none, data := .seq (List.toArray []) 0, slots := List.toArray [] }) ::
    (nat_lit 77, { cls := (.type "code"), dict := none, data := .fields (List.toArray [(.str (Str.ofString "map_table_b3") 2207), (.str (Str.ofString "map_table_b3") 2208), (.str (Str.ofString "/claim/cut.py") 2209), (.int (6) 0), (.int (1) 0), (.int (0) 0), (.int (0) 0), (.int (3) 0), (.ref 72), (.bool true), (.int (181) 0), (.ref 73), .none, (.ref 74), (.ref 75), (.ref 76), (.int (2212) 0), (.int (6) 0), (.str (Str.ofString "/claim/cut.py") 2213)]), slots := List.toArray [] }) ::
    (nat_lit 78, Obj.mk _ _ (.func ⟨_, _, ⟨_, _, _, _, _, _, _⟩, .stmts _, ⟨_, _, _, _, _⟩, _, _, _, _, _, _, _, _, _, _⟩) _) ::
    (nat_lit 79, { cls := (.type "tuple"), dict := none, data := .seq (List.toArray []) 0, slots := List.toArray [] }) ::
    (nat_lit 81, { cls := (.type "tuple"), dict := none, data := .seq (List.toArray [(.str (Str.ofString "squares") 2220), (.str (Str.ofString "letterlike") 2221), (.str (Str.ofString "ligatures") 2222)]) 0, slots := List.toArray [] }) ::
    (nat_lit 82, { cls := (.type "tuple"), dict := none, data := .seq (List.toArray []) 0, slots := List.toArray [] }) ::
    (nat_lit 84, { cls := (.type "code"), dict := none, data := .fields (List.toArray [(.str (Str.ofString "_law_words") 2217), (.str (Str.ofString "_law_words") 2218), (.str (Str.ofString "/claim/cut.py") 2219), (.int (12) 0), (.int (0) 0), (.int (0) 0), (.int (0) 0), (.int (3) 0), (.ref 79), (.bool true), (.int (181) 0), (.ref 80), .none, (.ref 81), (.ref 82), (.ref 83), (.int (2223) 0), (.int (12) 0), (.str (Str.ofString "/claim/cut.py") 2224)]), slots := List.toArray [] }) ::
    (nat_lit 85, Obj.mk _ _ (.func ⟨_, _, ⟨_, _, _, _, _, _, _⟩, .stmts _, ⟨_, _, _, _, _⟩, _, _, _, _, _, _, _, _, _, _⟩) _) ::
    (nat_lit 86, { cls := (.type "tuple"), dict := none, data := .seq (List.toArray []) 0, slots := List.toArray [] }) ::
    (nat_lit 88, { cls := (.type "tuple"), dict := none, data := .seq (List.toArray [(.str (Str.ofString "place") 2229), (.str (Str.ofString "face") 2230), (.str (Str.ofString "letter") 2231), (.str (Str.ofString "gone") 2232)]) 0, slots := List.toArray [] }) ::
    (nat_lit 89, { cls := (.type "tuple"), dict := none, data := .seq (List.toArray []) 0, slots := List.toArray [] }) ::
    (nat_lit 91, { cls := (.type "code"), dict := none, data := .fields (List.toArray [(.str (Str.ofString "_law_mathematical") 2226), (.str (Str.ofString "_law_mathematical") 2227), (.str (Str.ofString "/claim/cut.py") 2228), (.int (17) 0), (.int (1) 0), (.int (0) 0), (.int (0) 0), (.int (3) 0), (.ref 86), (.bool true), (.int (181) 0), (.ref 87), .none, (.ref 88), (.ref 89), (.ref 90), (.int (2233) 0), (.int (17) 0), (.str (Str.ofString "/claim/cut.py") 2234)]), slots := List.toArray [] }) ::
    (nat_lit 92, Obj.mk _ _ (.func ⟨_, _, ⟨_, _, _, _, _, _, _⟩, .stmts _, ⟨_, _, _, _, _⟩, _, _, _, _, _, _, _, _, _, _⟩) _) ::
    (nat_lit 93, { cls := (.type "tuple"), dict := none, data := .seq (List.toArray []) 0, slots := List.toArray [] }) ::
    (nat_lit 95, { cls := (.type "tuple"), dict := none, data := .seq (List.toArray [(.str (Str.ofString "which") 2239), (.str (Str.ofString "first") 2240), (.str (Str.ofString "many") 2241)]) 0, slots := List.toArray [] }) ::
    (nat_lit 96, { cls := (.type "tuple"), dict := none, data := .seq (List.toArray []) 0, slots := List.toArray [] }) ::
    (nat_lit 98, { cls := (.type "code"), dict := none, data := .fields (List.toArray [(.str (Str.ofString "_law_hidden") 2236), (.str (Str.ofString "_law_hidden") 2237), (.str (Str.ofString "/claim/cut.py") 2238), (.int (39) 0), (.int (1) 0), (.int (0) 0), (.int (0) 0), (.int (3) 0), (.ref 93), (.bool true), (.int (181) 0), (.ref 94), .none, (.ref 95), (.ref 96), (.ref 97), (.int (2242) 0), (.int (39) 0), (.str (Str.ofString "/claim/cut.py") 2243)]), slots := List.toArray [] }) ::
    (nat_lit 99, Obj.mk _ _ (.func ⟨_, _, ⟨_, _, _, _, _, _, _⟩, .stmts _, ⟨_, _, _, _, _⟩, _, _, _, _, _, _, _, _, _, _⟩) _) ::
    (nat_lit 100, { cls := (.type "tuple"), dict := none, data := .seq (List.toArray []) 0, slots := List.toArray [] }) ::
    (nat_lit 102, { cls := (.type "tuple"), dict := none, data := .seq (List.toArray [(.str (Str.ofString "block") 2248), (.str (Str.ofString "place") 2249), (.str (Str.ofString "words") 2250), (.str (Str.ofString "named") 2251), (.str (Str.ofString "spot") 2252)]) 0, slots := List.toArray [] }) ::
    (nat_lit 103, { cls := (.type "tuple"), dict := none, data := .seq (List.toArray []) 0, slots := List.toArray [] }) ::
    (nat_lit 105, { cls := (.type "code"), dict := none, data := .fields (List.toArray [(.str (Str.ofString "_law_sign") 2245), (.str (Str.ofString "_law_sign") 2246), (.str (Str.ofString "/claim/cut.py") 2247), (.int (44) 0), (.int (3) 0), (.int (0) 0), (.int (0) 0), (.int (3) 0), (.ref 100), (.bool true), (.int (181) 0), (.ref 101), .none, (.ref 102), (.ref 103), (.ref 104), (.int (2253) 0), (.int (44) 0), (.str (Str.ofString "/claim/cut.py") 2254)]), slots := List.toArray [] }) ::
    (nat_lit 106, Obj.mk _ _ (.func ⟨_, _, ⟨_, _, _, _, _, _, _⟩, .stmts _, ⟨_, _, _, _, _⟩, _, _, _, _, _, _, _, _, _, _⟩) _) ::
    (nat_lit 107, { cls := (.type "tuple"), dict := none, data := .seq (List.toArray []) 0, slots := List.toArray [] }) ::
    (nat_lit 109, { cls := (.type "tuple"), dict := none, data := .seq (List.toArray [(.str (Str.ofString "sign") 2259), (.str (Str.ofString "spot") 2260)]) 0, slots := List.toArray [] }) ::
    (nat_lit 110, { cls := (.type "tuple"), dict := none, data := .seq (List.toArray []) 0, slots := List.toArray [] }) ::
    (nat_lit 112, { cls := (.type "code"), dict := none, data := .fields (List.toArray [(.str (Str.ofString "_law_small") 2256), (.str (Str.ofString "_law_small") 2257), (.str (Str.ofString "/claim/cut.py") 2258), (.int (58) 0), (.int (1) 0), (.int (0) 0), (.int (0) 0), (.int (3) 0), (.ref 107), (.bool true), (.int (181) 0), (.ref 108), .none, (.ref 109), (.ref 110), (.ref 111), (.int (2261) 0), (.int (58) 0), (.str (Str.ofString "/claim/cut.py") 2262)]), slots := List.toArray [] }) ::
    (nat_lit 113, Obj.mk _ _ (.func ⟨_, _, ⟨_, _, _, _, _, _, _⟩, .stmts _, ⟨_, _, _, _, _⟩, _, _, _, _, _, _, _, _, _, _⟩) _) ::
    (nat_lit 114, { cls := (.type "tuple"), dict := none, data := .seq (List.toArray []) 0, slots := List.toArray [] }) ::
    (nat_lit 117, { cls := (.type "code"), dict := none, data := .fields (List.toArray [(.str (Str.ofString "_law_told") 2264), (.str (Str.ofString "_law_told") 2265), (.str (Str.ofString "/claim/cut.py") 2266), (.int (67) 0), (.int (2) 0), (.int (0) 0), (.int (0) 0), (.int (3) 0), (.ref 114), (.bool true), (.int (181) 0), (.ref 115), .none, .none, .none, (.ref 116), (.int (2267) 0), (.int (67) 0), (.str (Str.ofString "/claim/cut.py") 2268)]), slots := List.toArray [] }) ::
    (nat_lit 118, Obj.mk _ _ (.func ⟨_, _, ⟨_, _, _, _, _, _, _⟩, .stmts _, ⟨_, _, _, _, _⟩, _, _, _, _, _, _, _, _, _, _⟩) _) ::
    (nat_lit 119, { cls := (.type "tuple"), dict := none, data := .seq (List.toArray []) 0, slots := List.toArray [] }) ::
    (nat_lit 122, { cls := (.type "code"), dict := none, data := .fields (List.toArray [(.str (Str.ofString "law") 2270), (.str (Str.ofString "law") 2271), (.str (Str.ofString "/claim/cut.py") 2272), (.int (72) 0), (.int (1) 0), (.int (0) 0), (.int (0) 0), (.int (3) 0), (.ref 119), (.bool true), (.int (181) 0), (.ref 120), .none, .none, .none, (.ref 121), (.int (2273) 0), (.int (72) 0), (.str (Str.ofString "/claim/cut.py") 2274)]), slots := List.toArray [] }) ::
    (nat_lit 123, Obj.mk _ _ (.func ⟨_, _, ⟨_, _, _, _, _, _, _⟩, .stmts _, ⟨_, _, _, _, _⟩, _, _, _, _, _, _, _, _, _, _⟩) _) :: []) rfl
end
end Mine
end
section
open PySem PySem.W PyProof.Rows
set_option Elab.async false
set_option maxRecDepth 100000
set_option linter.unusedVariables false
namespace Mine
def qRaw : Program := { pw with main := { pw.main with body := [stN 0, stN 2, stN 4, stN 5, stN 6, stN 7, stN 8, stN 9, stN 10, stN 11, stN 12] } }
def qV : Program := (fun (x : Program) (_ : x = qRaw) => x) { pw with main := { pw.main with body := ((Stmt.Assign _ _ _) :: (Stmt.FunctionDef _ _ _ _ _ _ _ _ _ _) :: (Stmt.FunctionDef _ _ _ _ _ _ _ _ _ _) :: (Stmt.Assign _ _ _) :: (Stmt.FunctionDef _ _ _ _ _ _ _ _ _ _) :: (Stmt.FunctionDef _ _ _ _ _ _ _ _ _ _) :: (Stmt.FunctionDef _ _ _ _ _ _ _ _ _ _) :: (Stmt.FunctionDef _ _ _ _ _ _ _ _ _ _) :: (Stmt.FunctionDef _ _ _ _ _ _ _ _ _ _) :: (Stmt.FunctionDef _ _ _ _ _ _ _ _ _ _) :: (Stmt.FunctionDef _ _ _ _ _ _ _ _ _ _) :: [] : List Stmt) } } rfl
abbrev looseV : List Str := [Str.ofString "b1_set", Str.ofString "b3_exceptions"]
abbrev asK : List Addr := [2, 3, 6, 22, 26, 28, 29, 31, 32, 33, 72, 74, 75, 77, 78, 79, 81, 82, 84, 85, 86, 88, 89, 91, 92, 93, 95, 96, 98, 99, 100, 102, 103, 105, 106, 107, 109, 110, 112, 113, 114, 117, 118, 119, 122, 123]
theorem asK_eq (P : Params) : asK = (kTop P).map (·.1) := by kernel_rfl
noncomputable abbrev hookV : Hook := kHook kTop asK asK_eq
abbrev rowV : RowW := OpenRow.toRowW (OpenLaw.row PySem.Challenge.rw_mq0481_01)
abbrev xtV : Shared → Bool := fun s => xlAt qV [] s && recOk (RowW.records rowV) s
theorem open_eq : opening pw = plainProg pw.main.scope.names := by kernel_rfl
theorem fence_eq (s : Shared) : fenceModules? pw s = some s := by kernel_rfl
theorem sizeV (w : World) : ((boot_heap w.params).isNs mainGlobals && (Array.mk [] : Array GenState).size == 0, (boot_heap w.params).objs.size, (boot_heap w.params).nsMap mainGlobals "__annotations__") = (true, 11, ann0) := by kernel_rfl
theorem look1 (w : World) (os : OsState) : (staticsOk (importedModules pw.main.body) (boot_heap w.params) (hB5 w.params) && namesBound pw (hB5 w.params) && gensDone ⟨hB5 w.params, #[], {}, 2276, os⟩ && laidKept (boot_heap w.params) (hB5 w.params)) = true := by kernel_rfl
theorem look2 (w : World) (os : OsState) : openSeen qV looseV (importedModules pw.main.body) xtV true ⟨hB5 w.params, #[], {}, 2276, os⟩ = openGood qV looseV := by
  rw [PySem.W.Fast.te4187177175401517315]
  kernel_rfl
theorem look3 (w : World) (os : OsState) : hookV.obs ⟨hB5 w.params, #[], {}, 2276, os⟩ = hookV.val w := by kernel_rfl
theorem leftV : LeftO pw qV looseV xtV hookV.obs hookV.val 13828 :=
  LeftO.of_pieces (H₀ := boot_heap) (H₁ := hB5) (gs₁ := #[]) (d₁ := {}) (k₁ := 2276) (boot_open open_eq (by decide) fence_eq) sizeV runAll (by decide +kernel) fun w => funext fun os => by
    rw [look1 w os, look2 w os, look3 w os]
end Mine
end
section
open PySem PySem.W PyProof.Rows
set_option Elab.async false
set_option maxRecDepth 100000
namespace Mine
def dkV : DefRec × List (Str × Expr) := (fun (x : DefRec × List (Str × Expr)) (_ : defOf qV (Str.ofString "law") = some x) => x) ⟨⟨_, _, _, _, _⟩, _⟩ rfl
set_option maxHeartbeats 8000000 in
theorem headV (walk : WalkO qV looseV (XL qV []) (Hook.says (kHook kTop asK asK_eq)) (OpenRow.toRowW (OpenLaw.row PySem.Challenge.rw_mq0481_01)) dkV.1 dkV.2 fun f vs => PySem.call f vs) : PySem.Challenge.rw_mq0481_01.Holds := by
  w_on
  o_law
  refine holds_open (q := Mine.qV) (loose := Mine.looseV) (Xt := Mine.xtV) (XP := XL Mine.qV []) (Yf := Hook.obs Mine.hookV) (Ya := Hook.val Mine.hookV) (YP := Hook.says Mine.hookV) (N := 13828) Mine.leftV (Hook.of Mine.hookV) (Hook.keeps Mine.hookV) (fun s e => xl_of s (Bool.and_eq_true_iff.mp e).1) XL.keeps (by rfl) (by rfl) (by rfl) (fun s e => recFacts_of (Bool.and_eq_true_iff.mp e).2) (by rfl) (by assumption) (by decide +kernel) ⟨rfl, rfl, rfl, rfl, rfl, by decide +kernel⟩ ?hw walk
  case hw => w_witness2
end Mine
end
section
open PySem PySem.W PyProof.Rows
set_option Elab.async false
set_option maxRecDepth 100000
namespace Mine
def goneOf (f : Int) : Str := if f = 3 then Str.ofString "BEFHILMR" else if f = 5 then Str.ofString "CHIRZ" else if f = 6 then Str.ofString "CHNPQRZ" else Str.ofString ""
def lat (n : Int) : Str := ⟨#[(65 + n).toNat]⟩
def grk (n : Int) : Str := ⟨#[(913 + n).toNat]⟩
def inGone (g : Str) (x : Str) : Bool := !(Builtin.Str.occurrences g x 0 g.length 1).isEmpty
def mathW (v : Int) : Str :=
  if v < 676 then (if v.fmod 52 < 26 then (if inGone (goneOf (v.fdiv 52)) (lat (v.fmod 52)) = true then Str.ofString "-" else lat (v.fmod 52)) else Str.ofString "-")
  else if 680 ≤ v then (if v < 970 then (if (v - 680).fmod 58 = 17 then Str.ofString "Θ" else if (v - 680).fmod 58 = 43 then Str.ofString "Σ" else if (v - 680).fmod 58 < 25 then grk ((v - 680).fmod 58) else Str.ofString "-") else Str.ofString "-")
  else Str.ofString "-"
set_option maxHeartbeats 8000000 in
theorem c_math (w : World) (mean : ExcName → Option Value) (mg mb : Str → Option Value) (cbNews : CbLed) (v : Int) (t : Tok) :
    CbClaim PySem.Challenge.rw_mq0481_01.row.prog w (kTop w.params) qV (looseW qV looseV) mean mg mb 92 cbNews [] (0 ≤ v ∧ v < 1024) [Value.int v t] (fun t => Value.str (mathW v) t) := by
  w_top off
  k_fill
  unfold CbClaim
  dsimp only [CbLists, CbRet]
  intros
  rename_i hret
  refine wpAny_call ?_
  k_dflt cell_enter
  k_steps
  all_goals (refine cb_retS hret ?_ (by k_asm) (by first | k_asm | (refine' cb_drop ?cbN ?cbS; (case cbN => assumption); (case cbS => kcj_all))))
  all_goals (clear hret; simp only [mathW, goneOf, inGone, lat, grk])
  all_goals first | (simp [*]; done) | ((repeat' split) <;> first | rfl | omega | (simp_all; done))
end Mine
end
section
open PySem PySem.W PyProof.Rows
set_option Elab.async false
set_option maxRecDepth 100000
namespace Mine
def smallC (c : Nat) : Str :=
  if (65 ≤ c ∧ c ≤ 90) ∨ (913 ≤ c ∧ c ≤ 937) ∨ c = 197 then ⟨#[c + 32]⟩ else if 1329 ≤ c ∧ c ≤ 1366 then ⟨#[c + 48]⟩ else if c = 400 then ⟨#[603]⟩ else ⟨#[c]⟩
set_option maxHeartbeats 8000000 in
theorem c_small (w : World) (mean : ExcName → Option Value) (mg mb : Str → Option Value) (cbNews : CbLed) (c : Nat) (t : Tok) :
    CbClaim PySem.Challenge.rw_mq0481_01.row.prog w (kTop w.params) qV (looseW qV looseV) mean mg mb 113 cbNews [] (c < 1114112) [Value.str ⟨#[c]⟩ t] (fun t => Value.str (smallC c) t) := by
  w_top off
  k_fill
  unfold CbClaim
  dsimp only [CbLists, CbRet]
  intros
  rename_i hret
  refine wpAny_call ?_
  k_dflt cell_enter
  k_steps
  all_goals (refine cb_retS hret ?_ (by k_asm) (by first | k_asm | (refine' cb_drop ?cbN ?cbS; (case cbN => assumption); (case cbS => kcj_all))))
  all_goals (clear hret; simp only [smallC])
  all_goals ((repeat' split) <;> first | rfl | omega | (congr 2; omega) | (simp_all; done) | trace_state)
end Mine
end
section
open PySem PySem.W PyProof.Rows PyProof.V PySem.Spec
set_option Elab.async false
set_option maxRecDepth 100000
namespace Mine
/-- the set's entries -/
def setEs : List (Int × Value) := [(65024, .int 65024 205), (65025, .int 65025 206), (65026, .int 65026 207), (65027, .int 65027 208), (65028, .int 65028 209), (65029, .int 65029 210), (6150, .int 6150 191), (65030, .int 65030 211), (65031, .int 65031 212),
  (65032, .int 65032 213), (65033, .int 65033 214), (6155, .int 6155 192), (6156, .int 6156 193), (6157, .int 6157 194), (8203, .int 8203 195), (8204, .int 8204 196), (8205, .int 8205 197), (65034, .int 65034 215), (65035, .int 65035 216),
  (65036, .int 65036 217), (65037, .int 65037 218), (65038, .int 65038 219), (65039, .int 65039 220), (173, .int 173 189), (847, .int 847 190), (8288, .int 8288 198), (65279, .int 65279 199)]
def hidS (k : Int) : Bool := setEs.any fun e => Value.isInt k e.2
def elemOk (e : Int × Value) : Bool := match e.2 with
  | .int i _ => e.1 == hashInt i
  | _ => false
theorem setEs_ok : setEs.all elemOk = true := by decide +kernel
theorem lookup22 (P : Params) : (kTop P).lookup 22 = some { cls := .type "set", dict := none, data := .set setEs.toArray 29 { mask := 127, place := #[0, 1, 2, 3, 4, 5, 6, 7, 8, 9, 10, 11, 12, 13, 14, 15, 16, 17, 18, 19, 20, 21, 22, 45, 79, 96, 127], dummies := #[], finger := 0, led := !P.followText "set-order", moves := 2, plain := true }, slots := #[] } := by
  kernel_rfl
theorem set22 {prog : Program} {w : World} {P : Params} {h : Heap} (X : (kTop P).In h) : h.SetOf (intKind prog w) 22 hidS 27 := by
  refine ⟨_, setEs.toArray, 29, _, X _ _ (lookup22 P), ⟨rfl, rfl, rfl⟩, rfl, fun e he => ?_, fun k => ?_, by decide, by rfl, by rfl⟩
  · have := List.all_eq_true.mp setEs_ok e he
    obtain ⟨a, v⟩ := e
    cases v with
    | int i t =>
      have e1 : a = hashInt i := by simpa [elemOk] using this
      exact ⟨⟨i, by simp [intKind, Value.isInt], e1⟩, rfl⟩
    | _ => simp [elemOk] at this
  · exact List.any_eq_true
def kvs1 : Nat → List (Int × Str) → List (Int × Value)
  | _, [] => []
  | t, (k, v) :: r => (k, .str v (t + 1)) :: kvs1 (t + 3) r
def kvs2 : Nat → List (Int × Str) → List (Int × Value)
  | _, [] => []
  | t, (k, v) :: r => (k, .str v (t + 1)) :: kvs2 (t + 2) r
def kvsM : Nat → List (List (Int × Str)) → List (Int × Value)
  | _, [] => []
  | t, c :: cs => kvs1 t c ++ kvsM (t + 51) cs
section
variable {prog : Program} {w : World}
theorem Pairs.append' {knd : KeyKind prog w Int} : ∀ {es es' : List DictEntry} {kvs kvs' : List (Int × Value)}, Pairs knd es kvs → Pairs knd es' kvs' → Pairs knd (es ++ es') (kvs ++ kvs')
  | _, _, _, _, .nil, h => h
  | _, _, _, _, .cons a b c, h => .cons a b (Pairs.append' c h)
theorem pairs1 : ∀ (l : List (Int × Str)) (t : Nat), Pairs (intKind prog w) (ents t l) (kvs1 t l)
  | [], _ => .nil
  | (k, v) :: r, t => .cons (by simp [intKind, Value.isInt]) rfl (pairs1 r (t + 3))
theorem pairs2 : ∀ (l : List (Int × Str)) (t : Nat), Pairs (intKind prog w) (ents2 t l) (kvs2 t l)
  | [], _ => .nil
  | (k, v) :: r, t => .cons (by simp [intKind, Value.isInt]) rfl (pairs2 r (t + 2))
theorem pairsM : ∀ (l : List (List (Int × Str))) (t : Nat), Pairs (intKind prog w) (mains t l) (kvsM t l)
  | [], _ => .nil
  | c :: cs, t => Pairs.append' (pairs1 c t) (pairsM cs (t + 51))
theorem keys1 : ∀ (l : List (Int × Str)) (t : Nat), ∀ e ∈ ents t l, ∃ k, (intKind prog w).is k e.key = true ∧ e.hash = (intKind prog w).hash k
  | (k, v) :: r, t, e, he => by
    rcases List.mem_cons.mp he with q | q
    · subst q; exact ⟨k, by simp [intKind, Value.isInt], rfl⟩
    · exact keys1 r _ e q
theorem keys2 : ∀ (l : List (Int × Str)) (t : Nat), ∀ e ∈ ents2 t l, ∃ k, (intKind prog w).is k e.key = true ∧ e.hash = (intKind prog w).hash k
  | (k, v) :: r, t, e, he => by
    rcases List.mem_cons.mp he with q | q
    · subst q; exact ⟨k, by simp [intKind, Value.isInt], rfl⟩
    · exact keys2 r _ e q
theorem keysM : ∀ (l : List (List (Int × Str))) (t : Nat), ∀ e ∈ mains t l, ∃ k, (intKind prog w).is k e.key = true ∧ e.hash = (intKind prog w).hash k
  | c :: cs, t, e, he => by
    rcases List.mem_append.mp he with q | q
    · exact keys1 c _ e q
    · exact keysM cs _ e q
end
theorem kvs1_keys : ∀ (l : List (Int × Str)) (t : Nat), (kvs1 t l).map (·.1) = l.map (·.1)
  | [], _ => rfl
  | (k, v) :: r, t => by simp [kvs1, kvs1_keys r]
theorem kvs2_keys : ∀ (l : List (Int × Str)) (t : Nat), (kvs2 t l).map (·.1) = l.map (·.1)
  | [], _ => rfl
  | (k, v) :: r, t => by simp [kvs2, kvs2_keys r]
theorem kvsM_keys : ∀ (l : List (List (Int × Str))) (t : Nat), (kvsM t l).map (·.1) = l.flatten.map (·.1)
  | [], _ => rfl
  | c :: cs, t => by simp [kvsM, kvs1_keys, kvsM_keys cs]
theorem Rising.above : ∀ {l : List (Int × Str)} {b : Int}, Rising b l → ∀ x ∈ l.map (·.1), b ≤ x
  | (k, _) :: r, b, ⟨h1, _, h3⟩, x, hx => by
    rcases List.mem_cons.mp hx with q | q
    · subst q; exact h1
    · have := Rising.above h3 x q; omega
theorem Rising.nodup : ∀ {l : List (Int × Str)} {b : Int}, Rising b l → (l.map (·.1)).Nodup
  | [], _, _ => List.nodup_nil
  | (k, _) :: r, b, ⟨h1, _, h3⟩ => by
    rw [List.map_cons, List.nodup_cons]
    exact ⟨fun hm => by have := Rising.above h3 _ hm; simp only at this; omega, Rising.nodup h3⟩
def dat (x : Int × Str) : PyData × PyData := (.int x.1, .str x.2)
def tabD : List (PyData × PyData) := items.map dat
theorem FlatPairs.append' : ∀ {a b : List (Int × Value)} {c d : List (PyData × PyData)}, FlatPairs PyData.int a c → FlatPairs PyData.int b d → FlatPairs PyData.int (a ++ b) (c ++ d)
  | _, _, _, _, .nil, h => h
  | _, _, _, _, .cons f r, h => .cons f (FlatPairs.append' r h)
theorem flat1 : ∀ (l : List (Int × Str)) (t : Nat), FlatPairs PyData.int (kvs1 t l) (l.map dat)
  | [], _ => .nil
  | (k, v) :: r, t => .cons (Flat.str v (t + 1)) (flat1 r (t + 3))
theorem flat2 : ∀ (l : List (Int × Str)) (t : Nat), FlatPairs PyData.int (kvs2 t l) (l.map dat)
  | [], _ => .nil
  | (k, v) :: r, t => .cons (Flat.str v (t + 1)) (flat2 r (t + 2))
theorem flatM : ∀ (l : List (List (Int × Str))) (t : Nat), FlatPairs PyData.int (kvsM t l) (l.flatten.map dat)
  | [], _ => .nil
  | c :: cs, t => by rw [List.flatten_cons, List.map_append]; exact FlatPairs.append' (flat1 c t) (flatM cs (t + 51))
theorem items_cut : i0 ++ runs37.flatten ++ li = items := by
  unfold i0 runs37 li
  rw [chunks_flat, List.append_assoc, List.take_append_drop, List.take_append_drop]
theorem lookup33 (P : Params) : (kTop P).lookup 33 = some main33 := by kernel_rfl
theorem tab33 {prog : Program} {w : World} {P : Params} {h : Heap} (X : (kTop P).In h) : IntTab prog w h 33 tabD := by
  refine TabAt.ofObj (o := main33) (kvs := kvs1 256 i0 ++ kvsM 307 runs37 ++ kvs2 2194 li) (by decide) (X _ _ (lookup33 P)) ?_ ?_
  · refine ⟨_, 650, ⟨rfl, rfl, rfl⟩, rfl, fun e he => ?_, ?_, ?_⟩
    · have he : e ∈ ents 256 i0 ++ mains 307 runs37 ++ ents2 2194 li := by simpa using he
      rcases List.mem_append.mp he with q | q
      · rcases List.mem_append.mp q with q | q
        · exact keys1 _ _ e q
        · exact keysM _ _ e q
      · exact keys2 _ _ e q
    · exact Pairs.append' (Pairs.append' (pairs1 _ _) (pairsM _ _)) (pairs2 _ _)
    · rw [List.map_append, List.map_append, kvs1_keys, kvsM_keys, kvs2_keys, ← List.map_append, ← List.map_append, items_cut]
      exact Rising.nodup (rising_iff items_up)
  · have : tabD = i0.map dat ++ runs37.flatten.map dat ++ li.map dat := by
      rw [← List.map_append, ← List.map_append, items_cut]; rfl
    rw [this]
    exact FlatPairs.append' (FlatPairs.append' (flat1 _ _) (flatM _ _)) (flat2 _ _)
end Mine
end
section
open PySem PySem.W PyProof.Rows PyProof.V PySem.Spec
set_option Elab.async false
set_option maxRecDepth 100000
namespace Mine
section
variable {prog : Program} {w : World} {P : Params} {A : Around} {E : Value → Shared → Prop} {s : Shared} {h₀ : Heap} {L : Addr} {m : Str → Option Value} {Q : Value → Shared → Prop}
theorem in22 {k : Int} {t : Tok} (F : Fr h₀ L s.heap m) (X : (kTop P).In h₀) (h : Q (.bool (hidS k)) { s with toks := s.toks + 1 }) : wpAny (model prog w) A (compareOp .In (.int k t) (.ref 22)) Q E s :=
  wpAny_inSet_of (knd := intKind prog w) (intKind_is _ _ _ _) rfl (set22 (X.keeps F.keep)) h
end
local macro_rules | `(tactic| walk_at "compareOp In int ref") => `(tactic| (k_here; (with_reducible show wpAny _ _ (compareOp CmpOp.In (Value.int _ _) (Value.ref 22)) _ _ _); refine' in22 ?F ?X ?_; (case F => k_asm); (case X => k_asm)))
set_option maxHeartbeats 1000000 in
theorem c_b1 (w : World) (mean : ExcName → Option Value) (mg mb : Str → Option Value) (cbNews : CbLed) (c : Nat) (t : Tok) :
    CbClaim PySem.Challenge.rw_mq0481_01.row.prog w (kTop w.params) qV (looseW qV looseV) mean mg mb 32 cbNews [] (c < 1114112) [Value.str ⟨#[c]⟩ t] (fun _ => Value.bool (hidS (c : Int))) := by
  w_top off
  k_fill
  unfold CbClaim
  dsimp only [CbLists, CbRet]
  intros
  rename_i hret
  refine wpAny_call ?_
  k_dflt cell_enter
  k_steps
  all_goals (refine cb_retB hret ?_ (by k_asm) (by first | k_asm | (refine' cb_drop ?cbN ?cbS; (case cbN => assumption); (case cbS => kcj_all))))
  all_goals rfl
end Mine
end
section
open PySem PySem.W PyProof.Rows PyProof.V PySem.Spec
set_option Elab.async false
set_option maxRecDepth 100000
namespace Mine
def lookI (k : Int) : Option Str := (items.find? fun x => decide (x.1 = k)).map (·.2)
theorem lookup_dat (k : Int) : ∀ (l : List (Int × Str)), Spec.lookup (.int k) (l.map dat) = ((l.find? fun x => decide (x.1 = k)).map fun x => PyData.str x.2)
  | [] => rfl
  | (a, b) :: r => by
    rw [List.map_cons, List.find?_cons]
    show (if Spec.same (.int a) (.int k) = true then some (PyData.str b) else Spec.lookup (.int k) (r.map dat)) = _
    rw [same_int a k, lookup_dat k r]
    by_cases h : a = k <;> simp [h]
section
variable {prog : Program} {w : World} {P : Params} {A : Around} {E : Value → Shared → Prop} {s : Shared} {h₀ : Heap} {L : Addr} {m : Str → Option Value}
theorem meth33 {pl : Sem Bool} {Q : Value × List Value → Shared → Prop} (F : Fr h₀ L s.heap m) (X : (kTop P).In h₀) (h : Q (.builtin "dict.get", [.ref 33]) s) : wpAny (model prog w) A (getMethod (.ref 33) "get" pl) Q E s :=
  getMethod_intTab_get (tab33 (X.keeps F.keep)) h
theorem get33 {Q : Value → Shared → Prop} {k : Int} {t : Tok} (F : Fr h₀ L s.heap m) (X : (kTop P).In h₀) (h1 : lookI k = none → Q .none { s with toks := s.toks + 1 }) (h2 : ∀ x u, lookI k = some x → Q (.str x u) { s with toks := s.toks + 1 }) :
    wpAny (model prog w) A (call (.builtin "dict.get") [.ref 33, .int k t]) Q E s := by
  refine call_get1_intTab (tab33 (X.keeps F.keep)) fun v hv => ?_
  rw [tabD, lookup_dat] at hv
  cases e : items.find? (fun x => decide (x.1 = k)) with
  | none =>
    rw [e] at hv
    rw [Flat.none_inv hv]
    exact h1 (by rw [lookI, e]; rfl)
  | some x =>
    rw [e] at hv
    obtain ⟨u, rfl⟩ := Flat.str_inv hv
    exact h2 _ u (by rw [lookI, e]; rfl)
theorem low1 {Q : Value → Shared → Prop} {c : Nat} {t : Tok} (h : Q (.str (Txt.lower ⟨#[c]⟩) s.toks) { s with toks := s.toks + 1 }) : wpAny (model prog w) A (call (.builtin "str.lower") [.str ⟨#[c]⟩ t]) Q E s :=
  SCL.lower (by show (1 : Nat) ≤ _; decide) fun _ => h
end
local macro_rules | `(tactic| walk_at "call builtin:str.lower") => `(tactic| (k_here; (with_unfolding_all show wpAny _ _ (call (Value.builtin "str.lower") [Value.str (Str.mk #[_]) _]) _ _ _); refine low1 ?_))
local macro_rules | `(tactic| walk_at "getMethod ref") => `(tactic| (k_here; (with_reducible show wpAny _ _ (getMethod (Value.ref 33) (Str.ofString "get") _) _ _ _); refine' meth33 ?F ?X ?_; (case F => k_asm); (case X => k_asm)))
local macro_rules | `(tactic| walk_at "call builtin:dict.get") => `(tactic| (k_here; (with_unfolding_all show wpAny _ _ (call (Value.builtin "dict.get") [Value.ref 33, Value.int _ _]) _ _ _); refine' get33 ?F ?X ?_ ?_; (case F => k_asm); (case X => k_asm); all_goals intros))
def mapC (c : Nat) : Str := match lookI (c : Int) with
  | some x => x
  | none => Txt.lower ⟨#[c]⟩
set_option maxHeartbeats 1000000 in
theorem c_b3 (w : World) (mean : ExcName → Option Value) (mg mb : Str → Option Value) (cbNews : CbLed) (c : Nat) (t : Tok) :
    CbClaim PySem.Challenge.rw_mq0481_01.row.prog w (kTop w.params) qV (looseW qV looseV) mean mg mb 78 cbNews [] (c < 1114112) [Value.str ⟨#[c]⟩ t] (fun t => Value.str (mapC c) t) := by
  w_top off
  k_fill
  unfold CbClaim
  dsimp only [CbLists, CbRet]
  intros
  rename_i hret
  refine wpAny_call ?_
  k_dflt cell_enter
  k_steps
  all_goals (refine cb_retS hret ?_ (by k_asm) (by first | k_asm | (refine' cb_drop ?cbN ?cbS; (case cbN => assumption); (case cbS => kcj_all))))
  all_goals (clear hret; simp only [mapC]; (rename lookI _ = _ => hL); rw [hL])
end Mine
end
section
open PySem PySem.W PyProof.Rows PyProof.V PySem.Spec PySem.Calls
open PyProof.Rows.LCg PyProof.Rows.LCt
set_option Elab.async false
set_option maxRecDepth 100000
namespace Mine
section
variable {prog : Program} {w : World} {A : Around} {E : Value → Shared → Prop} {s : Shared} {h₀ : Heap} {L : Addr} {m : Str → Option Value} {env : Env}
theorem strWalks (hh : A.handled = none) (I : Addr) (x : Str) (t : Tok) : Walks prog w A I [I] [I] x.cps.size (SignAt x) (fun i h => h.IsStrIter I (strIterType x) x t i) := by
  unfold strIterType
  split
  · exact Walks.strAscii hh I x t
  · exact Walks.strWide hh I x t
theorem str_st {I : Addr} {T : String} {x : Str} {t : Tok} : ∀ i (h h' : Heap) (o : Obj) (nw : List (Addr × Obj)), h.IsStrIter I T x t i → h.get? I = some o → h'.get? I = some o → (∀ b o, h₀.get? b = some o → h'.get? b = some o) → News h₀ L h' nw → True → h'.IsStrIter I T x t i :=
  fun i h h' o nw st e e' _ _ _ => by
    obtain ⟨o', q, r⟩ := st
    rw [e] at q; cases q
    exact ⟨o, e', r⟩
def TextSrc (P : Prop) : Prop := P
/-- a list comprehension over a text's signs -/
theorem comp_text {elt iter : Expr} {x : Str} {px : Pos} {scope : Scope} {cl : List (Str × Addr)} {pos : Pos} {Q : Value → Shared → Prop} (_F₀ : Fr h₀ L s.heap m)
    (hclos : closureFor scope env = pure cl) (hcell : ∀ y ∈ scope.names, y.2 ≠ .cell) (hkind : scope.kind = .function)
    (hnames : ∀ y ∈ scope.names, y.2 = .local → scope.names.lookup y.1 = some .local) (hx : scope.names.lookup x = some .local)
    (h : wpAny (model prog w) A (eval iter env) (fun xv s₁ => TextSrc (∃ y t news, xv = .str y t ∧ A.handled = none ∧ Fr h₀ L s₁.heap m ∧ News h₀ L s₁.heap news ∧ y.cps.size ≤ sizeLine ∧
      ∀ g, CompRest prog w A h₀ L m env elt x scope cl { s₁ with heap := g } (fun _ => True) (SignAt y) (FinE h₀ L m { s₁ with heap := g } Q) y.cps.size 0 [] news)) E s)
    (hs : ∀ x, foldedSetIterable iter env x = pure x := by intro _; rfl) :
    wpAny (model prog w) A (eval (.ListComp elt [⟨.Name x px, iter, [], 0⟩] scope pos) env) Q E s := by
  rw [eval_ListComp]
  refine wpAny_comprehension_free (use := none) rfl hs hclos hkind hnames (wpAny_mono h (fun xv s₁ h₁ => ?_) fun _ _ e => e)
  obtain ⟨y, t, news, rfl, hh, F, N, hsz, R⟩ := h₁
  refine wpAny_pyIter_strU ?_
  have up : ∀ b o, s₁.heap.get? b = some o → (s₁.heap.push { cls := .type (strIterType y), data := .fields #[.str y t, .int 0 0] }).get? b = some o := fun b o e => Heap.get?_push_of_some _ e
  refine block_U (strWalks hh s₁.heap.objs.size y t) hsz (fun i h st => by obtain ⟨o, e, _⟩ := st; exact ⟨o, e⟩) str_st hcell hkind hx ⟨_, Heap.get?_push_size _ rfl, rfl, rfl⟩ (fun b hb => ?_)
    (F.keeps up) (N.grown up) (Nat.ne_of_lt F.ns.lt) (next_is_new F) (fun p hp => Nat.ne_of_lt (Heap.lt_size (N p hp).1)) trivial (R _) ?_
  · rw [List.mem_singleton.mp hb]
    show s₁.heap.objs.size < (s₁.heap.push _).objs.size
    rw [Heap.size_push]; exact Nat.lt_succ_self _
  · intro D C h tk m' ys news' F' N' o1 hn hC₀ hD₀ hCL hDL hCD offC fin
    refine ⟨m', hn, fun h'' hs'' => fin D h'' tk (F'.change hs'' hCL hC₀) (fun p hp => ?_) o1⟩
    refine ⟨hs''.extBut _ _ ?_ (N' p hp).1, (N' p hp).2⟩
    rcases List.mem_cons.mp hp with rfl | hp
    · exact Ne.symm hCD
    · exact offC p hp
/-- the same with a test -/
theorem comp_textT {ct elt iter : Expr} {x : Str} {px : Pos} {scope : Scope} {cl : List (Str × Addr)} {pos : Pos} {Q : Value → Shared → Prop} (_F₀ : Fr h₀ L s.heap m)
    (hclos : closureFor scope env = pure cl) (hcell : ∀ y ∈ scope.names, y.2 ≠ .cell) (hkind : scope.kind = .function)
    (hnames : ∀ y ∈ scope.names, y.2 = .local → scope.names.lookup y.1 = some .local) (hx : scope.names.lookup x = some .local)
    (h : wpAny (model prog w) A (eval iter env) (fun xv s₁ => TextSrc (∃ y t news, xv = .str y t ∧ A.handled = none ∧ Fr h₀ L s₁.heap m ∧ News h₀ L s₁.heap news ∧ y.cps.size ≤ sizeLine ∧
      ∀ g, CompRestT prog w A h₀ L m env ct elt x scope cl { s₁ with heap := g } (fun _ => True) (SignAt y) (FinE h₀ L m { s₁ with heap := g } Q) y.cps.size 0 [] news)) E s)
    (hs : ∀ x, foldedSetIterable iter env x = pure x := by intro _; rfl) :
    wpAny (model prog w) A (eval (.ListComp elt [⟨.Name x px, iter, [ct], 0⟩] scope pos) env) Q E s := by
  rw [eval_ListComp]
  refine wpAny_comprehension_free (use := none) rfl hs hclos hkind hnames (wpAny_mono h (fun xv s₁ h₁ => ?_) fun _ _ e => e)
  obtain ⟨y, t, news, rfl, hh, F, N, hsz, R⟩ := h₁
  refine wpAny_pyIter_strU ?_
  have up : ∀ b o, s₁.heap.get? b = some o → (s₁.heap.push { cls := .type (strIterType y), data := .fields #[.str y t, .int 0 0] }).get? b = some o := fun b o e => Heap.get?_push_of_some _ e
  refine block_T (strWalks hh s₁.heap.objs.size y t) hsz (fun i h st => by obtain ⟨o, e, _⟩ := st; exact ⟨o, e⟩) str_st hcell hkind hx ⟨_, Heap.get?_push_size _ rfl, rfl, rfl⟩ (fun b hb => ?_)
    (F.keeps up) (N.grown up) (Nat.ne_of_lt F.ns.lt) (next_is_new F) (fun p hp => Nat.ne_of_lt (Heap.lt_size (N p hp).1)) trivial (R _) ?_
  · rw [List.mem_singleton.mp hb]
    show s₁.heap.objs.size < (s₁.heap.push _).objs.size
    rw [Heap.size_push]; exact Nat.lt_succ_self _
  · intro D C h tk m' ys news' F' N' o1 hn hC₀ hD₀ hCL hDL hCD offC fin
    refine ⟨m', hn, fun h'' hs'' => fin D h'' tk (F'.change hs'' hCL hC₀) (fun p hp => ?_) o1⟩
    refine ⟨hs''.extBut _ _ ?_ (N' p hp).1, (N' p hp).2⟩
    rcases List.mem_cons.mp hp with rfl | hp
    · exact Ne.symm hCD
    · exact offC p hp
end
end Mine
end
section
open PySem PySem.W PyProof.Rows PyProof.V PySem.Spec PySem.Calls
open PyProof.Rows.LCg PyProof.Rows.LCt
set_option Elab.async false
set_option maxRecDepth 100000
namespace Mine
theorem use_cb {prog : Program} {w : World} {K : Frag} {p : Program} {loose : List Str} {mean : ExcName → Option Value} {mg mb : Str → Option Value} {f : Addr} {news : List (Addr × Obj)} {pre : Prop} {vs : List Value} {R : Tok → Value}
    (h : CbClaim prog w K p loose mean mg mb f news [] pre vs R) {dp un : Nat} {gd : Option (List Code)} {cn : Str} {cs : Scope} {a : Addr} {ccd : Value} {cl : List (Str × Addr)} {outer : List Env} {A₀ : Around} {base h₀ : Heap} {L : Addr} {m : Str → Option Value} {s : Shared} {Q E : Value → Shared → Prop}
    (k1 : Below A₀ base outer h₀) (k2 : Fr h₀ L s.heap m) (k3 : K.In h₀) (k4 : News h₀ L s.heap news) (k5 : Top p loose mean mg mb h₀) (kK : cs.kind = .function) (kp : pre) (kd : dp + 1 < recursionLimit) (ku : un + 8 < cLine)
    (kR : ∀ (t : Tok) (h' : Heap) (tk' : Nat), Fr h₀ L h' m → News h₀ L h' news → Q (R t) { s with heap := h', toks := tk' }) :
    wpAny (model prog w) (ktrTop dp un gd cn cs L a ccd cl outer) (call (.ref f) vs) Q E s :=
  h dp un gd cn cs a ccd cl outer A₀ base h₀ L m s Q E k1 k2 k3 k4 k5 kK kp kd ku kR
/-- a callee's contract with room for callees of its own -/
abbrev Claim2 (prog : Program) (w : World) (K : Frag) (p : Program) (loose : List Str) (mean : ExcName → Option Value) (mg mb : Str → Option Value) (f : Addr) (news : List (Addr × Obj)) (pre : Prop) (vs : List Value) (R : Tok → Value) : Prop :=
  ∀ (dp un : Nat) (gd : Option (List Code)) (cn : Str) (cs : Scope) (a : Addr) (ccd : Value) (cl : List (Str × Addr)) (outer : List Env) (A₀ : Around) (base h₀ : Heap) (L : Addr) (m : Str → Option Value) (s : Shared) (Q E : Value → Shared → Prop),
    Below A₀ base outer h₀ → Fr h₀ L s.heap m → K.In h₀ → News h₀ L s.heap news → Top p loose mean mg mb h₀ → cs.kind = .function → pre → dp + 3 < recursionLimit → un + 40 < cLine →
    (∀ (t : Tok) (h' : Heap) (tk' : Nat), Fr h₀ L h' m → News h₀ L h' news → Q (R t) { s with heap := h', toks := tk' }) →
    wpAny (model prog w) (ktrTop dp un gd cn cs L a ccd cl outer) (call (.ref f) vs) Q E s
section
variable {prog : Program} {w : World} {A : Around} {h₀ : Heap} {L : Addr} {m : Str → Option Value} {env : Env} {elt ct : Expr} {x : Str} {scope : Scope} {cl : List (Str × Addr)} {s : Shared} {Fin : List Value → List (Addr × Obj) → Prop} {news : List (Addr × Obj)}
theorem snoc_str {y : Str} {t : Tok} : ∀ {vs : List Value} {ys : List Str}, StrsAre vs ys → StrsAre (vs ++ [.str y t]) (ys ++ [y])
  | _, _, .nil => .cons y t .nil
  | _, _, .cons z u r => .cons z u (snoc_str r)
/-- each sign's element is a text -/
theorem rest_text (y : Str) (g : Nat → Str)
    (turn : ∀ c u I oI C oC D m₂ ys h tk (E' : Value → Shared → Prop), c ∈ y.cps.toList → NsObj oC m₂ → m₂ x = some (.str ⟨#[c]⟩ u) → Fr h₀ L h m → News h₀ L h ((I, oI) :: (C, oC) :: (D, lst ys) :: news) → Off3 I C D news → ((@Ne Nat I C) ∧ (@Ne Nat I D) ∧ (@Ne Nat C D)) →
      wpAny (model prog w) A (eval elt (compEnvC scope cl C env)) (CompEnd h₀ L m { s with heap := h, toks := tk } I oI C oC D (lst ys) (fun _ => True) (fun z news' => news' = news ∧ ∃ t, z = .str (g c) t)) E' { s with heap := h, toks := tk })
    (fin : ∀ ys, StrsAre ys (y.cps.toList.map g) → Fin ys news) : CompRest prog w A h₀ L m env elt x scope cl s (fun _ => True) (SignAt y) Fin y.cps.size 0 [] news := by
  have key : ∀ (j i : Nat) (ys : List Value), i + j = y.cps.size → StrsAre ys ((y.cps.toList.take i).map g) → CompRest prog w A h₀ L m env elt x scope cl s (fun _ => True) (SignAt y) Fin j i ys news := by
    intro j
    induction j with
    | zero =>
      intro i ys hi hy
      rw [List.take_of_length_le (by rw [Array.length_toList]; omega)] at hy
      exact CompRest.zero (fin ys hy)
    | succ j ih =>
      intro i ys hi hy
      refine CompRest.succ ?_
      intro v I oI C oC D m₂ h tk E' hv hC hx F N off ne
      obtain ⟨c, u, hc, rfl⟩ := hv
      have hc' : y.cps.toList[i]? = some c := by simpa using hc
      refine wpAny_mono (turn c u I oI C oC D m₂ ys h tk E' (List.mem_of_getElem? hc') hC hx F N off ne) (fun z s₂ hq => ?_) fun _ _ e => e
      obtain ⟨h', tk', nw, e, F', N', off', hS, hn, t', hz⟩ := hq
      subst hn
      refine ⟨h', tk', _, e, F', N', off', hS, ?_⟩
      rw [hz]
      refine ih (i + 1) _ (by omega) ?_
      rw [List.take_add_one, hc']
      simpa using snoc_str hy
  exact key y.cps.size 0 [] (by omega) (by simp only [List.take_zero, List.map_nil]; exact .nil)
/-- no sign is left out by the test, each sign's element is a text -/
theorem rest_textT (y : Str) (g : Nat → Str)
    (turn : ∀ c u I oI C oC D m₂ ys h tk (E' : Value → Shared → Prop), c ∈ y.cps.toList → NsObj oC m₂ → m₂ x = some (.str ⟨#[c]⟩ u) → Fr h₀ L h m → News h₀ L h ((I, oI) :: (C, oC) :: (D, lst ys) :: news) → Off3 I C D news → ((@Ne Nat I C) ∧ (@Ne Nat I D) ∧ (@Ne Nat C D)) →
      wpAny (model prog w) A (isTrue ct (compEnvC scope cl C env) (eval ct (compEnvC scope cl C env))) (fun ok s' => ok = true ∧
        wpAny (model prog w) A (eval elt (compEnvC scope cl C env)) (CompEnd h₀ L m { s with heap := h, toks := tk } I oI C oC D (lst ys) (fun _ => True) (fun z news' => news' = news ∧ ∃ t, z = .str (g c) t)) E' s') E' { s with heap := h, toks := tk })
    (fin : ∀ ys, StrsAre ys (y.cps.toList.map g) → Fin ys news) : CompRestT prog w A h₀ L m env ct elt x scope cl s (fun _ => True) (SignAt y) Fin y.cps.size 0 [] news := by
  have key : ∀ (j i : Nat) (ys : List Value), i + j = y.cps.size → StrsAre ys ((y.cps.toList.take i).map g) → CompRestT prog w A h₀ L m env ct elt x scope cl s (fun _ => True) (SignAt y) Fin j i ys news := by
    intro j
    induction j with
    | zero =>
      intro i ys hi hy
      rw [List.take_of_length_le (by rw [Array.length_toList]; omega)] at hy
      exact CompRestT.zero (fin ys hy)
    | succ j ih =>
      intro i ys hi hy
      refine CompRestT.succ ?_
      intro v I oI C oC D m₂ h tk E' hv hC hx F N off ne
      obtain ⟨c, u, hc, rfl⟩ := hv
      have hc' : y.cps.toList[i]? = some c := by simpa using hc
      refine wpAny_mono (turn c u I oI C oC D m₂ ys h tk E' (List.mem_of_getElem? hc') hC hx F N off ne) (fun ok s₂ hq => ?_) fun _ _ e => e
      obtain ⟨rfl, hq⟩ := hq
      rw [if_pos rfl]
      refine wpAny_mono hq (fun z s₃ hq => ?_) fun _ _ e => e
      obtain ⟨h', tk', nw, e, F', N', off', hS, hn, t', hz⟩ := hq
      subst hn
      refine ⟨h', tk', _, e, F', N', off', hS, ?_⟩
      rw [hz]
      refine ih (i + 1) _ (by omega) ?_
      rw [List.take_add_one, hc']
      simpa using snoc_str hy
  exact key y.cps.size 0 [] (by omega) (by simp only [List.take_zero, List.map_nil]; exact .nil)
end
end Mine
end
section
open PySem PySem.W PyProof.Rows PyProof.V PySem.Spec PySem.Calls
set_option Elab.async false
set_option maxRecDepth 100000
namespace Mine
def joinC (x : Str) : Str := ⟨(x.cps.toList.flatMap fun c => (smallC c).cps.toList).toArray⟩
def toldW (spot : Int) (x : Str) : Str := if joinC x = x then ⟨#[spot.toNat]⟩ else joinC x
theorem smallC_len (c : Nat) : (smallC c).length = 1 := by
  unfold smallC
  (repeat' split) <;> rfl
theorem join_room (x : Str) (kl : x.length ≤ 10) : ((x.cps.toList.map smallC).map (·.length)).sum + (x.cps.toList.map smallC).length * (Str.ofString "").length ≤ 16777216 := by
  have e : ∀ l : List Nat, ((l.map smallC).map (·.length)).sum = l.length := by
    intro l
    induction l with
    | nil => rfl
    | cons c l ih => rw [List.map_cons, List.map_cons, List.sum_cons, ih, smallC_len, List.length_cons]; omega
  rw [e]
  have : x.cps.toList.length ≤ 10 := by rw [Array.length_toList]; exact kl
  have e2 : (Str.ofString "").length = 0 := by decide +kernel
  rw [e2]; omega
theorem join_empty (l : List Str) : Txt.join (Str.ofString "") l = ⟨(l.flatMap fun y => y.cps.toList).toArray⟩ := by
  have e0 : Str.ofString "" = Str.empty := by decide +kernel
  show Builtin.Str.glued (Str.ofString "") l = _
  rw [StrLaws.glued_eq_join, e0]
  induction l with
  | nil => rfl
  | cons x l ih =>
    cases l with
    | nil =>
      show x = _
      simp
    | cons y l =>
      show x ++ Str.empty ++ Str.join Str.empty (y :: l) = _
      rw [ih]
      refine Str.ext' ?_
      rw [Str.cps_append, Str.cps_append]
      show (x.cps ++ #[]) ++ _ = _
      simp
theorem join_smalls (x : Str) : Txt.join (Str.ofString "") (x.cps.toList.map smallC) = joinC x := by
  rw [join_empty, joinC, List.flatMap_map]
local macro_rules | `(tactic| walk_at "eval ListComp") => `(tactic| (k_here; k_dflt (refine comp_text (_F₀ := by k_asm) (by with_unfolding_all rfl) (by decide) (by rfl) (by decide) (by rfl) ?_)))
local macro_rules | `(tactic| walk_at "call ref") => `(tactic| (k_here; (with_unfolding_all show wpAny _ _ (call (Value.ref 113) [Value.str (Str.mk #[_]) _]) _ _ _); k_dflt (refine' use_cb (c_small _ _ _ _ _ _ _) ?k1 ?k2 ?k3 ?k4 ?k5 ?kK ?kp ?kd ?ku ?kR; (case k1 => k_asm); (case k2 => k_asm); (case k3 => k_asm); (case k4 => k_asm); (case k5 => k_asm); (case kK => first | exact rfl | assumption); (case kp => assumption); (case kd => ktr_room); (case ku => ktr_units)); intro t9 h9 tk9 F9 N9; (try dsimp only)))
set_option maxHeartbeats 1000000 in
theorem c_told (w : World) (mean : ExcName → Option Value) (mg mb : Str → Option Value) (cbNews : CbLed) (spot : Int) (t : Tok) (x : Str) (u : Tok) :
    Claim2 PySem.Challenge.rw_mq0481_01.row.prog w (kTop w.params) qV (looseW qV looseV) mean mg mb 118 cbNews ((0 ≤ spot ∧ spot < 1114112) ∧ (∀ c ∈ x.cps.toList, c < 1114112) ∧ x.length ≤ 10) [Value.int spot t, Value.str x u] (fun t => Value.str (toldW spot x) t) := by
  w_top off
  k_fill
  unfold Claim2
  intro dp un gd cn cs a ccd cl outer A₀ base h₀ L m s Q E k1 k2 k3 k4 k5 kK kpre kd ku hret
  obtain ⟨kp, kq, kl⟩ := kpre
  refine wpAny_call ?_
  k_dflt cell_enter
  k_steps
  unfold TextSrc
  refine ⟨x, u, cbNews, rfl, rfl, by k_asm, by k_asm, ?sz, fun g => rest_text x smallC ?turn ?fin⟩
  case sz => (have : sizeLine = 16777216 := rfl; have : x.cps.size ≤ 10 := kl; omega)
  case turn =>
    intro c u' I oI C oC D m₂ ys h tk E' hc hC hx F N off ne
    have hcl := kq c hc
    k_steps
    exact LCg.CompEnd.intro (by k_asm) (by k_asm) cbNews (fun p hp => hp) off trivial ⟨rfl, _, rfl⟩
  case fin =>
    intro ys hys
    unfold LCg.FinE
    intro D' h' tk' F' N' o1'
    dsimp only
    k_steps
    refine join_list (ys := x.cps.toList.map smallC) (items := ys.toArray) ⟨_, (N' _ (.head _)).1, rfl, _, rfl⟩ (by simpa using hys) ?hok fun t' k => ?_
    case hok => exact join_room x kl
    rw [join_smalls]
    k_steps
    all_goals (dsimp only at hret; refine cb_retS hret ?_ (by k_asm) (by first | k_asm | (refine' cb_drop ?cbN ?cbS; (case cbN => assumption); (case cbS => kcj_all))))
    all_goals (clear hret; simp only [toldW]; first | (simp [*]; done) | (simp_all; done))
end Mine
end
section
open PySem PySem.W PyProof.Rows PyProof.V PySem.Spec PySem.Calls
set_option Elab.async false
set_option maxRecDepth 100000
namespace Mine
theorem endW {h₀ : Heap} {L : Addr} {s₁ : Shared} {h' : Heap} {tk : Nat} {m' : Str → Option Value} {I : Addr} {o' : Obj} {news keep : List (Addr × Obj)} {rest : (Str → Option Value) → List (Addr × Obj) → Prop}
    (hlt : ∀ p ∈ news, p.1 < I) (F : Fr h₀ L h' m') (N : News h₀ L h' ((I, o') :: news)) (hk : SubL keep news) (r : rest m' news) :
    UnrEndW h₀ L s₁ [(I, o')] (fun m' n' => SubL keep n' ∧ rest m' n') { s₁ with heap := h', toks := tk } :=
  ⟨h', tk, m', news, rfl, F, N, fun p hp q hq => by
    rw [List.mem_singleton.mp hq]
    exact Nat.ne_of_lt (hlt p hp), hk, r⟩
def hidZ (v : Int) : Int := if v < 1 then 173 + v else if v < 2 then 847 + (v - 1) else if v < 3 then 6150 + (v - 2) else if v < 6 then 6155 + (v - 3) else if v < 9 then 8203 + (v - 6) else if v < 10 then 8288 + (v - 9) else if v < 26 then 65024 + (v - 10) else 65279 + (v - 26)
local macro_rules | `(tactic| walk_at "UnrEndW") => `(tactic| (refine endW (by assumption) (by assumption) (by assumption) (by k_subL) ?_))
set_option maxHeartbeats 4000000 in
theorem c_hidden (w : World) (mean : ExcName → Option Value) (mg mb : Str → Option Value) (cbNews : CbLed) (v : Int) (t : Tok) :
    Claim2 PySem.Challenge.rw_mq0481_01.row.prog w (kTop w.params) qV (looseW qV looseV) mean mg mb 99 cbNews (0 ≤ v ∧ v < 27) [Value.int v t] (fun t => Value.int (hidZ v) t) := by
  w_top off
  k_fill
  unfold Claim2
  intro dp un gd cn cs a ccd cl outer A₀ base h₀ L m s Q E k1 k2 k3 k4 k5 kK kpre kd ku hret
  dsimp only at hret
  refine wpAny_call ?_
  k_dflt cell_enter
  walk1
  walk1
  refine' For_turns ?F ?_ ?hs ?hE
  (case F => assumption)
  (case hs => (intro _; rfl))
  (case hE => passes_own)
  (try k_whole)
  k_steps
  refine iter_listTurns rfl (by k_asm) (by k_asm) (by k_mem) rfl rfl ?_
  intro I hlt
  k_steps
  all_goals (refine cb_retI hret ?_ (by with_reducible assumption) (cb_drop (by with_reducible assumption) (by intro p hp; repeat (first | exact hp | refine List.Mem.tail _ ?_))))
  all_goals (clear hret; simp only [hidZ]; (repeat' split) <;> omega)
end Mine
end
section
open PySem PySem.W PyProof.Rows PyProof.V PySem.Spec
set_option Elab.async false
set_option maxRecDepth 100000
namespace Mine
/-- the i-th text of the words' def -/
def wordTxt (i : Nat) : Str := match fBody (stN 6) with
  | .stmts b => match b[i]? with
    | some (.Assign _ (.Constant (.str v) _ _) _) => v
    | _ => default
  | _ => default
/-- its words -/
def wordsN (i : Nat) : List Str := Txt.split (wordTxt i) (Str.ofString " ")
/-- the ledger with the three lists of words and the list of them -/
def wLed (D D1 D2 D3 : Addr) (v1 v2 v3 : List Value) (news : List (Addr × Obj)) : List (Addr × Obj) :=
  (D, listOf #[.ref D1, .ref D2, .ref D3] 0) :: (D3, listOf v3.toArray 0) :: (D2, listOf v2.toArray 0) :: (D1, listOf v1.toArray 0) :: news
structure WordsOk (v1 v2 v3 : List Value) : Prop where
  a : StrsAre v1 (wordsN 0)
  b : StrsAre v2 (wordsN 1)
  c : StrsAre v3 (wordsN 2)
theorem strs_to {vs : List Value} {xs ys : List Str} (h : StrsAre vs xs) (e : xs = ys) : StrsAre vs ys := e ▸ h
local macro_rules | `(tactic| walk_at "call builtin:str.split") => `(tactic| (k_here; (with_reducible show wpAny _ _ (call (Value.builtin "str.split") _) _ _ _); (refine KSpl.split1 (by k_asm) (by k_asm) (by decide) ?_ (by kspl_size)); intro D' l' h' k' e' a' F' N' l1; (try k_lt l1)))
/-- a contract whose end is said by the caller -/
abbrev ClaimR (prog : Program) (w : World) (K : Frag) (p : Program) (loose : List Str) (mean : ExcName → Option Value) (mg mb : Str → Option Value) (f : Addr) (news : List (Addr × Obj)) (pre : Prop) (vs : List Value)
    (R : Heap → Addr → (Str → Option Value) → Shared → (Value → Shared → Prop) → Prop) : Prop :=
  ∀ (dp un : Nat) (gd : Option (List Code)) (cn : Str) (cs : Scope) (a : Addr) (ccd : Value) (cl : List (Str × Addr)) (outer : List Env) (A₀ : Around) (base h₀ : Heap) (L : Addr) (m : Str → Option Value) (s : Shared) (Q E : Value → Shared → Prop),
    Below A₀ base outer h₀ → Fr h₀ L s.heap m → K.In h₀ → News h₀ L s.heap news → Top p loose mean mg mb h₀ → cs.kind = .function → pre → dp + 3 < recursionLimit → un + 40 < cLine →
    R h₀ L m s Q → wpAny (model prog w) (ktrTop dp un gd cn cs L a ccd cl outer) (call (.ref f) vs) Q E s
/-- the words' end -/
abbrev WordsEnd (news : List (Addr × Obj)) (h₀ : Heap) (L : Addr) (m : Str → Option Value) (s : Shared) (Q : Value → Shared → Prop) : Prop :=
  ∀ (D D1 D2 D3 : Addr) (v1 v2 v3 : List Value) (h' : Heap) (tk' : Nat), WordsOk v1 v2 v3 → Fr h₀ L h' m → News h₀ L h' (wLed D D1 D2 D3 v1 v2 v3 news) → Q (.ref D) { s with heap := h', toks := tk' }
set_option maxHeartbeats 1000000 in
theorem c_words (w : World) (mean : ExcName → Option Value) (mg mb : Str → Option Value) (cbNews : CbLed) :
    ClaimR PySem.Challenge.rw_mq0481_01.row.prog w (kTop w.params) qV (looseW qV looseV) mean mg mb 85 cbNews True [] (WordsEnd cbNews) := by
  w_top off
  k_fill
  unfold ClaimR WordsEnd
  intro dp un gd cn cs a ccd cl outer A₀ base h₀ L m s Q E k1 k2 k3 k4 k5 kK kpre kd ku kR
  refine wpAny_call ?_
  k_dflt cell_enter
  k_steps
  refine' kR ?_ ?_ ?_ ?_ ?_ ?_ ?_ ?_ ?_ ?ok ?ff ?nn
  case nn => (unfold wLed; assumption)
  case ff => k_asm
  refine ⟨?a, ?b, ?c⟩
  case a => refine strs_to (by assumption) (Eq.trans (by assumption) ?_); exact congrArg (fun x => Txt.split x (Str.ofString " ")) (by with_unfolding_all rfl)
  case b => refine strs_to (by assumption) (Eq.trans (by assumption) ?_); exact congrArg (fun x => Txt.split x (Str.ofString " ")) (by with_unfolding_all rfl)
  case c => refine strs_to (by assumption) (Eq.trans (by assumption) ?_); exact congrArg (fun x => Txt.split x (Str.ofString " ")) (by with_unfolding_all rfl)
end Mine
end
section
open PySem PySem.W PyProof.Rows PyProof.V PySem.Spec
set_option Elab.async false
set_option maxRecDepth 100000
namespace Mine
/-- a text cut at its blanks, sign by sign -/
def splL : List Nat → List Nat → List (List Nat)
  | acc, [] => [acc.reverse]
  | acc, c :: r => if c = 32 then acc.reverse :: splL [] r else splL (c :: acc) r
def cutsL : List Nat → Nat → List Nat
  | [], _ => []
  | c :: r, i => if c = 32 then i :: cutsL r (i + 1) else cutsL r (i + 1)
def mkT (l : List Nat) : Str := ⟨l.toArray⟩
def blank : Str := ⟨#[32]⟩
theorem blank_eq : Str.ofString " " = blank := by decide +kernel
theorem at_blank (x : Str) (pre r : List Nat) (c : Nat) (e : x.cps.toList = pre ++ c :: r) : Builtin.Str.subAt x blank pre.length = decide (c = 32) := by
  rw [StrLaws.subAt_eq, e, List.drop_left]
  show ([c] == [32]) = _
  by_cases h : c = 32
  · subst h; rfl
  · rw [decide_eq_false h, beq_eq_false_iff_ne]
    intro q; exact h (List.cons.inj q).1
theorem occ_cuts (x : Str) : ∀ (rest pre : List Nat) (found : Array Nat) (free : Nat), x.cps.toList = pre ++ rest → free ≤ pre.length → found.size ≤ pre.length →
    (forIn (List.range' pre.length (rest.length + 1)) (found, free) (StrLaws.occBody x blank x.length (x.length + 1))).run.fst.toList = found.toList ++ cutsL rest pre.length
  | [], pre, found, free, e, _, _ => by
    have hn : x.length = pre.length := by
      show x.cps.size = _
      rw [← Array.length_toList, e, List.append_nil]
    have hc : ¬ (((found.size < x.length + 1 ∧ free ≤ pre.length) ∧ pre.length + blank.length ≤ x.length) ∧ Builtin.Str.subAt x blank pre.length = true) := by
      rintro ⟨⟨_, h⟩, _⟩
      have : blank.length = 1 := rfl
      omega
    rw [show List.range' pre.length (([] : List Nat).length + 1) = [pre.length] from rfl, List.forIn_cons, StrLaws.occBody]
    rw [if_neg hc]
    show found.toList = found.toList ++ []
    rw [List.append_nil]
  | c :: r, pre, found, free, e, hf, hs => by
    have hn : x.length = pre.length + (r.length + 1) := by
      show x.cps.size = _
      rw [← Array.length_toList, e, List.length_append, List.length_cons]
    have hb : blank.length = 1 := rfl
    have ea := at_blank x pre r c e
    have e2 : x.cps.toList = (pre ++ [c]) ++ r := by rw [e, List.append_assoc]; rfl
    have hl : (pre ++ [c]).length = pre.length + 1 := by rw [List.length_append]; rfl
    rw [List.length_cons, List.range'_succ, List.forIn_cons, StrLaws.occBody]
    by_cases h : c = 32
    · have hc : ((found.size < x.length + 1 ∧ free ≤ pre.length) ∧ pre.length + blank.length ≤ x.length) ∧ Builtin.Str.subAt x blank pre.length = true :=
        ⟨⟨⟨by omega, hf⟩, by omega⟩, by rw [ea, decide_eq_true h]⟩
      rw [if_pos hc, cutsL, if_pos h]
      have ih := occ_cuts x r (pre ++ [c]) (found.push pre.length) (pre.length + blank.length) e2 (by omega) (by rw [Array.size_push]; omega)
      rw [hl] at ih
      refine Eq.trans ih ?_
      rw [Array.toList_push, List.append_assoc]
      rfl
    · have hc : ¬ (((found.size < x.length + 1 ∧ free ≤ pre.length) ∧ pre.length + blank.length ≤ x.length) ∧ Builtin.Str.subAt x blank pre.length = true) := by
        rintro ⟨_, q⟩
        rw [ea, decide_eq_true_iff] at q
        exact h q
      rw [if_neg hc, cutsL, if_neg h]
      have ih := occ_cuts x r (pre ++ [c]) found free e2 (by omega) (by omega)
      rw [hl] at ih
      exact ih
theorem sub_mid (x : Str) (p a r : List Nat) (e : x.cps.toList = p ++ (a ++ r)) : Builtin.Str.strSub x p.length (p.length + a.length) = mkT a := by
  refine Str.ext' (Array.toList_inj.mp ?_)
  rw [StrLaws.strSub_toList, e, List.drop_left, show p.length + a.length - p.length = a.length by omega, List.take_left]
  rfl
theorem parts_spl (x : Str) : ∀ (rest p acc : List Nat), x.cps.toList = p ++ (acc.reverse ++ rest) → StrLaws.partsFrom x 1 p.length (cutsL rest (p.length + acc.length)) = (splL acc rest).map mkT
  | [], p, acc, e => by
    have hn : x.length = p.length + acc.reverse.length := by
      show x.cps.size = _
      rw [← Array.length_toList, e, List.append_nil, List.length_append]
    show [Builtin.Str.strSub x p.length x.length] = [mkT acc.reverse]
    rw [hn, sub_mid x p acc.reverse [] e]
  | c :: r, p, acc, e => by
    rw [cutsL, splL]
    by_cases h : c = 32
    · rw [if_pos h, if_pos h]
      show Builtin.Str.strSub x p.length (p.length + acc.length) :: StrLaws.partsFrom x 1 (p.length + acc.length + 1) (cutsL r (p.length + acc.length + 1)) = mkT acc.reverse :: (splL [] r).map mkT
      have h1 := sub_mid x p acc.reverse (c :: r) e
      rw [List.length_reverse] at h1
      have ih := parts_spl x r (p ++ (acc.reverse ++ [c])) [] (by rw [e]; simp)
      have hl : (p ++ (acc.reverse ++ [c])).length = p.length + acc.length + 1 := by
        rw [List.length_append, List.length_append, List.length_reverse]; rfl
      rw [hl] at ih
      rw [h1]
      exact congrArg _ ih
    · rw [if_neg h, if_neg h]
      have ih := parts_spl x r p (c :: acc) (by rw [e]; simp)
      rw [List.length_cons] at ih
      exact ih
theorem cuts_none : ∀ (l : List Nat) (i : Nat) (acc : List Nat), cutsL l i = [] → splL acc l = [acc.reverse ++ l]
  | [], _, acc, _ => by rw [splL, List.append_nil]
  | c :: r, i, acc, h => by
    rw [cutsL] at h
    by_cases q : c = 32
    · rw [if_pos q] at h; cases h
    · rw [if_neg q] at h
      rw [splL, if_neg q, cuts_none r (i + 1) (c :: acc) h, List.reverse_cons, List.append_assoc]
      rfl
theorem kind_pos (x : Str) : 1 ≤ Builtin.Str.strKind x := by
  unfold Builtin.Str.strKind
  (repeat' split) <;> omega
theorem split_blank (x : Str) : Txt.split x (Str.ofString " ") = (splL [] x.cps.toList).map mkT := by
  have whole : mkT x.cps.toList = x := rfl
  have hocc : Builtin.Str.occurrences x blank 0 x.length (x.length + 1) = cutsL x.cps.toList 0 := by
    rw [StrLaws.occ_eq]
    have h := occ_cuts x x.cps.toList [] #[] 0 rfl (Nat.le_refl 0) (Nat.le_refl 0)
    rw [Array.length_toList] at h
    exact h
  rw [blank_eq]
  unfold Txt.split
  have hk : Builtin.Str.strKind blank = 1 := by decide +kernel
  have hb : blank.length = 1 := rfl
  rw [hocc, hb, hk]
  by_cases h0 : x.length < 1
  · rw [if_pos (by rw [decide_eq_true h0]; rfl)]
    have e : x.cps.toList = [] := by
      apply List.eq_nil_of_length_eq_zero
      rw [Array.length_toList]
      show x.length = 0
      omega
    rw [← whole, e]
    rfl
  · have hkk : ¬ Builtin.Str.strKind x < 1 := by have := kind_pos x; omega
    rw [if_neg (by rw [decide_eq_false h0, decide_eq_false hkk]; decide)]
    cases hc : cutsL x.cps.toList 0 with
    | nil =>
      rw [if_pos (show ([] : List Nat).isEmpty = true from rfl), cuts_none _ 0 [] hc]
      show [x] = [mkT ([] ++ x.cps.toList)]
      rw [List.nil_append, whole]
    | cons a b =>
      rw [if_neg (show ¬ (a :: b).isEmpty = true by simp), ← hc, StrLaws.partsBetween_eq]
      exact parts_spl x x.cps.toList [] [] rfl
/-- the words, cut quickly -/
def fastW (i : Nat) : List Str := (splL [] (wordTxt i).cps.toList).map mkT
theorem words_fast (i : Nat) : wordsN i = fastW i := split_blank (wordTxt i)
theorem len0 : (wordsN 0).length = 100 := by rw [words_fast]; decide +kernel
theorem len1 : (wordsN 1).length = 69 := by rw [words_fast]; decide +kernel
theorem len2 : (wordsN 2).length = 24 := by rw [words_fast]; decide +kernel
end Mine
end
section
open PySem PySem.W PyProof.Rows PyProof.V PySem.Spec PySem.Calls
set_option Elab.async false
set_option maxRecDepth 100000
namespace Mine
theorem use_c2 {prog : Program} {w : World} {K : Frag} {p : Program} {loose : List Str} {mean : ExcName → Option Value} {mg mb : Str → Option Value} {f : Addr} {news : List (Addr × Obj)} {pre : Prop} {vs : List Value} {R : Tok → Value}
    (h : Claim2 prog w K p loose mean mg mb f news pre vs R) {dp un : Nat} {gd : Option (List Code)} {cn : Str} {cs : Scope} {a : Addr} {ccd : Value} {cl : List (Str × Addr)} {outer : List Env} {A₀ : Around} {base h₀ : Heap} {L : Addr} {m : Str → Option Value} {s : Shared} {Q E : Value → Shared → Prop}
    (k1 : Below A₀ base outer h₀) (k2 : Fr h₀ L s.heap m) (k3 : K.In h₀) (k4 : News h₀ L s.heap news) (k5 : Top p loose mean mg mb h₀) (kK : cs.kind = .function) (kp : pre) (kd : dp + 3 < recursionLimit) (ku : un + 40 < cLine)
    (kR : ∀ (t : Tok) (h' : Heap) (tk' : Nat), Fr h₀ L h' m → News h₀ L h' news → Q (R t) { s with heap := h', toks := tk' }) :
    wpAny (model prog w) (ktrTop dp un gd cn cs L a ccd cl outer) (call (.ref f) vs) Q E s :=
  h dp un gd cn cs a ccd cl outer A₀ base h₀ L m s Q E k1 k2 k3 k4 k5 kK kp kd ku kR
theorem roomD {n : Nat} (h : n + 6 < recursionLimit) : n + 1 + 3 < recursionLimit := by omega
theorem roomU {n : Nat} (h : n + 100 < cLine) : n + 3 + 40 < cLine := by omega
theorem roomD1 {n : Nat} (h : n + 6 < recursionLimit) : n + 1 + 1 < recursionLimit := by omega
theorem roomU1 {n : Nat} (h : n + 100 < cLine) : n + 3 + 8 < cLine := by omega
theorem fm_in (a : Int) {b : Int} (h : 0 < b) : 0 ≤ a.fmod b ∧ a.fmod b < b := ⟨Int.fmod_nonneg_of_pos a h, Int.fmod_lt_of_pos a h⟩
/-- a contract of a def that calls -/
abbrev Claim5 (prog : Program) (w : World) (K : Frag) (p : Program) (loose : List Str) (mean : ExcName → Option Value) (mg mb : Str → Option Value) (f : Addr) (news : List (Addr × Obj)) (pre : Prop) (vs : List Value)
    (R : Heap → Addr → (Str → Option Value) → Shared → (Value → Shared → Prop) → Prop) : Prop :=
  ∀ (dp un : Nat) (gd : Option (List Code)) (cn : Str) (cs : Scope) (a : Addr) (ccd : Value) (cl : List (Str × Addr)) (outer : List Env) (A₀ : Around) (base h₀ : Heap) (L : Addr) (m : Str → Option Value) (s : Shared) (Q E : Value → Shared → Prop),
    Below A₀ base outer h₀ → Fr h₀ L s.heap m → K.In h₀ → News h₀ L s.heap news → Top p loose mean mg mb h₀ → cs.kind = .function → pre → dp + 6 < recursionLimit → un + 100 < cLine →
    R h₀ L m s Q → wpAny (model prog w) (ktrTop dp un gd cn cs L a ccd cl outer) (call (.ref f) vs) Q E s
/-- the end that hands a pair back -/
abbrev PairEnd (x : Int) (y : Str) (news : List (Addr × Obj)) (h₀ : Heap) (L : Addr) (m : Str → Option Value) (s : Shared) (Q : Value → Shared → Prop) : Prop :=
  ∀ (D : Addr) (t1 t2 : Tok) (c : Nat) (h' : Heap) (tk' : Nat), Fr h₀ L h' m → News h₀ L h' ((D, { cls := .type "tuple", data := .seq #[.int x t1, .str y t2] c }) :: news) → Q (.ref D) { s with heap := h', toks := tk' }
end Mine
open Mine
local macro_rules | `(tactic| walk_at "call ref") => `(tactic| (k_here; (with_reducible show wpAny _ _ (call (Value.ref 92) [Value.int _ _]) _ _ _); k_dflt (refine' use_cb (c_math _ _ _ _ _ _ _) ?k1 ?k2 ?k3 ?k4 ?k5 ?kK ?kp ?kd ?ku ?_; (case k1 => k_asm); (case k2 => k_asm); (case k3 => k_asm); (case k4 => k_asm); (case k5 => k_asm); (case kK => first | exact rfl | assumption); (case kp => exact fm_in _ (by decide)); (case kd => exact roomD1 (by assumption)); (case ku => exact roomU1 (by assumption))); intro t9 h9 tk9 F9 N9; (try dsimp only)))
local macro_rules | `(tactic| walk_at "call ref") => `(tactic| (k_here; (with_reducible show wpAny _ _ (call (Value.ref 99) [Value.int _ _]) _ _ _); k_dflt (refine' use_c2 (c_hidden _ _ _ _ _ _ _) ?k1 ?k2 ?k3 ?k4 ?k5 ?kK ?kp ?kd ?ku ?_; (case k1 => k_asm); (case k2 => k_asm); (case k3 => k_asm); (case k4 => k_asm); (case k5 => k_asm); (case kK => first | exact rfl | assumption); (case kp => exact fm_in _ (by decide)); (case kd => exact roomD (by assumption)); (case ku => exact roomU (by assumption))); intro t9 h9 tk9 F9 N9; (try dsimp only)))
namespace Mine
theorem pair_back {x x' : Int} {y y' : Str} {news news' : List (Addr × Obj)} {h₀ : Heap} {L D : Addr} {m : Str → Option Value} {s : Shared} {Q : Value → Shared → Prop} {t1 t2 : Tok} {c : Nat} {h' : Heap} {tk' : Nat} (hret : PairEnd x y news h₀ L m s Q) (ex : x' = x) (ey : y' = y) (F : Fr h₀ L h' m)
    (N : News h₀ L h' ((D, { cls := .type "tuple", data := .seq #[.int x' t1, .str y' t2] c }) :: news')) (hs : ∀ p ∈ news, p ∈ news') : Q (.ref D) { s with heap := h', toks := tk' } := by
  subst ex; subst ey
  refine hret D t1 t2 c h' tk' F fun p hp => ?_
  rcases List.mem_cons.mp hp with rfl | hp
  · exact N _ (.head _)
  · exact N p (.tail _ (hs p hp))
/-- where the sign stands -/
def signP (b place : Int) : Int :=
  if b = 0 then 119808 + place.fmod 1024 else if b = 4 then hidZ (place.fmod 27)
  else if b = 1 then (if place.fmod 100 < 6 then 13169 + place.fmod 100 else 13178 + place.fmod 100)
  else if b = 2 then (if place.fmod 69 < 50 then 8448 + place.fmod 69 else 8449 + place.fmod 69)
  else 64256 + place.fmod 24
/-- what is told beside it -/
def signW (b place : Int) : Str :=
  if b = 0 then mathW (place.fmod 1024) else if b = 4 then Str.ofString "-"
  else if b = 1 then (wordsN 0).getD (place.fmod 100).toNat Str.empty
  else if b = 2 then (wordsN 1).getD (place.fmod 69).toNat Str.empty
  else (wordsN 2).getD (place.fmod 24).toNat Str.empty
theorem signP1a (place : Int) (h : place.fmod 100 < 6) : 13169 + place.fmod 100 = signP 1 place := by simp [signP, h]
theorem signP1b (place : Int) (h : ¬ place.fmod 100 < 6) : 13178 + place.fmod 100 = signP 1 place := by simp [signP, h]
theorem signP2a (place : Int) (h : place.fmod 69 < 50) : 8448 + place.fmod 69 = signP 2 place := by simp [signP, h]
theorem signP2b (place : Int) (h : ¬ place.fmod 69 < 50) : 8449 + place.fmod 69 = signP 2 place := by simp [signP, h]
section
variable {prog : Program} {w : World} {A : Around} {E : Value → Shared → Prop} {s : Shared} {h₀ : Heap} {L : Addr} {m : Str → Option Value} {news : List (Addr × Obj)}
theorem item_words {value slice : PySem.Expr} {l : Addr} {vs : List Value} {ws : List Str} {n : Nat} {i : Int} {u : Tok} {Q : Value → Shared → Prop} (N : News h₀ L s.heap news) (hm : (l, listOf vs.toArray 0) ∈ news) (hw : StrsAre vs ws) (hn : ws.length = n) (hi : 0 ≤ i ∧ i < (n : Int)) (hf : n < 2 ^ 62)
    (h : ∀ t', Q (.str (ws.getD i.toNat Str.empty) t') s)
    (hs : subscripted slice false (.ref l) (.int i u) = operate [.ref l, .int i u] (getItem (.ref l) (.int i u)) := by with_unfolding_all rfl) :
    wpAny (model prog w) A (subscriptTail value slice (.ref l) (.int i u)) Q E s :=
  KTb.item_list (News.isList N hm) hw hi.1 (by rw [hn]; exact hi.2) (by have := hi.2; omega) (fun t' _ => h t') hs
theorem strs_size {vs : List Value} {ws : List Str} {n : Nat} (h : StrsAre vs ws) (e : ws.length = n) : vs.toArray.size = n := by
  rw [List.size_toArray, h.length, e]
end
end Mine
local macro_rules | `(tactic| walk_at "subscriptTail") => `(tactic| (k_here; (with_reducible show wpAny _ _ (subscriptTail _ _ (Value.ref _) (Value.int (Int.fmod _ _) _)) _ _ _); k_dflt (refine' item_words ?k1 ?k2 ?k3 ?k4 ?k5 ?k6 ?_ ?k7; (case k1 => k_asm); (case k2 => k_mem); (case k3 => with_reducible assumption); (case k4 => first | exact len0 | exact len1 | exact len2); (case k5 => exact fm_in _ (by decide)); (case k6 => decide); (case k7 => with_unfolding_all rfl); k_whole); intro _))
namespace Mine
set_option maxHeartbeats 8000000 in
theorem c_sign (w : World) (mean : ExcName → Option Value) (mg mb : Str → Option Value) (cbNews : CbLed) (b place : Int) (t u : Tok) (D D1 D2 D3 : Addr) (v1 v2 v3 : List Value) :
    Claim5 PySem.Challenge.rw_mq0481_01.row.prog w (kTop w.params) qV (looseW qV looseV) mean mg mb 106 (wLed D D1 D2 D3 v1 v2 v3 cbNews) (WordsOk v1 v2 v3 ∧ 0 ≤ b ∧ b < 5) [Value.int b t, Value.int place u, Value.ref D]
      (PairEnd (signP b place) (signW b place) (wLed D D1 D2 D3 v1 v2 v3 cbNews)) := by
  w_top off
  k_fill
  unfold Claim5 PairEnd wLed
  intro dp un gd cn cs a ccd cl outer A₀ base h₀ L m s Q E k1 k2 k3 k4 k5 kK kpre kd ku hret
  obtain ⟨⟨wa, wb, wc⟩, b0, b5⟩ := kpre
  have z0 := strs_size wa len0
  have z1 := strs_size wb len1
  have z2 := strs_size wc len2
  have hb : b = 0 ∨ b = 1 ∨ b = 2 ∨ b = 3 ∨ b = 4 := by omega
  clear b0 b5
  rcases hb with e | e | e | e | e
  all_goals subst e
  all_goals refine wpAny_call ?_
  all_goals k_dflt cell_enter
  all_goals k_steps
  all_goals (refine pair_back (s := s) (Q := Q) hret ?_ ?_ (by with_reducible assumption) (by with_reducible assumption) (by intro p hp; repeat (first | exact hp | refine List.Mem.tail _ ?_)))
  all_goals clear hret
  all_goals first
    | rfl
    | exact signP1a _ (by assumption)
    | exact signP1b _ (by assumption)
    | exact signP2a _ (by assumption)
    | exact signP2b _ (by assumption)
end Mine
end
section
open PySem PySem.W PyProof.Rows PyProof.V PySem.Spec PySem.Calls
set_option Elab.async false
set_option maxRecDepth 100000
namespace Mine
inductive Tr where
  | e : Tr
  | n (l : Tr) (x : Int × Str) (r : Tr) : Tr
def Tr.list : Tr → List (Int × Str)
  | .e => []
  | .n l x r => l.list ++ x :: r.list
def Tr.get (c : Int) : Tr → Option Str
  | .e => none
  | .n l x r => if c < x.1 then l.get c else if c = x.1 then some x.2 else r.get c
def Tr.make : Nat → List (Int × Str) → Tr × List (Int × Str)
  | 0, l => (.e, l)
  | d + 1, l => match Tr.make d l with
    | (a, []) => (a, [])
    | (a, x :: l2) => match Tr.make d l2 with
      | (b, l3) => (.n a x b, l3)
theorem Tr.make_list : ∀ (d : Nat) (l : List (Int × Str)), (Tr.make d l).1.list ++ (Tr.make d l).2 = l
  | 0, l => rfl
  | d + 1, l => by
    have h1 := Tr.make_list d l
    rw [Tr.make]
    rcases e : Tr.make d l with ⟨a, _ | ⟨x, l2⟩⟩
    · rw [e] at h1; exact h1
    · have h2 := Tr.make_list d l2
      rw [e] at h1
      simp only [Tr.list] at h1 ⊢
      rw [List.append_assoc, List.cons_append, h2]
      exact h1
theorem find_none (c : Int) : ∀ (l : List (Int × Str)), (∀ x ∈ l, x.1 ≠ c) → l.find? (fun x => decide (x.1 = c)) = none := by
  intro l h
  rw [List.find?_eq_none]
  intro x hx
  simpa using h x hx
theorem Tr.get_eq (c : Int) : ∀ (t : Tr), (t.list.map (·.1)).Pairwise (· < ·) → (t.list.find? fun x => decide (x.1 = c)).map (·.2) = t.get c
  | .e, _ => rfl
  | .n l x r, h => by
    rw [Tr.list, List.map_append, List.map_cons, List.pairwise_append, List.pairwise_cons] at h
    obtain ⟨hl, ⟨hx, hr⟩, hlx⟩ := h
    have il := Tr.get_eq c l hl
    have ir := Tr.get_eq c r hr
    have hr' : ∀ y ∈ r.list, x.1 < y.1 := fun y hy => hx _ (List.mem_map_of_mem hy)
    have hl' : ∀ y ∈ l.list, y.1 < x.1 := fun y hy => hlx _ (List.mem_map_of_mem hy) _ (List.mem_cons_self ..)
    rw [Tr.list, List.find?_append, Tr.get]
    by_cases h1 : c < x.1
    · rw [if_pos h1, ← il]
      rw [find_none c (x :: r.list) (fun y hy => by
        rcases List.mem_cons.mp hy with q | q
        · subst q; omega
        · have := hr' y q; omega)]
      rw [Option.or_none]
    · rw [if_neg h1, find_none c l.list (fun y hy => by have := hl' y hy; omega), Option.none_or, List.find?_cons]
      by_cases h2 : c = x.1
      · rw [if_pos h2]; simp [h2]
      · rw [if_neg h2]
        have : decide (x.1 = c) = false := by simp; omega
        rw [this]; exact ir
theorem Rising.pw : ∀ {l : List (Int × Str)} {b : Int}, Rising b l → (l.map (·.1)).Pairwise (· < ·)
  | [], _, _ => List.Pairwise.nil
  | (k, _) :: r, b, ⟨h1, _, h3⟩ => by
    rw [List.map_cons, List.pairwise_cons]
    exact ⟨fun y hy => by have := Rising.above h3 _ hy; simp only at this ⊢; omega, Rising.pw h3⟩
def tr : Tr := (Tr.make 10 items).1
theorem tr_rest : (Tr.make 10 items).2.isEmpty = true := by decide +kernel
theorem tr_list : tr.list = items := by
  have h := Tr.make_list 10 items
  rw [List.isEmpty_iff.mp tr_rest, List.append_nil] at h
  exact h
theorem lookI_tr (c : Int) : lookI c = tr.get c := by
  rw [lookI, ← tr_list]
  exact Tr.get_eq c tr (by rw [tr_list]; exact Rising.pw (rising_iff items_up))
def mapF (c : Nat) : Str := match tr.get (c : Int) with
  | some x => x
  | none => Txt.lower ⟨#[c]⟩
theorem mapC_F (c : Nat) : mapC c = mapF c := by
  unfold mapC mapF
  have e := lookI_tr (c : Int)
  generalize lookI (c : Int) = a at e ⊢
  generalize tr.get (c : Int) = b at e ⊢
  subst e
  cases a <;> rfl
def farRow (lo hi : Nat) (x : Nat × Nat × Nat) : Bool := decide (x.2.1 < lo) || decide (hi < x.1)
theorem shifted_far (lo hi c : Nat) (h1 : lo ≤ c) (h2 : c ≤ hi) : ∀ l : List (Nat × Nat × Nat), l.all (farRow lo hi) = true → Unicode.shifted l c = none
  | [], _ => rfl
  | (a, b, t) :: r, h => by
    rw [List.all_cons, Bool.and_eq_true, farRow, Bool.or_eq_true, decide_eq_true_iff, decide_eq_true_iff] at h
    rw [Unicode.shifted]
    have ih := shifted_far lo hi c h1 h2 r h.2
    have h3 := h.1
    simp only at h3
    by_cases e : c < a
    · rw [if_pos e]
    · rw [if_neg e, if_neg (by omega), ih]
theorem several_far (lo hi c : Nat) (h1 : lo ≤ c) (h2 : c ≤ hi) : ∀ l : List (Nat × List Nat), l.all (fun x => decide (x.1 < lo) || decide (hi < x.1)) = true → l.lookup c = none
  | [], _ => rfl
  | (a, b) :: r, h => by
    rw [List.all_cons, Bool.and_eq_true, Bool.or_eq_true, decide_eq_true_iff, decide_eq_true_iff] at h
    have ih := several_far lo hi c h1 h2 r h.2
    have h3 := h.1
    simp only at h3
    rw [List.lookup_cons]
    have : (c == a) = false := by simp; omega
    rw [this]; exact ih
def farR (lo hi : Nat) : Bool := PySem.UnicodeData.oneLower.all (farRow lo hi) && PySem.UnicodeData.severalLower.all (fun x => decide (x.1 < lo) || decide (hi < x.1)) && (decide (931 < lo))
theorem lower_far (lo hi c : Nat) (h1 : lo ≤ c) (h2 : c ≤ hi) (h : farR lo hi = true) : Txt.lower ⟨#[c]⟩ = ⟨#[c]⟩ := by
  rw [farR, Bool.and_eq_true, Bool.and_eq_true, decide_eq_true_iff] at h
  have e : Unicode.lowerOf c = [c] := by
    rw [Unicode.lowerOf, Unicode.image, several_far lo hi c h1 h2 _ h.1.2, shifted_far lo hi c h1 h2 _ h.1.1]
    rfl
  unfold Txt.lower
  rw [placed_single ⟨#[c]⟩ _ (fun x => x) fun i d hd => by
    have hd2 : (#[c] : Array Nat)[i]? = some d := by simpa using hd
    have hm : d ∈ [c] := List.mem_of_getElem? hd
    have hdc : d = c := List.mem_singleton.mp hm
    subst hdc
    unfold Unicode.lowerAt
    show (match (#[d] : Array Nat)[i]? with | none => [] | some c => if (c == 0x3A3 && Unicode.endsWord #[d] i) = true then [0x3C2] else Unicode.lowerOf c) = _
    rw [hd2]
    have : (d == 0x3A3) = false := by rw [beq_eq_false_iff_ne]; omega
    simp only [this, Bool.false_and, Bool.false_eq_true, if_false]
    exact e]
  simp
theorem far1 : farR 119808 120831 = true := by decide +kernel
theorem far2 : farR 13169 13311 = true := by decide +kernel
theorem far3 : farR 64256 64290 = true := by decide +kernel
theorem far4 : farR 8448 8485 = true := by decide +kernel
theorem far5 : farR 8492 8497 = true := by decide +kernel
theorem far6 : farR 8499 8520 = true := by decide +kernel
def farB (c : Nat) : Bool := (decide (119808 ≤ c) && decide (c ≤ 120831)) || (decide (13169 ≤ c) && decide (c ≤ 13311)) || (decide (64256 ≤ c) && decide (c ≤ 64290)) || (decide (8448 ≤ c) && decide (c ≤ 8485)) || (decide (8492 ≤ c) && decide (c ≤ 8497)) || (decide (8499 ≤ c) && decide (c ≤ 8520))
theorem lower_farB (c : Nat) (h : farB c = true) : Txt.lower ⟨#[c]⟩ = ⟨#[c]⟩ := by
  simp only [farB, Bool.or_eq_true, Bool.and_eq_true, decide_eq_true_iff] at h
  rcases h with ((((⟨h1, h2⟩ | ⟨h1, h2⟩) | ⟨h1, h2⟩) | ⟨h1, h2⟩) | ⟨h1, h2⟩) | ⟨h1, h2⟩
  · exact lower_far _ _ c h1 h2 far1
  · exact lower_far _ _ c h1 h2 far2
  · exact lower_far _ _ c h1 h2 far3
  · exact lower_far _ _ c h1 h2 far4
  · exact lower_far _ _ c h1 h2 far5
  · exact lower_far _ _ c h1 h2 far6
def mapG (c : Nat) : Str := match tr.get (c : Int) with
  | some x => x
  | none => bif farB c then ⟨#[c]⟩ else Txt.lower ⟨#[c]⟩
theorem mapF_G (c : Nat) : mapF c = mapG c := by
  unfold mapF mapG
  cases tr.get (c : Int) with
  | some x => rfl
  | none =>
    show Txt.lower ⟨#[c]⟩ = _
    cases e : farB c with
    | true => exact lower_farB c e
    | false => rfl
def goodF (c : Nat) : Bool := !hidS (c : Int) && decide (mapG c = ⟨#[c]⟩) && decide (c < 1114112)
def signF (spot : Nat) (word : Str) (hid : Bool) : Bool :=
  decide (spot < 1114112) && word.cps.toList.all (fun c => decide (c < 1114112)) && decide (word.length ≤ 10) && (hidS (spot : Int) == hid) && decide (mapG spot = toldW (spot : Int) word)
    && (hid || ((toldW (spot : Int) word).cps.toList.all goodF && decide ((toldW (spot : Int) word).length ≤ 4)))
def runF (n k : Nat) : Bool := (List.range k).all fun p => signF (119808 + (n + p)) (mathW ((n + p : Nat) : Int)) false
theorem runF_at {n k : Nat} (h : runF n k = true) (p : Nat) (h1 : n ≤ p) (h2 : p < n + k) : signF (119808 + p) (mathW (p : Int)) false = true := by
  have := List.all_eq_true.mp h (p - n) (List.mem_range.mpr (by omega))
  rw [show n + (p - n) = p by omega] at this
  exact this
theorem hid_all : ∀ p : Nat, p < 27 → signF (hidZ (p : Int)).toNat (Str.ofString "-") true = true := by decide +kernel
theorem math_0 : runF 0 128 = true := by decide +kernel
theorem math_1 : runF 128 128 = true := by decide +kernel
theorem math_2 : runF 256 128 = true := by decide +kernel
theorem math_3 : runF 384 128 = true := by decide +kernel
theorem math_4 : runF 512 128 = true := by decide +kernel
theorem math_5 : runF 640 128 = true := by decide +kernel
theorem math_6 : runF 768 128 = true := by decide +kernel
theorem math_7 : runF 896 128 = true := by decide +kernel
theorem math_all (p : Nat) (h : p < 1024) : signF (119808 + p) (mathW (p : Int)) false = true := by
  by_cases h0 : p < 128
  · exact runF_at math_0 p (by omega) (by omega)
  by_cases h1 : p < 256
  · exact runF_at math_1 p (by omega) (by omega)
  by_cases h2 : p < 384
  · exact runF_at math_2 p (by omega) (by omega)
  by_cases h3 : p < 512
  · exact runF_at math_3 p (by omega) (by omega)
  by_cases h4 : p < 640
  · exact runF_at math_4 p (by omega) (by omega)
  by_cases h5 : p < 768
  · exact runF_at math_5 p (by omega) (by omega)
  by_cases h6 : p < 896
  · exact runF_at math_6 p (by omega) (by omega)
  exact runF_at math_7 p (by omega) (by omega)
/-- what a sign's facts say -/
def GoodC (c : Nat) : Prop := hidS (c : Int) = false ∧ mapC c = ⟨#[c]⟩ ∧ c < 1114112
def GoodT (x : Str) : Prop := ∀ c ∈ x.cps.toList, GoodC c
structure SignOk (spot : Int) (word : Str) (hid : Bool) : Prop where
  lo : 0 ≤ spot
  hi : spot < 1114112
  ch : ∀ c ∈ word.cps.toList, c < 1114112
  len : word.length ≤ 10
  hidden : hidS spot = hid
  told : mapC spot.toNat = toldW spot word
  good : hid = false → GoodT (toldW spot word)
  short : hid = false → (toldW spot word).length ≤ 4
theorem goodF_ok {c : Nat} (h : goodF c = true) : GoodC c := by
  simp only [goodF, Bool.and_eq_true, Bool.not_eq_true', decide_eq_true_iff] at h
  exact ⟨h.1.1, by rw [mapC_F, mapF_G]; exact h.1.2, h.2⟩
theorem signF_ok {n : Nat} {word : Str} {hid : Bool} (h : signF n word hid = true) : SignOk (n : Int) word hid := by
  simp only [signF, Bool.and_eq_true, Bool.or_eq_true, decide_eq_true_iff, List.all_eq_true, beq_iff_eq] at h
  obtain ⟨⟨⟨⟨⟨h1, h2⟩, h3⟩, h4⟩, h5⟩, h6⟩ := h
  refine ⟨by omega, by omega, h2, h3, h4, ?_, fun e => ?_, fun e => ?_⟩
  · rw [Int.toNat_natCast, mapC_F, mapF_G]; exact h5
  · rcases h6 with q | q
    · rw [e] at q; cases q
    · exact fun c hc => goodF_ok (q.1 c hc)
  · rcases h6 with q | q
    · rw [e] at q; cases q
    · exact q.2
theorem ok_math (v : Int) (h0 : 0 ≤ v) (h1 : v < 1024) : SignOk (119808 + v) (mathW v) false := by
  obtain ⟨p, rfl⟩ := Int.eq_ofNat_of_zero_le h0
  have := signF_ok (math_all p (by omega))
  rw [Int.natCast_add] at this
  exact this
theorem hidZ_nn (v : Int) (h0 : 0 ≤ v) : 0 ≤ hidZ v := by
  unfold hidZ
  (repeat' split) <;> omega
theorem ok_hid (v : Int) (h0 : 0 ≤ v) (h1 : v < 27) : SignOk (hidZ v) (Str.ofString "-") true := by
  have e := hidZ_nn v h0
  obtain ⟨p, rfl⟩ := Int.eq_ofNat_of_zero_le h0
  have := signF_ok (hid_all p (by omega))
  rw [Int.toNat_of_nonneg e] at this
  exact this
end Mine
end
section
open PySem PySem.W PyProof.Rows PyProof.V PySem.Spec PySem.Calls
set_option Elab.async false
set_option maxRecDepth 100000
namespace Mine
def runW (f : Nat → Nat) : List Str → Nat → Bool
  | [], _ => true
  | x :: r, n => signF (f n) x false && runW f r (n + 1)
theorem runW_at {f : Nat → Nat} : ∀ (l : List Str) (n : Nat), runW f l n = true → ∀ p, p < l.length → signF (f (n + p)) (l.getD p Str.empty) false = true
  | [], _, _, _, h => nomatch h
  | x :: r, n, h, 0, _ => by
    rw [runW, Bool.and_eq_true] at h
    exact h.1
  | x :: r, n, h, p + 1, hp => by
    rw [runW, Bool.and_eq_true] at h
    have := runW_at r (n + 1) h.2 p (by rw [List.length_cons] at hp; omega)
    rw [show n + (p + 1) = n + 1 + p by omega]
    rw [List.getD_cons_succ]
    exact this
def spot1 (n : Nat) : Nat := if n < 6 then 13169 + n else 13178 + n
def spot2 (n : Nat) : Nat := if n < 50 then 8448 + n else 8449 + n
def spot3 (n : Nat) : Nat := 64256 + n
theorem wrun1 : runW spot1 (wordsN 0) 0 = true := by rw [words_fast]; decide +kernel
theorem wrun2 : runW spot2 (wordsN 1) 0 = true := by rw [words_fast]; decide +kernel
theorem wrun3 : runW spot3 (wordsN 2) 0 = true := by rw [words_fast]; decide +kernel
theorem ok_run {f : Nat → Nat} {l : List Str} (h : runW f l 0 = true) (v : Int) (h0 : 0 ≤ v) (h1 : v < (l.length : Int)) : SignOk ((f v.toNat : Nat) : Int) (l.getD v.toNat Str.empty) false := by
  have := runW_at l 0 h v.toNat (by omega)
  rw [Nat.zero_add] at this
  exact signF_ok this
theorem ok_sign (b place : Int) (h0 : 0 ≤ b) (h1 : b < 5) : SignOk (signP b place) (signW b place) (decide (b = 4)) := by
  have hb : b = 0 ∨ b = 1 ∨ b = 2 ∨ b = 3 ∨ b = 4 := by omega
  rcases hb with e | e | e | e | e
  · subst e
    obtain ⟨h2, h3⟩ := fm_in place (b := 1024) (by decide)
    exact ok_math _ h2 h3
  · subst e
    obtain ⟨h2, h3⟩ := fm_in place (b := 100) (by decide)
    have h := ok_run wrun1 (place.fmod 100) h2 (by rw [len0]; exact h3)
    have e : ((spot1 (place.fmod 100).toNat : Nat) : Int) = signP 1 place := by
      unfold spot1
      by_cases q : place.fmod 100 < 6
      · rw [if_pos (by omega), ← signP1a place q]; omega
      · rw [if_neg (by omega), ← signP1b place q]; omega
    rw [e] at h
    exact h
  · subst e
    obtain ⟨h2, h3⟩ := fm_in place (b := 69) (by decide)
    have h := ok_run wrun2 (place.fmod 69) h2 (by rw [len1]; exact h3)
    have e : ((spot2 (place.fmod 69).toNat : Nat) : Int) = signP 2 place := by
      unfold spot2
      by_cases q : place.fmod 69 < 50
      · rw [if_pos (by omega), ← signP2a place q]; omega
      · rw [if_neg (by omega), ← signP2b place q]; omega
    rw [e] at h
    exact h
  · subst e
    obtain ⟨h2, h3⟩ := fm_in place (b := 24) (by decide)
    have h := ok_run wrun3 (place.fmod 24) h2 (by rw [len2]; exact h3)
    have e : ((spot3 (place.fmod 24).toNat : Nat) : Int) = signP 3 place := by
      show ((64256 + (place.fmod 24).toNat : Nat) : Int) = 64256 + place.fmod 24
      omega
    rw [e] at h
    exact h
  · subst e
    obtain ⟨h2, h3⟩ := fm_in place (b := 27) (by decide)
    exact ok_hid _ h2 h3
end Mine
end
section
open PySem PySem.W PyProof.Rows PyProof.V PySem.Spec PySem.Calls
set_option Elab.async false
set_option maxRecDepth 100000
namespace Mine
abbrev lawProg : Program := PySem.Challenge.rw_mq0481_01.row.prog
section
variable {w : World} {mean : ExcName → Option Value} {mg mb : Str → Option Value} {news : List (Addr × Obj)} {dp un : Nat} {gd : Option (List Code)} {cn : Str} {cs : Scope} {a : Addr} {ccd : Value} {cl : List (Str × Addr)} {outer : List Env} {A₀ : Around} {base h₀ : Heap} {L : Addr} {m : Str → Option Value} {s : Shared} {Q E : Value → Shared → Prop}
theorem use_words (k1 : Below A₀ base outer h₀) (k2 : Fr h₀ L s.heap m) (k3 : (kTop w.params).In h₀) (k4 : News h₀ L s.heap news) (k5 : Top qV (looseW qV looseV) mean mg mb h₀) (kK : cs.kind = .function) (kd : dp + 3 < recursionLimit) (ku : un + 40 < cLine)
    (kR : WordsEnd news h₀ L m s Q) : wpAny (model lawProg w) (ktrTop dp un gd cn cs L a ccd cl outer) (call (.ref 85) []) Q E s :=
  c_words w mean mg mb news dp un gd cn cs a ccd cl outer A₀ base h₀ L m s Q E k1 k2 k3 k4 k5 kK trivial kd ku kR
theorem use_sign {b place : Int} {t u : Tok} {D D1 D2 D3 : Addr} {v1 v2 v3 : List Value} (k1 : Below A₀ base outer h₀) (k2 : Fr h₀ L s.heap m) (k3 : (kTop w.params).In h₀) (k4 : News h₀ L s.heap news) (k5 : Top qV (looseW qV looseV) mean mg mb h₀) (kK : cs.kind = .function) (kd : dp + 6 < recursionLimit) (ku : un + 100 < cLine)
    (hW : WordsOk v1 v2 v3) (hb : 0 ≤ b ∧ b < 5) (mD : (D, listOf #[.ref D1, .ref D2, .ref D3] 0) ∈ news) (m3 : (D3, listOf v3.toArray 0) ∈ news) (m2 : (D2, listOf v2.toArray 0) ∈ news) (m1 : (D1, listOf v1.toArray 0) ∈ news)
    (kR : ∀ (spot : Int) (word : Str) (T : Addr) (t1 t2 : Tok) (c : Nat) (h' : Heap) (tk' : Nat), SignOk spot word (b == 4) → Fr h₀ L h' m → News h₀ L h' ((T, { cls := .type "tuple", data := .seq #[.int spot t1, .str word t2] c }) :: news) → Q (.ref T) { s with heap := h', toks := tk' }) :
    wpAny (model lawProg w) (ktrTop dp un gd cn cs L a ccd cl outer) (call (.ref 106) [.int b t, .int place u, .ref D]) Q E s := by
  have N : News h₀ L s.heap (wLed D D1 D2 D3 v1 v2 v3 news) := by
    intro p hp
    rcases List.mem_cons.mp hp with rfl | hp
    · exact k4 _ mD
    rcases List.mem_cons.mp hp with rfl | hp
    · exact k4 _ m3
    rcases List.mem_cons.mp hp with rfl | hp
    · exact k4 _ m2
    rcases List.mem_cons.mp hp with rfl | hp
    · exact k4 _ m1
    exact k4 p hp
  refine c_sign w mean mg mb news b place t u D D1 D2 D3 v1 v2 v3 dp un gd cn cs a ccd cl outer A₀ base h₀ L m s Q E k1 k2 k3 N k5 kK ⟨hW, hb⟩ kd ku fun T t1 t2 c h' tk' F N' => kR _ _ T t1 t2 c h' tk' (ok_sign b place hb.1 hb.2) F fun p hp => ?_
  rcases List.mem_cons.mp hp with rfl | hp
  · exact N' _ (.head _)
  · exact N' p (.tail _ (.tail _ (.tail _ (.tail _ (.tail _ hp)))))
theorem use_told {spot : Int} {word : Str} {hid : Bool} {t u : Tok} (k1 : Below A₀ base outer h₀) (k2 : Fr h₀ L s.heap m) (k3 : (kTop w.params).In h₀) (k4 : News h₀ L s.heap news) (k5 : Top qV (looseW qV looseV) mean mg mb h₀) (kK : cs.kind = .function) (kd : dp + 3 < recursionLimit) (ku : un + 40 < cLine)
    (ok : SignOk spot word hid)
    (kR : ∀ (t : Tok) (h' : Heap) (tk' : Nat), Fr h₀ L h' m → News h₀ L h' news → Q (.str (toldW spot word) t) { s with heap := h', toks := tk' }) :
    wpAny (model lawProg w) (ktrTop dp un gd cn cs L a ccd cl outer) (call (.ref 118) [.int spot t, .str word u]) Q E s :=
  use_c2 (c_told w mean mg mb news spot t word u) k1 k2 k3 k4 k5 kK ⟨⟨ok.lo, ok.hi⟩, ok.ch, ok.len⟩ kd ku kR
theorem use_b1s {spot : Int} {word : Str} {hid : Bool} {t : Tok} (k1 : Below A₀ base outer h₀) (k2 : Fr h₀ L s.heap m) (k3 : (kTop w.params).In h₀) (k4 : News h₀ L s.heap news) (k5 : Top qV (looseW qV looseV) mean mg mb h₀) (kK : cs.kind = .function) (kd : dp + 1 < recursionLimit) (ku : un + 8 < cLine)
    (ok : SignOk spot word hid)
    (kR : ∀ (h' : Heap) (tk' : Nat), Fr h₀ L h' m → News h₀ L h' news → Q (.bool hid) { s with heap := h', toks := tk' }) :
    wpAny (model lawProg w) (ktrTop dp un gd cn cs L a ccd cl outer) (call (.ref 32) [.str ⟨#[spot.toNat]⟩ t]) Q E s := by
  have h1 := ok.hi
  have h0 := ok.lo
  refine use_cb (c_b1 w mean mg mb news spot.toNat t) k1 k2 k3 k4 k5 kK (by omega) kd ku fun t' h' tk' F N => ?_
  have e : hidS ((spot.toNat : Nat) : Int) = hid := by rw [Int.toNat_of_nonneg h0]; exact ok.hidden
  show Q (.bool (hidS ((spot.toNat : Nat) : Int))) _
  rw [e]
  exact kR h' tk' F N
theorem use_b3s {spot : Int} {word : Str} {hid : Bool} {t : Tok} (k1 : Below A₀ base outer h₀) (k2 : Fr h₀ L s.heap m) (k3 : (kTop w.params).In h₀) (k4 : News h₀ L s.heap news) (k5 : Top qV (looseW qV looseV) mean mg mb h₀) (kK : cs.kind = .function) (kd : dp + 1 < recursionLimit) (ku : un + 8 < cLine)
    (ok : SignOk spot word hid)
    (kR : ∀ (t : Tok) (h' : Heap) (tk' : Nat), Fr h₀ L h' m → News h₀ L h' news → Q (.str (toldW spot word) t) { s with heap := h', toks := tk' }) :
    wpAny (model lawProg w) (ktrTop dp un gd cn cs L a ccd cl outer) (call (.ref 78) [.str ⟨#[spot.toNat]⟩ t]) Q E s := by
  have h1 := ok.hi
  have h0 := ok.lo
  refine use_cb (c_b3 w mean mg mb news spot.toNat t) k1 k2 k3 k4 k5 kK (by omega) kd ku fun t' h' tk' F N => ?_
  show Q (.str (mapC spot.toNat) t') _
  rw [ok.told]
  exact kR t' h' tk' F N
theorem use_b1c {c : Nat} {t : Tok} (k1 : Below A₀ base outer h₀) (k2 : Fr h₀ L s.heap m) (k3 : (kTop w.params).In h₀) (k4 : News h₀ L s.heap news) (k5 : Top qV (looseW qV looseV) mean mg mb h₀) (kK : cs.kind = .function) (kd : dp + 1 < recursionLimit) (ku : un + 8 < cLine)
    (ok : GoodC c) (kR : ∀ (h' : Heap) (tk' : Nat), Fr h₀ L h' m → News h₀ L h' news → Q (.bool false) { s with heap := h', toks := tk' }) :
    wpAny (model lawProg w) (ktrTop dp un gd cn cs L a ccd cl outer) (call (.ref 32) [.str ⟨#[c]⟩ t]) Q E s := by
  refine use_cb (c_b1 w mean mg mb news c t) k1 k2 k3 k4 k5 kK ok.2.2 kd ku fun t' h' tk' F N => ?_
  show Q (.bool (hidS (c : Int))) _
  rw [ok.1]
  exact kR h' tk' F N
theorem use_b3c {c : Nat} {t : Tok} (k1 : Below A₀ base outer h₀) (k2 : Fr h₀ L s.heap m) (k3 : (kTop w.params).In h₀) (k4 : News h₀ L s.heap news) (k5 : Top qV (looseW qV looseV) mean mg mb h₀) (kK : cs.kind = .function) (kd : dp + 1 < recursionLimit) (ku : un + 8 < cLine)
    (ok : GoodC c) (kR : ∀ (t : Tok) (h' : Heap) (tk' : Nat), Fr h₀ L h' m → News h₀ L h' news → Q (.str ⟨#[c]⟩ t) { s with heap := h', toks := tk' }) :
    wpAny (model lawProg w) (ktrTop dp un gd cn cs L a ccd cl outer) (call (.ref 78) [.str ⟨#[c]⟩ t]) Q E s := by
  refine use_cb (c_b3 w mean mg mb news c t) k1 k2 k3 k4 k5 kK ok.2.2 kd ku fun t' h' tk' F N => ?_
  show Q (.str (mapC c) t') _
  rw [ok.2.1]
  exact kR t' h' tk' F N
end
theorem ne_same {prog : Program} {w : World} {A : Around} {E : Value → Shared → Prop} {s : Shared} {Q : Value → Shared → Prop} {x : Str} {t u : Tok} (h : Q (.bool false) s) : wpAny (model prog w) A (compareOp .NotEq (.str x t) (.str x u)) Q E s := by
  refine PyProof.Rows.ne_str ?_
  rw [bne_self_eq_false]
  exact h
theorem map3 {m₁ : Str → Option Value} {x y1 y2 : Str} {v v1 v2 : Value} (h1 : m₁ y1 = some v1) (h2 : m₁ y2 = some v2) :
    (fun y => if y = x then some v else m₁ y) = fun y => if y = x then some v else if y = y1 then some v1 else if y = y2 then some v2 else m₁ y := by
  funext y
  by_cases a : y = x
  · rw [if_pos a, if_pos a]
  · rw [if_neg a, if_neg a]
    by_cases b : y = y1
    · rw [if_pos b, b, h1]
    · rw [if_neg b]
      by_cases c : y = y2
      · rw [if_pos c, c, h2]
      · rw [if_neg c]
theorem map1 {m₁ : Str → Option Value} {y1 : Str} {v1 : Value} (h1 : m₁ y1 = some v1) : m₁ = fun y => if y = y1 then some v1 else m₁ y := by
  funext y
  by_cases b : y = y1
  · rw [if_pos b, b, h1]
  · rw [if_neg b]
/-- what holds between the loop's turns -/
def TurnJ (D : Addr) (news : List (Addr × Obj)) (i : Nat) (m : Str → Option Value) (nx : List (Addr × Obj)) : Prop :=
  nx = news ∧ m (Str.ofString "words") = some (.ref D) ∧ ∃ told t, m (Str.ofString "told") = some (.str told t) ∧ GoodT told ∧ told.length ≤ 4 * i
theorem GoodT.nil : GoodT (Str.ofString "") := by
  intro c hc
  have e : (Str.ofString "").cps.toList = [] := by decide +kernel
  rw [e] at hc
  exact nomatch hc
theorem GoodT.append {x y : Str} (hx : GoodT x) (hy : GoodT y) : GoodT (x ++ y) := by
  intro c hc
  rw [Str.cps_append, Array.toList_append, List.mem_append] at hc
  exact hc.elim (hx c) (hy c)
theorem len_append (x y : Str) : (x ++ y).length = x.length + y.length := by
  show (x ++ y).cps.size = x.cps.size + y.cps.size
  rw [Str.cps_append, Array.size_append]
theorem ok_open {spot : Int} {word : Str} {b : Int} (ok : SignOk spot word (b == 4)) (hne : b ≠ 4) : GoodT (toldW spot word) ∧ (toldW spot word).length ≤ 4 := by
  have e : (b == 4) = false := by rw [beq_eq_false_iff_ne]; exact hne
  exact ⟨ok.good e, ok.short e⟩
theorem room_told {spot : Int} {word told : Str} {b : Int} (ok : SignOk spot word (b == 4)) (hne : b ≠ 4) (h : told.length ≤ 180) : told.length + (toldW spot word).length ≤ sizeLine := by
  have := (ok_open ok hne).2
  have : sizeLine = 16777216 := rfl
  omega
theorem turn_a {told : Str} {i : Nat} (hg : GoodT told) (hl : told.length ≤ 4 * i) : GoodT told ∧ told.length ≤ 4 * (i + 1) := ⟨hg, by omega⟩
theorem turn_b {spot : Int} {word told : Str} {b : Int} {i : Nat} (ok : SignOk spot word (b == 4)) (hne : b ≠ 4) (hg : GoodT told) (hl : told.length ≤ 4 * i) : GoodT (told ++ toldW spot word) ∧ (told ++ toldW spot word).length ≤ 4 * (i + 1) := by
  obtain ⟨g, l⟩ := ok_open ok hne
  exact ⟨hg.append g, by rw [len_append]; omega⟩
theorem eq_same {prog : Program} {w : World} {A : Around} {E : Value → Shared → Prop} {s : Shared} {Q : Value → Shared → Prop} {x : Str} {t u : Tok} (h : Q (.bool true) s) : wpAny (model prog w) A (compareOp .Eq (.str x t) (.str x u)) Q E s := by
  refine PyProof.Rows.eq_str ?_
  rw [beq_self_eq_true]
  exact h
theorem join_room1 (x : Str) (kl : x.length ≤ 180) : ((x.cps.toList.map fun c => (⟨#[c]⟩ : Str)).map (·.length)).sum + (x.cps.toList.map fun c => (⟨#[c]⟩ : Str)).length * (Str.ofString "").length ≤ 16777216 := by
  have e : ∀ l : List Nat, ((l.map fun c => (⟨#[c]⟩ : Str)).map (·.length)).sum = l.length := by
    intro l
    induction l with
    | nil => rfl
    | cons c l ih => rw [List.map_cons, List.map_cons, List.sum_cons, ih, List.length_cons]; show 1 + _ = _; omega
  rw [e]
  have : x.cps.toList.length ≤ 180 := by rw [Array.length_toList]; exact kl
  have e2 : (Str.ofString "").length = 0 := by decide +kernel
  rw [e2]; omega
theorem join_ones (x : Str) : Txt.join (Str.ofString "") (x.cps.toList.map fun c => (⟨#[c]⟩ : Str)) = x := by
  rw [join_empty, List.flatMap_map]
  refine Str.ext' ?_
  have e : ∀ l : List Nat, (l.flatMap fun c => (⟨#[c]⟩ : Str).cps.toList) = l := by
    intro l
    induction l with
    | nil => rfl
    | cons c l ih => rw [List.flatMap_cons, ih]; rfl
  rw [e]
end Mine
end
section
open PySem PySem.W PyProof.Rows PyProof.V PySem.Spec PySem.Calls
set_option Elab.async false
set_option maxRecDepth 100000
namespace Mine
end Mine
open Mine
local macro_rules | `(tactic| walk_at "call ref") => `(tactic| (k_here; (with_reducible show wpAny _ _ (call (Value.ref 85) _) _ _ _); k_dflt (refine' use_words ?k1 ?k2 ?k3 ?k4 ?k5 ?kK ?kd ?ku  ?_; (case k1 => k_asm); (case k2 => k_asm); (case k3 => k_asm); (case k4 => k_asm); (case k5 => k_asm); (case kK => first | exact rfl | assumption); (case kd => ktr_room); (case ku => ktr_units)); intro D D1 D2 D3 v1 v2 v3 h9 tk9 wok F9 N9; (try dsimp only)))
local macro_rules | `(tactic| walk_at "call ref") => `(tactic| (k_here; (with_reducible show wpAny _ _ (call (Value.ref 106) _) _ _ _); k_dflt (refine' use_sign ?k1 ?k2 ?k3 ?k4 ?k5 ?kK ?kd ?ku ?kw ?kb ?m0 ?m3 ?m2 ?m1 ?_; (case k1 => k_asm); (case k2 => k_asm); (case k3 => k_asm); (case k4 => k_asm); (case k5 => k_asm); (case kK => first | exact rfl | assumption); (case kd => ktr_room); (case ku => ktr_units); (case kw => assumption); (case kb => exact fm_in _ (by decide)); (case m0 => k_mem); (case m3 => k_mem); (case m2 => k_mem); (case m1 => k_mem)); intro spot word T t1 t2 c9 h9 tk9 sok F9 N9; have slo := SignOk.lo sok; have shi := SignOk.hi sok; (try dsimp only)))
local macro_rules | `(tactic| walk_at "call ref") => `(tactic| (k_here; (with_reducible show wpAny _ _ (call (Value.ref 118) _) _ _ _); k_dflt (refine' use_told ?k1 ?k2 ?k3 ?k4 ?k5 ?kK ?kd ?ku ?kw ?_; (case k1 => k_asm); (case k2 => k_asm); (case k3 => k_asm); (case k4 => k_asm); (case k5 => k_asm); (case kK => first | exact rfl | assumption); (case kd => ktr_room); (case ku => ktr_units); (case kw => assumption)); intro t9 h9 tk9 F9 N9; (try dsimp only)))
local macro_rules | `(tactic| walk_at "call ref") => `(tactic| (k_here; (with_reducible show wpAny _ _ (call (Value.ref 32) [Value.str (Str.mk #[_]) _]) _ _ _); k_dflt (refine' use_b1s ?k1 ?k2 ?k3 ?k4 ?k5 ?kK ?kd ?ku ?kw ?_; (case k1 => k_asm); (case k2 => k_asm); (case k3 => k_asm); (case k4 => k_asm); (case k5 => k_asm); (case kK => first | exact rfl | assumption); (case kd => ktr_room); (case ku => ktr_units); (case kw => assumption)); intro h9 tk9 F9 N9; (try dsimp only)))
local macro_rules | `(tactic| walk_at "call ref") => `(tactic| (k_here; (with_reducible show wpAny _ _ (call (Value.ref 78) [Value.str (Str.mk #[_]) _]) _ _ _); k_dflt (refine' use_b3s ?k1 ?k2 ?k3 ?k4 ?k5 ?kK ?kd ?ku ?kw ?_; (case k1 => k_asm); (case k2 => k_asm); (case k3 => k_asm); (case k4 => k_asm); (case k5 => k_asm); (case kK => first | exact rfl | assumption); (case kd => ktr_room); (case ku => ktr_units); (case kw => assumption)); intro t9 h9 tk9 F9 N9; (try dsimp only)))
local macro_rules | `(tactic| walk_at "compareOp IsNot bool bool") => `(tactic| (k_here; refine wpAny_isNot_self rfl ?_))
local macro_rules | `(tactic| walk_at "compareOp NotEq str str") => `(tactic| (k_here; refine ne_same ?_))
local macro_rules | `(tactic| walk_at "inplaceOp Add str str") => `(tactic| (k_here; refine PyProof.Rows.iadd_str (hsz := room_told (by assumption) (by assumption) (by assumption)) ?_; intro _ _))
local macro_rules | `(tactic| walk_at "call ref") => `(tactic| (k_here; (with_reducible show wpAny _ _ (call (Value.ref 32) [Value.str (Str.mk #[_]) _]) _ _ _); k_dflt (refine' use_b1c ?k1 ?k2 ?k3 ?k4 ?k5 ?kK ?kd ?ku ?kw ?_; (case k1 => k_asm); (case k2 => k_asm); (case k3 => k_asm); (case k4 => k_asm); (case k5 => k_asm); (case kK => first | exact rfl | assumption); (case kd => ktr_room); (case ku => ktr_units); (case kw => assumption)); intro h9 tk9 F9 N9; (try dsimp only)))
local macro_rules | `(tactic| walk_at "call ref") => `(tactic| (k_here; (with_reducible show wpAny _ _ (call (Value.ref 78) [Value.str (Str.mk #[_]) _]) _ _ _); k_dflt (refine' use_b3c ?k1 ?k2 ?k3 ?k4 ?k5 ?kK ?kd ?ku ?kw ?_; (case k1 => k_asm); (case k2 => k_asm); (case k3 => k_asm); (case k4 => k_asm); (case k5 => k_asm); (case kK => first | exact rfl | assumption); (case kd => ktr_room); (case ku => ktr_units); (case kw => assumption)); intro t9 h9 tk9 F9 N9; (try dsimp only)))
local macro_rules | `(tactic| walk_at "eval ListComp") => `(tactic| (k_here; k_dflt (refine comp_textT (_F₀ := by k_asm) (by with_unfolding_all rfl) (by decide) (by rfl) (by decide) (by rfl) ?_)))
local macro_rules | `(tactic| walk_at "compareOp Eq str str") => `(tactic| (k_here; refine eq_same ?_))
set_option maxHeartbeats 8000000 in
theorem PySem.Challenge.cw_mq0481_01_holds : PySem.Challenge.rw_mq0481_01.Holds := by
  have hd := Mine.headV
  simp only [Mine.dkV] at hd
  refine hd ?_
  clear hd
  k_go0
  iterate 12 walk1
  with_reducible rename Fr _ _ _ _ => hF
  with_reducible rename News _ _ _ _ => hN
  unfold wLed at hN
  with_reducible rename Shared.gens _ = #[] => hG
  with_reducible rename Top _ _ _ _ _ _ => hT
  with_reducible rename Frag.In _ _ => hK
  with_reducible rename Below _ _ _ _ => hB
  with_reducible rename IntsAre _ _ => hI
  with_reducible rename Heap.IsList _ _ _ => hL
  with_reducible rename WordsOk _ _ _ => hW
  rename ¬ ((63 : Nat) : Int) < _ => hlen
  have hln := Int.ofNat_le.mp (Int.not_lt.mp hlen)
  rename_i x1 x2 x3 x4 x5 x6 x7 x8 x9 x10 x11 x12 x13 x14 x15 x16 x17 x18 x19 x20 x21 x22 x23 x24 x25 x26 x27 x28 x29 x30 x31 x32 x33 x34 x35 x36 x37 x38 x39 x40 x41 x42 x43 x44 x45 x46 x47 x48 x49 x50 x51 x52 x53 x54 x55 x56
  (try clear x56); (try clear x55); (try clear x54); (try clear x53); (try clear x52); (try clear x51); (try clear x50); (try clear x49); (try clear x48)
  (try clear x47); (try clear x46); (try clear x45); (try clear x44); (try clear x43); (try clear x42); (try clear x41); (try clear x40); (try clear x39); (try clear x38)
  (try clear x37); (try clear x36); (try clear x35); (try clear x34); (try clear x33); (try clear x32); (try clear x31); (try clear x30); (try clear x29); (try clear x28)
  (try clear x27); (try clear x26); (try clear x25); (try clear x24); (try clear x23); (try clear x22); (try clear x21); (try clear x20); (try clear x19); (try clear x18)
  (try clear x17); (try clear x16); (try clear x15); (try clear x14); (try clear x13); (try clear x12); (try clear x11); (try clear x10); (try clear x9); (try clear x8)
  (try clear x7); (try clear x6); (try clear x5); (try clear x4); (try clear x3); (try clear x2); (try clear x1)
  walk1
  refine' For_invVF hF ?k1 ?k2 ?_
  (case k1 => exact rfl)
  (case k2 => exact rfl)
  iterate 21 walk1
  walk1
  dsimp only
  walk1
  dsimp only
  rename_i a1 a2 a3 a4 a5 a6 a7 a8 a9 a10 a11 a12 a13 a14 a15 a16 a17
  have hlen3 : ([0, 51, 57, 18, 4] ++ List.take 40 x26 : List Int).length ≤ 45 := by
    rw [List.length_append, List.length_take]
    show 5 + min 40 x26.length ≤ 45
    omega
  refine iter_invNL (TurnJ x46 _) rfl (.head _) a16 a14 a15 ⟨rfl, by with_unfolding_all rfl, _, _, by with_unfolding_all rfl, GoodT.nil, by decide +kernel⟩ ?turn ?done
  case turn =>
    intro i n t m₁ news₁ h tk2 own hn hadr hoff hmem hJ F₁ N₁
    obtain ⟨rfl, hw, told, tt, ht, hg, hl⟩ := hJ
    rw [map3 ht hw] at F₁
    simp only [List.cons_append, List.nil_append] at N₁
    have hi : i < ([0, 51, 57, 18, 4] ++ List.take 40 x26 : List Int).length := by
      rcases Nat.lt_or_ge i ([0, 51, 57, 18, 4] ++ List.take 40 x26 : List Int).length with q | q
      · exact q
      · rw [List.getElem?_eq_none q] at hn; cases hn
    have htl : told.length ≤ 180 := by omega
    clear hn hadr hmem a14 a15 a16 a17 a10 a7 a8 a9 a3 hln hlen hI hL
    k_steps
    all_goals (refine InvEndN.intro (by assumption) (by assumption) ⟨List.Mem.head _, rfl, by with_unfolding_all rfl, _, _, by with_unfolding_all rfl, ?_⟩ rfl (by intro p hp; exact List.Mem.tail _ (List.mem_append_left own hp)) (by intro p hp; repeat (first | exact hp | refine List.Mem.tail _ ?_)))
    all_goals first | exact turn_a hg hl | exact turn_b (by assumption) (by assumption) hg hl
  intro m₁ news₁ h tk2 hmem hJ F₁ N₁
  obtain ⟨rfl, hw, told, tt, ht, hg, hl⟩ := hJ
  rw [map1 ht] at F₁
  have htl : told.length ≤ 180 := by omega
  clear hw hmem a14 a15 a16 a17 a10 a7 a8 a9 a3 hln hlen hI hL hl ht
  k_steps
  unfold TextSrc
  refine ⟨told, tt, _, rfl, rfl, by k_asm, by k_asm, ?sz, fun g => rest_textT told (fun c => ⟨#[c]⟩) ?tn ?fin⟩
  case sz => (have : sizeLine = 16777216 := rfl; have : told.cps.size ≤ 180 := htl; omega)
  case fin =>
    intro ys hys
    unfold LCg.FinE
    intro D' h' tk' F' N' o1'
    dsimp only
    k_steps
    refine join_list (ys := told.cps.toList.map fun c => ⟨#[c]⟩) (items := ys.toArray) ⟨_, (N' _ (.head _)).1, rfl, _, rfl⟩ (by simpa using hys) ?hok fun t' k => ?_
    case hok => exact Mine.join_room1 told htl
    rw [Mine.join_ones]
    k_steps
  intro c u' I oI C oC D m₂ ys h tk E' hc hC hx F N off ne
  have hcl : GoodC c := hg c hc
  k_steps
  exact LCg.CompEnd.intro (by k_asm) (by k_asm) _ (fun p hp => hp) off trivial ⟨rfl, _, rfl⟩
end
