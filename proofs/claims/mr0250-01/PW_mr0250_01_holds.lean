import PyProof.Rows.All
import Wide.All
import OpenK.AllK
import Wide.FinOn
import PySem.Challenge.RW_mr0250_01
set_option Elab.async false
section SHA
open PySem PySem.W PyProof.Rows
namespace Mine
def Run1 (p : Program) (w : World) (n₀ : Nat) (ann : Option Value) (c : Code) (B : List Frame) {α : Type} (n : Nat) (x : Sem α) (s : Shared) (q : Pos) (a : α) (s' : Shared) (q' : Pos) : Prop :=
  ∀ (K : α → Sem Fin) (H : Value → Sem Fin) (gd : Bool → Bool) (lv : List Value → List Value) (N : Nat) (r : Shared),
    topRun treeTable p w n₀ ann N s' ⟨K a, c, q', B⟩ = some r → topRun treeTable p w n₀ ann (n + N) s ⟨x.wrap K H gd lv, c, q, B⟩ = some r
section
variable {p : Program} {w : World} {n₀ : Nat} {ann : Option Value} {b : List Stmt} {env : Env} {B : List Frame} {α β : Type} {s s' s'' : Shared} {q q' q'' : Pos}
theorem r1_pure {c : Code} (a : α) : Run1 p w n₀ ann c B 0 (Pure.pure a : Sem α) s q a s q := fun K H gd lv N r h => by
  rw [Nat.zero_add]; exact h
theorem r1_bind {c : Code} {n m : Nat} {x : Sem α} {f : α → Sem β} {a : α} {b : β} (h1 : Run1 p w n₀ ann c B n x s q a s' q') (h2 : Run1 p w n₀ ann c B m (f a) s' q' b s'' q'') :
    Run1 p w n₀ ann c B (n + m) (x >>= f) s q b s'' q'' := fun K H gd lv N r h => by
  rw [Sem.bind_eq_wrap', Sem.wrap_wrap, Nat.add_assoc]
  exact h1 _ _ _ _ _ _ (h2 K H gd lv N r h)
theorem r1_keep {c : Code} {n : Nat} {x : Sem α} {a : α} (vs : List Value) (h1 : Run1 p w n₀ ann c B n x s q a s' q') : Run1 p w n₀ ann c B n (x.keep vs) s q a s' q' := fun K H gd lv N r h => by
  rw [Sem.keep_eq_wrap, Sem.wrap_wrap]
  exact h1 _ _ _ _ _ _ h
theorem r1_holding {c : Code} {n : Nat} {x : Sem α} {a : α} {vs : List Value} (h1 : Run1 p w n₀ ann c B n x s q a s' q') : Run1 p w n₀ ann c B n (PySem.holding vs x) s q a s' q' := by
  unfold PySem.holding
  split
  · exact h1
  · exact r1_keep _ h1
theorem r1_onRaise {c : Code} {n : Nat} {x : Sem α} {a : α} {g : Value → Sem Unit} (h1 : Run1 p w n₀ ann c B n x s q a s' q') : Run1 p w n₀ ann c B n (x.onRaise g) s q a s' q' := fun K H gd lv N r h => by
  rw [Sem.onRaise_eq_wrap, Sem.wrap_wrap]
  exact h1 _ _ _ _ _ _ h
theorem r1_cast {c : Code} {n n' : Nat} {x : Sem α} {a : α} (h1 : Run1 p w n₀ ann c B n x s q a s' q') (e : n = n') : Run1 p w n₀ ann c B n' x s q a s' q' := e ▸ h1
theorem topRun_step {c : Code} {N : Nat} {r s₂ : Shared} {cur : Sem Fin} {t : Thread} (h0 : through ⟨cur, c, q, B⟩ = false) (h1 : stepOk n₀ ann ⟨cur, c, q, B⟩ = true)
    (h2 : step (denote treeTable) p w s ⟨cur, c, q, B⟩ = .go s₂ t) (h : topRun treeTable p w n₀ ann N s₂ t = some r) : topRun treeTable p w n₀ ann (1 + N) s ⟨cur, c, q, B⟩ = some r := by
  rw [Nat.add_comm]
  unfold topRun
  rw [h0, h1, h2]
  exact h
theorem r1_fresh : Run1 p w n₀ ann (.body b env) B 1 PySem.fresh s q s.toks { s with toks := s.toks + 1 } q := fun K H gd lv N r h => topRun_step (by cases B <;> rfl) rfl rfl h
theorem r1_rule {t : String} : Run1 p w n₀ ann (.body b env) B 1 (PySem.rule t) s q () s q := fun K H gd lv N r h => topRun_step (by cases B <;> rfl) rfl rfl h
theorem r1_standAt {q' : Pos} : Run1 p w n₀ ann (.body b env) B 1 (PySem.standAt q') s q () s q' := fun K H gd lv N r h => topRun_step (by cases B <;> rfl) rfl rfl h
theorem r1_ask : Run1 p w n₀ ann (.body b env) B 1 PySem.ask s q ⟨p, w.params⟩ s q := fun K H gd lv N r h => topRun_step (by cases B <;> rfl) rfl rfl h
theorem r1_point : Run1 p w n₀ ann (.body b env) B 1 PySem.point s q () s q := fun K H gd lv N r h => topRun_step (by cases B <;> rfl) rfl rfl h
theorem r1_loadPart {a : Addr} {pt : Option Value} {o : Obj} (ho : s.heap.get? a = some o) : Run1 p w n₀ ann (.body b env) B 1 (PySem.loadPart a pt) s q o s q := fun K H gd lv N r h => by
  refine topRun_step (s₂ := s) (by cases B <;> rfl) rfl ?_ h
  obtain ⟨heap, gens, drawn, toks, os⟩ := s
  have ho' : heap.get? a = some o := ho
  show (match heap.get? a with | some o => _ | none => _) = _
  rw [ho']; rfl
theorem r1_load {a : Addr} {o : Obj} (ho : s.heap.get? a = some o) : Run1 p w n₀ ann (.body b env) B 1 (PySem.load a) s q o s q := r1_loadPart ho
theorem r1_updatePart {a : Addr} {pt : Option Value} {o : Obj} {f : Obj → Obj} (ho : s.heap.get? a = some o) (hn : n₀ ≤ a) : Run1 p w n₀ ann (.body b env) B 1 (PySem.updatePart a pt f) s q () { s with heap := s.heap.update a f } q := fun K H gd lv N r h => by
  refine topRun_step (s₂ := { s with heap := s.heap.update a f }) (by cases B <;> rfl) ?_ ?_ h
  · show (Nat.ble n₀ a || _ || _ || _) = true
    rw [Nat.ble_eq_true_of_le hn]; rfl
  · obtain ⟨heap, gens, drawn, toks, os⟩ := s
    have ho' : heap.get? a = some o := ho
    show (if (heap.get? a).isSome = true then _ else _) = _
    rw [ho']; rfl
theorem r1_alloc {o : Obj} : Run1 p w n₀ ann (.body b env) B 1 (PySem.alloc o) s q s.heap.objs.size { s with heap := s.heap.push o } q := fun K H gd lv N r h => topRun_step (by cases B <;> rfl) rfl rfl h
end
end Mine
end SHA
section SHB
open PySem PySem.W PyProof.Rows
set_option maxRecDepth 10000
namespace Mine
section
variable {p : Program} {w : World} {n₀ : Nat} {ann : Option Value} {b : List Stmt} {env : Env} {B : List Frame} {α β : Type} {s s' s'' : Shared} {q q' q'' : Pos}
theorem check_hash (k : Int) (t : Tok) : checkBuiltinCall "int.__hash__" ⟨[.int k t], []⟩ = pure () := by kernel_rfl
theorem r1_of_eq {c : Code} {n : Nat} {x y : Sem α} {a : α} (e : x = y) (h1 : Run1 p w n₀ ann c B n y s q a s' q') : Run1 p w n₀ ann c B n x s q a s' q' := e ▸ h1
theorem den_call_hash (k : Int) (t : Tok) : denote treeTable (.call (.builtin "int.__hash__") ⟨[.int k t], []⟩) = .pure (.again (.builtin "int.__hash__" ⟨[.int k t], []⟩)) := by
  show callAny (.builtin "int.__hash__") ⟨[.int k t], []⟩ = _
  unfold callAny
  dsimp only
  rw [check_hash]; rfl
theorem den_hash (k : Int) (t : Tok) : denote treeTable (.builtin "int.__hash__" ⟨[.int k t], []⟩) = (do ret (← mkInt (rawHash k))) := by
  rw [← table_eq_tree]
  unfold denote
  dsimp only
  rw [entry_int_hash]
  rfl
theorem r1_callHash {k : Int} {t : Tok} : Run1 p w n₀ ann (.body b env) B 4 (PySem.call (.builtin "int.__hash__") [.int k t]) s q (.int (rawHash k) s.toks) { s with toks := s.toks + 1 } q := fun K H gd lv N r h => by
  have e1 : (4 + N) = 1 + (1 + (1 + (1 + N))) := by omega
  rw [e1]
  refine topRun_step (by cases B <;> rfl) (by kernel_rfl) rfl ?_
  rw [den_call_hash]
  refine topRun_step rfl (by kernel_rfl) rfl ?_
  rw [den_hash]
  refine topRun_step rfl (by kernel_rfl) rfl ?_
  refine topRun_step rfl (by kernel_rfl) rfl ?_
  exact h
theorem r1_pyHash_int {k : Int} {t : Tok} (h0 : 0 ≤ k) (h1 : k < 2 ^ 32) : Run1 p w n₀ ann (.body b env) B 5 (pyHash (.int k t)) s q k { s with toks := s.toks + 1 } q := by
  have hr : rawHash k = k := by
    unfold rawHash
    have e1 : ((k.natAbs % (2 ^ 61 - 1 : Nat) : Nat) : Int) = k := by omega
    have e2 : ¬ k < 0 := by omega
    show (if (if k < 0 then -((k.natAbs % (2 ^ 61 - 1 : Nat) : Nat) : Int) else ((k.natAbs % (2 ^ 61 - 1 : Nat) : Nat) : Int)) == -1 then (-2 : Int) else (if k < 0 then -((k.natAbs % (2 ^ 61 - 1 : Nat) : Nat) : Int) else ((k.natAbs % (2 ^ 61 - 1 : Nat) : Nat) : Int))) = k
    rw [if_neg e2, e1, if_neg]
    intro h
    have := eq_of_beq h
    omega
  have hl : specialOf (.int k t) "__hash__" = pure (some (.builtin "int.__hash__")) := by
    show (typeLookup (.type "int") "__hash__") = _
    exact slot_int_hash.lookup
  refine r1_of_eq (y := do
    match ← callSpecialIfBoundUnlessNone? (.int k t) "__hash__" (do rule "hash.unhashable"; raiseError "TypeError" s!"unhashable type: '{← typeNameOf (.int k t)}'") with
    | some (.int i _) => pyHashByItsType.reduced i
    | some (.bool b) => pure (if b then 1 else 0)
    | some (.ref a) =>
      match (← load a).data with
      | .prim (.int i _) =>
        rule "hash.int-subclass"
        let h ← pyHashByItsType.reduced i
        point
        pure h
      | _ => raiseError "TypeError" "__hash__ method should return an integer"
    | some r => do notAStandIn r; raiseError "TypeError" "__hash__ method should return an integer"
    | none => raiseError "TypeError" s!"unhashable type: '{← typeNameOf (.int k t)}'") ?_ ?_
  · show pyHashByItsType (.int k t) = _
    unfold pyHashByItsType
    rw [hl]
    rfl
  refine' r1_cast (n := 5 + 0) (r1_bind (a := some (.int k s.toks)) (s' := { s with toks := s.toks + 1 }) (q' := q) ?_ ?_) rfl
  · unfold callSpecialIfBoundUnlessNone?
    refine r1_holding ?_
    refine' r1_cast (n := 1 + (4 + 0)) (r1_bind (a := some (.builtin "int.__hash__", [.int k t])) (s' := s) (q' := q) ?_ ?_) rfl
    · unfold bindSpecialIfBound?
      rw [hl]
      refine' r1_cast (n := 0 + (1 + 0)) (r1_bind (r1_pure _) ?_) rfl
      refine' r1_bind r1_ask ?_
      have e : (do return some (← bindSpecial (.builtin "int.__hash__") (.int k t)) : Sem (Option (Value × List Value))) = pure (some (.builtin "int.__hash__", [.int k t])) := by
        rw [slot_int_hash.bind]; rfl
      dsimp only
      rw [e]
      split
      · exact r1_pure _
      · exact r1_pure _
    · show Run1 p w n₀ ann _ B (4 + 0) (PySem.call (.builtin "int.__hash__") [.int k t] >>= fun v => pure (some v)) _ _ _ _ _
      refine' r1_bind r1_callHash ?_
      rw [hr]
      exact r1_pure _
  · show Run1 p w n₀ ann _ B 0 (pyHashByItsType.reduced k) _ _ _ _ _
    unfold pyHashByItsType.reduced
    rw [if_pos (by simp only [Bool.and_eq_true, decide_eq_true_eq]; omega), if_neg (by intro h; have := eq_of_beq h; omega)]
    exact r1_pure _
end
end Mine
end SHB
section SHC
open PySem PySem.W PyProof.Rows
set_option maxRecDepth 10000
namespace Mine
def dobj (es : List DictEntry) (ep : Nat) : Obj := ⟨.type "dict", none, .dict es.toArray ep, #[]⟩
def hput (h : Heap) (d : Addr) (o : Obj) : Heap := ⟨h.objs.setIfInBounds d o, h.life⟩
theorem get_lt {h : Heap} {d : Addr} {o : Obj} (ho : h.get? d = some o) : d < h.objs.size := Heap.lt_size ho
theorem objs_of_get {h : Heap} {d : Addr} {o : Obj} (ho : h.get? d = some o) : h.objs[d]? = some o := by
  unfold Heap.get? at ho
  split at ho
  · cases ho
  · exact ho
theorem update_put {h : Heap} {d : Addr} {o : Obj} {f : Obj → Obj} (ho : h.get? d = some o) : h.update d f = hput h d (f o) := by
  have hl := get_lt ho
  have he := objs_of_get ho
  obtain ⟨objs, life⟩ := h
  have he : objs[d]? = some o := he
  have hl : d < objs.size := hl
  show Heap.mk (objs.modify d f) life = Heap.mk (objs.setIfInBounds d (f o)) life
  congr 1
  apply Array.ext_getElem?
  intro i
  rw [Array.getElem?_modify, Array.getElem?_setIfInBounds]
  by_cases e : d = i
  · subst e; rw [he]; simp [hl]
  · simp [e]
theorem update_id {h : Heap} {d : Addr} : h.update d id = h := by
  obtain ⟨objs, life⟩ := h
  show Heap.mk (objs.modify d id) life = Heap.mk objs life
  congr 1
  apply Array.ext_getElem?
  intro i
  rw [Array.getElem?_modify]
  split <;> simp
theorem get_put_self {h : Heap} {d : Addr} {es : List DictEntry} {ep : Nat} (hl : d < h.objs.size) : (hput h d (dobj es ep)).get? d = some (dobj es ep) := by
  unfold Heap.get? hput dobj
  simp [Array.getElem?_setIfInBounds, hl]
theorem get_put_ne {h : Heap} {a d : Addr} {o o' : Obj} (hne : d ≠ a) (ho : h.get? a = some o) : (hput h d o').get? a = some o := by
  have he := objs_of_get ho
  unfold Heap.get? at ho ⊢
  unfold hput
  simp only [Array.getElem?_setIfInBounds, hne, if_false]
  exact ho
theorem put_put {h : Heap} {d : Addr} {o o' : Obj} : hput (hput h d o) d o' = hput h d o' := by
  unfold hput
  simp
theorem size_put {h : Heap} {d : Addr} {o : Obj} : (hput h d o).objs.size = h.objs.size := by
  unfold hput; simp
theorem put_push {h : Heap} {o o' : Obj} : hput (h.push o) h.objs.size o' = h.push o' := by
  obtain ⟨objs, life⟩ := h
  unfold hput Heap.push
  congr 1
  apply Array.ext_getElem?
  intro i
  rw [Array.getElem?_setIfInBounds]
  by_cases e : objs.size = i
  · subst e; simp
  · simp [e, Array.getElem?_push, Ne.symm e]
theorem push_put {h : Heap} {d : Addr} {o o' : Obj} (hl : d < h.objs.size) : hput (h.push o) d o' = (hput h d o').push o := by
  obtain ⟨objs, life⟩ := h
  have hl : d < objs.size := hl
  unfold hput Heap.push
  congr 1
  apply Array.ext_getElem?
  intro i
  simp only [Array.getElem?_setIfInBounds, Array.getElem?_push, Array.size_setIfInBounds, Array.size_push]
  by_cases e : d = i
  · subst e
    have : d ≠ objs.size := Nat.ne_of_lt hl
    simp [hl, this, Nat.lt_succ_of_lt hl]
  · simp [e]
theorem get_push {h : Heap} {a : Addr} {o o' : Obj} (ho : h.get? a = some o) : (h.push o').get? a = some o := Heap.get?_push_of_some _ ho
theorem get_push_self {h : Heap} {es : List DictEntry} {ep : Nat} : (h.push (dobj es ep)).get? h.objs.size = some (dobj es ep) := Heap.get?_push_size _ rfl
theorem places_nil {es : List DictEntry} {k : Int} (hk : ∀ e ∈ es, e.hash ≠ k) : placesWithHash es.toArray.size (fun i => es.toArray[i]?.map (·.hash)) k = [] := by
  unfold placesWithHash
  rw [List.filter_eq_nil_iff]
  intro i hi h
  have hi' : i < es.length := by simpa using hi
  have he : es.toArray[i]? = some es[i] := by simp [hi']
  dsimp only at h
  rw [he] at h
  exact hk _ (List.getElem_mem hi') (by simpa using h)
section
variable {p : Program} {w : World} {n₀ : Nat} {ann : Option Value} {b : List Stmt} {env : Env} {B : List Frame} {α β : Type} {s s' s'' : Shared} {q q' q'' : Pos}
theorem r1_dictEntries {d : Addr} {pt : Option Value} {es : List DictEntry} {ep : Nat} (ho : s.heap.get? d = some (dobj es ep)) : Run1 p w n₀ ann (.body b env) B 1 (dictEntries d pt) s q es.toArray s q := by
  unfold dictEntries
  exact r1_cast (n := 1 + 0) (r1_bind (r1_loadPart ho) (r1_pure _)) rfl
theorem r1_dictEpoch {d : Addr} {pt : Option Value} {es : List DictEntry} {ep : Nat} (ho : s.heap.get? d = some (dobj es ep)) : Run1 p w n₀ ann (.body b env) B 1 (dictEpoch d pt) s q ep s q := by
  unfold dictEpoch
  exact r1_cast (n := 1 + 0) (r1_bind (r1_loadPart ho) (r1_pure _)) rfl
theorem r1_dictFind {d : Addr} {k : Int} {t : Tok} {es : List DictEntry} {ep : Nat} (ho : s.heap.get? d = some (dobj es ep)) (hk : ∀ e ∈ es, e.hash ≠ k) :
    Run1 p w n₀ ann (.body b env) B 1 (dictFind d (.int k t) k) s q none s q := by
  unfold dictFind
  refine r1_holding ?_
  refine r1_cast (n := 1 + 0) (r1_bind (r1_dictEntries ho) ?_) rfl
  dsimp only
  rw [places_nil hk]
  exact r1_pure _
theorem r1_addKey {d : Addr} {pt : Option Value} {e : DictEntry} {es : List DictEntry} {ep : Nat} (ho : s.heap.get? d = some (dobj es ep)) (hn : n₀ ≤ d) (hz : es.length ≤ 100000) :
    Run1 p w n₀ ann (.body b env) B 3 (updateDictKeys d (·.push e) pt) s q () { s with heap := hput s.heap d (dobj (es ++ [e]) (ep + 1)) } q := by
  unfold updateDictKeys
  have e1 : s.heap.update d (Obj.mapDictKeys (·.push e)) = hput s.heap d (dobj (es ++ [e]) (ep + 1)) := by
    rw [update_put ho]
    unfold dobj Obj.mapDictKeys
    simp
  refine r1_cast (n := 1 + (1 + (1 + 0))) (r1_bind (r1_loadPart ho) ?_) rfl
  dsimp only [dobj]
  refine r1_bind (r1_updatePart ho hn) ?_
  rw [e1]
  unfold lookBehind
  refine r1_bind (r1_loadPart (get_put_self (get_lt ho))) ?_
  have e2 : (dobj (es ++ [e]) (ep + 1)).data.pastItsLine = none := by
    show (if (es ++ [e]).toArray.size > sizeLine + 1 then some "dict:memory" else none) = none
    rw [if_neg]
    have : sizeLine = 2 ^ 24 := rfl
    simp only [List.size_toArray, List.length_append, List.length_cons, List.length_nil]
    omega
  rw [e2]
  exact r1_pure _
theorem r1_dictPut {d : Addr} {k : Int} {t : Tok} {v : Value} {es : List DictEntry} {ep : Nat} (ho : s.heap.get? d = some (dobj es ep)) (hn : n₀ ≤ d) (hk : ∀ e ∈ es, e.hash ≠ k) (hz : es.length ≤ 100000) :
    Run1 p w n₀ ann (.body b env) B 4 (dictPut d k (.int k t) v) s q () { s with heap := hput s.heap d (dobj (es ++ [⟨k, .int k t, v⟩]) (ep + 1)) } q := by
  unfold dictPut
  refine r1_cast (n := 1 + 3) (r1_bind (r1_dictFind ho hk) ?_) rfl
  exact r1_addKey ho hn hz
theorem r1_dictSet {d : Addr} {k : Int} {t : Tok} {v : Value} {es : List DictEntry} {ep : Nat} (ho : s.heap.get? d = some (dobj es ep)) (hn : n₀ ≤ d) (hk : ∀ e ∈ es, e.hash ≠ k) (hz : es.length ≤ 100000) (h0 : 0 ≤ k) (h1 : k < 2 ^ 32) :
    Run1 p w n₀ ann (.body b env) B 10 (dictSet d (.int k t) v) s q () { s with heap := hput s.heap d (dobj (es ++ [⟨k, .int k t, v⟩]) (ep + 1)), toks := s.toks + 1 } q := by
  unfold dictSet
  refine r1_holding ?_
  refine r1_cast (n := 5 + 5) (r1_bind (r1_pyHash_int h0 h1) ?_) rfl
  unfold dictSetHashed
  refine r1_holding ?_
  refine r1_cast (n := 1 + (1 + 3)) (r1_bind (r1_dictFind (s := { s with toks := s.toks + 1 }) ho hk) ?_) rfl
  dsimp only
  refine r1_bind r1_rule ?_
  exact r1_addKey (s := { s with toks := s.toks + 1 }) ho hn hz
def pairOf (env : Env) (pos : Pos) (x : (Int × Nat × Pos) × (Str × Nat × Pos)) : Sem Value × Sem Value := (eval (.Constant (.int x.1.1) x.1.2.1 x.1.2.2) env, do let v ← eval (.Constant (.str x.2.1) x.2.2.1 x.2.2.2) env; standAt pos; pure v)
def ents3 : Nat → List ((Int × Nat × Pos) × (Str × Nat × Pos)) → List DictEntry
  | _, [] => []
  | t, x :: r => ⟨x.1.1, .int x.1.1 t, .str x.2.1 (t + 1)⟩ :: ents3 (t + 3) r
def ents2 : Nat → List ((Int × Nat × Pos) × (Str × Nat × Pos)) → List DictEntry
  | _, [] => []
  | t, x :: r => ⟨x.1.1, .int x.1.1 t, .str x.2.1 (t + 1)⟩ :: ents2 (t + 2) r
abbrev Pr := (Int × Nat × Pos) × (Str × Nat × Pos)
def keyOk (x : Pr) : Prop := 0 ≤ x.1.1 ∧ x.1.1 < 2 ^ 32
theorem ents3_len : ∀ (l : List Pr) (t : Nat), (ents3 t l).length = l.length
  | [], _ => rfl
  | _ :: r, t => by simp [ents3, ents3_len r]
theorem ents2_len : ∀ (l : List Pr) (t : Nat), (ents2 t l).length = l.length
  | [], _ => rfl
  | _ :: r, t => by simp [ents2, ents2_len r]
theorem ents3_hash : ∀ (l : List Pr) (t : Nat), (ents3 t l).map (·.hash) = l.map (·.1.1)
  | [], _ => rfl
  | _ :: r, t => by simp [ents3, ents3_hash r]
theorem ents2_hash : ∀ (l : List Pr) (t : Nat), (ents2 t l).map (·.hash) = l.map (·.1.1)
  | [], _ => rfl
  | _ :: r, t => by simp [ents2, ents2_hash r]
theorem r1_const_int {k : Int} {i : Nat} {po : Pos} : Run1 p w n₀ ann (.body b env) B 1 (eval (.Constant (.int k) i po) env) s q (.int k s.toks) { s with toks := s.toks + 1 } q := by
  show Run1 p w n₀ ann _ B 1 (fresh >>= fun t => pure (Value.int k t)) _ _ _ _ _
  exact r1_cast (n := 1 + 0) (r1_bind r1_fresh (r1_pure _)) rfl
theorem r1_const_str {k : Str} {i : Nat} {po pos : Pos} : Run1 p w n₀ ann (.body b env) B 2 (do let v ← eval (.Constant (.str k) i po) env; standAt pos; pure v) s q (.str k s.toks) { s with toks := s.toks + 1 } pos := by
  show Run1 p w n₀ ann _ B 2 ((fresh >>= fun t => pure (Value.str k t)) >>= fun v => (standAt pos >>= fun _ => pure v)) _ _ _ _ _
  exact r1_cast (n := (1 + 0) + (1 + 0)) (r1_bind (r1_bind r1_fresh (r1_pure _)) (r1_bind r1_standAt (r1_pure _))) rfl
theorem r1_long {pos : Pos} {d : Addr} (hn : n₀ ≤ d) : ∀ (l : List Pr) (es : List DictEntry) (ep : Nat) (s : Shared) (q : Pos), s.heap.get? d = some (dobj es ep) → (∀ x ∈ l, keyOk x) → ((es.map (·.hash)) ++ l.map (·.1.1)).Nodup → es.length + l.length ≤ 100000 →
    Run1 p w n₀ ann (.body b env) B (13 * l.length) (forIn (l.map (pairOf env pos)) PUnit.unit fun x _ => match x with
      | (k, v) => do
        let kv ← k
        let vv ← holding [kv] v
        holding [kv, vv] (dictSet d kv vv)
        pure (ForInStep.yield PUnit.unit)) s q PUnit.unit { s with heap := hput s.heap d (dobj (es ++ ents3 s.toks l) (ep + l.length)), toks := s.toks + 3 * l.length } (if l.isEmpty then q else pos)
  | [], es, ep, s, q, ho, _, _, _ => by
    have e : hput s.heap d (dobj (es ++ ents3 s.toks []) (ep + 0)) = s.heap := by
      have := update_put (f := id) ho
      rw [update_id] at this
      simp only [ents3, List.append_nil, Nat.add_zero, id] at this ⊢
      exact this.symm
    show Run1 p w n₀ ann _ B 0 (pure PUnit.unit) _ _ _ { s with heap := hput s.heap d (dobj (es ++ ents3 s.toks []) (ep + 0)), toks := s.toks + 3 * 0 } q
    rw [e]
    exact r1_pure _
  | x :: r, es, ep, s, q, ho, hkey, hnd, hz => by
    have hx := hkey x (List.mem_cons_self)
    have hnot : ∀ e ∈ es, e.hash ≠ x.1.1 := fun e he h => by
      have := (List.nodup_append.mp hnd).2.2 e.hash (List.mem_map_of_mem he) x.1.1 (by simp)
      exact this h
    rw [List.map_cons, List.forIn_cons]
    have hlen : (x :: r).length = r.length + 1 := rfl
    refine r1_cast (n := (1 + (2 + (10 + 0))) + 13 * r.length) ?_ (by rw [hlen]; omega)
    refine r1_bind (a := ForInStep.yield PUnit.unit) (r1_bind r1_const_int (r1_bind (r1_holding r1_const_str) (r1_bind (r1_holding (r1_dictSet (s := { s with toks := s.toks + 1 + 1 }) ho hn hnot (by simp at hz; omega) hx.1 hx.2)) (r1_pure _)))) ?_
    dsimp only
    have ih := r1_long (pos := pos) hn r (es ++ [⟨x.1.1, .int x.1.1 s.toks, .str x.2.1 (s.toks + 1)⟩]) (ep + 1) { s with heap := hput s.heap d (dobj (es ++ [⟨x.1.1, .int x.1.1 s.toks, .str x.2.1 (s.toks + 1)⟩]) (ep + 1)), toks := s.toks + 1 + 1 + 1 } pos (get_put_self (get_lt ho))
      (fun y hy => hkey y (List.mem_cons_of_mem _ hy)) (by simpa using hnd) (by simp at hz ⊢; omega)
    have e1 : (if r.isEmpty then pos else pos) = pos := by split <;> rfl
    rw [e1] at ih
    have e2 : (if (x :: r).isEmpty then q else pos) = pos := rfl
    rw [e2]
    have e3 : ({ s with heap := hput s.heap d (dobj (es ++ ents3 s.toks (x :: r)) (ep + (x :: r).length)), toks := s.toks + 3 * (x :: r).length } : Shared) =
        { s with heap := hput (hput s.heap d (dobj (es ++ [⟨x.1.1, .int x.1.1 s.toks, .str x.2.1 (s.toks + 1)⟩]) (ep + 1))) d (dobj (es ++ [⟨x.1.1, .int x.1.1 s.toks, .str x.2.1 (s.toks + 1)⟩] ++ ents3 (s.toks + 1 + 1 + 1) r) (ep + 1 + r.length)), toks := s.toks + 1 + 1 + 1 + 3 * r.length } := by
      rw [put_put]
      have a1 : ep + (x :: r).length = ep + 1 + r.length := by rw [hlen]; omega
      have a2 : s.toks + 3 * (x :: r).length = s.toks + 1 + 1 + 1 + 3 * r.length := by rw [hlen]; omega
      rw [a1, a2]
      simp only [ents3, List.append_assoc, List.cons_append, List.nil_append]
    rw [e3]
    exact ih
end
end Mine
end SHC
section SHD
open PySem PySem.W PyProof.Rows
set_option maxRecDepth 10000
namespace Mine
section
variable {p : Program} {w : World} {n₀ : Nat} {ann : Option Value} {b : List Stmt} {env : Env} {B : List Frame} {α β : Type} {s s' s'' : Shared} {q q' q'' : Pos}
theorem r1_sub_long {pos : Pos} {l : List Pr} (hl : 15 < l.length) (hz : l.length ≤ 100000) (hn : n₀ ≤ s.heap.objs.size) (hk : ∀ x ∈ l, keyOk x) (hnd : (l.map (·.1.1)).Nodup) :
    Run1 p w n₀ ann (.body b env) B (2 + 13 * l.length) (subDict (l.map (pairOf env pos))) s q s.heap.objs.size { s with heap := s.heap.push (dobj (ents3 s.toks l) l.length), toks := s.toks + 3 * l.length } pos := by
  unfold subDict
  refine r1_cast (n := 1 + ((1 + (13 * l.length + 0)) + 0)) (r1_bind r1_alloc (r1_bind (a := ()) (r1_holding ?_) (r1_pure _))) (by omega)
  rw [if_neg (by simp; omega)]
  refine r1_bind r1_rule ?_
  have h := r1_long (p := p) (w := w) (ann := ann) (b := b) (env := env) (B := B) (pos := pos) hn l [] 0 { s with heap := s.heap.push (dobj [] 0) } q get_push_self hk (by simpa using hnd) (by simpa using hz)
  have e1 : l.isEmpty = false := by cases l <;> simp_all
  rw [e1] at h
  simp only [List.nil_append, Nat.zero_add] at h
  rw [put_push] at h
  exact r1_bind h (r1_pure _)
def vals2 : Nat → List Pr → List (Value × Value)
  | _, [] => []
  | t, x :: r => (.int x.1.1 t, .str x.2.1 (t + 1)) :: vals2 (t + 2) r
theorem r1_evalPairs {pos : Pos} : ∀ (l : List Pr) (s : Shared) (q : Pos),
    Run1 p w n₀ ann (.body b env) B (3 * l.length) (evalPairs (l.map (pairOf env pos))) s q (vals2 s.toks l) { s with toks := s.toks + 2 * l.length } (if l.isEmpty then q else pos)
  | [], s, q => r1_pure _
  | x :: r, s, q => by
    have ih := r1_evalPairs (pos := pos) r { s with toks := s.toks + 1 + 1 } pos
    have e1 : (if r.isEmpty then pos else pos) = pos := by split <;> rfl
    rw [e1] at ih
    have e2 : (if (x :: r).isEmpty then q else pos) = pos := rfl
    rw [e2]
    have hlen : (x :: r).length = r.length + 1 := rfl
    have a2 : s.toks + 2 * (x :: r).length = s.toks + 1 + 1 + 2 * r.length := by rw [hlen]; omega
    rw [a2]
    refine r1_cast (n := 1 + (2 + (3 * r.length + 0))) ?_ (by rw [hlen]; omega)
    exact r1_bind r1_const_int (r1_bind (r1_holding r1_const_str) (r1_bind (r1_holding ih) (r1_pure _)))
theorem r1_short {d : Addr} (hn : n₀ ≤ d) : ∀ (l : List Pr) (t : Nat) (es : List DictEntry) (ep : Nat) (s : Shared) (q : Pos), s.heap.get? d = some (dobj es ep) → (∀ x ∈ l, keyOk x) → ((es.map (·.hash)) ++ l.map (·.1.1)).Nodup → es.length + l.length ≤ 100000 →
    Run1 p w n₀ ann (.body b env) B (10 * l.length) (forIn (vals2 t l) PUnit.unit fun x _ => match x with
      | (k, v) => do
        dictSet d k v
        pure (ForInStep.yield PUnit.unit)) s q PUnit.unit { s with heap := hput s.heap d (dobj (es ++ ents2 t l) (ep + l.length)), toks := s.toks + l.length } q
  | [], t, es, ep, s, q, ho, _, _, _ => by
    have e : hput s.heap d (dobj (es ++ ents2 t []) (ep + 0)) = s.heap := by
      have := update_put (f := id) ho
      rw [update_id] at this
      simp only [ents2, List.append_nil, Nat.add_zero, id] at this ⊢
      exact this.symm
    show Run1 p w n₀ ann _ B 0 (pure PUnit.unit) _ _ _ { s with heap := hput s.heap d (dobj (es ++ ents2 t []) (ep + 0)), toks := s.toks + 0 } q
    rw [e]
    exact r1_pure _
  | x :: r, t, es, ep, s, q, ho, hkey, hnd, hz => by
    have hx := hkey x (List.mem_cons_self)
    have hnot : ∀ e ∈ es, e.hash ≠ x.1.1 := fun e he h => by
      have := (List.nodup_append.mp hnd).2.2 e.hash (List.mem_map_of_mem he) x.1.1 (by simp)
      exact this h
    rw [vals2, List.forIn_cons]
    have hlen : (x :: r).length = r.length + 1 := rfl
    refine r1_cast (n := (10 + 0) + 10 * r.length) ?_ (by rw [hlen]; omega)
    refine r1_bind (a := ForInStep.yield PUnit.unit) (r1_bind (r1_dictSet ho hn hnot (by simp at hz; omega) hx.1 hx.2) (r1_pure _)) ?_
    dsimp only
    have ih := r1_short hn r (t + 2) (es ++ [⟨x.1.1, .int x.1.1 t, .str x.2.1 (t + 1)⟩]) (ep + 1) { s with heap := hput s.heap d (dobj (es ++ [⟨x.1.1, .int x.1.1 t, .str x.2.1 (t + 1)⟩]) (ep + 1)), toks := s.toks + 1 } q (get_put_self (get_lt ho))
      (fun y hy => hkey y (List.mem_cons_of_mem _ hy)) (by simpa using hnd) (by simp at hz ⊢; omega)
    have e3 : ({ s with heap := hput s.heap d (dobj (es ++ ents2 t (x :: r)) (ep + (x :: r).length)), toks := s.toks + (x :: r).length } : Shared) =
        { s with heap := hput (hput s.heap d (dobj (es ++ [⟨x.1.1, .int x.1.1 t, .str x.2.1 (t + 1)⟩]) (ep + 1))) d (dobj (es ++ [⟨x.1.1, .int x.1.1 t, .str x.2.1 (t + 1)⟩] ++ ents2 (t + 2) r) (ep + 1 + r.length)), toks := s.toks + 1 + r.length } := by
      rw [put_put]
      have a1 : ep + (x :: r).length = ep + 1 + r.length := by rw [hlen]; omega
      have a2 : s.toks + (x :: r).length = s.toks + 1 + r.length := by rw [hlen]; omega
      rw [a1, a2]
      simp only [ents2, List.append_assoc, List.cons_append, List.nil_append]
    rw [e3]
    exact ih
theorem r1_sub_short {pos : Pos} {l : List Pr} (hl : l.length ≤ 15) (he : l ≠ []) (hn : n₀ ≤ s.heap.objs.size) (hk : ∀ x ∈ l, keyOk x) (hnd : (l.map (·.1.1)).Nodup) :
    Run1 p w n₀ ann (.body b env) B (1 + 13 * l.length) (subDict (l.map (pairOf env pos))) s q s.heap.objs.size { s with heap := s.heap.push (dobj (ents2 s.toks l) l.length), toks := s.toks + 3 * l.length } pos := by
  unfold subDict
  refine r1_cast (n := 1 + ((3 * l.length + (10 * l.length + 0)) + 0)) (r1_bind r1_alloc (r1_bind (a := ()) (r1_holding ?_) (r1_pure _))) (by omega)
  rw [if_pos (by simpa using hl)]
  have e1 : l.isEmpty = false := by cases l <;> simp_all
  have h0 := r1_evalPairs (p := p) (w := w) (n₀ := n₀) (ann := ann) (b := b) (env := env) (B := B) (pos := pos) l { s with heap := s.heap.push (dobj [] 0) } q
  rw [e1] at h0
  refine r1_bind h0 (r1_holding ?_)
  have h := r1_short (p := p) (w := w) (ann := ann) (b := b) (env := env) (B := B) hn l s.toks [] 0 { s with heap := s.heap.push (dobj [] 0), toks := s.toks + 2 * l.length } pos get_push_self hk (by simpa using hnd) (by simp; omega)
  simp only [List.nil_append, Nat.zero_add] at h
  rw [put_push] at h
  have e2 : s.toks + 3 * l.length = s.toks + 2 * l.length + l.length := by omega
  rw [e2]
  exact r1_bind h (r1_pure _)
def IntE (fs : List DictEntry) : Prop := ∀ e ∈ fs, ∃ t, e.key = .int e.hash t
theorem r1_mergeLoop {d a : Addr} (hn : n₀ ≤ d) (hda : d ≠ a) {ef : Nat} : ∀ (fs : List DictEntry) (pre : List DictEntry) (es : List DictEntry) (ep : Nat) (s : Shared) (q : Pos), IntE fs → s.heap.get? d = some (dobj es ep) → s.heap.get? a = some (dobj (pre ++ fs) ef) →
    ((es.map (·.hash)) ++ fs.map (·.hash)).Nodup → es.length + fs.length ≤ 100000 →
    Run1 p w n₀ ann (.body b env) B (6 * fs.length) (forIn (List.range' pre.length fs.length) PUnit.unit fun i _ => do
      let es ← dictEntries a
      match es[i]? with
      | some e => do
        holding [e.key, e.val] (dictPut d e.hash e.key e.val)
        let k ← dictEpoch a
        if (k != ef) = true then do
          unsupported "dict.changed-during-merge"
          pure (ForInStep.yield PUnit.unit)
        else pure (ForInStep.yield PUnit.unit)
      | _ => do
        unsupported "dict.changed-during-merge"
        pure (ForInStep.yield PUnit.unit)) s q PUnit.unit { s with heap := hput s.heap d (dobj (es ++ fs) (ep + fs.length)) } q
  | [], pre, es, ep, s, q, _, ho, _, _, _ => by
    have e : hput s.heap d (dobj (es ++ []) (ep + 0)) = s.heap := by
      have := update_put (f := id) ho
      rw [update_id] at this
      simp only [List.append_nil, Nat.add_zero, id] at this ⊢
      exact this.symm
    show Run1 p w n₀ ann _ B 0 (pure PUnit.unit) _ _ _ { s with heap := hput s.heap d (dobj (es ++ []) (ep + 0)) } q
    rw [e]
    exact r1_pure _
  | f :: r, pre, es, ep, s, q, hi, ho, ha, hnd, hz => by
    obtain ⟨t, hf⟩ := hi f List.mem_cons_self
    have hnot : ∀ e ∈ es, e.hash ≠ f.hash := fun e he h => by
      have := (List.nodup_append.mp hnd).2.2 e.hash (List.mem_map_of_mem he) f.hash (by simp)
      exact this h
    have hlen : (f :: r).length = r.length + 1 := rfl
    have e0 : List.range' pre.length (f :: r).length = pre.length :: List.range' (pre ++ [f]).length r.length := by
      rw [hlen, List.range'_succ]; simp
    rw [e0, List.forIn_cons]
    refine r1_cast (n := (1 + (4 + (1 + 0))) + 6 * r.length) ?_ (by rw [hlen]; omega)
    have e1 : (pre ++ f :: r).toArray[pre.length]? = some f := by simp
    obtain ⟨fh, fk, fv⟩ := f
    obtain rfl : fk = .int fh t := hf
    refine r1_bind (a := ForInStep.yield PUnit.unit) (s' := { s with heap := hput s.heap d (dobj (es ++ [⟨fh, .int fh t, fv⟩]) (ep + 1)) }) (q' := q) (r1_bind (r1_dictEntries ha) ?_) ?_
    · rw [e1]
      dsimp only
      refine r1_bind (r1_holding (r1_dictPut ho hn hnot (by simp at hz; omega))) (r1_bind (r1_dictEpoch (get_put_ne hda ha)) ?_)
      rw [if_neg (by simp)]
      exact r1_pure _
    dsimp only
    have ih := r1_mergeLoop (ef := ef) hn hda r (pre ++ [⟨fh, .int fh t, fv⟩]) (es ++ [⟨fh, .int fh t, fv⟩]) (ep + 1) { s with heap := hput s.heap d (dobj (es ++ [⟨fh, .int fh t, fv⟩]) (ep + 1)) } q (fun e he => hi e (List.mem_cons_of_mem _ he)) (get_put_self (get_lt ho))
      (by rw [get_put_ne hda ha]; simp) (by simpa using hnd) (by simp at hz ⊢; omega)
    have e3 : ({ s with heap := hput s.heap d (dobj (es ++ ⟨fh, .int fh t, fv⟩ :: r) (ep + (⟨fh, .int fh t, fv⟩ :: r : List DictEntry).length)) } : Shared) =
        { s with heap := hput (hput s.heap d (dobj (es ++ [⟨fh, .int fh t, fv⟩]) (ep + 1))) d (dobj (es ++ [⟨fh, .int fh t, fv⟩] ++ r) (ep + 1 + r.length)) } := by
      rw [put_put]
      have a1 : ep + (⟨fh, .int fh t, fv⟩ :: r : List DictEntry).length = ep + 1 + r.length := by simp only [List.length_cons]; omega
      rw [a1]
      simp only [List.append_assoc, List.cons_append, List.nil_append]
    rw [e3]
    exact ih
theorem r1_typeOf {a : Addr} {es : List DictEntry} {ep : Nat} (ha : s.heap.get? a = some (dobj es ep)) : Run1 p w n₀ ann (.body b env) B 1 (typeOf (.ref a)) s q (.type "dict") s q := by
  show Run1 p w n₀ ann _ B 1 (loadPart a (some headPart) >>= fun o => pure o.cls) _ _ _ _ _
  exact r1_cast (n := 1 + 0) (r1_bind (r1_loadPart ha) (r1_pure _)) rfl
theorem r1_merge {d a : Addr} (hn : n₀ ≤ d) (hda : d ≠ a) (has : (a == sysModules) = false) {fs es : List DictEntry} {ep ef : Nat} (hi : IntE fs) (hne : es ≠ []) (ho : s.heap.get? d = some (dobj es ep)) (ha : s.heap.get? a = some (dobj fs ef))
    (hnd : ((es.map (·.hash)) ++ fs.map (·.hash)).Nodup) (hz : es.length + fs.length ≤ 100000) :
    Run1 p w n₀ ann (.body b env) B (5 + 6 * fs.length) (mergeMapping d (.ref a) false) s q () { s with heap := hput s.heap d (dobj (es ++ fs) (ep + fs.length)) } q := by
  unfold mergeMapping
  refine r1_cast (n := (1 + 0) + ((1 + 0) + (0 + (1 + (1 + (1 + (6 * fs.length + 0))))))) (r1_bind (a := true) (s' := s) (q' := q) ?_ ?_) (by omega)
  · unfold isInstance
    refine r1_bind (r1_typeOf ha) ?_
    rw [isSubtype_dict_dict]
    exact r1_pure _
  dsimp only
  rw [if_pos rfl]
  refine r1_bind (a := some (.builtin "dict.__iter__")) (s' := s) (q' := q) ?_ ?_
  · unfold specialOf
    refine r1_bind (r1_typeOf ha) ?_
    rw [PySem.F.slot_dict_iter.lookup]
    exact r1_pure _
  refine r1_bind (a := true) (s' := s) (q' := q) ?_ ?_
  · have : ((some (Value.builtin "dict.__iter__")) == some (.builtin "dict.__iter__")) = true := by decide
    rw [this]; exact r1_pure _
  dsimp only
  rw [has]
  rw [if_neg Bool.false_ne_true]
  refine r1_bind (r1_dictEntries ho) ?_
  have e1 : es.toArray.isEmpty = false := by cases es <;> simp_all
  rw [e1, if_neg Bool.false_ne_true]
  refine r1_bind (r1_dictEntries ha) ?_
  refine r1_bind (r1_dictEpoch ha) ?_
  have h := r1_mergeLoop (p := p) (w := w) (ann := ann) (b := b) (env := env) (B := B) (ef := ef) hn hda fs [] es ep s q hi ho (by simpa using ha) hnd hz
  rw [List.size_toArray, List.range_eq_range']
  exact r1_bind h (r1_pure _)
end
end Mine
end SHD
section SHE
open PySem PySem.W PyProof.Rows
set_option maxRecDepth 10000
namespace Mine
abbrev Run := List (Sem Value × Sem Value)
theorem ents3_append : ∀ (a : List Pr) (t : Nat) (c : List Pr), ents3 t (a ++ c) = ents3 t a ++ ents3 (t + 3 * a.length) c
  | [], t, c => by simp [ents3]
  | x :: r, t, c => by
    have e : t + 3 * (x :: r).length = t + 3 + 3 * r.length := by simp only [List.length_cons]; omega
    rw [e]; simp only [List.cons_append, ents3, ents3_append r]
theorem intE3 : ∀ (a : List Pr) (t : Nat), IntE (ents3 t a)
  | [], _, e, he => by simp [ents3] at he
  | x :: r, t, e, he => by
    simp only [ents3, List.mem_cons] at he
    rcases he with rfl | he
    · exact ⟨_, rfl⟩
    · exact intE3 r _ e he
theorem intE2 : ∀ (a : List Pr) (t : Nat), IntE (ents2 t a)
  | [], _, e, he => by simp [ents2] at he
  | x :: r, t, e, he => by
    simp only [ents2, List.mem_cons] at he
    rcases he with rfl | he
    · exact ⟨_, rfl⟩
    · exact intE2 r _ e he
def subsOf : Nat → List (List Pr) → List Obj
  | _, [] => []
  | t, c :: r => dobj (ents3 t c) c.length :: subsOf (t + 3 * c.length) r
def pushAll (h : Heap) (os : List Obj) : Heap := os.foldl Heap.push h
theorem size_pushAll : ∀ (os : List Obj) (h : Heap), (pushAll h os).objs.size = h.objs.size + os.length
  | [], _ => rfl
  | o :: r, h => by
    show (pushAll (h.push o) r).objs.size = _
    rw [size_pushAll r, Heap.size_push, List.length_cons]; omega
theorem get_pushAll : ∀ (os : List Obj) (h : Heap) {a : Addr} {o : Obj}, h.get? a = some o → (pushAll h os).get? a = some o
  | [], _, _, _, e => e
  | o :: r, h, _, _, e => get_pushAll r (h.push o) (get_push e)
theorem put_pushAll : ∀ (os : List Obj) (h : Heap) {d : Addr} {o : Obj}, d < h.objs.size → hput (pushAll h os) d o = pushAll (hput h d o) os
  | [], _, _, _, _ => rfl
  | o :: r, h, d, o', hl => by
    show hput (pushAll (h.push o) r) d o' = pushAll ((hput h d o').push o) r
    rw [put_pushAll r (h.push o) (by rw [Heap.size_push]; exact Nat.lt_succ_of_lt hl), push_put hl]
theorem pushAll_push (h : Heap) (os : List Obj) (o : Obj) : (pushAll h os).push o = pushAll h (os ++ [o]) := by
  unfold pushAll; rw [List.foldl_append]; rfl
theorem subsOf_append : ∀ (a c : List (List Pr)) (t : Nat), subsOf t (a ++ c) = subsOf t a ++ subsOf (t + 3 * a.flatten.length) c
  | [], c, t => by simp [subsOf]
  | x :: r, c, t => by
    have e : t + 3 * (x :: r).flatten.length = t + 3 * x.length + 3 * r.flatten.length := by simp only [List.flatten_cons, List.length_append]; omega
    rw [e]; simp only [List.cons_append, subsOf, subsOf_append r]
theorem subsOf_length : ∀ (a : List (List Pr)) (t : Nat), (subsOf t a).length = a.length
  | [], _ => rfl
  | x :: r, t => by simp [subsOf, subsOf_length r]
section
variable {p : Program} {w : World} {n₀ : Nat} {ann : Option Value} {b : List Stmt} {env : Env} {B : List Frame} {s : Shared} {q : Pos}
def flushR (run : Run) (main : Option Addr) : Sem (Option Addr) :=
  if run.isEmpty = true then pure main
  else match main with
    | none => do
      let a ← subDict run
      pure (some a)
    | some d => do
      let sub ← holding [.ref d] (subDict run)
      (holding [.ref d, .ref sub] (mergeMapping d (.ref sub) false)).onRaise fun x => do
        let _ ← holding [.ref d, x] (runValue (.builtin "proto.let_go" {}))
        pure ()
      pure (some d)
theorem r1_flush_long {pos : Pos} {d : Addr} {es : List DictEntry} {ep : Nat} {l : List Pr} (hn : n₀ ≤ d) (ho : s.heap.get? d = some (dobj es ep)) (hne : es ≠ []) (hs : 1 < s.heap.objs.size) (hn' : n₀ ≤ s.heap.objs.size)
    (hl : 15 < l.length) (hz : es.length + l.length ≤ 100000) (hk : ∀ x ∈ l, keyOk x) (hnd : (es.map (·.hash) ++ l.map (·.1.1)).Nodup) :
    Run1 p w n₀ ann (.body b env) B (7 + 19 * l.length) (flushR (l.map (pairOf env pos)) (some d)) s q (some d)
      { s with heap := (hput s.heap d (dobj (es ++ ents3 s.toks l) (ep + l.length))).push (dobj (ents3 s.toks l) l.length), toks := s.toks + 3 * l.length } pos := by
  unfold flushR
  rw [if_neg (by cases l <;> simp_all)]
  refine r1_cast (n := (2 + 13 * l.length) + ((5 + 6 * (ents3 s.toks l).length) + 0)) (r1_bind (r1_holding (r1_sub_long hl (by omega) hn' hk (List.nodup_append.mp hnd).2.1)) ?_) (by rw [ents3_len]; omega)
  have hd := get_lt ho
  have h := r1_merge (p := p) (w := w) (ann := ann) (b := b) (env := env) (B := B) (s := { s with heap := s.heap.push (dobj (ents3 s.toks l) l.length), toks := s.toks + 3 * l.length }) (q := pos) (d := d) (a := s.heap.objs.size) hn (Nat.ne_of_lt hd)
    (beq_eq_false_iff_ne.mpr (Nat.ne_of_gt hs)) (intE3 l s.toks) hne (get_push ho) get_push_self (by rw [ents3_hash]; exact hnd) (by rw [ents3_len]; exact hz)
  rw [ents3_len, push_put hd] at h
  rw [ents3_len]
  exact r1_bind (r1_onRaise (r1_holding h)) (r1_pure _)
theorem r1_flush_short {pos : Pos} {d : Addr} {es : List DictEntry} {ep : Nat} {l : List Pr} (hn : n₀ ≤ d) (ho : s.heap.get? d = some (dobj es ep)) (hne : es ≠ []) (hs : 1 < s.heap.objs.size) (hn' : n₀ ≤ s.heap.objs.size)
    (hl : l.length ≤ 15) (hl0 : l ≠ []) (hz : es.length + l.length ≤ 100000) (hk : ∀ x ∈ l, keyOk x) (hnd : (es.map (·.hash) ++ l.map (·.1.1)).Nodup) :
    Run1 p w n₀ ann (.body b env) B (6 + 19 * l.length) (flushR (l.map (pairOf env pos)) (some d)) s q (some d)
      { s with heap := (hput s.heap d (dobj (es ++ ents2 s.toks l) (ep + l.length))).push (dobj (ents2 s.toks l) l.length), toks := s.toks + 3 * l.length } pos := by
  unfold flushR
  rw [if_neg (by cases l <;> simp_all)]
  refine r1_cast (n := (1 + 13 * l.length) + ((5 + 6 * (ents2 s.toks l).length) + 0)) (r1_bind (r1_holding (r1_sub_short hl hl0 hn' hk (List.nodup_append.mp hnd).2.1)) ?_) (by rw [ents2_len]; omega)
  have hd := get_lt ho
  have h := r1_merge (p := p) (w := w) (ann := ann) (b := b) (env := env) (B := B) (s := { s with heap := s.heap.push (dobj (ents2 s.toks l) l.length), toks := s.toks + 3 * l.length }) (q := pos) (d := d) (a := s.heap.objs.size) hn (Nat.ne_of_lt hd)
    (beq_eq_false_iff_ne.mpr (Nat.ne_of_gt hs)) (intE2 l s.toks) hne (get_push ho) get_push_self (by rw [ents2_hash]; exact hnd) (by rw [ents2_len]; exact hz)
  rw [ents2_len, push_put hd] at h
  rw [ents2_len]
  exact r1_bind (r1_onRaise (r1_holding h)) (r1_pure _)
abbrev itemOf (env : Env) (pos : Pos) (x : Pr) : Option (Sem Value) × Sem Value := (some (pairOf env pos x).1, (pairOf env pos x).2)
abbrev Body := Option (Sem Value) × Sem Value → Option Addr × Run → Sem (ForInStep (Option Addr × Run))
def BodyOk (body : Body) : Prop := ∀ k v m r, body (some k, v) (m, r) =
  if ((r ++ [(k, v)]).length == 17) = true then do
    let m ← flushR (r ++ [(k, v)]) m
    pure (ForInStep.yield (m, []))
  else pure (ForInStep.yield (m, r ++ [(k, v)]))
theorem loop_chunk {body : Body} (hb : BodyOk body) {pos : Pos} (rest : List (Option (Sem Value) × Sem Value)) (m : Option Addr) : ∀ (c : List Pr) (run : Run), c ≠ [] → run.length + c.length = 17 →
    forIn (c.map (itemOf env pos) ++ rest) (m, run) body = (flushR (run ++ c.map (pairOf env pos)) m >>= fun m => forIn rest (m, []) body)
  | [], _, h, _ => absurd rfl h
  | [x], run, _, hl => by
    rw [List.map_cons, List.map_nil, List.cons_append, List.forIn_cons, hb, if_pos (by simp at hl ⊢; omega)]
    simp only [bind_assoc, pure_bind]
    rfl
  | x :: y :: r, run, _, hl => by
    rw [List.map_cons, List.cons_append, List.forIn_cons, hb, if_neg (by simp at hl ⊢; omega)]
    have ih := loop_chunk (pos := pos) hb rest m (y :: r) (run ++ [((pairOf env pos x).1, (pairOf env pos x).2)]) (by simp) (by simp at hl ⊢; omega)
    simp only [pure_bind]
    rw [ih, List.map_cons (l := y :: r), List.append_assoc]
    rfl
theorem loop_last {body : Body} (hb : BodyOk body) {pos : Pos} (m : Option Addr) : ∀ (c : List Pr) (run : Run), run.length + c.length < 17 →
    forIn (c.map (itemOf env pos)) (m, run) body = (pure (m, run ++ c.map (pairOf env pos)) : Sem _)
  | [], run, _ => by simp
  | x :: r, run, hl => by
    rw [List.map_cons, List.forIn_cons, hb, if_neg (by simp at hl ⊢; omega)]
    have ih := loop_last (pos := pos) hb m r (run ++ [((pairOf env pos x).1, (pairOf env pos x).2)]) (by simp at hl ⊢; omega)
    simp only [pure_bind]
    rw [ih, List.map_cons, List.append_assoc]
    rfl
theorem r1_chunks {body : Body} (hb : BodyOk body) {pos : Pos} {d : Addr} (hn : n₀ ≤ d) (last : List Pr) (hlast : last.length < 17) :
    ∀ (cs : List (List Pr)) (es : List DictEntry) (ep : Nat) (s : Shared) (q : Pos), s.heap.get? d = some (dobj es ep) → es ≠ [] → 1 < s.heap.objs.size → n₀ ≤ s.heap.objs.size → (∀ c ∈ cs, c.length = 17) → es.length + cs.flatten.length ≤ 100000 → (∀ x ∈ cs.flatten, keyOk x) →
    (es.map (·.hash) ++ cs.flatten.map (·.1.1)).Nodup →
    Run1 p w n₀ ann (.body b env) B (330 * cs.length) (forIn (cs.flatten.map (itemOf env pos) ++ last.map (itemOf env pos)) (some d, []) body) s q (some d, last.map (pairOf env pos))
      { s with heap := pushAll (hput s.heap d (dobj (es ++ ents3 s.toks cs.flatten) (ep + cs.flatten.length))) (subsOf s.toks cs), toks := s.toks + 3 * cs.flatten.length } (if cs.isEmpty then q else pos)
  | [], es, ep, s, q, ho, _, _, _, _, _, _, _ => by
    have e : hput s.heap d (dobj (es ++ ents3 s.toks []) (ep + 0)) = s.heap := by
      have := update_put (f := id) ho
      rw [update_id] at this
      simp only [ents3, List.append_nil, Nat.add_zero, id] at this ⊢
      exact this.symm
    have h : forIn (([] : List (List Pr)).flatten.map (itemOf env pos) ++ last.map (itemOf env pos)) (some d, []) body = (pure (some d, last.map (pairOf env pos)) : Sem _) := by
      have := loop_last (env := env) hb (pos := pos) (some d) last [] (by simpa using hlast)
      simpa using this
    rw [h]
    show Run1 p w n₀ ann _ B 0 (pure _) s q _ { s with heap := hput s.heap d (dobj (es ++ ents3 s.toks []) (ep + 0)), toks := s.toks + 3 * 0 } q
    rw [e]
    exact r1_pure _
  | c :: cs, es, ep, s, q, ho, hne, hs, hn', hc, hz, hk, hnd => by
    have h17 := hc c List.mem_cons_self
    have hfl : (c :: cs).flatten = c ++ cs.flatten := rfl
    rw [hfl] at hz hk hnd ⊢
    rw [List.length_append] at hz
    have h1 : forIn ((c ++ cs.flatten).map (itemOf env pos) ++ last.map (itemOf env pos)) (some d, []) body = (flushR (c.map (pairOf env pos)) (some d) >>= fun m => forIn (cs.flatten.map (itemOf env pos) ++ last.map (itemOf env pos)) (m, []) body) := by
      have := loop_chunk (env := env) hb (pos := pos) (cs.flatten.map (itemOf env pos) ++ last.map (itemOf env pos)) (some d) c [] (by intro e; rw [e] at h17; cases h17) (by simpa using h17)
      rw [List.map_append, List.append_assoc]
      simpa using this
    rw [h1]
    have hnd1 : (es.map (·.hash) ++ c.map (·.1.1)).Nodup := by
      rw [List.map_append, ← List.append_assoc] at hnd
      exact (List.nodup_append.mp hnd).1
    have hf := r1_flush_long (p := p) (w := w) (ann := ann) (b := b) (env := env) (B := B) (q := q) (pos := pos) hn ho hne hs hn' (l := c) (by omega) (by omega) (fun x hx => hk x (List.mem_append_left _ hx)) hnd1
    refine r1_cast (n := (7 + 19 * c.length) + 330 * cs.length) (r1_bind hf ?_) (by rw [h17]; simp only [List.length_cons]; omega)
    have hd := get_lt ho
    have ih := r1_chunks hb (pos := pos) hn last hlast cs (es ++ ents3 s.toks c) (ep + c.length) { s with heap := (hput s.heap d (dobj (es ++ ents3 s.toks c) (ep + c.length))).push (dobj (ents3 s.toks c) c.length), toks := s.toks + 3 * c.length } pos
      (get_push (get_put_self hd)) (by simp [hne]) (by simp only [Heap.size_push, size_put]; omega) (by simp only [Heap.size_push, size_put]; omega) (fun x hx => hc x (List.mem_cons_of_mem _ hx)) (by rw [List.length_append, ents3_len]; omega) (fun x hx => hk x (List.mem_append_right _ hx))
      (by rw [List.map_append, ents3_hash, List.append_assoc, ← List.map_append]; exact hnd)
    have e1 : (if cs.isEmpty then pos else pos) = pos := by split <;> rfl
    rw [e1] at ih
    have e2 : (if (c :: cs).isEmpty then q else pos) = pos := rfl
    rw [e2]
    have e3 : ({ s with heap := pushAll (hput s.heap d (dobj (es ++ ents3 s.toks (c ++ cs.flatten)) (ep + (c ++ cs.flatten).length))) (subsOf s.toks (c :: cs)), toks := s.toks + 3 * (c ++ cs.flatten).length } : Shared) =
        { s with heap := pushAll (hput ((hput s.heap d (dobj (es ++ ents3 s.toks c) (ep + c.length))).push (dobj (ents3 s.toks c) c.length)) d (dobj (es ++ ents3 s.toks c ++ ents3 (s.toks + 3 * c.length) cs.flatten) (ep + c.length + cs.flatten.length))) (subsOf (s.toks + 3 * c.length) cs), toks := s.toks + 3 * c.length + 3 * cs.flatten.length } := by
      rw [push_put (by rw [size_put]; exact hd), put_put]
      have a1 : ep + (c ++ cs.flatten).length = ep + c.length + cs.flatten.length := by rw [List.length_append]; omega
      have a2 : s.toks + 3 * (c ++ cs.flatten).length = s.toks + 3 * c.length + 3 * cs.flatten.length := by rw [List.length_append]; omega
      rw [a1, a2, ents3_append, List.append_assoc]
      rfl
    rw [e3]
    exact ih
theorem r1_display {pos : Pos} {c : List Pr} {cs : List (List Pr)} {last : List Pr} (hs : 1 < s.heap.objs.size) (hn : n₀ ≤ s.heap.objs.size) (hc : c.length = 17) (hcs : ∀ c ∈ cs, c.length = 17) (hl : last.length ≤ 15) (hl0 : last ≠ [])
    (hz : c.length + cs.flatten.length + last.length ≤ 100000) (hk : ∀ x ∈ c ++ cs.flatten ++ last, keyOk x) (hnd : ((c ++ cs.flatten ++ last).map (·.1.1)).Nodup) :
    Run1 p w n₀ ann (.body b env) B (229 + 330 * cs.length + 19 * last.length) (dictDisplay (((c ++ cs.flatten) ++ last).map (itemOf env pos))) s q (.ref s.heap.objs.size)
      { s with heap := pushAll (s.heap.push (dobj (ents3 s.toks (c ++ cs.flatten) ++ ents2 (s.toks + 3 * (c ++ cs.flatten).length) last) (c ++ cs.flatten ++ last).length)) (subsOf (s.toks + 3 * c.length) cs ++ [dobj (ents2 (s.toks + 3 * (c ++ cs.flatten).length) last) last.length]),
               toks := s.toks + 3 * (c ++ cs.flatten ++ last).length } pos := by
  have key : ∀ (body : Body), BodyOk body → Run1 p w n₀ ann (.body b env) B (229 + 330 * cs.length + 19 * last.length) (do
      let r ← forIn (((c ++ cs.flatten) ++ last).map (itemOf env pos)) (none, []) body
      let x ← flushR r.2 r.1
      match x with
      | some d => pure (Value.ref d)
      | none => newDict) s q (.ref s.heap.objs.size)
      { s with heap := pushAll (s.heap.push (dobj (ents3 s.toks (c ++ cs.flatten) ++ ents2 (s.toks + 3 * (c ++ cs.flatten).length) last) (c ++ cs.flatten ++ last).length)) (subsOf (s.toks + 3 * c.length) cs ++ [dobj (ents2 (s.toks + 3 * (c ++ cs.flatten).length) last) last.length]),
               toks := s.toks + 3 * (c ++ cs.flatten ++ last).length } pos := by
    intro body hb
    have h0 : forIn (((c ++ cs.flatten) ++ last).map (itemOf env pos)) (none, []) body = (flushR (c.map (pairOf env pos)) none >>= fun m => forIn (cs.flatten.map (itemOf env pos) ++ last.map (itemOf env pos)) (m, []) body) := by
      have := loop_chunk (env := env) hb (pos := pos) (cs.flatten.map (itemOf env pos) ++ last.map (itemOf env pos)) none c [] (by intro e; rw [e] at hc; cases hc) (by simpa using hc)
      rw [List.map_append, List.map_append, List.append_assoc]
      simpa using this
    rw [h0]
    have hnd1 : (c.map (·.1.1)).Nodup := by
      rw [List.map_append, List.map_append, List.append_assoc] at hnd
      exact (List.nodup_append.mp hnd).1
    have f0 : Run1 p w n₀ ann (.body b env) B (2 + 13 * c.length + 0) (flushR (c.map (pairOf env pos)) none) s q (some s.heap.objs.size) { s with heap := s.heap.push (dobj (ents3 s.toks c) c.length), toks := s.toks + 3 * c.length } pos := by
      unfold flushR
      rw [if_neg (by cases c <;> simp_all)]
      exact r1_bind (r1_sub_long (by omega) (by omega) hn (fun x hx => hk x (List.mem_append_left _ (List.mem_append_left _ hx))) hnd1) (r1_pure _)
    have hne : ents3 s.toks c ≠ [] := by
      intro e
      have := congrArg List.length e
      rw [ents3_len, hc] at this
      cases this
    have hch := r1_chunks (p := p) (w := w) (ann := ann) (b := b) (env := env) (B := B) hb (pos := pos) (d := s.heap.objs.size) hn last (by omega) cs (ents3 s.toks c) c.length { s with heap := s.heap.push (dobj (ents3 s.toks c) c.length), toks := s.toks + 3 * c.length } pos
      get_push_self hne (by simp only [Heap.size_push]; omega) (by simp only [Heap.size_push]; omega) hcs (by rw [ents3_len]; omega) (fun x hx => hk x (List.mem_append_left _ (List.mem_append_right _ hx)))
      (by rw [ents3_hash, ← List.map_append]; rw [List.map_append] at hnd; exact (List.nodup_append.mp hnd).1)
    have e1 : (if cs.isEmpty then pos else pos) = pos := by split <;> rfl
    rw [e1, put_push, ← ents3_append] at hch
    refine r1_cast (n := ((2 + 13 * c.length + 0) + 330 * cs.length) + ((6 + 19 * last.length) + 0)) (r1_bind (r1_bind f0 hch) ?_) (by rw [hc]; omega)
    dsimp only
    have hsz : ∀ o, (pushAll (s.heap.push o) (subsOf (s.toks + 3 * c.length) cs)).objs.size = s.heap.objs.size + 1 + cs.length := fun o => by rw [size_pushAll, Heap.size_push, subsOf_length]
    have tk : s.toks + 3 * c.length + 3 * cs.flatten.length = s.toks + 3 * (c ++ cs.flatten).length := by rw [List.length_append]; omega
    rw [tk]
    have hf := r1_flush_short (p := p) (w := w) (ann := ann) (b := b) (env := env) (B := B) (q := pos) (pos := pos) (d := s.heap.objs.size) (es := ents3 s.toks (c ++ cs.flatten)) (ep := c.length + cs.flatten.length) (l := last)
      (s := { s with heap := pushAll (s.heap.push (dobj (ents3 s.toks (c ++ cs.flatten)) (c.length + cs.flatten.length))) (subsOf (s.toks + 3 * c.length) cs), toks := s.toks + 3 * (c ++ cs.flatten).length })
      hn (get_pushAll _ _ get_push_self) (by rw [ents3_append]; simp [hne]) (by rw [hsz]; omega) (by rw [hsz]; omega) hl hl0 (by rw [ents3_len, List.length_append]; omega) (fun x hx => hk x (List.mem_append_right _ hx))
      (by rw [ents3_hash, ← List.map_append]; exact hnd)
    refine r1_bind hf ?_
    dsimp only
    have e4 : s.toks + 3 * (c ++ cs.flatten ++ last).length = s.toks + 3 * (c ++ cs.flatten).length + 3 * last.length := by simp only [List.length_append]; omega
    have e5 : (c ++ cs.flatten ++ last).length = c.length + cs.flatten.length + last.length := by simp only [List.length_append]
    rw [e4, e5, ← pushAll_push, put_pushAll _ _ (by rw [Heap.size_push]; exact Nat.lt_succ_self _), put_push]
    exact r1_pure _
  exact key _ (fun k v m r => rfl)
end
end Mine
end SHE
section SHF1
open PySem PySem.W PyProof.Rows
set_option maxRecDepth 100000
set_option linter.unusedVariables false
namespace Mine
noncomputable section
def stAt (l : List Stmt) (i : Nat) : Stmt := l.getD i (.Pass default)
def stIn (l : List Stmt) (i j : Nat) : Stmt := match stAt l i with
  | .ClassDef _ _ _ body _ _ _ _ _ _ _ => stAt body j
  | s => s
def fnD (st : Stmt) (qual : Str) (g : Addr) (pm cd : Value) (b : Addr) : Data := match st with
  | .FunctionDef name args body _ _ _ scope _ _ _ => .func { name, qualname := qual, params := args, body := .stmts body, scope, globals := g, closure := [], defaults := .none, kwdefaults := .none, pyModule := pm, code := cd, builtins := b }
  | _ => .plain
def dictKV (st : Stmt) : List (Option Expr) × List Expr := match st with
  | .Assign _ (.Dict ks vs _) _ => (ks, vs)
  | _ => ([], [])
def dictPos (st : Stmt) : Pos := match st with
  | .Assign _ (.Dict _ _ q) _ => q
  | _ => default
def asgPos (st : Stmt) : Pos := match st with
  | .Assign _ _ q => q
  | _ => default
def asgTo (st : Stmt) : List Expr := match st with
  | .Assign t _ _ => t
  | _ => []
def prsOf : List (Option Expr) → List Expr → List Pr
  | some (.Constant (.int k) i p) :: ks, .Constant (.str v) j q :: vs => ((k, i, p), (v, j, q)) :: prsOf ks vs
  | _, _ => []
abbrev pp : Program := PySem.Challenge.pw_mr0250_01
def bd : List Stmt := behindTheImports pp
def env0 : Env := { scope := pp.main.scope, locals := mainNs, globals := mainNs, cells := [], code := (.ref 13), frame := some 14 }
abbrev cd0 : Code := .body bd env0
abbrev pos0 : Pos := ⟨0, 0, 0, 0⟩
abbrev posA : Pos := ⟨18, 0, 19, 30⟩
abbrev posB : Pos := ⟨20, 0, 20, 13⟩
abbrev posC : Pos := ⟨54, 0, 79, 15⟩
abbrev q0 : Pos := ⟨0, 0, 0, 0⟩
def oa_11 (P : Params) : Obj := ⟨(.type "tuple"), none, (.seq [].toArray 0), [].toArray⟩
def oa_12 (P : Params) : Obj := ⟨.none, none, (.fields [].toArray), [].toArray⟩
def oa_13 (P : Params) : Obj := ⟨(.type "code"), none, (.fields [(.str (Str.ofString "<module>") 182), (.str (Str.ofString "<module>") 183), (.str (Str.ofString "/claim/cut.py") 184), (.int 1 0), (.int 0 0), (.int 0 0), (.int 0 0), (.int 0 0), (.ref 11), (.bool false), (.int 181 0), (.ref 12), .none, .none, .none, .none, (.int 185 0), (.int 1 0), (.str (Str.ofString "/claim/cut.py") 186)].toArray), [].toArray⟩
def oa_14 (P : Params) : Obj := ⟨(.type "frame"), none, .plain, [(some (.ref 13)), (some (.ref 3)), (some (.ref 3)), none, (some (.str (Str.ofString "__main__") 164)), none, (some (.ref 0))].toArray⟩
def objsa (P : Params) : List Obj := [boot_o_0 P, boot_o_1 P, boot_o_2 P, boot_o_3 P, boot_o_4 P, boot_o_5 P, boot_o_6 P, boot_o_7 P, boot_o_8 P, boot_o_9 P, boot_o_10 P, oa_11 P, oa_12 P, oa_13 P, oa_14 P]
def oA_3 (P : Params) : Obj := ⟨(.type "dict"), none, (.dict [⟨PyData.keyHash P (Str.ofString "__name__"), .str (Str.ofString "__name__") 165, (.str (Str.ofString "cpy313.stringprep") 231)⟩, ⟨PyData.keyHash P (Str.ofString "__doc__"), .str (Str.ofString "__doc__") 166, .none⟩, ⟨PyData.keyHash P (Str.ofString "__package__"), .str (Str.ofString "__package__") 167, .none⟩, ⟨PyData.keyHash P (Str.ofString "__loader__"), .str (Str.ofString "__loader__") 168, (.builtin "__main__.__loader__#opaque")⟩, ⟨PyData.keyHash P (Str.ofString "__spec__"), .str (Str.ofString "__spec__") 169, .none⟩, ⟨PyData.keyHash P (Str.ofString "__annotations__"), .str (Str.ofString "__annotations__") 170, (.ref 6)⟩, ⟨PyData.keyHash P (Str.ofString "__builtins__"), .str (Str.ofString "__builtins__") 171, (.ref 4)⟩, ⟨PyData.keyHash P (Str.ofString "__file__"), .str (Str.ofString "__file__") 173, (.str (Str.ofString "/claim/cut.py") 172)⟩, ⟨PyData.keyHash P (Str.ofString "__cached__"), .str (Str.ofString "__cached__") 174, .none⟩, ⟨PyData.keyHash P (Str.ofString "TupleComp"), .str (Str.ofString "TupleComp") 230, (.ref 38)⟩, ⟨PyData.keyHash P (Str.ofString "b1_set"), .str (Str.ofString "b1_set") 292, (.ref 50)⟩, ⟨PyData.keyHash P (Str.ofString "in_table_b1"), .str (Str.ofString "in_table_b1") 299, (.ref 60)⟩].toArray 12), [].toArray⟩
def oA_12 (P : Params) : Obj := ⟨.none, none, (.fields [(.int 2 0), (.int 0 0), (.ref 20), (.int 18 0), (.int 0 0), (.ref 59)].toArray), [].toArray⟩
def oA_15 (P : Params) : Obj := ⟨(.type "tuple"), none, (.seq [].toArray 0), [].toArray⟩
def oA_16 (P : Params) : Obj := ⟨(.type "builtin_function_or_method"), none, (.fields [(.builtin "type.__prepare__"), (.type "type")].toArray), [].toArray⟩
def oA_17 (P : Params) : Obj := ⟨(.type "dict"), none, (.dict [⟨PyData.keyHash P (Str.ofString "__module__"), .str (Str.ofString "__module__") 196, (.str (Str.ofString "cpy313.pstats") 187)⟩, ⟨PyData.keyHash P (Str.ofString "__qualname__"), .str (Str.ofString "__qualname__") 198, (.str (Str.ofString "TupleComp") 197)⟩, ⟨PyData.keyHash P (Str.ofString "__firstlineno__"), .str (Str.ofString "__firstlineno__") 200, (.int 2 199)⟩, ⟨PyData.keyHash P (Str.ofString "__init__"), .str (Str.ofString "__init__") 208, (.ref 28)⟩, ⟨PyData.keyHash P (Str.ofString "compare"), .str (Str.ofString "compare") 221, (.ref 35)⟩, ⟨PyData.keyHash P (Str.ofString "__static_attributes__"), .str (Str.ofString "__static_attributes__") 223, (.ref 36)⟩].toArray 6), [].toArray⟩
def oA_18 (P : Params) : Obj := ⟨(.type "tuple"), none, (.seq [].toArray 0), [].toArray⟩
def oA_19 (P : Params) : Obj := ⟨.none, none, (.fields [(.int 4 0), (.int 4 0), (.ref 27), (.int 7 0), (.int 4 0), (.ref 34)].toArray), [].toArray⟩
def oA_20 (P : Params) : Obj := ⟨(.type "code"), none, (.fields [(.str (Str.ofString "TupleComp") 191), (.str (Str.ofString "TupleComp") 192), (.str (Str.ofString "/claim/cut.py") 193), (.int 2 0), (.int 0 0), (.int 0 0), (.int 0 0), (.int 0 0), (.ref 18), (.bool false), (.int 181 0), (.ref 19), .none, .none, .none, .none, (.int 194 0), (.int 2 0), (.str (Str.ofString "/claim/cut.py") 195)].toArray), [].toArray⟩
def oA_21 (P : Params) : Obj := ⟨(.type "frame"), none, .plain, [(some (.ref 20)), (some (.ref 3)), (some (.ref 17)), none, (some (.str (Str.ofString "cpy313.pstats") 187)), none, (some (.ref 0))].toArray⟩
def oA_22 (P : Params) : Obj := ⟨(.type "tuple"), none, (.seq [].toArray 0), [].toArray⟩
def oA_23 (P : Params) : Obj := ⟨.none, none, (.fields [].toArray), [].toArray⟩
def oA_24 (P : Params) : Obj := ⟨(.type "tuple"), none, (.seq [(.str (Str.ofString "self") 204), (.str (Str.ofString "comp_select_list") 205)].toArray 0), [].toArray⟩
def oA_25 (P : Params) : Obj := ⟨(.type "tuple"), none, (.seq [].toArray 0), [].toArray⟩
def oA_26 (P : Params) : Obj := ⟨.none, none, (fnD (stIn bd 1 0) (Str.ofString "TupleComp.__init__") 0 .none .none 0), [].toArray⟩
def oA_27 (P : Params) : Obj := ⟨(.type "code"), none, (.fields [(.str (Str.ofString "__init__") 201), (.str (Str.ofString "TupleComp.__init__") 202), (.str (Str.ofString "/claim/cut.py") 203), (.int 4 0), (.int 2 0), (.int 0 0), (.int 0 0), (.int 3 0), (.ref 22), (.bool true), (.int 181 0), (.ref 23), .none, (.ref 24), (.ref 25), (.ref 26), (.int 206 0), (.int 4 0), (.str (Str.ofString "/claim/cut.py") 207)].toArray), [].toArray⟩
def oA_28 (P : Params) : Obj := ⟨(.type "function"), none, (fnD (stIn bd 1 0) (Str.ofString "TupleComp.__init__") 3 (.str (Str.ofString "cpy313.pstats") 187) (.ref 27) 0), [].toArray⟩
def oA_29 (P : Params) : Obj := ⟨(.type "tuple"), none, (.seq [].toArray 0), [].toArray⟩
def oA_30 (P : Params) : Obj := ⟨.none, none, (.fields [].toArray), [].toArray⟩
def oA_31 (P : Params) : Obj := ⟨(.type "tuple"), none, (.seq [(.str (Str.ofString "self") 212), (.str (Str.ofString "left") 213), (.str (Str.ofString "right") 214), (.str (Str.ofString "index") 215), (.str (Str.ofString "direction") 216), (.str (Str.ofString "l") 217), (.str (Str.ofString "r") 218)].toArray 0), [].toArray⟩
def oA_32 (P : Params) : Obj := ⟨(.type "tuple"), none, (.seq [].toArray 0), [].toArray⟩
def oA_33 (P : Params) : Obj := ⟨.none, none, (fnD (stIn bd 1 1) (Str.ofString "TupleComp.compare") 0 .none .none 0), [].toArray⟩
def oA_34 (P : Params) : Obj := ⟨(.type "code"), none, (.fields [(.str (Str.ofString "compare") 209), (.str (Str.ofString "TupleComp.compare") 210), (.str (Str.ofString "/claim/cut.py") 211), (.int 7 0), (.int 3 0), (.int 0 0), (.int 0 0), (.int 3 0), (.ref 29), (.bool true), (.int 181 0), (.ref 30), .none, (.ref 31), (.ref 32), (.ref 33), (.int 219 0), (.int 7 0), (.str (Str.ofString "/claim/cut.py") 220)].toArray), [].toArray⟩
def oA_35 (P : Params) : Obj := ⟨(.type "function"), none, (fnD (stIn bd 1 1) (Str.ofString "TupleComp.compare") 3 (.str (Str.ofString "cpy313.pstats") 187) (.ref 34) 0), [].toArray⟩
def oA_36 (P : Params) : Obj := ⟨(.type "tuple"), none, (.seq [(.str (Str.ofString "comp_select_list") 222)].toArray 0), [].toArray⟩
def oA_37 (P : Params) : Obj := ⟨(.type "dict"), none, (.dict [⟨PyData.keyHash P (Str.ofString "__module__"), .str (Str.ofString "__module__") 196, (.str (Str.ofString "cpy313.pstats") 187)⟩, ⟨PyData.keyHash P (Str.ofString "__firstlineno__"), .str (Str.ofString "__firstlineno__") 200, (.int 2 199)⟩, ⟨PyData.keyHash P (Str.ofString "__init__"), .str (Str.ofString "__init__") 208, (.ref 28)⟩, ⟨PyData.keyHash P (Str.ofString "compare"), .str (Str.ofString "compare") 221, (.ref 35)⟩, ⟨PyData.keyHash P (Str.ofString "__static_attributes__"), .str (Str.ofString "__static_attributes__") 223, (.ref 36)⟩, ⟨PyData.keyHash P (Str.ofString "__dict__"), .str (Str.ofString "__dict__") 225, (.ref 39)⟩, ⟨PyData.keyHash P (Str.ofString "__weakref__"), .str (Str.ofString "__weakref__") 227, (.ref 40)⟩, ⟨PyData.keyHash P (Str.ofString "__doc__"), .str (Str.ofString "__doc__") 228, .none⟩].toArray 4), [].toArray⟩
def oA_38 (P : Params) : Obj := ⟨(.type "type"), none, (.cls ⟨(Str.ofString "TupleComp"), [(.type "object")], [(.ref 38), (.type "object")], 37, (Str.ofString "TupleComp"), true, [], [], false, none, false⟩), [none, none, (some (.str (Str.ofString "TupleComp") 189)), (some (.str (Str.ofString "TupleComp") 197)), (some (.builtin "object.__new__")), (some (.bool true))].toArray⟩
def oA_39 (P : Params) : Obj := ⟨(.type "getset_descriptor"), none, (.fields [(.str (Str.ofString "__dict__") 224), (.ref 38), (.builtin "function.__dict__"), (.builtin "function.__dict__#set")].toArray), [].toArray⟩
def oA_40 (P : Params) : Obj := ⟨(.type "getset_descriptor"), none, (.fields [(.str (Str.ofString "__weakref__") 226), (.ref 38), (.builtin "ExceptionGroup.__weakref__"), .none].toArray), [].toArray⟩
def oA_41 (P : Params) : Obj := ⟨(.type "super"), none, (.fields [(.ref 38), (.ref 38), (.ref 38)].toArray), [].toArray⟩
def oA_42 (P : Params) : Obj := ⟨(.type "builtin_function_or_method"), none, (.fields [(.builtin "object.__init_subclass__"), (.ref 38)].toArray), [].toArray⟩
def oA_43 (P : Params) : Obj := ⟨(.type "list"), none, (.seq [(.int 173 233), (.int 847 234), (.int 6150 235), (.int 6155 236), (.int 6156 237), (.int 6157 238), (.int 8203 239), (.int 8204 240), (.int 8205 241), (.int 8288 242), (.int 65279 243)].toArray 0), [].toArray⟩
def oA_44 (P : Params) : Obj := ⟨(.type "range"), none, (.fields [(.int 65024 244), (.int 65040 245), (.int 1 246)].toArray), [].toArray⟩
def oA_45 (P : Params) : Obj := ⟨(.type "list"), none, (.seq [(.int 65024 249), (.int 65025 250), (.int 65026 251), (.int 65027 252), (.int 65028 253), (.int 65029 254), (.int 65030 255), (.int 65031 256), (.int 65032 257), (.int 65033 258), (.int 65034 259), (.int 65035 260), (.int 65036 261), (.int 65037 262), (.int 65038 263), (.int 65039 264)].toArray 18), [].toArray⟩
def oA_46 (P : Params) : Obj := ⟨(.type "range_iterator"), none, (.fields [(.int 65040 0), (.int 0 0), (.int 1 0)].toArray), [].toArray⟩
def oA_47 (P : Params) : Obj := ⟨(.type "tuple"), none, (.seq [].toArray 0), [].toArray⟩
def oA_48 (P : Params) : Obj := ⟨(.type "StopIteration"), none, (.fields [(.ref 47), .none, .none, .none, (.bool false), .none].toArray), [].toArray⟩
def oA_49 (P : Params) : Obj := ⟨(.type "list"), none, (.seq [(.int 173 233), (.int 847 234), (.int 6150 235), (.int 6155 236), (.int 6156 237), (.int 6157 238), (.int 8203 239), (.int 8204 240), (.int 8205 241), (.int 8288 242), (.int 65279 243), (.int 65024 249), (.int 65025 250), (.int 65026 251), (.int 65027 252), (.int 65028 253), (.int 65029 254), (.int 65030 255), (.int 65031 256), (.int 65032 257), (.int 65033 258), (.int 65034 259), (.int 65035 260), (.int 65036 261), (.int 65037 262), (.int 65038 263), (.int 65039 264)].toArray 0), [].toArray⟩
def oA_50 (P : Params) : Obj := ⟨(.type "set"), none, (.set [(65024, (.int 65024 249)), (65025, (.int 65025 250)), (65026, (.int 65026 251)), (65027, (.int 65027 252)), (65028, (.int 65028 253)), (65029, (.int 65029 254)), (6150, (.int 6150 235)), (65030, (.int 65030 255)), (65031, (.int 65031 256)), (65032, (.int 65032 257)), (65033, (.int 65033 258)), (6155, (.int 6155 236)), (6156, (.int 6156 237)), (6157, (.int 6157 238)), (8203, (.int 8203 239)), (8204, (.int 8204 240)), (8205, (.int 8205 241)), (65034, (.int 65034 259)), (65035, (.int 65035 260)), (65036, (.int 65036 261)), (65037, (.int 65037 262)), (65038, (.int 65038 263)), (65039, (.int 65039 264)), (173, (.int 173 233)), (847, (.int 847 234)), (8288, (.int 8288 242)), (65279, (.int 65279 243))].toArray 29 ⟨127, [0, 1, 2, 3, 4, 5, 6, 7, 8, 9, 10, 11, 12, 13, 14, 15, 16, 17, 18, 19, 20, 21, 22, 45, 79, 96, 127].toArray, [].toArray, 0, !P.followText "set-order", 2, true⟩), [].toArray⟩
def oA_51 (P : Params) : Obj := ⟨(.type "list_iterator"), none, (.fields [.none, (.int 27 0)].toArray), [].toArray⟩
def oA_52 (P : Params) : Obj := ⟨(.type "tuple"), none, (.seq [].toArray 0), [].toArray⟩
def oA_53 (P : Params) : Obj := ⟨(.type "StopIteration"), none, (.fields [(.ref 52), .none, .none, .none, (.bool false), .none].toArray), [].toArray⟩
def oA_54 (P : Params) : Obj := ⟨(.type "tuple"), none, (.seq [].toArray 0), [].toArray⟩
def oA_55 (P : Params) : Obj := ⟨.none, none, (.fields [].toArray), [].toArray⟩
def oA_56 (P : Params) : Obj := ⟨(.type "tuple"), none, (.seq [(.str (Str.ofString "code") 296)].toArray 0), [].toArray⟩
def oA_57 (P : Params) : Obj := ⟨(.type "tuple"), none, (.seq [].toArray 0), [].toArray⟩
def oA_58 (P : Params) : Obj := ⟨.none, none, (fnD (stAt bd 4) (Str.ofString "in_table_b1") 0 .none .none 0), [].toArray⟩
def oA_59 (P : Params) : Obj := ⟨(.type "code"), none, (.fields [(.str (Str.ofString "in_table_b1") 293), (.str (Str.ofString "in_table_b1") 294), (.str (Str.ofString "/claim/cut.py") 295), (.int 18 0), (.int 1 0), (.int 0 0), (.int 0 0), (.int 3 0), (.ref 54), (.bool true), (.int 181 0), (.ref 55), .none, (.ref 56), (.ref 57), (.ref 58), (.int 297 0), (.int 18 0), (.str (Str.ofString "/claim/cut.py") 298)].toArray), [].toArray⟩
def oA_60 (P : Params) : Obj := ⟨(.type "function"), none, (fnD (stAt bd 4) (Str.ofString "in_table_b1") 3 (.str (Str.ofString "cpy313.stringprep") 231) (.ref 59) 0), [].toArray⟩
def objsA (P : Params) : List Obj := [boot_o_0 P, boot_o_1 P, boot_o_2 P, oA_3 P, boot_o_4 P, boot_o_5 P, boot_o_6 P, boot_o_7 P, boot_o_8 P, boot_o_9 P, boot_o_10 P, oa_11 P, oA_12 P, oa_13 P, oa_14 P, oA_15 P, oA_16 P, oA_17 P, oA_18 P, oA_19 P, oA_20 P, oA_21 P, oA_22 P, oA_23 P, oA_24 P, oA_25 P, oA_26 P, oA_27 P, oA_28 P, oA_29 P, oA_30 P, oA_31 P, oA_32 P, oA_33 P, oA_34 P, oA_35 P, oA_36 P, oA_37 P, oA_38 P, oA_39 P, oA_40 P, oA_41 P, oA_42 P, oA_43 P, oA_44 P, oA_45 P, oA_46 P, oA_47 P, oA_48 P, oA_49 P, oA_50 P, oA_51 P, oA_52 P, oA_53 P, oA_54 P, oA_55 P, oA_56 P, oA_57 P, oA_58 P, oA_59 P, oA_60 P]
def oC_3 (P : Params) : Obj := ⟨(.type "dict"), none, (.dict [⟨PyData.keyHash P (Str.ofString "__name__"), .str (Str.ofString "__name__") 165, (.str (Str.ofString "law_mr0250_01") 2259)⟩, ⟨PyData.keyHash P (Str.ofString "__doc__"), .str (Str.ofString "__doc__") 166, .none⟩, ⟨PyData.keyHash P (Str.ofString "__package__"), .str (Str.ofString "__package__") 167, .none⟩, ⟨PyData.keyHash P (Str.ofString "__loader__"), .str (Str.ofString "__loader__") 168, (.builtin "__main__.__loader__#opaque")⟩, ⟨PyData.keyHash P (Str.ofString "__spec__"), .str (Str.ofString "__spec__") 169, .none⟩, ⟨PyData.keyHash P (Str.ofString "__annotations__"), .str (Str.ofString "__annotations__") 170, (.ref 6)⟩, ⟨PyData.keyHash P (Str.ofString "__builtins__"), .str (Str.ofString "__builtins__") 171, (.ref 4)⟩, ⟨PyData.keyHash P (Str.ofString "__file__"), .str (Str.ofString "__file__") 173, (.str (Str.ofString "/claim/cut.py") 172)⟩, ⟨PyData.keyHash P (Str.ofString "__cached__"), .str (Str.ofString "__cached__") 174, .none⟩, ⟨PyData.keyHash P (Str.ofString "TupleComp"), .str (Str.ofString "TupleComp") 230, (.ref 38)⟩, ⟨PyData.keyHash P (Str.ofString "b1_set"), .str (Str.ofString "b1_set") 292, (.ref 50)⟩, ⟨PyData.keyHash P (Str.ofString "in_table_b1"), .str (Str.ofString "in_table_b1") 299, (.ref 60)⟩, ⟨PyData.keyHash P (Str.ofString "b3_exceptions"), .str (Str.ofString "b3_exceptions") 2250, (.ref 61)⟩, ⟨PyData.keyHash P (Str.ofString "map_table_b3"), .str (Str.ofString "map_table_b3") 2258, (.ref 106)⟩, ⟨PyData.keyHash P (Str.ofString "_law_word"), .str (Str.ofString "_law_word") 2267, (.ref 113)⟩, ⟨PyData.keyHash P (Str.ofString "_law_sign"), .str (Str.ofString "_law_sign") 2276, (.ref 120)⟩, ⟨PyData.keyHash P (Str.ofString "_law_unseen"), .str (Str.ofString "_law_unseen") 2283, (.ref 127)⟩, ⟨PyData.keyHash P (Str.ofString "_law_piece"), .str (Str.ofString "_law_piece") 2289, (.ref 132)⟩, ⟨PyData.keyHash P (Str.ofString "_law_prepared"), .str (Str.ofString "_law_prepared") 2295, (.ref 137)⟩, ⟨PyData.keyHash P (Str.ofString "_law_sorted"), .str (Str.ofString "_law_sorted") 2308, (.ref 144)⟩, ⟨PyData.keyHash P (Str.ofString "law"), .str (Str.ofString "law") 2314, (.ref 149)⟩].toArray 21), [].toArray⟩
def oC_12 (P : Params) : Obj := ⟨.none, none, (.fields [(.int 2 0), (.int 0 0), (.ref 20), (.int 18 0), (.int 0 0), (.ref 59), (.int 21 0), (.int 0 0), (.ref 105), (.int 27 0), (.int 0 0), (.ref 112), (.int 29 0), (.int 0 0), (.ref 119), (.int 34 0), (.int 0 0), (.ref 126), (.int 36 0), (.int 0 0), (.ref 131), (.int 43 0), (.int 0 0), (.ref 136), (.int 45 0), (.int 0 0), (.ref 143), (.int 54 0), (.int 0 0), (.ref 148)].toArray), [].toArray⟩
def oC_100 (P : Params) : Obj := ⟨(.type "tuple"), none, (.seq [].toArray 0), [].toArray⟩
def oC_101 (P : Params) : Obj := ⟨.none, none, (.fields [].toArray), [].toArray⟩
def oC_102 (P : Params) : Obj := ⟨(.type "tuple"), none, (.seq [(.str (Str.ofString "code") 2254), (.str (Str.ofString "r") 2255)].toArray 0), [].toArray⟩
def oC_103 (P : Params) : Obj := ⟨(.type "tuple"), none, (.seq [].toArray 0), [].toArray⟩
def oC_104 (P : Params) : Obj := ⟨.none, none, (fnD (stAt bd 6) (Str.ofString "map_table_b3") 0 .none .none 0), [].toArray⟩
def oC_105 (P : Params) : Obj := ⟨(.type "code"), none, (.fields [(.str (Str.ofString "map_table_b3") 2251), (.str (Str.ofString "map_table_b3") 2252), (.str (Str.ofString "/claim/cut.py") 2253), (.int 21 0), (.int 1 0), (.int 0 0), (.int 0 0), (.int 3 0), (.ref 100), (.bool true), (.int 181 0), (.ref 101), .none, (.ref 102), (.ref 103), (.ref 104), (.int 2256 0), (.int 21 0), (.str (Str.ofString "/claim/cut.py") 2257)].toArray), [].toArray⟩
def oC_106 (P : Params) : Obj := ⟨(.type "function"), none, (fnD (stAt bd 6) (Str.ofString "map_table_b3") 3 (.str (Str.ofString "cpy313.stringprep") 231) (.ref 105) 0), [].toArray⟩
def oC_107 (P : Params) : Obj := ⟨(.type "tuple"), none, (.seq [].toArray 0), [].toArray⟩
def oC_108 (P : Params) : Obj := ⟨.none, none, (.fields [].toArray), [].toArray⟩
def oC_109 (P : Params) : Obj := ⟨(.type "tuple"), none, (.seq [(.str (Str.ofString "x") 2264)].toArray 0), [].toArray⟩
def oC_110 (P : Params) : Obj := ⟨(.type "tuple"), none, (.seq [].toArray 0), [].toArray⟩
def oC_111 (P : Params) : Obj := ⟨.none, none, (fnD (stAt bd 8) (Str.ofString "_law_word") 0 .none .none 0), [].toArray⟩
def oC_112 (P : Params) : Obj := ⟨(.type "code"), none, (.fields [(.str (Str.ofString "_law_word") 2261), (.str (Str.ofString "_law_word") 2262), (.str (Str.ofString "/claim/cut.py") 2263), (.int 27 0), (.int 1 0), (.int 0 0), (.int 0 0), (.int 3 0), (.ref 107), (.bool true), (.int 181 0), (.ref 108), .none, (.ref 109), (.ref 110), (.ref 111), (.int 2265 0), (.int 27 0), (.str (Str.ofString "/claim/cut.py") 2266)].toArray), [].toArray⟩
def oC_113 (P : Params) : Obj := ⟨(.type "function"), none, (fnD (stAt bd 8) (Str.ofString "_law_word") 3 (.str (Str.ofString "law_mr0250_01") 2259) (.ref 112) 0), [].toArray⟩
def oC_114 (P : Params) : Obj := ⟨(.type "tuple"), none, (.seq [].toArray 0), [].toArray⟩
def oC_115 (P : Params) : Obj := ⟨.none, none, (.fields [].toArray), [].toArray⟩
def oC_116 (P : Params) : Obj := ⟨(.type "tuple"), none, (.seq [(.str (Str.ofString "letter") 2271), (.str (Str.ofString "form") 2272), (.str (Str.ofString "alphabet") 2273)].toArray 0), [].toArray⟩
def oC_117 (P : Params) : Obj := ⟨(.type "tuple"), none, (.seq [].toArray 0), [].toArray⟩
def oC_118 (P : Params) : Obj := ⟨.none, none, (fnD (stAt bd 9) (Str.ofString "_law_sign") 0 .none .none 0), [].toArray⟩
def oC_119 (P : Params) : Obj := ⟨(.type "code"), none, (.fields [(.str (Str.ofString "_law_sign") 2268), (.str (Str.ofString "_law_sign") 2269), (.str (Str.ofString "/claim/cut.py") 2270), (.int 29 0), (.int 2 0), (.int 0 0), (.int 0 0), (.int 3 0), (.ref 114), (.bool true), (.int 181 0), (.ref 115), .none, (.ref 116), (.ref 117), (.ref 118), (.int 2274 0), (.int 29 0), (.str (Str.ofString "/claim/cut.py") 2275)].toArray), [].toArray⟩
def oC_120 (P : Params) : Obj := ⟨(.type "function"), none, (fnD (stAt bd 9) (Str.ofString "_law_sign") 3 (.str (Str.ofString "law_mr0250_01") 2259) (.ref 119) 0), [].toArray⟩
def oC_121 (P : Params) : Obj := ⟨(.type "tuple"), none, (.seq [].toArray 0), [].toArray⟩
def oC_122 (P : Params) : Obj := ⟨.none, none, (.fields [].toArray), [].toArray⟩
def oC_123 (P : Params) : Obj := ⟨(.type "tuple"), none, (.seq [(.str (Str.ofString "k") 2280)].toArray 0), [].toArray⟩
def oC_124 (P : Params) : Obj := ⟨(.type "tuple"), none, (.seq [].toArray 0), [].toArray⟩
def oC_125 (P : Params) : Obj := ⟨.none, none, (fnD (stAt bd 10) (Str.ofString "_law_unseen") 0 .none .none 0), [].toArray⟩
def oC_126 (P : Params) : Obj := ⟨(.type "code"), none, (.fields [(.str (Str.ofString "_law_unseen") 2277), (.str (Str.ofString "_law_unseen") 2278), (.str (Str.ofString "/claim/cut.py") 2279), (.int 34 0), (.int 1 0), (.int 0 0), (.int 0 0), (.int 3 0), (.ref 121), (.bool true), (.int 181 0), (.ref 122), .none, (.ref 123), (.ref 124), (.ref 125), (.int 2281 0), (.int 34 0), (.str (Str.ofString "/claim/cut.py") 2282)].toArray), [].toArray⟩
def oC_127 (P : Params) : Obj := ⟨(.type "function"), none, (fnD (stAt bd 10) (Str.ofString "_law_unseen") 3 (.str (Str.ofString "law_mr0250_01") 2259) (.ref 126) 0), [].toArray⟩
def oC_128 (P : Params) : Obj := ⟨(.type "tuple"), none, (.seq [].toArray 0), [].toArray⟩
def oC_129 (P : Params) : Obj := ⟨.none, none, (.fields [].toArray), [].toArray⟩
def oC_130 (P : Params) : Obj := ⟨.none, none, (fnD (stAt bd 11) (Str.ofString "_law_piece") 0 .none .none 0), [].toArray⟩
def oC_131 (P : Params) : Obj := ⟨(.type "code"), none, (.fields [(.str (Str.ofString "_law_piece") 2284), (.str (Str.ofString "_law_piece") 2285), (.str (Str.ofString "/claim/cut.py") 2286), (.int 36 0), (.int 2 0), (.int 0 0), (.int 0 0), (.int 3 0), (.ref 128), (.bool true), (.int 181 0), (.ref 129), .none, .none, .none, (.ref 130), (.int 2287 0), (.int 36 0), (.str (Str.ofString "/claim/cut.py") 2288)].toArray), [].toArray⟩
def oC_132 (P : Params) : Obj := ⟨(.type "function"), none, (fnD (stAt bd 11) (Str.ofString "_law_piece") 3 (.str (Str.ofString "law_mr0250_01") 2259) (.ref 131) 0), [].toArray⟩
def oC_133 (P : Params) : Obj := ⟨(.type "tuple"), none, (.seq [].toArray 0), [].toArray⟩
def oC_134 (P : Params) : Obj := ⟨.none, none, (.fields [].toArray), [].toArray⟩
def oC_135 (P : Params) : Obj := ⟨.none, none, (fnD (stAt bd 12) (Str.ofString "_law_prepared") 0 .none .none 0), [].toArray⟩
def oC_136 (P : Params) : Obj := ⟨(.type "code"), none, (.fields [(.str (Str.ofString "_law_prepared") 2290), (.str (Str.ofString "_law_prepared") 2291), (.str (Str.ofString "/claim/cut.py") 2292), (.int 43 0), (.int 1 0), (.int 0 0), (.int 0 0), (.int 3 0), (.ref 133), (.bool true), (.int 181 0), (.ref 134), .none, .none, .none, (.ref 135), (.int 2293 0), (.int 43 0), (.str (Str.ofString "/claim/cut.py") 2294)].toArray), [].toArray⟩
def oC_137 (P : Params) : Obj := ⟨(.type "function"), none, (fnD (stAt bd 12) (Str.ofString "_law_prepared") 3 (.str (Str.ofString "law_mr0250_01") 2259) (.ref 136) 0), [].toArray⟩
def oC_138 (P : Params) : Obj := ⟨(.type "tuple"), none, (.seq [].toArray 0), [].toArray⟩
def oC_139 (P : Params) : Obj := ⟨.none, none, (.fields [].toArray), [].toArray⟩
def oC_140 (P : Params) : Obj := ⟨(.type "tuple"), none, (.seq [(.str (Str.ofString "places") 2299), (.str (Str.ofString "rows") 2300), (.str (Str.ofString "keys") 2301), (.str (Str.ofString "order") 2302), (.str (Str.ofString "done") 2303), (.str (Str.ofString "place") 2304), (.str (Str.ofString "spot") 2305)].toArray 0), [].toArray⟩
def oC_141 (P : Params) : Obj := ⟨(.type "tuple"), none, (.seq [].toArray 0), [].toArray⟩
def oC_142 (P : Params) : Obj := ⟨.none, none, (fnD (stAt bd 13) (Str.ofString "_law_sorted") 0 .none .none 0), [].toArray⟩
def oC_143 (P : Params) : Obj := ⟨(.type "code"), none, (.fields [(.str (Str.ofString "_law_sorted") 2296), (.str (Str.ofString "_law_sorted") 2297), (.str (Str.ofString "/claim/cut.py") 2298), (.int 45 0), (.int 3 0), (.int 0 0), (.int 0 0), (.int 3 0), (.ref 138), (.bool true), (.int 181 0), (.ref 139), .none, (.ref 140), (.ref 141), (.ref 142), (.int 2306 0), (.int 45 0), (.str (Str.ofString "/claim/cut.py") 2307)].toArray), [].toArray⟩
def oC_144 (P : Params) : Obj := ⟨(.type "function"), none, (fnD (stAt bd 13) (Str.ofString "_law_sorted") 3 (.str (Str.ofString "law_mr0250_01") 2259) (.ref 143) 0), [].toArray⟩
def oC_145 (P : Params) : Obj := ⟨(.type "tuple"), none, (.seq [].toArray 0), [].toArray⟩
def oC_146 (P : Params) : Obj := ⟨.none, none, (.fields [].toArray), [].toArray⟩
def oC_147 (P : Params) : Obj := ⟨.none, none, (fnD (stAt bd 14) (Str.ofString "law") 0 .none .none 0), [].toArray⟩
def oC_148 (P : Params) : Obj := ⟨(.type "code"), none, (.fields [(.str (Str.ofString "law") 2309), (.str (Str.ofString "law") 2310), (.str (Str.ofString "/claim/cut.py") 2311), (.int 54 0), (.int 1 0), (.int 0 0), (.int 0 0), (.int 3 0), (.ref 145), (.bool true), (.int 181 0), (.ref 146), .none, .none, .none, (.ref 147), (.int 2312 0), (.int 54 0), (.str (Str.ofString "/claim/cut.py") 2313)].toArray), [].toArray⟩
def oC_149 (P : Params) : Obj := ⟨(.type "function"), none, (fnD (stAt bd 14) (Str.ofString "law") 3 (.str (Str.ofString "law_mr0250_01") 2259) (.ref 148) 0), [].toArray⟩
def b3P : List Pr := prsOf (dictKV (stAt bd 5)).1 (dictKV (stAt bd 5)).2
def chunk (i : Nat) : List Pr := (b3P.drop (17 * i)).take 17
def chunks : List (List Pr) := (List.range 37).map fun i => chunk (i + 1)
def last4 : List Pr := b3P.drop 646
def b3Main : Obj := dobj (ents3 300 (b3P.take 646) ++ ents2 2238 last4) 650
def b3Sub (i : Nat) : Obj := if i = 37 then dobj (ents2 2238 last4) 4 else dobj (ents3 (300 + 51 * (i + 1)) (chunk (i + 1))) 17
def b3Objs : List Obj := b3Main :: (List.range 38).map b3Sub
def objsC (P : Params) : List Obj := [boot_o_0 P, boot_o_1 P, boot_o_2 P, oC_3 P, boot_o_4 P, boot_o_5 P, boot_o_6 P, boot_o_7 P, boot_o_8 P, boot_o_9 P, boot_o_10 P, oa_11 P, oC_12 P, oa_13 P, oa_14 P, oA_15 P, oA_16 P, oA_17 P, oA_18 P, oA_19 P, oA_20 P, oA_21 P, oA_22 P, oA_23 P, oA_24 P, oA_25 P, oA_26 P, oA_27 P, oA_28 P, oA_29 P, oA_30 P, oA_31 P, oA_32 P, oA_33 P, oA_34 P, oA_35 P, oA_36 P, oA_37 P, oA_38 P, oA_39 P, oA_40 P, oA_41 P, oA_42 P, oA_43 P, oA_44 P, oA_45 P, oA_46 P, oA_47 P, oA_48 P, oA_49 P, oA_50 P, oA_51 P, oA_52 P, oA_53 P, oA_54 P, oA_55 P, oA_56 P, oA_57 P, oA_58 P, oA_59 P, oA_60 P, b3Main, b3Sub 0, b3Sub 1, b3Sub 2, b3Sub 3, b3Sub 4, b3Sub 5, b3Sub 6, b3Sub 7, b3Sub 8, b3Sub 9, b3Sub 10, b3Sub 11, b3Sub 12, b3Sub 13, b3Sub 14, b3Sub 15, b3Sub 16, b3Sub 17, b3Sub 18, b3Sub 19, b3Sub 20, b3Sub 21, b3Sub 22, b3Sub 23, b3Sub 24, b3Sub 25, b3Sub 26, b3Sub 27, b3Sub 28, b3Sub 29, b3Sub 30, b3Sub 31, b3Sub 32, b3Sub 33, b3Sub 34, b3Sub 35, b3Sub 36, b3Sub 37, oC_100 P, oC_101 P, oC_102 P, oC_103 P, oC_104 P, oC_105 P, oC_106 P, oC_107 P, oC_108 P, oC_109 P, oC_110 P, oC_111 P, oC_112 P, oC_113 P, oC_114 P, oC_115 P, oC_116 P, oC_117 P, oC_118 P, oC_119 P, oC_120 P, oC_121 P, oC_122 P, oC_123 P, oC_124 P, oC_125 P, oC_126 P, oC_127 P, oC_128 P, oC_129 P, oC_130 P, oC_131 P, oC_132 P, oC_133 P, oC_134 P, oC_135 P, oC_136 P, oC_137 P, oC_138 P, oC_139 P, oC_140 P, oC_141 P, oC_142 P, oC_143 P, oC_144 P, oC_145 P, oC_146 P, oC_147 P, oC_148 P, oC_149 P]
end
end Mine
end SHF1
section SHG1
open PySem PySem.W PyProof.Rows
set_option maxRecDepth 100000
namespace Mine
noncomputable section
abbrev stt (objs : Params → List Obj) (tk : Nat) (w : World) (os : OsState) : Shared := ⟨⟨(objs w.params).toArray, (boot_heap w.params).life⟩, Array.mk [], boot_drawn, tk, os⟩
abbrev ann0 : Option Value := some (.ref 6)
abbrev B0 : List Frame := [topFrame q0]
theorem h_pre : (fun (w : World) (os : OsState) => topGo treeTable pp w 11 ann0 12 ⟨boot_heap w.params, Array.mk [], boot_drawn, boot_toks, os⟩ (topStub pp)) =
    fun w os => some (stt objsa 187 w os, ⟨denote treeTable cd0, cd0, pos0, B0⟩) := by
  rw [PySem.W.Fast.te15667345088766844465, PySem.W.Fast.te11892475500146522536]
  kernel_rfl
theorem h_block : (fun (w : World) (os : OsState) => segRun treeTable pp w 11 ann0 1 1 (stt objsa 187 w os) (blockOf bd env0 cd0 pos0 B0)) = fun w os => some (.next, stt objsa 187 w os, cd0, pos0) := by kernel_rfl
theorem b3_len : b3P.length = 650 := by decide +kernel
theorem b3_split : b3P.take 17 ++ chunks.flatten ++ last4 = b3P := by kernel_rfl
theorem b3_keys : b3P.map (fun x => (some (.Constant (.int x.1.1) x.1.2.1 x.1.2.2) : Option Expr)) = (dictKV (stAt bd 5)).1 := by kernel_rfl
theorem b3_vals : b3P.map (fun x => (.Constant (.str x.2.1) x.2.2.1 x.2.2.2 : Expr)) = (dictKV (stAt bd 5)).2 := by kernel_rfl
def risingB : List Int → Bool
  | a :: b :: r => decide (a < b) && risingB (b :: r)
  | _ => true
theorem b3_rising : risingB (b3P.map (·.1.1)) = true := by decide +kernel
theorem b3_keyOk : (b3P.all fun x => decide (0 ≤ x.1.1) && decide (x.1.1 < 2 ^ 32)) = true := by decide +kernel
theorem b3_heap (P : Params) : pushAll ((⟨(objsA P).toArray, (boot_heap P).life⟩ : Heap).push (dobj (ents3 300 (b3P.take 17 ++ chunks.flatten) ++ ents2 (300 + 3 * (b3P.take 17 ++ chunks.flatten).length) last4) (b3P.take 17 ++ chunks.flatten ++ last4).length))
    (subsOf (300 + 3 * (b3P.take 17).length) chunks ++ [dobj (ents2 (300 + 3 * (b3P.take 17 ++ chunks.flatten).length) last4) last4.length]) = ⟨(objsA P ++ b3Objs).toArray, (boot_heap P).life⟩ := by kernel_rfl
end
end Mine
end SHG1
section SHH1
open PySem PySem.W PyProof.Rows
set_option maxRecDepth 100000
namespace Mine
noncomputable section
def PA (w : World) : Prop := (fun os => segRun treeTable pp w 11 ann0 1 1305 (stt objsa 187 w os) (piecesOf (bd.take 5) env0 cd0 pos0 B0)) = fun os => some (.next, stt objsA 300 w os, cd0, posA)
theorem h_A00 (w : World) : PA ((w.withFollow "special-get-raises" false).withFollow "set-order" false) := by
  unfold PA
  rw [PySem.W.Fast.te14374325043358763698, PySem.W.Fast.te14364793385576792824]
  kernel_rfl
theorem h_A01 (w : World) : PA ((w.withFollow "special-get-raises" true).withFollow "set-order" false) := by
  unfold PA
  rw [PySem.W.Fast.te14374325043358763698, PySem.W.Fast.te14364793385576792824]
  kernel_rfl
theorem h_A10 (w : World) : PA ((w.withFollow "special-get-raises" false).withFollow "set-order" true) := by
  unfold PA
  rw [PySem.W.Fast.te14374325043358763698, PySem.W.Fast.te14364793385576792824]
  kernel_rfl
theorem h_A11 (w : World) : PA ((w.withFollow "special-get-raises" true).withFollow "set-order" true) := by
  unfold PA
  rw [PySem.W.Fast.te14374325043358763698, PySem.W.Fast.te14364793385576792824]
  kernel_rfl
theorem h_A : ∀ w, PA w := byRow2 "set-order" (P := PA) (byRow2 "special-get-raises" (P := fun w => PA (w.withFollow "set-order" false)) h_A00 h_A01) (byRow2 "special-get-raises" (P := fun w => PA (w.withFollow "set-order" true)) h_A10 h_A11)
end
end Mine
end SHH1
section SHI1
open PySem PySem.W PyProof.Rows
set_option maxRecDepth 100000
namespace Mine
noncomputable section
theorem exec_assign_dict (id : Str) (tp : Pos) (ks : List (Option Expr)) (vs : List Expr) (dpos pos : Pos) (env : Env) : exec (.Assign [.Name id tp] (.Dict ks vs dpos) pos) env =
    ((standAt pos >>= fun _ => (standAt dpos >>= fun _ => dictDisplay ((evalEachOpt ks env).zip ((evalEach vs env).map fun v => do let x ← v; standAt dpos; pure x)))) >>= fun v =>
      assignStores env v none ((assignEach [.Name id tp] env).map (·.2))) := by rfl
theorem items_eq (env : Env) (dpos : Pos) : ∀ l : List Pr, (evalEachOpt (l.map (fun x => (some (.Constant (.int x.1.1) x.1.2.1 x.1.2.2) : Option Expr))) env).zip ((evalEach (l.map (fun x => (.Constant (.str x.2.1) x.2.2.1 x.2.2.2 : Expr))) env).map fun v => do let x ← v; standAt dpos; pure x) = l.map (itemOf env dpos)
  | [] => rfl
  | x :: r => by
    have ih := items_eq env dpos r
    simp only [List.map_cons, evalEachOpt, evalEach, evalOpt, List.zip_cons_cons, ih]
    rfl
theorem nodup_of_rising : ∀ l : List Int, risingB l = true → l.Nodup := by
  have key : ∀ (l : List Int) (a : Int), risingB (a :: l) = true → (∀ x ∈ l, a < x) ∧ l.Nodup := by
    intro l
    induction l with
    | nil => intro a _; exact ⟨fun x hx => absurd hx List.not_mem_nil, List.nodup_nil⟩
    | cons b r ih =>
      intro a h
      simp only [risingB, Bool.and_eq_true, decide_eq_true_eq] at h
      obtain ⟨h1, h2⟩ := ih b h.2
      refine ⟨fun x hx => ?_, List.nodup_cons.mpr ⟨fun hb => ?_, h2⟩⟩
      · rcases List.mem_cons.mp hx with rfl | hx
        · exact h.1
        · have := h1 x hx
          have := h.1
          omega
      · have := h1 b hb
        omega
  intro l h
  cases l with
  | nil => exact List.nodup_nil
  | cons a r =>
    obtain ⟨h1, h2⟩ := key r a h
    exact List.nodup_cons.mpr ⟨fun ha => by have := h1 a ha; omega, h2⟩
theorem chunk_len : ∀ c ∈ chunks, c.length = 17 := by
  intro c hc
  obtain ⟨i, hi, rfl⟩ := List.mem_map.mp hc
  have : i < 37 := List.mem_range.mp hi
  unfold chunk
  rw [List.length_take, List.length_drop, b3_len]
  omega
def tgt5 : List Expr := asgTo (stAt bd 5)
theorem st5_eq : stAt bd 5 = .Assign [.Name (Str.ofString "b3_exceptions") ⟨20, 0, 20, 13⟩] (.Dict (dictKV (stAt bd 5)).1 (dictKV (stAt bd 5)).2 (dictPos (stAt bd 5))) (asgPos (stAt bd 5)) := by kernel_rfl
theorem bd_split : bd = bd.take 5 ++ (stAt bd 5 :: bd.drop 6) := by kernel_rfl
def K5 (v : Value) : Sem Fin := (assignStores env0 v none ((assignEach [.Name (Str.ofString "b3_exceptions") ⟨20, 0, 20, 13⟩] env0).map (·.2))).wrap (fun f => match f with | .next => (execs (bd.drop 6) env0).wrap doneF (leaveH env0) id id | f => doneF f) (leaveH env0) id id
def objsB (P : Params) : List Obj := objsA P ++ b3Objs
theorem h_B (w : World) (os : OsState) (N : Nat) (r : Shared) (h : topRun treeTable pp w 11 ann0 N (stt objsB 2250 w os) ⟨K5 (.ref 61), cd0, dictPos (stAt bd 5), B0⟩ = some r) :
    topRun treeTable pp w 11 ann0 (12517 + N) (stt objsA 300 w os) (restOf (stAt bd 5 :: bd.drop 6) env0 cd0 posA B0) = some r := by
  unfold restOf
  rw [execs_cons_wrap]
  have e1 : exec (stAt bd 5) env0 = ((standAt (asgPos (stAt bd 5)) >>= fun _ => (standAt (dictPos (stAt bd 5)) >>= fun _ => dictDisplay (((b3P.take 17 ++ chunks.flatten) ++ last4).map (itemOf env0 (dictPos (stAt bd 5)))))) >>= fun v =>
      assignStores env0 v none ((assignEach [.Name (Str.ofString "b3_exceptions") ⟨20, 0, 20, 13⟩] env0).map (·.2))) := by
    rw [b3_split, ← items_eq, b3_keys, b3_vals]
    exact (congrArg (fun z => exec z env0) st5_eq).trans (exec_assign_dict _ _ _ _ _ _ _)
  rw [e1, Sem.bind_eq_wrap', Sem.wrap_wrap]
  have hall : ∀ x ∈ b3P, keyOk x := fun x hx => by
    have := List.all_eq_true.mp b3_keyOk x hx
    simp only [Bool.and_eq_true, decide_eq_true_eq] at this
    exact this
  have hlast : last4.length = 4 := by unfold last4; rw [List.length_drop, b3_len]
  have hfl : chunks.flatten.length = 629 := by
    have := congrArg List.length b3_split
    rw [List.length_append, List.length_append, hlast, List.length_take, b3_len] at this
    omega
  have h17 : (b3P.take 17).length = 17 := by rw [List.length_take, b3_len]; rfl
  have hc : chunks.length = 37 := by unfold chunks; rw [List.length_map, List.length_range]
  have hsz : (stt objsA 300 w os).heap.objs.size = 61 := rfl
  have hd := r1_display (p := pp) (w := w) (n₀ := 11) (ann := ann0) (b := bd) (env := env0) (B := B0) (s := stt objsA 300 w os) (q := dictPos (stAt bd 5)) (pos := dictPos (stAt bd 5)) (c := b3P.take 17) (cs := chunks) (last := last4)
    (by rw [hsz]; decide) (by rw [hsz]; decide) h17 chunk_len (by rw [hlast]; decide) (by intro e; rw [e] at hlast; cases hlast) (by rw [h17, hfl, hlast]; decide) (by rw [b3_split]; exact hall) (by rw [b3_split]; exact nodup_of_rising _ b3_rising)
  have he := r1_bind (p := pp) (w := w) (n₀ := 11) (ann := ann0) (B := B0) (q := posA) (r1_standAt (b := bd) (env := env0) (q' := asgPos (stAt bd 5))) (f := fun _ => (standAt (dictPos (stAt bd 5)) >>= fun _ => dictDisplay (((b3P.take 17 ++ chunks.flatten) ++ last4).map (itemOf env0 (dictPos (stAt bd 5)))))) (r1_bind r1_standAt hd)
  have hn : 12517 + N = (1 + (1 + (229 + 330 * chunks.length + 19 * last4.length))) + N := by rw [hc, hlast]
  rw [hn]
  refine he _ _ _ _ _ _ ?_
  have e2 : (stt objsA 300 w os).toks + 3 * (b3P.take 17 ++ chunks.flatten ++ last4).length = 2250 := by
    rw [b3_split, b3_len]
  rw [e2]
  have e3 := b3_heap w.params
  show topRun treeTable pp w 11 ann0 N ⟨pushAll ((⟨(objsA w.params).toArray, (boot_heap w.params).life⟩ : Heap).push (dobj (ents3 300 (b3P.take 17 ++ chunks.flatten) ++ ents2 (300 + 3 * (b3P.take 17 ++ chunks.flatten).length) last4) (b3P.take 17 ++ chunks.flatten ++ last4).length))
    (subsOf (300 + 3 * (b3P.take 17).length) chunks ++ [dobj (ents2 (300 + 3 * (b3P.take 17 ++ chunks.flatten).length) last4) last4.length]), _, _, _, _⟩ _ = _
  rw [e3]
  exact h
end
end Mine
end SHI1
section SHJ1
open PySem PySem.W PyProof.Rows
set_option maxRecDepth 100000
namespace Mine
noncomputable section
theorem h_C : (fun (w : World) (os : OsState) => topRun treeTable pp w 11 ann0 350 (stt objsB 2250 w os) ⟨K5 (.ref 61), cd0, dictPos (stAt bd 5), B0⟩) = fun w os => some (stt objsC 2315 w os) := by
  unfold K5
  rw [PySem.W.Fast.te14082659384304107361, PySem.W.Fast.te14364793385576792824]
  kernel_rfl
end
end Mine
end SHJ1
section SHK1
open PySem PySem.W PyProof.Rows
set_option maxRecDepth 100000
namespace Mine
noncomputable section
def qq : Program := view pp [1, 3, 4, 5, 6, 8, 9, 10, 11, 12, 13, 14]
def lse : List Str := [Str.ofString "b1_set", Str.ofString "b3_exceptions"]
abbrev Xt0 : Shared → Bool := fun _ => true
def Yf0 (s : Shared) : List (Option Obj) := (List.range 150).map s.heap.get?
def Ya0 (w : World) : List (Option Obj) := (objsC w.params).map some
theorem l_size (w : World) : ((boot_heap w.params).isNs mainGlobals && (Array.mk [] : Array GenState).size == 0, (boot_heap w.params).objs.size, (boot_heap w.params).nsMap mainGlobals "__annotations__") = (true, 11, ann0) := by kernel_rfl
theorem l_1 (w : World) : (fun os => (staticsOk (importedModules pp.main.body) (boot_heap w.params) (stt objsC 2315 w os).heap && namesBound pp (stt objsC 2315 w os).heap && gensDone (stt objsC 2315 w os) && laidKept (boot_heap w.params) (stt objsC 2315 w os).heap)) = fun _ => true := by kernel_rfl
theorem l_3 (w : World) : (fun os => Yf0 (stt objsC 2315 w os)) = fun _ => Ya0 w := by kernel_rfl
theorem l_2 (w : World) : (fun os => openSeen qq lse (importedModules pp.main.body) Xt0 true (stt objsC 2315 w os)) = fun _ => openGood qq lse := by
  rw [PySem.W.Fast.te4187177175401517315]
  kernel_rfl
end
end Mine
end SHK1
section SHM1
open PySem PySem.W PyProof.Rows
set_option maxRecDepth 100000
namespace Mine
noncomputable section
theorem open_plain : opening pp = plainProg pp.main.scope.names := by kernel_rfl
theorem fence_plain : ∀ s, fenceModules? pp s = some s := fun s => by kernel_rfl
theorem h_run (w : World) (os : OsState) : topRun treeTable pp w 11 ann0 14185 ⟨boot_heap w.params, Array.mk [], boot_drawn, boot_toks, os⟩ (topStub pp) = some (stt objsC 2315 w os) := by
  have hC := congrFun (congrFun h_C w) os
  have hB := h_B w os 350 _ hC
  have hA := piece_app (rest := stAt bd 5 :: bd.drop 6) (congrFun (h_A w) os) hB
  rw [← bd_split] at hA
  have hb := piece_block (congrFun (congrFun h_block w) os) hA
  exact go_top (congrFun (congrFun h_pre w) os) hb
theorem left1 : LeftO pp qq lse Xt0 Yf0 Ya0 20000 :=
  LeftO.of_pieces (H₀ := boot_heap) (H₁ := fun P => ⟨(objsC P).toArray, (boot_heap P).life⟩) (gs₀ := Array.mk []) (gs₁ := Array.mk []) (d₀ := boot_drawn) (d₁ := boot_drawn) (k₀ := boot_toks) (k₁ := 2315) (m₀ := 11) (ann := ann0) (M := 14185)
    (boot_open open_plain rfl fence_plain) l_size h_run rfl
    (fun w => funext fun os => by
      have a := congrFun (l_1 w) os
      have b := congrFun (l_2 w) os
      have c := congrFun (l_3 w) os
      exact Prod.ext a (Prod.ext b c))
def says1 (w : World) (h : Heap) : Prop := ∀ i o, (objsC w.params)[i]? = some o → h.get? i = some o
theorem says_of (w : World) (s : Shared) (e : Yf0 s = Ya0 w) : says1 w s.heap := by
  intro i o hi
  have h1 : (Yf0 s)[i]? = (Ya0 w)[i]? := by rw [e]
  unfold Yf0 Ya0 at h1
  rw [List.getElem?_map, List.getElem?_map, hi] at h1
  have hlt : i < 150 := by
    have := (List.getElem?_eq_some_iff.mp hi).1
    exact this
  rw [List.getElem?_range hlt] at h1
  simpa using h1
theorem says_keeps (w : World) (h h' : Heap) (y : says1 w h) (k : ∀ b o, h.get? b = some o → h'.get? b = some o) : says1 w h' := fun i o hi => k _ _ (y i o hi)
end
end Mine
end SHM1
section SWA
open PySem PySem.W PyProof.Rows
namespace Mine
abbrev AS := Addr → Prop
def PTup (h : Heap) (a : Addr) (items : Array Value) : Prop := ∃ n, h.get? a = some { cls := .type "tuple", data := .seq items n }
theorem PTup.isTuple {h : Heap} {a : Addr} {items : Array Value} (x : PTup h a items) : h.IsTuple a items := let ⟨n, e⟩ := x; ⟨_, e, rfl, n, rfl⟩
mutual
def Rp (X : AS) (h : Heap) : PyData → Value → Prop
  | .none, v => v = .none
  | .bool b, v => v = .bool b
  | .int i, v => ∃ t, v = .int i t
  | .str x, v => ∃ t, v = .str x t
  | .list xs, v => ∃ a vs, v = .ref a ∧ ¬ X a ∧ h.PlainList a vs.toArray ∧ Rps X h xs vs
  | .tuple xs, v => ∃ a vs, v = .ref a ∧ ¬ X a ∧ PTup h a vs.toArray ∧ Rps X h xs vs
  | .dict _, _ => False
def Rps (X : AS) (h : Heap) : List PyData → List Value → Prop
  | [], vs => vs = []
  | d :: r, vs => ∃ v vr, vs = v :: vr ∧ Rp X h d v ∧ Rps X h r vr
end
mutual
theorem Rp.keep {X X' : AS} {h h' : Heap} (hk : ∀ b o, ¬ X b → h.get? b = some o → h'.get? b = some o ∧ ¬ X' b) : ∀ {d : PyData} {v : Value}, Rp X h d v → Rp X' h' d v
  | .none, v, r => by simp only [Rp] at r ⊢; exact r
  | .bool b, v, r => by simp only [Rp] at r ⊢; exact r
  | .int b, v, r => by simp only [Rp] at r ⊢; exact r
  | .str b, v, r => by simp only [Rp] at r ⊢; exact r
  | .list xs, v, r => by
    simp only [Rp] at r ⊢
    obtain ⟨a, vs, e, hx, ⟨n, ho⟩, hr⟩ := r
    exact ⟨a, vs, e, (hk a _ hx ho).2, ⟨n, (hk a _ hx ho).1⟩, Rps.keep hk hr⟩
  | .tuple xs, v, r => by
    simp only [Rp] at r ⊢
    obtain ⟨a, vs, e, hx, ⟨n, ho⟩, hr⟩ := r
    exact ⟨a, vs, e, (hk a _ hx ho).2, ⟨n, (hk a _ hx ho).1⟩, Rps.keep hk hr⟩
  | .dict _, v, r => by simp only [Rp] at r
theorem Rps.keep {X X' : AS} {h h' : Heap} (hk : ∀ b o, ¬ X b → h.get? b = some o → h'.get? b = some o ∧ ¬ X' b) : ∀ {d : List PyData} {v : List Value}, Rps X h d v → Rps X' h' d v
  | [], v, r => by simp only [Rps] at r ⊢; exact r
  | d :: ds, v, r => by
    simp only [Rps] at r ⊢
    obtain ⟨v, vr, e, h1, h2⟩ := r
    exact ⟨v, vr, e, Rp.keep hk h1, Rps.keep hk h2⟩
end
mutual
theorem Rp.reads {X : AS} {h : Heap} : ∀ {d : PyData} {v : Value}, Rp X h d v → ∃ as, Reads h v d as
  | .none, v, r => by simp only [Rp] at r; subst r; exact ⟨_, .none⟩
  | .bool b, v, r => by simp only [Rp] at r; subst r; exact ⟨_, .bool b⟩
  | .int b, v, r => by simp only [Rp] at r; obtain ⟨t, rfl⟩ := r; exact ⟨_, .int b t⟩
  | .str b, v, r => by simp only [Rp] at r; obtain ⟨t, rfl⟩ := r; exact ⟨_, .str b t⟩
  | .list xs, v, r => by
    simp only [Rp] at r
    obtain ⟨a, vs, rfl, hx, ⟨n, ho⟩, hr⟩ := r
    obtain ⟨as, h1⟩ := Rps.reads hr
    exact ⟨_, .list ho rfl rfl (by simpa using h1)⟩
  | .tuple xs, v, r => by
    simp only [Rp] at r
    obtain ⟨a, vs, rfl, hx, ⟨n, ho⟩, hr⟩ := r
    obtain ⟨as, h1⟩ := Rps.reads hr
    exact ⟨_, .tuple ho rfl rfl (by simpa using h1)⟩
  | .dict _, v, r => by simp only [Rp] at r
theorem Rps.reads {X : AS} {h : Heap} : ∀ {d : List PyData} {v : List Value}, Rps X h d v → ∃ as, ReadsAll h v d as
  | [], v, r => by simp only [Rps] at r; subst r; exact ⟨_, .nil⟩
  | d :: ds, v, r => by
    simp only [Rps] at r
    obtain ⟨v, vr, rfl, h1, h2⟩ := r
    obtain ⟨as, h1⟩ := Rp.reads h1
    obtain ⟨bs, h2⟩ := Rps.reads h2
    exact ⟨_, .cons h1 h2⟩
end
theorem Rps.length {X : AS} {h : Heap} : ∀ {ds : List PyData} {vs : List Value}, Rps X h ds vs → vs.length = ds.length
  | [], v, r => by simp only [Rps] at r; subst r; rfl
  | d :: ds, v, r => by
    simp only [Rps] at r
    obtain ⟨v, vr, rfl, h1, h2⟩ := r
    simp only [List.length_cons, Rps.length h2]
theorem Rps.get {X : AS} {h : Heap} : ∀ {ds : List PyData} {vs : List Value}, Rps X h ds vs → ∀ {i : Nat} {d : PyData}, ds[i]? = some d → ∃ v, vs[i]? = some v ∧ Rp X h d v
  | [], v, r, i, d, e => by simp at e
  | d :: ds, v, r, i, d', e => by
    simp only [Rps] at r
    obtain ⟨v, vr, rfl, h1, h2⟩ := r
    cases i with
    | zero => simp only [List.getElem?_cons_zero, Option.some.injEq] at e ⊢; subst e; exact ⟨v, rfl, h1⟩
    | succ i => simp only [List.getElem?_cons_succ] at e ⊢; exact Rps.get h2 e
theorem Rps.get' {X : AS} {h : Heap} {ds : List PyData} {vs : List Value} (r : Rps X h ds vs) {i : Nat} {v : Value} (e : vs[i]? = some v) : ∃ d, ds[i]? = some d ∧ Rp X h d v := by
  have hi := (List.getElem?_eq_some_iff.mp e).1
  rw [r.length] at hi
  obtain ⟨v', e', h'⟩ := r.get (List.getElem?_eq_getElem hi)
  rw [e] at e'; cases e'
  exact ⟨_, List.getElem?_eq_getElem hi, h'⟩
theorem Rps.append {X : AS} {h : Heap} : ∀ {ds es : List PyData} {vs us : List Value}, Rps X h ds vs → Rps X h es us → Rps X h (ds ++ es) (vs ++ us)
  | [], es, v, us, r, q => by simp only [Rps] at r; subst r; exact q
  | d :: ds, es, v, us, r, q => by
    simp only [Rps] at r
    obtain ⟨v, vr, rfl, h1, h2⟩ := r
    exact ⟨v, vr ++ us, rfl, h1, h2.append q⟩
theorem Rps.of_get {X : AS} {h : Heap} : ∀ {ds : List PyData} {vs : List Value}, vs.length = ds.length → (∀ (i : Nat) (d : PyData) (v : Value), ds[i]? = some d → vs[i]? = some v → Rp X h d v) → Rps X h ds vs
  | [], vs, hl, _ => by simp only [Rps]; exact List.length_eq_zero_iff.mp hl
  | d :: ds, [], hl, _ => by cases hl
  | d :: ds, v :: vs, hl, hg => by
    simp only [Rps]
    exact ⟨v, vs, rfl, hg 0 d v rfl rfl, Rps.of_get (by simpa using hl) fun i d' v' e1 e2 => hg (i + 1) d' v' e1 e2⟩
theorem Rps.take {X : AS} {h : Heap} {ds : List PyData} {vs : List Value} (r : Rps X h ds vs) (n : Nat) : Rps X h (ds.take n) (vs.take n) := by
  refine Rps.of_get (by simp [r.length]) fun i d v e1 e2 => ?_
  rw [List.getElem?_take] at e1 e2
  split at e1
  · rename_i hi
    rw [if_pos hi] at e2
    obtain ⟨v', e', h'⟩ := r.get e1
    rw [e2] at e'; cases e'; exact h'
  · cases e1
theorem Rps.drop {X : AS} {h : Heap} {ds : List PyData} {vs : List Value} (r : Rps X h ds vs) (n : Nat) : Rps X h (ds.drop n) (vs.drop n) := by
  refine Rps.of_get (by simp [r.length]) fun i d v e1 e2 => ?_
  rw [List.getElem?_drop] at e1 e2
  obtain ⟨v', e', h'⟩ := r.get e1
  rw [e2] at e'; cases e'; exact h'
theorem Rps.reverse {X : AS} {h : Heap} {ds : List PyData} {vs : List Value} (r : Rps X h ds vs) : Rps X h ds.reverse vs.reverse := by
  refine Rps.of_get (by simp [r.length]) fun i d v e1 e2 => ?_
  have hi : i < ds.length := by simpa using (List.getElem?_eq_some_iff.mp e1).1
  rw [List.getElem?_reverse hi] at e1
  rw [List.getElem?_reverse (by rw [r.length]; exact hi), r.length] at e2
  obtain ⟨v', e', h'⟩ := r.get e1
  rw [e2] at e'; cases e'; exact h'
structure AOk (k : Nat) (A : Around) : Prop where
  h : A.handled = none
  d : A.depth + k ≤ 600
  u : A.units + 8 * k ≤ 4000
theorem AOk.mono {k j : Nat} {A : Around} (a : AOk k A) (hj : j ≤ k) : AOk j A := ⟨a.h, by have := a.d; omega, by have := a.u; omega⟩
theorem AOk.deeper {k : Nat} {A : Around} (a : AOk (k + 1) A) (env : Env) : AOk k (A.deeper env) := ⟨a.h, by have := a.d; show A.depth + 1 + k ≤ 600; omega, by have := a.u; show A.units + 3 + 8 * k ≤ 4000; omega⟩
theorem AOk.in1 {k : Nat} {A : Around} (a : AOk (k + 1) A) : AOk k A.in1 := ⟨a.h, by have := a.d; show A.depth + k ≤ 600; omega, by have := a.u; show A.units + 1 + 8 * k ≤ 4000; omega⟩
theorem AOk.caller : AOk 20 callerA := ⟨rfl, by decide, by decide⟩
theorem kp_refl (s : Shared) : Keeps s s := ⟨s.heap, s.toks, rfl, fun _ _ e => e⟩
theorem kp_trans {s s' s'' : Shared} (a : Keeps s s') (b : Keeps s' s'') : Keeps s s'' := by
  obtain ⟨h, t, rfl, k⟩ := a
  obtain ⟨h', t', rfl, k'⟩ := b
  exact ⟨h', t', rfl, fun x o e => k' x o (k x o e)⟩
theorem kp_tok (s : Shared) (t : Nat) : Keeps s { s with toks := t } := ⟨s.heap, t, rfl, fun _ _ e => e⟩
theorem kp_get {s s' : Shared} (a : Keeps s s') {b : Addr} {o : Obj} (e : s.heap.get? b = some o) : s'.heap.get? b = some o := by
  obtain ⟨h, t, rfl, k⟩ := a; exact k b o e
theorem kp_push (s : Shared) (o : Obj) : Keeps s { s with heap := s.heap.push o } := ⟨_, s.toks, rfl, fun _ _ e => Heap.get?_push_of_some _ e⟩
def Live (X : AS) (h : Heap) : Prop := ∀ a, X a → ∃ o, h.get? a = some o
theorem Live.keeps {X : AS} {s s' : Shared} (l : Live X s.heap) (k : Keeps s s') : Live X s'.heap := fun a ha => let ⟨o, e⟩ := l a ha; ⟨o, kp_get k e⟩
theorem Live.fresh {X : AS} {h : Heap} (l : Live X h) {a : Addr} (e : h.get? a = none) : ¬ X a := fun ha => by
  obtain ⟨o, e'⟩ := l a ha; rw [e] at e'; cases e'
theorem get_size_none (h : Heap) : h.get? h.objs.size = none := by
  cases e : h.get? h.objs.size with
  | none => rfl
  | some o => exact absurd (Heap.lt_size e) (Nat.lt_irrefl _)
theorem Rp.keeps {X : AS} {s s' : Shared} (k : Keeps s s') {d : PyData} {v : Value} (r : Rp X s.heap d v) : Rp X s'.heap d v := Rp.keep (fun _ _ hx e => ⟨kp_get k e, hx⟩) r
theorem Rps.keeps {X : AS} {s s' : Shared} (k : Keeps s s') {d : List PyData} {v : List Value} (r : Rps X s.heap d v) : Rps X s'.heap d v := Rps.keep (fun _ _ hx e => ⟨kp_get k e, hx⟩) r
theorem Rp.newList {X : AS} {s : Shared} (l : Live X s.heap) {ds : List PyData} {vs : List Value} (r : Rps X s.heap ds vs) :
    Rp X (s.heap.push { cls := .type "list", data := .seq vs.toArray }) (.list ds) (.ref s.heap.objs.size) := by
  simp only [Rp]
  exact ⟨_, vs, rfl, l.fresh (get_size_none _), ⟨_, Heap.get?_push_size _ rfl⟩, Rps.keeps (kp_push s _) r⟩
theorem Rp.newTuple {X : AS} {s : Shared} (l : Live X s.heap) {ds : List PyData} {vs : List Value} (r : Rps X s.heap ds vs) :
    Rp X (s.heap.push { cls := .type "tuple", data := .seq vs.toArray }) (.tuple ds) (.ref s.heap.objs.size) := by
  simp only [Rp]
  exact ⟨_, vs, rfl, l.fresh (get_size_none _), ⟨_, Heap.get?_push_size _ rfl⟩, Rps.keeps (kp_push s _) r⟩
end Mine
end SWA
section SWB
open PySem PySem.W PyProof.Rows
namespace Mine
abbrev Gv (X : AS) (s : Shared) (d : PyData) : Value → Shared → Prop := fun v s' => Rp X s'.heap d v ∧ Keeps s s'
def binD : Operator → PyData → PyData → Option PyData
  | .Add, .int a, .int b => some (.int (a + b))
  | .Sub, .int a, .int b => some (.int (a - b))
  | .Mult, .int a, .int b => if a.natAbs < 2 ^ 60 then some (.int (a * b)) else none
  | .Mod, .int a, .int b => if b = 0 then none else some (.int (a.fmod b))
  | .FloorDiv, .int a, .int b => if b ≠ 0 ∧ b.natAbs < 1073741824 then some (.int (a.fdiv b)) else none
  | .Pow, .int a, .int b => if 0 ≤ b ∧ b ≤ 1000 ∧ a.natAbs < 2 ^ 60 then some (.int (a ^ b.toNat)) else none
  | .Add, .str x, .str y => if x.length + y.length ≤ 1000000 then some (.str (x ++ y)) else none
  | .Add, .list xs, .list ys => if xs.length + ys.length ≤ 1000000 then some (.list (xs ++ ys)) else none
  | _, _, _ => none
section
variable {prog : Program} {w : World} {A : Around} {E : Value → Shared → Prop} {s : Shared} {X : AS}
theorem rp_int {h : Heap} {i : Int} {t : Tok} : Rp X h (.int i) (.int i t) := by simp only [Rp]; exact ⟨t, rfl⟩
theorem rp_str {h : Heap} {i : Str} {t : Tok} : Rp X h (.str i) (.str i t) := by simp only [Rp]; exact ⟨t, rfl⟩
theorem rp_bool {h : Heap} {i : Bool} : Rp X h (.bool i) (.bool i) := by simp only [Rp]
theorem gv_int {i : Int} {t tk : Tok} : Gv X s (.int i) (.int i t) { s with toks := tk } := ⟨rp_int, kp_tok _ _⟩
theorem sizeLine_big : sizeLine = 16777216 := by rfl
theorem bits_small {a : Int} (h : a.natAbs < 2 ^ 60) : Builtin.Int.intBits a ≤ 64 := by
  unfold Builtin.Int.intBits
  split
  · omega
  · rename_i h0
    have h1 : a.natAbs ≠ 0 := by
      intro e
      have : a = 0 := by omega
      subst this
      exact h0 rfl
    have := (Nat.log2_lt h1).mpr h
    omega
theorem bin_ok {op : Operator} {d1 d2 d : PyData} {v1 v2 : Value} (hd : binD op d1 d2 = some d) (r1 : Rp X s.heap d1 v1) (r2 : Rp X s.heap d2 v2) (hl : Live X s.heap) :
    wpAny (model prog w) A (binaryOp op v1 v2) (Gv X s d) E s := by
  unfold binD at hd
  split at hd
  · simp only [Rp] at r1 r2; obtain ⟨t, rfl⟩ := r1; obtain ⟨u, rfl⟩ := r2
    cases hd; exact PyProof.Rows.add_int gv_int
  · simp only [Rp] at r1 r2; obtain ⟨t, rfl⟩ := r1; obtain ⟨u, rfl⟩ := r2
    cases hd; exact PyProof.Rows.sub_int gv_int
  · simp only [Rp] at r1 r2; obtain ⟨t, rfl⟩ := r1; obtain ⟨u, rfl⟩ := r2
    split at hd
    · rename_i h; cases hd; exact PyProof.Rows.mul_int gv_int (IntMulOk.of_left (bits_small h))
    · cases hd
  · simp only [Rp] at r1 r2; obtain ⟨t, rfl⟩ := r1; obtain ⟨u, rfl⟩ := r2
    split at hd
    · cases hd
    · rename_i h; cases hd; exact PyProof.Rows.mod_int h gv_int
  · simp only [Rp] at r1 r2; obtain ⟨t, rfl⟩ := r1; obtain ⟨u, rfl⟩ := r2
    split at hd
    · rename_i h; cases hd; exact PyProof.Rows.floordiv_int h.1 gv_int (Or.inl (PyProof.noPylong_small h.2))
    · cases hd
  · simp only [Rp] at r1 r2; obtain ⟨t, rfl⟩ := r1; obtain ⟨u, rfl⟩ := r2
    split at hd
    · rename_i h; cases hd
      exact PyProof.Rows.pow_int_small h.1 (by omega) (by have := h.2.2; omega) gv_int
    · cases hd
  · simp only [Rp] at r1 r2; obtain ⟨t, rfl⟩ := r1; obtain ⟨u, rfl⟩ := r2
    split at hd
    · rename_i h; cases hd
      exact PyProof.Rows.add_str (fun t' tk => ⟨rp_str, kp_tok _ _⟩) (by rw [sizeLine_big]; omega)
    · cases hd
  · simp only [Rp] at r1 r2
    obtain ⟨a, vs, rfl, _, ⟨n, ho⟩, hr⟩ := r1
    obtain ⟨a', vs', rfl, _, ⟨n', ho'⟩, hr'⟩ := r2
    split at hd
    · rename_i h; cases hd
      refine PySem.P.add_list ho ho' ?_ ?_
      · have e : vs.toArray ++ vs'.toArray = (vs ++ vs').toArray := by simp
        rw [e]
        exact ⟨Rp.newList hl (hr.append hr'), kp_push _ _⟩
      · rw [sizeLine_big, List.size_toArray, List.size_toArray, hr.length, hr'.length]; omega
    · cases hd
  · cases hd
end
end Mine
end SWB
section SWC
open PySem PySem.W PyProof.Rows
namespace Mine
def ltS (x y : Str) : Bool := decide (x.cps.toList < y.cps.toList)
def cmpD : CmpOp → PyData → PyData → Option Bool
  | .Eq, a, b => if a.canLay0 && b.canLay0 && decide (a.depth ≤ 8) then some (PyData.eqv a b) else none
  | .NotEq, a, b => if a.canLay0 && b.canLay0 && decide (a.depth ≤ 8) then some (!PyData.eqv a b) else none
  | .Lt, .int a, .int b => some (decide (a < b))
  | .LtE, .int a, .int b => some (decide (a ≤ b))
  | .Gt, .int a, .int b => some (decide (b < a))
  | .Lt, .str a, .str b => some (ltS a b)
  | .Gt, .str a, .str b => some (ltS b a)
  | .IsNot, .none, .none => some false
  | .IsNot, .int _, .none => some true
  | .IsNot, .str _, .none => some true
  | _, _, _ => none
def idxD : PyData → PyData → Option PyData
  | .list xs, .int i => if -(2 ^ 62) ≤ i ∧ i < 2 ^ 62 then (seqIndex? i xs.length).bind (xs[·]?) else none
  | .tuple xs, .int i => if -(2 ^ 62) ≤ i ∧ i < 2 ^ 62 then (seqIndex? i xs.length).bind (xs[·]?) else none
  | .str x, .int i => if -(2 ^ 62) ≤ i ∧ i < 2 ^ 62 then ((seqIndex? i x.length).bind (x.cps[·]?)).map fun c => .str ⟨#[c]⟩ else none
  | _, _ => none
def sliceL {α : Type} (xs : List α) (lo hi st : Option Int) : List α :=
  (sliceRange (sliceBounds lo hi st xs.length).1 (sliceBounds lo hi st xs.length).2.1 (sliceBounds lo hi st xs.length).2.2).filterMap (xs[·]?)
section
variable {prog : Program} {w : World} {A : Around} {E : Value → Shared → Prop} {s : Shared} {X : AS}
theorem cmp_ok {k : Nat} (hA : AOk k A) {op : CmpOp} {d1 d2 : PyData} {b : Bool} {v1 v2 : Value} (hd : cmpD op d1 d2 = some b) (r1 : Rp X s.heap d1 v1) (r2 : Rp X s.heap d2 v2) :
    wpAny (model prog w) A (compareOp op v1 v2) (fun v s' => v = .bool b ∧ s' = s) E s := by
  have hu : A.units ≤ 4000 := by have := hA.u; omega
  have hc : cLine = 9900 := rfl
  unfold cmpD at hd
  split at hd
  · split at hd
    · rename_i h
      simp only [Bool.and_eq_true, decide_eq_true_eq] at h
      cases hd
      obtain ⟨as, q1⟩ := r1.reads
      obtain ⟨bs, q2⟩ := r2.reads
      exact PySem.SeqAt.compareEq_reads q1 q2 h.1.1 h.1.2 (by omega) ⟨rfl, rfl⟩
    · cases hd
  · split at hd
    · rename_i h
      simp only [Bool.and_eq_true, decide_eq_true_eq] at h
      cases hd
      obtain ⟨as, q1⟩ := r1.reads
      obtain ⟨bs, q2⟩ := r2.reads
      exact PySem.SeqAt.compareNe_reads q1 q2 h.1.1 h.1.2 (by omega) ⟨rfl, rfl⟩
    · cases hd
  · simp only [Rp] at r1 r2; obtain ⟨t, rfl⟩ := r1; obtain ⟨u, rfl⟩ := r2
    cases hd; exact PyProof.Rows.lt_int ⟨rfl, rfl⟩
  · simp only [Rp] at r1 r2; obtain ⟨t, rfl⟩ := r1; obtain ⟨u, rfl⟩ := r2
    cases hd; exact PyProof.Rows.le_int ⟨rfl, rfl⟩
  · simp only [Rp] at r1 r2; obtain ⟨t, rfl⟩ := r1; obtain ⟨u, rfl⟩ := r2
    cases hd; exact PyProof.Rows.gt_int ⟨rfl, rfl⟩
  · simp only [Rp] at r1 r2; obtain ⟨t, rfl⟩ := r1; obtain ⟨u, rfl⟩ := r2
    cases hd; exact PyProof.Rows.lt_str ⟨rfl, rfl⟩
  · simp only [Rp] at r1 r2; obtain ⟨t, rfl⟩ := r1; obtain ⟨u, rfl⟩ := r2
    cases hd; exact PySem.P.gt_str ⟨rfl, rfl⟩
  · simp only [Rp] at r1 r2; subst r1 r2
    cases hd; exact PySem.isNot_none ⟨rfl, rfl⟩
  · simp only [Rp] at r1 r2; obtain ⟨t, rfl⟩ := r1; subst r2
    cases hd; exact PySem.isNot_none ⟨rfl, rfl⟩
  · simp only [Rp] at r1 r2; obtain ⟨t, rfl⟩ := r1; subst r2
    cases hd; exact PySem.isNot_none ⟨rfl, rfl⟩
  · cases hd
theorem neg_ok {i : Int} {v : Value} (r : Rp X s.heap (.int i) v) : wpAny (model prog w) A (unaryOp .USub v) (Gv X s (.int (-i))) E s := by
  simp only [Rp] at r; obtain ⟨t, rfl⟩ := r
  exact PyProof.Rows.neg_int gv_int
theorem subs_ops (slice : Expr) (o i : Value) : ∃ ops, subscripted slice false o i = operate ops (getItem o i) := by
  unfold subscripted
  split
  · exact ⟨_, rfl⟩
  · cases ‹false = true›
  · exact ⟨_, rfl⟩
theorem getItem_ok {d i r : PyData} {v iv : Value} (hd : idxD d i = some r) (r1 : Rp X s.heap d v) (r2 : Rp X s.heap i iv) :
    wpAny (model prog w) A (getItem v iv) (Gv X s r) E s := by
  unfold idxD at hd
  split at hd
  · rename_i xs i
    split at hd
    · rename_i hi
      simp only [Rp] at r1 r2
      obtain ⟨a, vs, rfl, _, hl, hr⟩ := r1
      obtain ⟨t, rfl⟩ := r2
      obtain ⟨j, hj, hx⟩ := Option.bind_eq_some_iff.mp hd
      obtain ⟨y, hy, hry⟩ := hr.get hx
      have hlen := hr.length
      unfold seqIndex? at hj
      by_cases h0 : i < 0
      · rw [if_pos h0] at hj
        dsimp only at hj
        split at hj
        · rename_i hb
          simp only [Bool.and_eq_true, decide_eq_true_eq] at hb
          cases hj
          exact wpAny_getItem_list_neg hl.isList h0 (by simp only [List.size_toArray]; omega) (by omega) (by simp only [List.size_toArray, hlen]; simpa using hy) ⟨hry, kp_refl _⟩
        · cases hj
      · rw [if_neg h0] at hj
        dsimp only at hj
        split at hj
        · rename_i hb
          simp only [Bool.and_eq_true, decide_eq_true_eq] at hb
          cases hj
          exact wpAny_getItem_list hl.isList (by omega) (by omega) (by simpa using hy) ⟨hry, kp_refl _⟩
        · cases hj
    · cases hd
  · rename_i xs i
    split at hd
    · rename_i hi
      simp only [Rp] at r1 r2
      obtain ⟨a, vs, rfl, _, ⟨n, hl⟩, hr⟩ := r1
      obtain ⟨t, rfl⟩ := r2
      obtain ⟨j, hj, hx⟩ := Option.bind_eq_some_iff.mp hd
      obtain ⟨y, hy, hry⟩ := hr.get hx
      refine PySem.P.getItem_tuple hl (by omega) (by omega) (k := j) ?_ (by simpa using hy) ⟨hry, kp_refl _⟩
      simpa [hr.length] using hj
    · cases hd
  · rename_i x i
    split at hd
    · rename_i hi
      simp only [Rp] at r1 r2
      obtain ⟨u, rfl⟩ := r1
      obtain ⟨t, rfl⟩ := r2
      obtain ⟨c, hc, rfl⟩ := Option.map_eq_some_iff.mp hd
      exact PySem.P.getItem_str (by simp only [Bool.or_eq_false_iff, decide_eq_false_iff_not]; omega) hc ⟨rp_str, kp_tok _ _⟩
    · cases hd
  · cases hd
theorem Rps.slice {h : Heap} {ds : List PyData} {vs : List Value} (r : Rps X h ds vs) (lo hi st : Option Int) : Rps X h (sliceL ds lo hi st) (slicePick vs.toArray lo hi st).toList := by
  have e : (slicePick vs.toArray lo hi st).toList = sliceL vs lo hi st := by
    unfold slicePick sliceL
    simp
  rw [e]
  unfold sliceL
  rw [r.length]
  generalize sliceRange _ _ _ = idx
  induction idx with
  | nil => simp [Rps]
  | cons i rest ih =>
    rw [List.filterMap_cons, List.filterMap_cons]
    cases hd : ds[i]? with
    | none =>
      have : vs[i]? = none := by
        rw [List.getElem?_eq_none_iff] at hd ⊢
        rw [r.length]; exact hd
      rw [this]; exact ih
    | some d =>
      obtain ⟨v, hv, hr⟩ := r.get hd
      rw [hv]
      simp only [Rps]
      exact ⟨v, _, rfl, hr, ih⟩
def PartIs (h : Heap) (v : Value) : Option Int → Prop
  | none => v = .none
  | some i => ∃ t, v = .int i t
theorem PartIs.part {h : Heap} {v : Value} : ∀ {p : Option Int}, PartIs h v p → IsPart v p
  | none, e => by cases e; exact .none
  | some i, ⟨t, e⟩ => by cases e; exact .int i t
theorem slice_ok {ds : List PyData} {l sl : Addr} {vs : List Value} {vl vu vst : Value} {lo hi st : Option Int} (hlv : Live X s.heap) (hl : s.heap.PlainList l vs.toArray) (hr : Rps X s.heap ds vs) (hz : ds.length ≤ 1000000)
    (hs : s.heap.IsSliceOf sl vl vu vst) (pl : IsPart vl lo) (pu : IsPart vu hi) (ps : IsPart vst st) (h0 : st ≠ some 0) :
    wpAny (model prog w) A (getItem (.ref l) (.ref sl)) (Gv X s (.list (sliceL ds lo hi st))) E s := by
  refine wpAny_getItem_list_slice hl.isList hs pl pu ps h0 ?_ (by rw [sizeLine_big, List.size_toArray, hr.length]; omega)
  have := Rp.newList hlv (hr.slice lo hi st)
  exact ⟨by simpa using this, kp_push _ _⟩
end
end Mine
end SWC
section SWD
open PySem PySem.W PyProof.Rows
namespace Mine
inductive V where
  | dat (d : PyData)
  | inst (k : PyData)
abbrev Ro := Str → Option V
abbrev Fn := Str → List PyData → Option PyData
def put (ρ : Ro) (x : Str) (v : V) : Ro := fun y => if y = x then some v else ρ y
def cap (sc : Scope) (ρ : Ro) : Ro := fun y => if sc.names.lookup y = some .free then ρ y else none
def constD : Const → Option PyData
  | .int i => some (.int i)
  | .str x => some (.str x)
  | .none => some .none
  | .bool b => some (.bool b)
  | _ => none
def rangeD (lo hi : Int) : List PyData := (List.range (hi - lo).toNat).map fun (i : Nat) => .int (lo + i)
def intsD : List PyData → Option (List Int)
  | [] => some []
  | .int i :: r => (intsD r).map (i :: ·)
  | _ => none
def itemsD : PyData → Option (List PyData)
  | .list xs => if xs.length ≤ 1000000 then some xs else none
  | .str x => if x.length ≤ 1000000 then some (x.cps.toList.map fun c => .str ⟨#[c]⟩) else none
  | _ => none
def bindD (ρ : Ro) : Expr → PyData → Option Ro
  | .Name x _, d => some (put ρ x (.dat d))
  | .Tuple [.Name x _, .Name y _] _ _, .tuple [a, b] => some (put (put ρ x (.dat a)) y (.dat b))
  | _, _ => none
def strsD : List PyData → Option (List Str)
  | [] => some []
  | .str x :: r => (strsD r).map (x :: ·)
  | _ => none
def asInt : PyData → Option Int
  | .int i => some i
  | _ => none
def asBool : PyData → Option Bool
  | .bool i => some i
  | _ => none
def asList : PyData → Option (List PyData)
  | .list i => some i
  | _ => none
abbrev sRange : Str := Str.ofString "range"
abbrev sList : Str := Str.ofString "list"
abbrev sJoin : Str := Str.ofString "join"
abbrev sLower : Str := Str.ofString "lower"
abbrev sCompare : Str := Str.ofString "compare"
abbrev sTC : Str := Str.ofString "TupleComp.compare"
abbrev sIn : Str := Str.ofString "in b1_set"
abbrev sGetB3 : Str := Str.ofString "b3_exceptions.get"
abbrev sB1 : Str := Str.ofString "b1_set"
abbrev sB3 : Str := Str.ofString "b3_exceptions"
abbrev sGet : Str := Str.ofString "get"
abbrev sCSL : Str := Str.ofString "comp_select_list"
def glob (sc : Scope) (f : Str) : Bool := decide (sc.names.lookup f = some .globalImplicit)
def rangeArgs (sc : Scope) : Expr → Option (List Expr)
  | .Call (.Name r _) es [] _ => if r = sRange ∧ glob sc r = true then some es else none
  | _ => none
def plainB (x : Str) : Bool := !(x == ("__debug__" : Str)) && !(x == ("__classdict__" : Str))
def compFit (sc isc : Scope) (x : Str) : Bool :=
  decide (isc.kind = .function) && decide (isc.names.lookup x = some .local) && plainB x && isc.names.all fun y =>
    decide (y.2 ≠ .cell) && (decide (y.2 ≠ .local) || decide (isc.names.lookup y.1 = some .local)) && (decide (y.2 ≠ .free) || decide (sc.names.lookup y.1 = some .cell) || decide (sc.names.lookup y.1 = some .free)) && plainB y.1
def cmpL (f : PyData → Option (Option PyData)) : List PyData → Option (List PyData)
  | [] => some []
  | x :: xs => do
    let y ← f x
    let ys ← cmpL f xs
    match y with
    | some y => some (y :: ys)
    | none => some ys
mutual
def ev (F : Fn) : Nat → Scope → Expr → Ro → Option PyData
  | 0, _, _, _ => none
  | _ + 1, _, .Constant c _ _, _ => constD c
  | _ + 1, _, .Name x _, ρ => match ρ x with
    | some (.dat d) => some d
    | _ => none
  | n + 1, sc, .BinOp l op r _, ρ => do
    let a ← ev F n sc l ρ
    let b ← ev F n sc r ρ
    binD op a b
  | n + 1, sc, .UnaryOp .USub x _, ρ => do
    let a ← ev F n sc x ρ
    let i ← asInt a
    some (.int (-i))
  | _ + 1, _, .Attribute (.Name o _) m _, ρ =>
    if m = sCSL then
      match ρ o with
      | some (.inst k) => some k
      | _ => none
    else none
  | n + 1, sc, .Compare l [.In] [.Name g _] _, ρ =>
    if g = sB1 ∧ glob sc g = true then do
      let a ← ev F n sc l ρ
      F sIn [a]
    else none
  | n + 1, sc, .Compare l [op] [r] _, ρ =>
    if behindInMarks op r = true then none else do
    let a ← ev F n sc l ρ
    let b ← ev F n sc r ρ
    let c ← cmpD op a b
    some (.bool c)
  | n + 1, sc, .IfExp t b o _, ρ => do
    let c ← tst F n sc t ρ
    if c then ev F n sc b ρ else ev F n sc o ρ
  | n + 1, sc, .List es _, ρ => do
    let xs ← evs F n sc es ρ
    if xs.length ≤ 1000000 then some (.list xs) else none
  | n + 1, sc, .Tuple es _ _, ρ => do
    let xs ← evs F n sc es ρ
    if xs.length ≤ 1000000 then some (.tuple xs) else none
  | n + 1, sc, .Subscript v (.Slice lo hi st _) _, ρ => do
    let a ← ev F n sc v ρ
    let xs ← asList a
    let l ← evp F n sc lo ρ
    let u ← evp F n sc hi ρ
    let t ← evp F n sc st ρ
    if xs.length ≤ 1000000 ∧ t ≠ some 0 then some (.list (sliceL xs l u t)) else none
  | n + 1, sc, .Subscript v i _, ρ => do
    let a ← ev F n sc v ρ
    let b ← ev F n sc i ρ
    idxD a b
  | n + 1, sc, .Call (.Name f _) args [] _, ρ =>
    if glob sc f = true then
      if f = sList then do
        let e ← args.head?
        let es ← rangeArgs sc e
        let xs ← evs F n sc es ρ
        let is ← intsD xs
        let k ← is.head?
        if -1000000 ≤ k ∧ k ≤ 1000000 ∧ args.length = 1 ∧ is.length = 1 then some (.list (rangeD 0 k)) else none
      else if f = sTC ∨ f = sLower ∨ f = sIn ∨ f = sGetB3 then none
      else do
        let xs ← evs F n sc args ρ
        F f xs
    else none
  | n + 1, sc, .Call (.Attribute (.Constant (.str x) _ _) m ap) [e] [] p, ρ =>
    if m = sJoin ∧ (ap.endLine == p.line) = true then do
      let a ← ev F n sc e ρ
      let xs ← asList a
      let ys ← strsD xs
      if JoinOk x ys = true then some (.str (Txt.join x ys)) else none
    else none
  | n + 1, sc, .Call (.Attribute (.Name o _) m ap) args [] p, ρ =>
    if (ap.endLine == p.line) = true then
      match ρ o with
      | some (.inst k) => if m = sCompare ∧ args.length = 2 then do
          let xs ← evs F n sc args ρ
          F sTC (k :: xs)
        else none
      | some (.dat d) => if m = sLower ∧ args = [] then F sLower [d] else none
      | none => if m = sGet ∧ o = sB3 ∧ glob sc o = true ∧ args.length = 1 then do
          let xs ← evs F n sc args ρ
          F sGetB3 xs
        else none
    else none
  | n + 1, sc, .ListComp elt [⟨.Name x _, it, ifs, 0⟩] isc _, ρ =>
    if compFit sc isc x = true then do
      let xs ← its F n sc it ρ
      let ys ← cmpL (fun v => do
        let b ← tsts F n isc ifs (put (cap isc ρ) x (.dat v))
        if b then do
          let y ← ev F n isc elt (put (cap isc ρ) x (.dat v))
          some (some y)
        else some none) xs
      some (.list ys)
    else none
  | _ + 1, _, _, _ => none
def evs (F : Fn) : Nat → Scope → List Expr → Ro → Option (List PyData)
  | 0, _, _, _ => none
  | _ + 1, _, [], _ => some []
  | n + 1, sc, e :: r, ρ => do
    let x ← ev F n sc e ρ
    let xs ← evs F n sc r ρ
    some (x :: xs)
def evp (F : Fn) : Nat → Scope → Option Expr → Ro → Option (Option Int)
  | 0, _, _, _ => none
  | _ + 1, _, none, _ => some none
  | n + 1, sc, some e, ρ => do
    let a ← ev F n sc e ρ
    let i ← asInt a
    some (some i)
def tst (F : Fn) : Nat → Scope → Expr → Ro → Option Bool
  | 0, _, _, _ => none
  | n + 1, sc, .UnaryOp .Not x _, ρ => do
    let b ← tst F n sc x ρ
    some (!b)
  | n + 1, sc, .BoolOp .And [x, y] _, ρ => do
    let b ← tst F n sc x ρ
    if b then tst F n sc y ρ else some false
  | n + 1, sc, .Compare l [op] [r] _, ρ =>
    if behindInMarks op r = true then none else do
    let a ← ev F n sc l ρ
    let b ← ev F n sc r ρ
    cmpD op a b
  | n + 1, sc, .Call f a k p, ρ => do
    let a ← ev F n sc (.Call f a k p) ρ
    asBool a
  | _ + 1, _, _, _ => none
def its (F : Fn) : Nat → Scope → Expr → Ro → Option (List PyData)
  | 0, _, _, _ => none
  | n + 1, sc, e, ρ => match rangeArgs sc e with
    | some es => do
      let xs ← evs F n sc es ρ
      let is ← intsD xs
      match is with
      | [k] => if -1000000 ≤ k ∧ k ≤ 1000000 then some (rangeD 0 k) else none
      | [l, k] => if -1000000 ≤ l ∧ l ≤ 1000000 ∧ -1000000 ≤ k ∧ k ≤ 1000000 then some (rangeD l k) else none
      | _ => none
    | none => do
      let a ← ev F n sc e ρ
      itemsD a
def tsts (F : Fn) : Nat → Scope → List Expr → Ro → Option Bool
  | 0, _, _, _ => none
  | _ + 1, _, [], _ => some true
  | n + 1, sc, e :: r, ρ => do
    let b ← tst F n sc e ρ
    if b then tsts F n sc r ρ else some false
end
end Mine
end SWD
section SWE
open PySem PySem.W PyProof.Rows PySem.Calls
namespace Mine
structure Wd (prog : Program) (w : World) where
  G : Heap → Prop
  keep : ∀ {h h' : Heap}, G h → (∀ b o, h.get? b = some o → h'.get? b = some o) → G h'
  nm : Str → Option Value
  look : ∀ {h : Heap}, G h → ∀ {x : Str} {v : Value}, nm x = some v → ∃ mg mb, h.Ns mainGlobals mg ∧ h.Ns builtinsNs mb ∧ (mg x = some v ∨ (mg x = none ∧ mb x = some v))
  Inst : AS → Heap → PyData → Value → Prop
  instKeep : ∀ {X X' : AS} {h h' : Heap} {k : PyData} {v : Value}, (∀ b o, ¬ X b → h.get? b = some o → h'.get? b = some o ∧ ¬ X' b) → Inst X h k v → Inst X' h' k v
  fc : Addr
  meth : ∀ {X : AS} {s : Shared} {k : PyData} {ov : Value}, G s.heap → Inst X s.heap k ov → ∀ (A : Around) (E : Value → Shared → Prop) (imp : Sem Bool) (Q : Value × List Value → Shared → Prop), Q (.ref fc, [ov]) s →
    wpAny (model prog w) A (getMethod ov sCompare imp) Q E s
  attr : ∀ {X : AS} {s : Shared} {k : PyData} {ov : Value}, G s.heap → Inst X s.heap k ov → ∀ (A : Around) (E : Value → Shared → Prop) (Q : Value → Shared → Prop), (∀ v, Rp X s.heap k v → Q v { s with toks := s.toks + 1 }) →
    wpAny (model prog w) A (getAttr ov sCSL true) Q E s
  K : Frag
  inK : ∀ {h : Heap}, G h → K.In h
  mka : Addr
  mkNm : nm (Str.ofString "TupleComp") = some (.ref mka)
  mkKeep : keepIn K (.ref mka) = true
  fcAt : ∃ o fd, (∀ h, G h → h.get? fc = some o) ∧ o.data = .func fd
variable {prog : Program} {w : World}
def Rv (W : Wd prog w) (X : AS) (h : Heap) : V → Value → Prop
  | .dat d, v => Rp X h d v
  | .inst k, v => W.Inst X h k v
theorem Rv.keep {W : Wd prog w} {X X' : AS} {h h' : Heap} (hk : ∀ b o, ¬ X b → h.get? b = some o → h'.get? b = some o ∧ ¬ X' b) : ∀ {r : V} {v : Value}, Rv W X h r v → Rv W X' h' r v
  | .dat _, _, r => Rp.keep hk r
  | .inst _, _, r => W.instKeep hk r
def NameAt (env : Env) (h : Heap) (x : Str) (v : Value) : Prop :=
  (env.kindOf x = some .local ∧ ∃ m, h.Ns env.locals m ∧ m x = some v) ∨ ((env.kindOf x = some .cell ∨ env.kindOf x = some .free) ∧ ∃ c, env.cells.lookup x = some c ∧ h.IsCell c (some v))
theorem NameAt.keeps {env : Env} {h h' : Heap} {x : Str} {v : Value} (n : NameAt env h x v) (hk : ∀ b o, h.get? b = some o → h'.get? b = some o) : NameAt env h' x v := by
  rcases n with ⟨k, m, hn, hm⟩ | ⟨k, c, hc, hv⟩
  · exact .inl ⟨k, m, hn.keeps hk, hm⟩
  · exact .inr ⟨k, c, hc, hv.keeps hk⟩
def plainName (x : Str) : Prop := (x == ("__debug__" : Str)) = false ∧ (x == ("__classdict__" : Str)) = false
def Sees (W : Wd prog w) (X : AS) (env : Env) (h : Heap) (ρ : Ro) : Prop := ∀ x r, ρ x = some r → plainName x ∧ ∃ v, NameAt env h x v ∧ Rv W X h r v
theorem Sees.keeps {W : Wd prog w} {X : AS} {env : Env} {s s' : Shared} {ρ : Ro} (S : Sees W X env s.heap ρ) (k : Keeps s s') : Sees W X env s'.heap ρ := fun x r e => by
  obtain ⟨p, v, n, r⟩ := S x r e
  exact ⟨p, v, n.keeps fun _ _ e => kp_get k e, r.keep fun _ _ hx e => ⟨kp_get k e, hx⟩⟩
structure EnvOk (env : Env) (sc : Scope) : Prop where
  kind : env.scope.kind = .function
  g : env.globals = mainGlobals
  b : env.builtins = builtinsNs
  names : ∀ x, glob sc x = true → env.kindOf x = some .globalImplicit ∧ plainName x
  cells : ∀ x, sc.names.lookup x = some .cell ∨ sc.names.lookup x = some .free → (env.kindOf x = some .cell ∨ env.kindOf x = some .free) ∧ ∃ c, env.cells.lookup x = some c
theorem ld_var {env : Env} {x : Str} {v : Value} {A : Around} {E : Value → Shared → Prop} {s : Shared} {pos : Pos} {Q : Value → Shared → Prop} (hk : env.scope.kind = .function) (hp : plainName x) (n : NameAt env s.heap x v) (h : Q v s) :
    wpAny (model prog w) A (eval (.Name x pos) env) Q E s := by
  refine wpAny_Name ?_ hp.1
  rcases n with ⟨k, m, hn, hm⟩ | ⟨k | k, c, hc, hv⟩
  · exact wpAny_loadName_local hk k hn hm h
  · exact wpAny_loadName_cell hk k hc hv h
  · exact wpAny_loadName_free hk k hc hv h hp.2
theorem ld_glob (W : Wd prog w) {env : Env} {sc : Scope} (eo : EnvOk env sc) {x : Str} {v : Value} {A : Around} {E : Value → Shared → Prop} {s : Shared} {pos : Pos} {Q : Value → Shared → Prop} (hx : glob sc x = true) (hG : W.G s.heap) (hn : W.nm x = some v) (h : Q v s) :
    wpAny (model prog w) A (eval (.Name x pos) env) Q E s := by
  obtain ⟨hk, hp⟩ := eo.names x hx
  refine wpAny_Name ?_ hp.1
  obtain ⟨mg, mb, h1, h2, h3⟩ := W.look hG hn
  unfold loadName
  have e1 : env.scope.kind.isAnnotationScope = false := by rw [eo.kind]; rfl
  have e2 : env.blockKind = .function := by unfold Env.blockKind; rw [eo.kind]; rfl
  rw [e1, e2, hk]
  simp only [Bool.false_and, Bool.false_eq_true, if_false]
  unfold loadGlobal
  rw [eo.g, eo.b]
  refine wpAny_bind (wpAny_nsGet h1 ?_)
  rcases h3 with h3 | ⟨h3, h4⟩
  · rw [h3]; exact wpAny_pure h
  · rw [h3]
    refine wpAny_bind (wpAny_nsGet h2 ?_)
    rw [h4]; exact wpAny_pure h
def Cal (W : Wd prog w) (fv : Value) : Prop := (∃ id, fv = .builtin id) ∨ (∃ T, fv = .type T) ∨ ∃ a o fd, fv = .ref a ∧ (∀ h, W.G h → h.get? a = some o) ∧ o.data = .func fd
def CallOk (W : Wd prog w) (k : Nat) (fv : Value) (args : List PyData) (d : PyData) : Prop :=
  ∀ (A : Around) (s : Shared) (X : AS) (vs : List Value) (E : Value → Shared → Prop), AOk k A → W.G s.heap → Live X s.heap → Rps X s.heap args vs → wpAny (model prog w) A (call fv vs) (Gv X s d) E s
structure FnOk (W : Wd prog w) (k : Nat) (F : Fn) : Prop where
  ne : ∀ f, F f [] = none
  fn : ∀ f args d, F f args = some d → f ≠ sTC → f ≠ sLower → f ≠ sIn → f ≠ sGetB3 → ∃ fv, W.nm f = some fv ∧ Cal W fv ∧ CallOk W k fv args d
  cmp : ∀ ks args d, F sTC (ks :: args) = some d → ∀ (A : Around) (s : Shared) (X : AS) (ov : Value) (vs : List Value) (E : Value → Shared → Prop), AOk k A → W.G s.heap → Live X s.heap → W.Inst X s.heap ks ov → Rps X s.heap args vs →
    wpAny (model prog w) A (call (.ref W.fc) (ov :: vs)) (Gv X s d) E s
  low : ∀ a d, F sLower [a] = some d → ∃ x, a = .str x ∧ ∀ (A : Around) (s : Shared) (X : AS) (t : Tok) (E : Value → Shared → Prop), AOk k A → wpAny (model prog w) A (call (.builtin "str.lower") [.str x t]) (Gv X s d) E s
  inset : ∀ a d, F sIn [a] = some d → ∃ v, W.nm sB1 = some v ∧ ∀ (A : Around) (s : Shared) (X : AS) (av : Value) (E : Value → Shared → Prop), AOk k A → W.G s.heap → Rp X s.heap a av → wpAny (model prog w) A (compareOp .In av v) (Gv X s d) E s
  get : ∀ xs d, F sGetB3 xs = some d → ∃ r o, W.nm sB3 = some (.ref r) ∧ (∀ h, W.G h → h.get? r = some o) ∧ o.cls = .type "dict" ∧ o.dict = none ∧ ∀ (A : Around) (s : Shared) (X : AS) (vs : List Value) (E : Value → Shared → Prop), AOk k A → W.G s.heap → Rps X s.heap xs vs →
    wpAny (model prog w) A (call (.builtin "dict.get") (.ref r :: vs)) (Gv X s d) E s
  make : ∀ (ks : List PyData) (A : Around) (s : Shared) (X : AS) (v : Value) (E : Value → Shared → Prop), AOk k A → W.G s.heap → Live X s.heap → Rp X s.heap (.list ks) v →
    wpAny (model prog w) A (call (.ref W.mka) [v]) (fun ov s' => W.Inst X s'.heap (.list ks) ov ∧ Keeps s s') E s
theorem starEach_plain {e : Expr} {r : List Expr} {env : Env} (h : ∀ v p, e ≠ .Starred v p) : starEach (e :: r) env = (false, eval e env) :: starEach r env := by
  cases e <;> first | rfl | (exact absurd rfl (h _ _))
theorem any_plain {pos : Pos} {env : Env} : ∀ {es : List Expr}, (∀ e ∈ es, ∀ v p, e ≠ .Starred v p) → (backTo pos (starEach es env)).any (·.1) = false
  | [], _ => rfl
  | e :: r, h => by
    rw [starEach_plain (h e List.mem_cons_self)]
    have := any_plain (pos := pos) (env := env) (es := r) fun e he => h e (List.mem_cons_of_mem _ he)
    show (false || (backTo pos (starEach r env)).any (·.1)) = false
    rw [this]; rfl
end Mine
end SWE
section SWF
open PySem PySem.W PyProof.Rows PySem.Calls
namespace Mine
variable {prog : Program} {w : World}
structure IterOk (prog : Program) (w : World) (A : Around) (X : AS) (xs : List PyData) (s₀ : Shared) (I : Addr) (fp wr : List Addr) (P : Nat → Value → Prop) (St : Nat → Heap → Prop) (s : Shared) : Prop where
  W : Walks prog w A I fp wr xs.length P St
  st : St 0 s.heap
  low : ∀ b ∈ fp, b < s.heap.objs.size
  new : ∀ b ∈ wr, s₀.heap.get? b = none
  lives : ∀ i h, St i h → ∀ b ∈ wr, ∃ o, h.get? b = some o
  item : ∀ i v d, P i v → xs[i]? = some d → Rp (fun b => X b ∨ b ∈ wr) s.heap d v
  size : xs.length ≤ 2000000
  off : ∀ b ∈ fp, ¬ X b
  go : ∀ (i j : Nat) (ds : List PyData) (s : Shared) elts x1 pos T (Q : Unit → Shared → Prop) (E : Value → Shared → Prop), xs[i]? = some (PyData.tuple ds) → St j s.heap → Q () s → wpAny (model prog w) A (letOwnedTupleGo (.Tuple elts x1 pos) (.ref I) (.ref T)) Q E s
  k : Keeps s₀ s
def IterEnd (prog : Program) (w : World) (A : Around) (X : AS) (xs : List PyData) (s₀ : Shared) (it : Value) (s : Shared) : Prop := ∃ I fp wr P St, it = .ref I ∧ IterOk prog w A X xs s₀ I fp wr P St s
structure EvAll (W : Wd prog w) (k : Nat) (F : Fn) (n : Nat) : Prop where
  ev : ∀ {sc e ρ d env A s X E}, ev F n sc e ρ = some d → AOk (k + 1) A → EnvOk env sc → W.G s.heap → Live X s.heap → Sees W X env s.heap ρ → wpAny (model prog w) A (eval e env) (Gv X s d) E s
  evs : ∀ {sc es ρ ds env A s X E pos}, evs F n sc es ρ = some ds → AOk (k + 1) A → EnvOk env sc → W.G s.heap → Live X s.heap → Sees W X env s.heap ρ →
    wpAny (model prog w) A (spliced (backTo pos (starEach es env))) (fun vs s' => Rps X s'.heap ds vs ∧ Keeps s s') E s
  evp : ∀ {sc e ρ p env A s X E}, evp F n sc e ρ = some p → AOk (k + 1) A → EnvOk env sc → W.G s.heap → Live X s.heap → Sees W X env s.heap ρ → wpAny (model prog w) A (evalPart e env) (fun v s' => IsPart v p ∧ Keeps s s') E s
  tst : ∀ {sc e ρ b env A s X E}, tst F n sc e ρ = some b → AOk (k + 1) A → EnvOk env sc → W.G s.heap → Live X s.heap → Sees W X env s.heap ρ → wpAny (model prog w) A (isTrue e env (eval e env)) (fun c s' => c = b ∧ Keeps s s') E s
  its : ∀ {sc e ρ xs env A s X E}, its F n sc e ρ = some xs → AOk (k + 1) A → EnvOk env sc → W.G s.heap → Live X s.heap → Sees W X env s.heap ρ →
    wpAny (model prog w) A (eval e env) (fun v s₁ => wpAny (model prog w) A (pyIter v) (IterEnd prog w A X xs s) E s₁) E s
  tsts : ∀ {sc es ρ b env A s X E}, tsts F n sc es ρ = some b → AOk (k + 1) A → EnvOk env sc → W.G s.heap → Live X s.heap → Sees W X env s.heap ρ →
    wpAny (model prog w) A (forIn es true fun c r => if r = true then do let ok ← isTrue c env (eval c env); pure (ForInStep.yield ok) else pure (ForInStep.yield r)) (fun c s' => c = b ∧ Keeps s s') E s
def CompOk (W : Wd prog w) (k : Nat) (F : Fn) (n : Nat) : Prop :=
  EvAll W k F n → ∀ {sc elt x px it ifs isc pos ρ d env A s X E}, Mine.ev F (n + 1) sc (.ListComp elt [⟨.Name x px, it, ifs, 0⟩] isc pos) ρ = some d → AOk (k + 1) A → EnvOk env sc → W.G s.heap → Live X s.heap → Sees W X env s.heap ρ →
    wpAny (model prog w) A (eval (.ListComp elt [⟨.Name x px, it, ifs, 0⟩] isc pos) env) (Gv X s d) E s
theorem wpk {α : Type} {A : Around} {E : Value → Shared → Prop} {m : Sem α} {s : Shared} {Q Q' : α → Shared → Prop} (h : wpAny (model prog w) A m Q E s) (hQ : ∀ a s', Q a s' → Q' a s') : wpAny (model prog w) A m Q' E s :=
  wpAny_mono h hQ fun _ _ e => e
theorem args_cal {fv : Value} {A : Around} {E : Value → Shared → Prop} {s : Shared} {pos : Pos} {env : Env} {args : List Expr} {Q : List Value → Shared → Prop} (hne : args ≠ [])
    (hn : ∀ e ∈ args, ∀ v p, e ≠ .Starred v p) (h : wpAny (model prog w) A (spliced (backTo pos (starEach args env))) Q E s) :
    wpAny (model prog w) A (evalArgs fv true (backTo pos (starEach args env)) []) (fun a s₁ => a.kw = [] ∧ Q a.pos s₁) E s := by
  cases args with
  | nil => exact absurd rfl hne
  | cons e r =>
    rw [starEach_plain (hn e List.mem_cons_self)] at h ⊢
    exact evalArgs_plain (wpk h fun vs s' q => ⟨rfl, q⟩)
theorem callW_cal (W : Wd prog w) {fv : Value} (hc : Cal W fv) {A : Around} {E : Value → Shared → Prop} {s : Shared} {pos : Pos} {env : Env} {args : List Expr} {Q : Value → Shared → Prop} (hG : W.G s.heap) (hne : args ≠ [])
    (hn : ∀ e ∈ args, ∀ v p, e ≠ .Starred v p)
    (h : wpAny (model prog w) A (spliced (backTo pos (starEach args env))) (fun vs s₁ => Keeps s s₁ ∧ wpAny (model prog w) A (call fv vs) Q E s₁) E s) :
    wpAny (model prog w) A (callWith pos fv [] (backTo pos (starEach args env)) []) Q E s := by
  have key := args_cal (fv := fv) hne hn h
  have hp := any_plain (pos := pos) (env := env) hn
  rcases hc with ⟨id, rfl⟩ | ⟨T, rfl⟩ | ⟨a, o, fd, rfl, ho, hfd⟩
  · exact callWith_builtin hp (wpk key fun a s' q => by rw [q.1]; exact q.2.2)
  · exact PySem.callWith_type hp (wpk key fun a s' q => by rw [q.1]; exact q.2.2)
  · exact callWith_function (o := o) (fd := fd) (wpk key fun a s' q => ⟨⟨ho _ (W.keep hG fun _ _ e => kp_get q.2.1 e), hfd⟩, by rw [q.1]; exact q.2.2⟩)
theorem ev_nostar {F : Fn} {n : Nat} {sc : Scope} {e : Expr} {ρ : Ro} {d : PyData} (h : ev F n sc e ρ = some d) : ∀ v p, e ≠ .Starred v p := by
  rintro v p rfl
  cases n <;> simp [ev] at h
theorem evs_nostar {F : Fn} : ∀ {n : Nat} {sc : Scope} {es : List Expr} {ρ : Ro} {ds : List PyData}, evs F n sc es ρ = some ds → ∀ e ∈ es, ∀ v p, e ≠ .Starred v p
  | 0, _, _, _, _, h => by simp [evs] at h
  | n + 1, _, [], _, _, _ => fun e he => by cases he
  | n + 1, sc, e :: r, ρ, ds, h => by
    simp only [evs, Option.bind_eq_bind, Option.bind_eq_some_iff] at h
    obtain ⟨x, h1, xs, h2, _⟩ := h
    intro e' he
    rcases List.mem_cons.mp he with rfl | he
    · exact ev_nostar h1
    · exact evs_nostar h2 e' he
theorem evs_ok {W : Wd prog w} {k : Nat} {F : Fn} {n : Nat} (ih : EvAll W k F n) {sc es ρ ds env A s X E pos} (h : evs F (n + 1) sc es ρ = some ds) (hA : AOk (k + 1) A) (eo : EnvOk env sc) (hG : W.G s.heap) (hl : Live X s.heap) (S : Sees W X env s.heap ρ) :
    wpAny (model prog w) A (spliced (backTo pos (starEach es env))) (fun vs s' => Rps X s'.heap ds vs ∧ Keeps s s') E s := by
  cases es with
  | nil =>
    simp only [evs, Option.some.injEq] at h
    subst h
    exact wpAny_items_nil ⟨by simp only [Rps], kp_refl _⟩
  | cons e r =>
    simp only [evs, Option.bind_eq_bind, Option.bind_eq_some_iff, Option.some.injEq] at h
    obtain ⟨x, h1, xs, h2, rfl⟩ := h
    refine wpAny_items_cons (wpk (ih.ev h1 hA eo hG hl S) fun v s₁ q => ?_) (starEach_plain (ev_nostar h1))
    refine wpk (ih.evs h2 hA eo (W.keep hG fun _ _ e => kp_get q.2 e) (hl.keeps q.2) (S.keeps q.2)) fun vs s₂ q₂ => ?_
    exact ⟨by simp only [Rps]; exact ⟨v, vs, rfl, Rp.keeps q₂.2 q.1, q₂.1⟩, kp_trans q.2 q₂.2⟩
end Mine
end SWF
section SWG
open PySem PySem.W PyProof.Rows PySem.Calls
namespace Mine
variable {prog : Program} {w : World}
theorem iter_list {A : Around} {X : AS} {xs : List PyData} {s₀ s : Shared} {v : Value} {E : Value → Shared → Prop} (hh : A.handled = none) (r : Rp X s.heap (.list xs) v) (k : Keeps s₀ s) (hL : Live X s.heap) (hsz : xs.length ≤ 1000000) :
    wpAny (model prog w) A (pyIter v) (IterEnd prog w A X xs s₀) E s := by
  simp only [Rp] at r
  obtain ⟨a, vs, rfl, hX, hl, hr⟩ := r
  refine wpAny_pyIter_list hl.isList ?_
  have hla : a < s.heap.objs.size := by obtain ⟨n, e⟩ := hl; exact Heap.lt_size e
  have hne : a ≠ s.heap.objs.size := Nat.ne_of_lt hla
  have W0 := Walks.list (prog := prog) (w := w) (A := A) hh s.heap.objs.size a hne vs.toArray
  have eL : vs.toArray.size = xs.length := by rw [List.size_toArray, hr.length]
  rw [eL] at W0
  refine ⟨_, _, _, _, _, rfl, W0, ⟨⟨_, Heap.get?_push_size _ rfl, rfl, rfl⟩, hl.isList.push _⟩, ?_, ?_, ?_, ?_, by omega, ?_, (fun i j ds s' elts x1 pos T Q E _ st hQ => wpAny_letOwnedTupleGo_listiter st.1 hQ), kp_trans k (kp_push _ _)⟩
  · intro b hb
    rw [Heap.size_push]
    simp only [List.mem_cons, List.not_mem_nil, or_false] at hb
    rcases hb with rfl | rfl
    · exact Nat.lt_succ_self _
    · exact Nat.lt_succ_of_lt hla
  · intro b hb
    simp only [List.mem_cons, List.not_mem_nil, or_false] at hb
    subst hb
    cases e : s₀.heap.get? s.heap.objs.size with
    | none => rfl
    | some o => exact absurd (kp_get k e) (by rw [get_size_none]; simp)
  · intro i h st b hb
    simp only [List.mem_cons, List.not_mem_nil, or_false] at hb
    subst hb
    obtain ⟨o, ho, _⟩ := st.1
    exact ⟨o, ho⟩
  · intro i v d e1 e2
    obtain ⟨v', e3, hr'⟩ := hr.get e2
    have : vs[i]? = some v := by simpa using e1
    rw [this] at e3; cases e3
    refine Rp.keep (fun b o hb e => ⟨Heap.get?_push_of_some _ e, ?_⟩) hr'
    rintro (h | h)
    · exact hb h
    · simp only [List.mem_cons, List.not_mem_nil, or_false] at h
      subst h
      rw [get_size_none] at e; cases e
  · intro b hb
    simp only [List.mem_cons, List.not_mem_nil, or_false] at hb
    rcases hb with rfl | rfl
    · exact hL.fresh (get_size_none _)
    · exact hX
theorem new_of_size {s₀ s : Shared} (k : Keeps s₀ s) : s₀.heap.get? s.heap.objs.size = none := by
  cases e : s₀.heap.get? s.heap.objs.size with
  | none => rfl
  | some o => exact absurd (kp_get k e) (by rw [get_size_none]; simp)
theorem iter_str {A : Around} {X : AS} {x : Str} {s₀ s : Shared} {v : Value} {E : Value → Shared → Prop} (hh : A.handled = none) (r : Rp X s.heap (.str x) v) (k : Keeps s₀ s) (hL : Live X s.heap) (hsz : x.length ≤ 1000000) :
    wpAny (model prog w) A (pyIter v) (IterEnd prog w A X (x.cps.toList.map fun c => .str ⟨#[c]⟩) s₀) E s := by
  simp only [Rp] at r
  obtain ⟨t, rfl⟩ := r
  have e : x.cps.size = (x.cps.toList.map fun c => (PyData.str ⟨#[c]⟩)).length := by simp
  have hlen : (x.cps.toList.map fun c => (PyData.str ⟨#[c]⟩)).length ≤ 2000000 := by
    rw [← e]
    have : x.cps.size ≤ 1000000 := hsz
    omega
  have hitem : ∀ (X : AS) (h : Heap) (i : Nat) (v : Value) (d : PyData), SignAt x i v → (x.cps.toList.map fun c => (PyData.str ⟨#[c]⟩))[i]? = some d → Rp X h d v := by
    intro X h i v d ⟨c, u, hc, hv⟩ hd
    rw [List.getElem?_map] at hd
    have : x.cps.toList[i]? = some c := by simpa using hc
    rw [this] at hd
    cases hd; subst hv
    exact rp_str
  cases ha : x.cps.all (· < 128)
  · refine wpAny_pyIter_wide ha ?_
    have W0 := Walks.strWide (prog := prog) (w := w) (A := A) hh s.heap.objs.size x t
    have eL := e
    rw [eL] at W0
    refine ⟨_, _, _, _, _, rfl, W0, ⟨_, Heap.get?_push_size _ rfl, rfl, rfl⟩, ?_, ?_, ?_, fun i v d => hitem _ _ i v d, hlen, (by intro b hb; rw [List.mem_singleton] at hb; subst hb; exact hL.fresh (get_size_none _)), (fun i j ds s' elts x1 pos T Q E hd => by rw [List.getElem?_map] at hd; obtain ⟨_, _, hd⟩ := Option.map_eq_some_iff.mp hd; cases hd), kp_trans k (kp_push _ _)⟩
    · intro b hb; rw [List.mem_singleton] at hb; rw [Heap.size_push]; subst hb; exact Nat.lt_succ_self _
    · intro b hb; rw [List.mem_singleton] at hb; subst hb; exact new_of_size k
    · intro i h st b hb; rw [List.mem_singleton] at hb; subst hb; obtain ⟨o, ho, _⟩ := st; exact ⟨o, ho⟩
  · refine wpAny_pyIter_ascii ha ?_
    have W0 := Walks.strAscii (prog := prog) (w := w) (A := A) hh s.heap.objs.size x t
    have eL := e
    rw [eL] at W0
    refine ⟨_, _, _, _, _, rfl, W0, ⟨_, Heap.get?_push_size _ rfl, rfl, rfl⟩, ?_, ?_, ?_, fun i v d => hitem _ _ i v d, hlen, (by intro b hb; rw [List.mem_singleton] at hb; subst hb; exact hL.fresh (get_size_none _)), (fun i j ds s' elts x1 pos T Q E hd => by rw [List.getElem?_map] at hd; obtain ⟨_, _, hd⟩ := Option.map_eq_some_iff.mp hd; cases hd), kp_trans k (kp_push _ _)⟩
    · intro b hb; rw [List.mem_singleton] at hb; rw [Heap.size_push]; subst hb; exact Nat.lt_succ_self _
    · intro b hb; rw [List.mem_singleton] at hb; subst hb; exact new_of_size k
    · intro i h st b hb; rw [List.mem_singleton] at hb; subst hb; obtain ⟨o, ho, _⟩ := st; exact ⟨o, ho⟩
theorem iter_range {A : Around} {X : AS} {l b : Int} {s₀ s : Shared} {r : Addr} {t u v : Tok} {E : Value → Shared → Prop} (hh : A.handled = none) (hr : IsRange s.heap r l b 1 t u v) (k : Keeps s₀ s) (hL : Live X s.heap)
    (h1 : -1000000 ≤ l) (h2 : l ≤ 1000000) (h3 : -1000000 ≤ b) (h4 : b ≤ 1000000) :
    wpAny (model prog w) A (pyIter (.ref r)) (IterEnd prog w A X (rangeD l b) s₀) E s := by
  refine wpAny_pyIter_range hr (small_one (by omega) (by omega) (by omega) (by omega)) ?_
  have e : Builtin.Range.rangeSize l b 1 = ((b - l).toNat : Int) := by
    rw [rangeSize_one]; split <;> omega
  rw [e]
  have W0 := Walks.range (prog := prog) (w := w) (A := A) hh s.heap.objs.size l 1 (b - l).toNat
  have eL : (b - l).toNat = (rangeD l b).length := by unfold rangeD; simp
  rw [eL] at W0
  refine ⟨_, _, _, _, _, rfl, W0, ?_, ?_, ?_, ?_, ?_, (by rw [← eL]; omega), (by intro b hb; rw [List.mem_singleton] at hb; subst hb; exact hL.fresh (get_size_none _)), (fun i j ds s' elts x1 pos T Q E hd => by unfold rangeD at hd; rw [List.getElem?_map] at hd; obtain ⟨_, _, hd⟩ := Option.map_eq_some_iff.mp hd; cases hd), kp_trans k (kp_push _ _)⟩
  · rw [← eL]
    have a1 : l + ((0 : Nat) : Int) * 1 = l := by simp
    have a2 : (((b - l).toNat : Nat) : Int) - ((0 : Nat) : Int) = ((b - l).toNat : Int) := by simp
    rw [a1, a2]
    exact Heap.get?_push_size _ rfl
  · intro b hb; rw [List.mem_singleton] at hb; rw [Heap.size_push]; subst hb; exact Nat.lt_succ_self _
  · intro b hb; rw [List.mem_singleton] at hb; subst hb; exact new_of_size k
  · intro i h st b hb; rw [List.mem_singleton] at hb; subst hb; exact ⟨_, st⟩
  · intro i v d ⟨t, hv⟩ hd
    unfold rangeD at hd
    rw [List.getElem?_map] at hd
    obtain ⟨j, hj, rfl⟩ := Option.map_eq_some_iff.mp hd
    have hij : j = i := by
      have := (List.getElem?_eq_some_iff.mp hj)
      obtain ⟨h1, h2⟩ := this
      simpa using h2.symm
    subst hij hv
    rw [Int.mul_one]
    exact rp_int
end Mine
end SWG
section SWH
open PySem PySem.W PyProof.Rows PySem.Calls
namespace Mine
variable {prog : Program} {w : World}
section
variable {W : Wd prog w} {k : Nat} {F : Fn} {n : Nat}
theorem evp_ok (ih : EvAll W k F n) {sc e ρ p env A s X E} (h : evp F (n + 1) sc e ρ = some p) (hA : AOk (k + 1) A) (eo : EnvOk env sc) (hG : W.G s.heap) (hl : Live X s.heap) (S : Sees W X env s.heap ρ) :
    wpAny (model prog w) A (evalPart e env) (fun v s' => IsPart v p ∧ Keeps s s') E s := by
  cases e with
  | none =>
    simp only [evp, Option.some.injEq] at h
    subst h
    exact wpAny_evalPart_none ⟨.none, kp_refl _⟩
  | some e =>
    simp only [evp, Option.bind_eq_bind, Option.bind_eq_some_iff, Option.some.injEq] at h
    obtain ⟨a, h1, i, h2, rfl⟩ := h
    refine wpAny_evalPart_some (wpk (ih.ev h1 hA eo hG hl S) fun v s₁ q => ?_)
    cases a <;> simp only [asInt, Option.some.injEq, reduceCtorEq] at h2
    subst h2
    have q1 := q.1
    simp only [Rp] at q1
    obtain ⟨t, rfl⟩ := q1
    exact ⟨.int _ t, q.2⟩
theorem tst_ok (ih : EvAll W k F n) {sc e ρ b env A s X E} (h : tst F (n + 1) sc e ρ = some b) (hA : AOk (k + 1) A) (eo : EnvOk env sc) (hG : W.G s.heap) (hl : Live X s.heap) (S : Sees W X env s.heap ρ) :
    wpAny (model prog w) A (isTrue e env (eval e env)) (fun c s' => c = b ∧ Keeps s s') E s := by
  unfold tst at h
  split at h
  · cases ‹_ = _›
  · rename_i m sc x p ρ hn
    cases hn
    simp only [Option.bind_eq_bind, Option.bind_eq_some_iff, Option.some.injEq] at h
    obtain ⟨c, h1, rfl⟩ := h
    exact wpAny_isTrue_Not (wpk (ih.tst h1 hA eo hG hl S) fun c' s' q => ⟨by rw [q.1], q.2⟩)
  · rename_i m sc x y p ρ hn
    cases hn
    simp only [Option.bind_eq_bind, Option.bind_eq_some_iff] at h
    obtain ⟨c, h1, h⟩ := h
    refine wpAny_isTrue_BoolOp (wpAny_allTrue_And_cons (wpk (ih.tst h1 hA eo hG hl S) fun c' s' q => ?_))
    obtain ⟨rfl, q⟩ := q
    cases c'
    · simp only [Bool.false_eq_true, if_false, Option.some.injEq] at h ⊢
      exact ⟨h, q⟩
    · simp only [if_true] at h ⊢
      refine wpAny_allTrue_And_cons (wpk (ih.tst h hA eo (W.keep hG fun _ _ e => kp_get q e) (hl.keeps q) (S.keeps q)) fun c'' s'' q' => ?_)
      obtain ⟨rfl, q'⟩ := q'
      cases c''
      · rw [if_neg Bool.false_ne_true]; exact ⟨rfl, kp_trans q q'⟩
      · rw [if_pos rfl]; exact wpAny_allTrue_And_nil ⟨rfl, kp_trans q q'⟩
  · rename_i m sc l op r p ρ hn
    cases hn
    split at h
    · cases h
    · rename_i hm
      simp only [Option.bind_eq_bind, Option.bind_eq_some_iff] at h
      obtain ⟨a, h1, c, h2, h3⟩ := h
      refine wpAny_isTrue_Compare1 (wpk (ih.ev h1 hA eo hG hl S) fun v s₁ q => ?_) (by simpa using hm)
      refine wpk (ih.ev h2 hA eo (W.keep hG fun _ _ e => kp_get q.2 e) (hl.keeps q.2) (S.keeps q.2)) fun v' s₂ q' => ?_
      refine wpk (cmp_ok hA h3 (Rp.keeps q'.2 q.1) q'.1) fun c s₃ q'' => ?_
      obtain ⟨rfl, rfl⟩ := q''
      exact wpAny_truthy_bool ⟨rfl, kp_trans q.2 q'.2⟩
  · rename_i m sc f a kw p ρ hn
    cases hn
    simp only [Option.bind_eq_bind, Option.bind_eq_some_iff] at h
    obtain ⟨d, h1, h2⟩ := h
    refine wpAny_isTrue_value (wpk (ih.ev h1 hA eo hG hl S) fun v s₁ q => ?_)
    cases d <;> simp only [asBool, Option.some.injEq, reduceCtorEq] at h2
    subst h2
    have q1 := q.1
    simp only [Rp] at q1
    subst q1
    exact wpAny_truthy_bool ⟨rfl, q.2⟩
  · cases h
theorem tsts_ok (ih : EvAll W k F n) {sc es ρ b env A s X E} (h : tsts F (n + 1) sc es ρ = some b) (hA : AOk (k + 1) A) (eo : EnvOk env sc) (hG : W.G s.heap) (hl : Live X s.heap) (S : Sees W X env s.heap ρ) :
    wpAny (model prog w) A (forIn es true fun c r => if r = true then do let ok ← isTrue c env (eval c env); pure (ForInStep.yield ok) else pure (ForInStep.yield r)) (fun c s' => c = b ∧ Keeps s s') E s := by
  cases es with
  | nil =>
    simp only [tsts, Option.some.injEq] at h
    subst h
    rw [List.forIn_nil]
    exact wpAny_pure ⟨rfl, kp_refl _⟩
  | cons e r =>
    simp only [tsts, Option.bind_eq_bind, Option.bind_eq_some_iff] at h
    obtain ⟨c, h1, h⟩ := h
    rw [List.forIn_cons]
    rw [if_pos rfl]
    refine wpAny_bind (wpAny_bind (wpk (ih.tst h1 hA eo hG hl S) fun c' s₁ q => wpAny_pure ?_))
    obtain ⟨rfl, q⟩ := q
    dsimp only
    cases c'
    · simp only [Bool.false_eq_true, if_false, Option.some.injEq] at h
      subst h
      have key : ∀ l : List PySem.Expr, wpAny (model prog w) A (forIn l false fun c r => if r = true then do let ok ← isTrue c env (eval c env); pure (ForInStep.yield ok) else pure (ForInStep.yield r)) (fun c s' => c = false ∧ Keeps s s') E s₁ := by
        intro l
        induction l with
        | nil => rw [List.forIn_nil]; exact wpAny_pure ⟨rfl, q⟩
        | cons x l ihl =>
          rw [List.forIn_cons]
          rw [if_neg Bool.false_ne_true]
          exact wpAny_bind (wpAny_pure ihl)
      exact key r
    · simp only [if_true] at h
      exact wpk (ih.tsts h hA eo (W.keep hG fun _ _ e => kp_get q e) (hl.keeps q) (S.keeps q)) fun c s' q' => ⟨q'.1, kp_trans q q'.2⟩
theorem intsD_rps {X : AS} {h : Heap} : ∀ {ds : List PyData} {is : List Int} {vs : List Value}, intsD ds = some is → Rps X h ds vs → IntsAre vs is
  | [], is, vs, e, r => by
    simp only [intsD, Option.some.injEq] at e; subst e
    simp only [Rps] at r; subst r; exact .nil
  | d :: ds, is, vs, e, r => by
    simp only [Rps] at r
    obtain ⟨v, vr, rfl, h1, h2⟩ := r
    cases d <;> simp only [intsD, reduceCtorEq, Option.map_eq_some_iff] at e
    obtain ⟨js, e1, rfl⟩ := e
    simp only [Rp] at h1
    obtain ⟨t, rfl⟩ := h1
    exact .cons _ _ (intsD_rps e1 h2)
end
end Mine
end SWH
section SWI
open PySem PySem.W PyProof.Rows PySem.Calls
namespace Mine
variable {prog : Program} {w : World}
section
variable {W : Wd prog w} {k : Nat} {F : Fn} {n : Nat}
structure NmOk (W : Wd prog w) : Prop where
  range : W.nm sRange = some (.type "range")
  list : W.nm sList = some (.type "list")
theorem strsD_vals {X : AS} {h : Heap} : ∀ {ds : List PyData} {xs : List Str} {vs : List Value}, strsD ds = some xs → Rps X h ds vs → ∃ l : List (Str × Tok), strValues l = vs ∧ l.map (·.1) = xs
  | [], is, vs, e, r => by
    simp only [strsD, Option.some.injEq] at e; subst e
    simp only [Rps] at r; subst r; exact ⟨[], rfl, rfl⟩
  | d :: ds, is, vs, e, r => by
    simp only [Rps] at r
    obtain ⟨v, vr, rfl, h1, h2⟩ := r
    cases d <;> simp only [strsD, reduceCtorEq, Option.map_eq_some_iff] at e
    rename_i x
    obtain ⟨js, e1, rfl⟩ := e
    simp only [Rp] at h1
    obtain ⟨t, rfl⟩ := h1
    obtain ⟨l, e2, e3⟩ := strsD_vals e1 h2
    exact ⟨(x, t) :: l, by rw [← e2]; rfl, by simp [e3]⟩
theorem range_ok (N : NmOk W) (ih : EvAll W k F n) {sc es ρ ds env A s X E pos np} {is : List Int} (hg : glob sc sRange = true) (h : evs F n sc es ρ = some ds) (hi : intsD ds = some is) (hlen : is.length = 1 ∨ is.length = 2)
    (hA : AOk (k + 1) A) (eo : EnvOk env sc) (hG : W.G s.heap) (hl : Live X s.heap) (S : Sees W X env s.heap ρ) :
    wpAny (model prog w) A (eval (.Call (.Name sRange np) es [] pos) env) (fun v s' => Keeps s s' ∧ ∃ r l b t u z, v = .ref r ∧ (is = [b] ∧ l = 0 ∨ is = [l, b]) ∧ IsRange s'.heap r l b 1 t u z ∧ s.heap.get? r = none) E s := by
  have hne : es ≠ [] := by
    rintro rfl
    cases n with
    | zero => simp [evs] at h
    | succ n =>
      simp only [evs, Option.some.injEq] at h; subst h
      simp only [intsD, Option.some.injEq] at hi; subst hi
      simp at hlen
  refine wpAny_Call_NameR (ld_glob W eo hg hG N.range ?_)
  refine callW_cal W (.inr (.inl ⟨_, rfl⟩)) hG hne (evs_nostar h) (wpk (ih.evs h hA eo hG hl S) fun vs s₁ q => ⟨q.2, ?_⟩)
  have hI := intsD_rps hi q.1
  have hnew := new_of_size q.2
  rcases hlen with h1 | h1
  · obtain ⟨b, rfl⟩ := List.length_eq_one_iff.mp h1
    cases hI with
    | cons _ t hI =>
      cases hI
      exact PySem.call_range_1 ⟨kp_trans q.2 ⟨_, _, rfl, fun _ _ e => Heap.get?_push_of_some _ e⟩, _, 0, b, _, _, _, rfl, .inl ⟨rfl, rfl⟩, Heap.get?_push_size _ rfl, hnew⟩
  · obtain ⟨l, b, rfl⟩ : ∃ l b, is = [l, b] := by
      match is, h1 with
      | [l, b], _ => exact ⟨l, b, rfl⟩
    cases hI with
    | cons _ t hI =>
      cases hI with
      | cons _ u hI =>
        cases hI
        exact PySem.call_range_2 ⟨kp_trans q.2 ⟨_, _, rfl, fun _ _ e => Heap.get?_push_of_some _ e⟩, _, l, b, _, _, _, rfl, .inr rfl, Heap.get?_push_size _ rfl, hnew⟩
theorem its_ok (N : NmOk W) (ih : EvAll W k F n) {sc e ρ xs env A s X E} (h : its F (n + 1) sc e ρ = some xs) (hA : AOk (k + 1) A) (eo : EnvOk env sc) (hG : W.G s.heap) (hl : Live X s.heap) (S : Sees W X env s.heap ρ) :
    wpAny (model prog w) A (eval e env) (fun v s₁ => wpAny (model prog w) A (pyIter v) (IterEnd prog w A X xs s) E s₁) E s := by
  unfold its at h
  split at h
  · rename_i es hr
    unfold rangeArgs at hr
    split at hr
    · rename_i r np es' p
      split at hr
      · rename_i hrr
        obtain ⟨rfl, hg⟩ := hrr
        cases hr
        simp only [Option.bind_eq_bind, Option.bind_eq_some_iff] at h
        obtain ⟨ds, h1, is, h2, h⟩ := h
        split at h
        · rename_i b
          split at h
          · rename_i hb
            cases h
            refine wpk (range_ok N ih hg h1 h2 (.inl rfl) hA eo hG hl S) fun v s₁ q => ?_
            obtain ⟨kk, r, l, b', t, u, z, rfl, hc, hr, _⟩ := q
            rcases hc with ⟨hc, rfl⟩ | hc
            · cases hc
              exact iter_range hA.h hr kk (hl.keeps kk) (by omega) (by omega) hb.1 hb.2
            · cases hc
          · cases h
        · rename_i l b
          split at h
          · rename_i hb
            cases h
            refine wpk (range_ok N ih hg h1 h2 (.inr rfl) hA eo hG hl S) fun v s₁ q => ?_
            obtain ⟨kk, r, l', b', t, u, z, rfl, hc, hr, _⟩ := q
            rcases hc with ⟨hc, _⟩ | hc
            · cases hc
            · cases hc
              exact iter_range hA.h hr kk (hl.keeps kk) hb.1 hb.2.1 hb.2.2.1 hb.2.2.2
          · cases h
        · cases h
      · cases hr
    · cases hr
  · simp only [Option.bind_eq_bind, Option.bind_eq_some_iff] at h
    obtain ⟨d, h1, h2⟩ := h
    refine wpk (ih.ev h1 hA eo hG hl S) fun v s₁ q => ?_
    unfold itemsD at h2
    split at h2
    · split at h2
      · cases h2
        rename_i hsz; exact iter_list hA.h q.1 q.2 (hl.keeps q.2) hsz
      · cases h2
    · split at h2
      · cases h2
        rename_i hsz; exact iter_str hA.h q.1 q.2 (hl.keeps q.2) hsz
      · cases h2
    · cases h2
end
end Mine
end SWI
section SWJ
open PySem PySem.W PyProof.Rows PySem.Calls
set_option maxRecDepth 20000
namespace Mine
variable {prog : Program} {w : World}
section
variable {W : Wd prog w} {k : Nat} {F : Fn} {n : Nat}
theorem const_ok {c : Const} {d : PyData} {kd : Nat} {p : Pos} {env : Env} {A : Around} {s : Shared} {X : AS} {E : Value → Shared → Prop} (h : constD c = some d) : wpAny (model prog w) A (eval (.Constant c kd p) env) (Gv X s d) E s := by
  unfold constD at h
  split at h
  · cases h; exact wpAny_Constant_int gv_int
  · cases h; exact wpAny_Constant_str ⟨rp_str, kp_tok _ _⟩
  · cases h; exact wpAny_Constant_none ⟨by simp only [Rp], kp_refl _⟩
  · cases h; exact wpAny_Constant_bool ⟨rp_bool, kp_refl _⟩
  · cases h
theorem sub_tail {value slice : Expr} {o i : Value} {T id : String} {A : Around} {s : Shared} {E : Value → Shared → Prop} {Q : Value → Shared → Prop} (hT : s.TypeIs o T) (hl : typeLookup (.type T) "__getitem__" = pure (some (.builtin id)))
    (hg : wpAny (model prog w) A (getItem o i) Q E s) : wpAny (model prog w) A (subscriptTail value slice o i) Q E s := by
  obtain ⟨ops, e⟩ := subs_ops slice o i
  exact tail_any hT hl hg e
theorem idx_type {X : AS} {s : Shared} {a b r : PyData} {v : Value} (h : idxD a b = some r) (ra : Rp X s.heap a v) : ∃ T id, s.TypeIs v T ∧ typeLookup (.type T) "__getitem__" = pure (some (.builtin id)) := by
  unfold idxD at h
  split at h
  · simp only [Rp] at ra
    obtain ⟨x, vs, rfl, _, hl, _⟩ := ra
    exact ⟨"list", _, hl.isList.typeIs, slot_list_getitem.lookup⟩
  · simp only [Rp] at ra
    obtain ⟨x, vs, rfl, _, hl, _⟩ := ra
    exact ⟨"tuple", _, ⟨_, hl.choose_spec, rfl⟩, PySem.F.slot_tuple_getitem.lookup⟩
  · simp only [Rp] at ra
    obtain ⟨t, rfl⟩ := ra
    exact ⟨"str", _, typeIs_str _ _ _, PySem.F.slot_str_getitem.lookup⟩
  · cases h
theorem list_range_ok {A : Around} {X : AS} {s₀ s : Shared} {r : Addr} {b : Int} {t u v : Tok} {E : Value → Shared → Prop} (hh : A.handled = none) (hr : IsRange s.heap r 0 b 1 t u v) (kk : Keeps s₀ s) (hl : Live X s.heap) (h3 : -1000000 ≤ b) (h4 : b ≤ 1000000) :
    wpAny (model prog w) A (call (.type "list") [.ref r]) (Gv X s₀ (.list (rangeD 0 b))) E s := by
  have e : Builtin.Range.rangeSize 0 b 1 = ((b - 0).toNat : Int) := by
    rw [rangeSize_one]; split <;> omega
  refine call_list_range hh hr (small_one (by omega) (by omega) (by omega) (by omega)) e (by omega) fun h' tk acc' c' hk hS hit => ?_
  refine ⟨?_, kp_trans kk ⟨h', tk, rfl, hk⟩⟩
  simp only [Rp]
  refine ⟨_, acc'.toList, rfl, hl.fresh (get_size_none _), ⟨c', by simpa using hS⟩, ?_⟩
  have hlen : acc'.toList.length = (rangeD 0 b).length := by
    unfold rangeD
    simp only [List.length_map, List.length_range]
    simpa using hit.1
  refine Rps.of_get hlen fun i d v e1 e2 => ?_
  unfold rangeD at e1
  rw [List.getElem?_map] at e1
  obtain ⟨j, hj, rfl⟩ := Option.map_eq_some_iff.mp e1
  have hij : j = i := by
    obtain ⟨h1, h2⟩ := List.getElem?_eq_some_iff.mp hj
    simpa using h2.symm
  subst hij
  obtain ⟨t, rfl⟩ := hit.2 j v (by simpa using e2)
  rw [Int.mul_one]
  exact rp_int
theorem callW_builtin {id : String} {first : List Value} {A : Around} {E : Value → Shared → Prop} {s : Shared} {pos : Pos} {env : Env} {args : List Expr} {Q : Value → Shared → Prop} (hne : args ≠ [])
    (hn : ∀ e ∈ args, ∀ v p, e ≠ .Starred v p) (h : wpAny (model prog w) A (spliced (backTo pos (starEach args env))) (fun vs s₁ => wpAny (model prog w) A (call (.builtin id) (first ++ vs)) Q E s₁) E s) :
    wpAny (model prog w) A (callWith pos (.builtin id) first (backTo pos (starEach args env)) []) Q E s :=
  callWith_builtin (any_plain hn) (wpk (args_cal hne hn h) fun a s' q => by rw [q.1]; exact q.2)
theorem len_starEach {env : Env} : ∀ {es : List Expr}, (∀ e ∈ es, ∀ v p, e ≠ .Starred v p) → ∀ pos, (backTo pos (starEach es env)).all (fun x => !x.1) = true
  | [], _, _ => rfl
  | e :: r, h, pos => by
    rw [starEach_plain (h e List.mem_cons_self)]
    exact len_starEach (es := r) (fun e he => h e (List.mem_cons_of_mem _ he)) pos
theorem call_meth {o : Expr} {name : Str} {apos pos : Pos} {args : List Expr} {env : Env} {A : Around} {E : Value → Shared → Prop} {s : Shared} {Q : Value → Shared → Prop} (hbase : attributeBase o name env (eval o env) = eval o env)
    (hn : ∀ e ∈ args, ∀ v p, e ≠ .Starred v p) (hfew : args.length < 30) (hline : (apos.endLine == pos.line) = true)
    (h : wpAny (model prog w) A (eval o env) (fun ov s₁ => ∀ imp : Sem Bool, wpAny (model prog w) A (getMethod ov name imp) (fun r s₂ => wpAny (model prog w) A (callWith pos r.1 r.2 (backTo pos (starEach args env)) []) Q E s₂) E s₁) E s) :
    wpAny (model prog w) A (eval (.Call (.Attribute o name apos) args [] pos) env) Q E s := by
  rw [arm_eval_Call, hbase]
  refine wpAny_bind (wpk h fun ov s₁ h₁ => wpAny_bind (wpAny_standAt ?_))
  have hform : methodCallForm (args.length + ([] : List Keyword).length) (backTo pos (starEach args env)) (backToKw pos (keywordEach [] env)) = true := by
    unfold methodCallForm
    rw [len_starEach hn]
    show (true && true && decide (args.length + 0 + 0 < 30)) = true
    simpa using hfew
  have hpos : methodCallPos true o env apos pos = pure pos := by unfold methodCallPos; simp [hline]
  unfold methodCall
  rw [hform]
  refine wpAny_bind (wpAny_holding ?_)
  unfold calleeOf
  rw [if_pos rfl]
  refine wpk (h₁ _) fun r s₂ h₂ => ?_
  exact wpAny_bind (wpAny_of_eq hpos h₂)
theorem join_ok (ih : EvAll W k F n) {sc x kx px ap e p ρ env A s X E} {xs : List PyData} {ys : List Str} (h1 : ev F n sc e ρ = some (.list xs)) (h3 : strsD xs = some ys) (hj : JoinOk x ys = true) (hline : (ap.endLine == p.line) = true)
    (hA : AOk (k + 1) A) (eo : EnvOk env sc) (hG : W.G s.heap) (hl : Live X s.heap) (S : Sees W X env s.heap ρ) :
    wpAny (model prog w) A (eval (.Call (.Attribute (.Constant (.str x) kx px) sJoin ap) [e] [] p) env) (Gv X s (.str (Txt.join x ys))) E s := by
  have hn1 : ∀ e' ∈ [e], ∀ v p, e' ≠ .Starred v p := fun e' he => by rw [List.mem_singleton] at he; subst he; exact ev_nostar h1
  refine call_meth rfl hn1 (by simp) hline (wpAny_Constant_str fun imp => ?_)
  refine PySem.GM.join ?_
  refine callW_builtin (by simp) hn1 ?_
  have k0 : Keeps s { s with toks := s.toks + 1 } := kp_tok _ _
  refine wpAny_items_cons (wpk (ih.ev h1 hA eo (W.keep hG fun _ _ e => kp_get k0 e) (hl.keeps k0) (S.keeps k0)) fun v s₁ q => wpAny_items_nil ?_) (starEach_plain (ev_nostar h1))
  have q1 := q.1
  simp only [Rp] at q1
  obtain ⟨a, vs, rfl, _, hpl, hr⟩ := q1
  obtain ⟨l, e2, e3⟩ := strsD_vals h3 hr
  refine PySem.SC.join (l := l) (texts := ys) ?_ e3 hj fun t' tk => ⟨rp_str, kp_trans (kp_trans k0 q.2) (kp_tok _ _)⟩
  rw [e2]; exact hpl.isList
theorem meth_cmp_ok (hF : FnOk W k F) (ih : EvAll W k F n) {sc o po ap args p ρ env A s X E} {ks : PyData} {xs : List PyData} {d : PyData} (ho : ρ o = some (.inst ks)) (hlen : args.length = 2) (h1 : evs F n sc args ρ = some xs) (h2 : F sTC (ks :: xs) = some d)
    (hline : (ap.endLine == p.line) = true) (hA : AOk (k + 1) A) (eo : EnvOk env sc) (hG : W.G s.heap) (hl : Live X s.heap) (S : Sees W X env s.heap ρ) :
    wpAny (model prog w) A (eval (.Call (.Attribute (.Name o po) sCompare ap) args [] p) env) (Gv X s d) E s := by
  obtain ⟨hp, v, nv, r⟩ := S _ _ ho
  refine call_meth rfl (evs_nostar h1) (by omega) hline (ld_var eo.kind hp nv fun imp => ?_)
  refine W.meth hG r A E imp _ ?_
  obtain ⟨fo, fd, hfo, hfd⟩ := W.fcAt
  refine callWith_function (o := fo) (fd := fd) (wpk (args_cal (by rintro rfl; simp at hlen) (evs_nostar h1) (ih.evs h1 hA eo hG hl S)) fun a s₁ q => ?_)
  obtain ⟨hk, q1, q2⟩ := q
  refine ⟨⟨hfo _ (W.keep hG fun _ _ e => kp_get q2 e), hfd⟩, ?_⟩
  rw [hk]
  exact wpk (hF.cmp ks xs d h2 A s₁ X v a.pos E (hA.mono (Nat.le_succ _)) (W.keep hG fun _ _ e => kp_get q2 e) (hl.keeps q2) (W.instKeep (fun _ _ hx e => ⟨kp_get q2 e, hx⟩) r) q1) fun v s₂ q' => ⟨q'.1, kp_trans q2 q'.2⟩
theorem meth_low_ok (hF : FnOk W k F) {sc o po ap p ρ env A s X E} {a d : PyData} (ho : ρ o = some (.dat a)) (h2 : F sLower [a] = some d)
    (hline : (ap.endLine == p.line) = true) (hA : AOk (k + 1) A) (eo : EnvOk env sc) (S : Sees W X env s.heap ρ) :
    wpAny (model prog w) A (eval (.Call (.Attribute (.Name o po) sLower ap) [] [] p) env) (Gv X s d) E s := by
  obtain ⟨hp, v, nv, r⟩ := S _ _ ho
  obtain ⟨x, rfl, hok⟩ := hF.low a d h2
  have r' : Rp X s.heap (.str x) v := r
  simp only [Rp] at r'
  obtain ⟨t, rfl⟩ := r'
  refine call_meth rfl (fun e he => by cases he) (by simp) hline (ld_var eo.kind hp nv fun imp => ?_)
  refine PySem.GM.of (.str x t) (typeIs_str _ _ _) PySem.F.slot_str_lower PySem.F.type_str_lower PySem.GM.noRef ?_
  refine callWith_builtin rfl (evalArgs_nil3 ?_)
  exact hok A s X t E (hA.mono (Nat.le_succ _))
theorem meth_get_ok (hF : FnOk W k F) (ih : EvAll W k F n) {sc po ap args p ρ env A s X E} {xs : List PyData} {d : PyData} (hg : glob sc sB3 = true) (hlen : args.length = 1) (h1 : evs F n sc args ρ = some xs) (h2 : F sGetB3 xs = some d)
    (hline : (ap.endLine == p.line) = true) (hA : AOk (k + 1) A) (eo : EnvOk env sc) (hG : W.G s.heap) (hl : Live X s.heap) (S : Sees W X env s.heap ρ) :
    wpAny (model prog w) A (eval (.Call (.Attribute (.Name sB3 po) sGet ap) args [] p) env) (Gv X s d) E s := by
  obtain ⟨r, o, hn, ho, hc, hd, hok⟩ := hF.get xs d h2
  refine call_meth rfl (evs_nostar h1) (by omega) hline (ld_glob W eo hg hG hn fun imp => ?_)
  refine getMethod_builtin (id := "dict.get") ⟨o, ho _ hG, hc⟩ PySem.F.plainAttrs_dict PySem.F.slot_dict_get PySem.F.type_dict_get (fun a e => by cases e; exact ⟨o, ho _ hG, hd⟩) ?_
  refine callW_builtin (by rintro rfl; simp at hlen) (evs_nostar h1) (wpk (ih.evs h1 hA eo hG hl S) fun vs s₁ q => ?_)
  exact wpk (hok A s₁ X vs E (hA.mono (Nat.le_succ _)) (W.keep hG fun _ _ e => kp_get q.2 e) q.1) fun v s₂ q' => ⟨q'.1, kp_trans q.2 q'.2⟩
theorem ev_ok (N : NmOk W) (hF : FnOk W k F) (hC : CompOk W k F n) (ih : EvAll W k F n) {sc e ρ d env A s X E} (h : ev F (n + 1) sc e ρ = some d) (hA : AOk (k + 1) A) (eo : EnvOk env sc) (hG : W.G s.heap) (hl : Live X s.heap) (S : Sees W X env s.heap ρ) :
    wpAny (model prog w) A (eval e env) (Gv X s d) E s := by
  have hA' : AOk k A := hA.mono (Nat.le_succ _)
  have h₀ := h
  unfold ev at h
  split at h
  · cases ‹_ = _›
  · exact const_ok h
  ·
    split at h
    · rename_i d' hx
      cases h
      obtain ⟨p, v, nv, r⟩ := S _ _ hx
      exact ld_var eo.kind p nv ⟨r, kp_refl _⟩
    · cases h
  ·
    rename_i hn; cases hn
    simp only [Option.bind_eq_bind, Option.bind_eq_some_iff] at h
    obtain ⟨a, h1, b, h2, h3⟩ := h
    refine wpAny_BinOp (wpk (ih.ev h1 hA eo hG hl S) fun v s₁ q => ?_)
    refine wpk (ih.ev h2 hA eo (W.keep hG fun _ _ e => kp_get q.2 e) (hl.keeps q.2) (S.keeps q.2)) fun v' s₂ q' => ?_
    exact wpk (bin_ok h3 (Rp.keeps q'.2 q.1) q'.1 ((hl.keeps q.2).keeps q'.2)) fun v s₃ q'' => ⟨q''.1, kp_trans (kp_trans q.2 q'.2) q''.2⟩
  ·
    rename_i hn; cases hn
    simp only [Option.bind_eq_bind, Option.bind_eq_some_iff, Option.some.injEq] at h
    obtain ⟨a, h1, i, h2, rfl⟩ := h
    refine wpAny_UnaryOp (wpk (ih.ev h1 hA eo hG hl S) fun v s₁ q => ?_)
    cases a <;> simp only [asInt, Option.some.injEq, reduceCtorEq] at h2
    subst h2
    exact wpk (neg_ok q.1) fun v s₃ q'' => ⟨q''.1, kp_trans q.2 q''.2⟩
  ·
    rename_i hn; cases hn
    split at h
    · rename_i hm
      subst hm
      split at h
      · rename_i ks ho
        cases h
        obtain ⟨hp, v, nv, r⟩ := S _ _ ho
        refine Attribute_name (ld_var eo.kind hp nv ?_)
        exact W.attr hG r A E _ fun v' r' => ⟨r', kp_tok _ _⟩
      · cases h
    · cases h
  ·
    rename_i hn; cases hn
    split at h
    · rename_i hg
      obtain ⟨rfl, hg⟩ := hg
      simp only [Option.bind_eq_bind, Option.bind_eq_some_iff] at h
      obtain ⟨a, h1, h2⟩ := h
      obtain ⟨v', hnm, hok⟩ := hF.inset a d h2
      refine wpAny_Compare1 (wpk (ih.ev h1 hA eo hG hl S) fun v s₁ q => ?_) rfl
      have hG' := W.keep hG fun _ _ e => kp_get q.2 e
      refine ld_glob W eo hg hG' hnm ?_
      exact wpk (hok A s₁ X v E hA' hG' q.1) fun v s₂ q' => ⟨q'.1, kp_trans q.2 q'.2⟩
    · cases h
  ·
    rename_i hn; cases hn
    split at h
    · cases h
    · rename_i hm
      simp only [Option.bind_eq_bind, Option.bind_eq_some_iff, Option.some.injEq] at h
      obtain ⟨a, h1, b, h2, c, h3, rfl⟩ := h
      refine wpAny_Compare1 (wpk (ih.ev h1 hA eo hG hl S) fun v s₁ q => ?_) (by simpa using hm)
      refine wpk (ih.ev h2 hA eo (W.keep hG fun _ _ e => kp_get q.2 e) (hl.keeps q.2) (S.keeps q.2)) fun v' s₂ q' => ?_
      refine wpk (cmp_ok hA h3 (Rp.keeps q'.2 q.1) q'.1) fun v s₃ q'' => ?_
      obtain ⟨rfl, rfl⟩ := q''
      exact ⟨rp_bool, kp_trans q.2 q'.2⟩
  ·
    rename_i hn; cases hn
    simp only [Option.bind_eq_bind, Option.bind_eq_some_iff] at h
    obtain ⟨c, h1, h2⟩ := h
    refine wpAny_IfExp (wpk (ih.tst h1 hA eo hG hl S) fun c' s₁ q => ?_)
    obtain ⟨rfl, q⟩ := q
    cases c'
    · rw [if_neg Bool.false_ne_true] at h2 ⊢
      exact wpk (ih.ev h2 hA eo (W.keep hG fun _ _ e => kp_get q e) (hl.keeps q) (S.keeps q)) fun v s₂ q' => ⟨q'.1, kp_trans q q'.2⟩
    · rw [if_pos rfl] at h2 ⊢
      exact wpk (ih.ev h2 hA eo (W.keep hG fun _ _ e => kp_get q e) (hl.keeps q) (S.keeps q)) fun v s₂ q' => ⟨q'.1, kp_trans q q'.2⟩
  ·
    rename_i hn; cases hn
    simp only [Option.bind_eq_bind, Option.bind_eq_some_iff] at h
    obtain ⟨xs, h1, h2⟩ := h
    split at h2
    · rename_i hz
      cases h2
      refine wpAny_List (wpk (ih.evs h1 hA eo hG hl S) fun vs s₁ q => ⟨by rw [sizeLine_big, q.1.length]; omega, ?_⟩)
      exact ⟨Rp.newList (hl.keeps q.2) q.1, kp_trans q.2 (kp_push _ _)⟩
    · cases h2
  ·
    rename_i hn; cases hn
    simp only [Option.bind_eq_bind, Option.bind_eq_some_iff] at h
    obtain ⟨xs, h1, h2⟩ := h
    split at h2
    · rename_i hz
      cases h2
      refine PyProof.Rows.Tuple_ (wpk (ih.evs h1 hA eo hG hl S) fun vs s₁ q => ?_)
      refine wpAny_newObj_type ⟨Rp.newTuple (hl.keeps q.2) q.1, kp_trans q.2 (kp_push _ _)⟩ ?_
      show vs.toArray.size ≤ sizeLine
      rw [List.size_toArray, sizeLine_big, q.1.length]; omega
    · cases h2
  ·
    rename_i hn; cases hn
    simp only [Option.bind_eq_bind, Option.bind_eq_some_iff] at h
    obtain ⟨a, h1, xs, h2, lo, h3, hi, h4, st, h5, h6⟩ := h
    split at h6
    · rename_i hz
      cases h6
      cases a <;> simp only [asList, Option.some.injEq, reduceCtorEq] at h2
      subst h2
      refine PyProof.Rows.Subscript_ (wpk (ih.ev h1 hA eo hG hl S) fun v s₁ q => wpAny_Slice ?_)
      refine wpk (ih.evp h3 hA eo (W.keep hG fun _ _ e => kp_get q.2 e) (hl.keeps q.2) (S.keeps q.2)) fun vl s₂ q2 => ?_
      have k2 := kp_trans q.2 q2.2
      refine wpk (ih.evp h4 hA eo (W.keep hG fun _ _ e => kp_get k2 e) (hl.keeps k2) (S.keeps k2)) fun vu s₃ q3 => ?_
      have k3 := kp_trans k2 q3.2
      refine wpk (ih.evp h5 hA eo (W.keep hG fun _ _ e => kp_get k3 e) (hl.keeps k3) (S.keeps k3)) fun vt s₄ q4 => ?_
      have k4 := kp_trans k3 q4.2
      have kk : Keeps s₁ s₄ := kp_trans (kp_trans q2.2 q3.2) q4.2
      have rl := Rp.keeps (kp_push s₄ ({ cls := .type "slice", data := .fields #[vl, vu, vt] } : Obj)) (Rp.keeps kk q.1)
      simp only [Rp] at rl
      obtain ⟨al, vs, rfl, hx, hpl, hrs⟩ := rl
      refine sub_tail (T := "list") hpl.isList.typeIs slot_list_getitem.lookup ?_
      refine wpk (slice_ok (s := { s₄ with heap := s₄.heap.push ({ cls := .type "slice", data := .fields #[vl, vu, vt] } : Obj) }) ((hl.keeps k4).keeps (kp_push _ _)) hpl hrs hz.1 (Heap.IsSliceOf.new ..) q2.1 q3.1 q4.1 hz.2) fun v s₅ q5 => ?_
      exact ⟨q5.1, kp_trans k4 (kp_trans (kp_push _ _) q5.2)⟩
    · cases h6
  ·
    rename_i hn; cases hn
    simp only [Option.bind_eq_bind, Option.bind_eq_some_iff] at h
    obtain ⟨a, h1, b, h2, h3⟩ := h
    refine PyProof.Rows.Subscript_ (wpk (ih.ev h1 hA eo hG hl S) fun v s₁ q => ?_)
    refine wpk (ih.ev h2 hA eo (W.keep hG fun _ _ e => kp_get q.2 e) (hl.keeps q.2) (S.keeps q.2)) fun v' s₂ q' => ?_
    obtain ⟨T, id, hT, hlk⟩ := idx_type h3 (Rp.keeps q'.2 q.1)
    refine sub_tail hT hlk ?_
    exact wpk (getItem_ok h3 (Rp.keeps q'.2 q.1) q'.1) fun v s₃ q'' => ⟨q''.1, kp_trans (kp_trans q.2 q'.2) q''.2⟩
  ·
    rename_i hn; cases hn
    split at h
    · rename_i f np args p hg
      split at h
      · rename_i hf
        subst hf
        simp only [Option.bind_eq_bind, Option.bind_eq_some_iff] at h
        obtain ⟨e1, h1, es, h2, xs, h3, is, h4, b, h5, h6⟩ := h
        split at h6
        · rename_i hb
          cases h6
          obtain ⟨e2, rfl⟩ := List.length_eq_one_iff.mp hb.2.2.1
          cases h1
          unfold rangeArgs at h2
          split at h2
          · rename_i r np' es' p'
            split at h2
            · rename_i hr
              cases h2
              obtain ⟨rfl, hgr⟩ := hr
              refine wpAny_Call_NameR (ld_glob W eo hg hG N.list ?_)
              refine callW_cal W (.inr (.inl ⟨_, rfl⟩)) hG (by simp) (fun e he v p => by rw [List.mem_singleton] at he; subst he; exact Expr.noConfusion) ?_
              refine wpAny_items_cons (wpk (range_ok N ih hgr h3 h4 (.inl hb.2.2.2) hA eo hG hl S) fun v s₁ q => ?_)
              obtain ⟨kk, r, l, b', t, u, z, rfl, hc, hr, _⟩ := q
              refine wpAny_items_nil ⟨kk, ?_⟩
              rcases hc with ⟨rfl, rfl⟩ | rfl
              · cases h5
                exact list_range_ok hA.h hr kk (hl.keeps kk) hb.1 hb.2.1
              · exact absurd hb.2.2.2 (by simp)
            · cases h2
          · cases h2
        · cases h6
      · rename_i hf
        split at h
        · cases h
        · rename_i hff
          simp only [Option.bind_eq_bind, Option.bind_eq_some_iff] at h
          obtain ⟨xs, h1, h2⟩ := h
          obtain ⟨fv, hn, hcal, hok⟩ := hF.fn f xs d h2 (fun e => hff (.inl e)) (fun e => hff (.inr (.inl e))) (fun e => hff (.inr (.inr (.inl e)))) (fun e => hff (.inr (.inr (.inr e))))
          have hne : args ≠ [] := by
            rintro rfl
            cases n with
            | zero => simp [evs] at h1
            | succ n =>
              simp only [evs, Option.some.injEq] at h1; subst h1
              rw [hF.ne] at h2; cases h2
          refine wpAny_Call_NameR (ld_glob W eo hg hG hn ?_)
          refine callW_cal W hcal hG hne (evs_nostar h1) (wpk (ih.evs h1 hA eo hG hl S) fun vs s₁ q => ⟨q.2, ?_⟩)
          exact wpk (hok A s₁ X vs E hA' (W.keep hG fun _ _ e => kp_get q.2 e) (hl.keeps q.2) q.1) fun v s₂ q' => ⟨q'.1, kp_trans q.2 q'.2⟩
    · cases h
  ·
    rename_i hn; cases hn
    split at h
    · rename_i hm
      obtain ⟨rfl, hline⟩ := hm
      simp only [Option.bind_eq_bind, Option.bind_eq_some_iff] at h
      obtain ⟨a, h1, xs, h2, ys, h3, h4⟩ := h
      split at h4
      · rename_i hj
        cases h4
        cases a <;> simp only [asList, Option.some.injEq, reduceCtorEq] at h2
        subst h2
        exact join_ok ih h1 h3 hj hline hA eo hG hl S
      · cases h4
    · cases h
  ·
    rename_i hn; cases hn
    split at h
    · rename_i hline
      split at h
      · rename_i ks ho
        split at h
        · rename_i hm
          obtain ⟨rfl, hlen⟩ := hm
          simp only [Option.bind_eq_bind, Option.bind_eq_some_iff] at h
          obtain ⟨xs, h1, h2⟩ := h
          exact meth_cmp_ok hF ih ho hlen h1 h2 hline hA eo hG hl S
        · cases h
      · rename_i a ho
        split at h
        · rename_i hm
          obtain ⟨rfl, rfl⟩ := hm
          exact meth_low_ok hF ho h hline hA eo S
        · cases h
      · split at h
        · rename_i hm
          obtain ⟨rfl, rfl, hg, hlen⟩ := hm
          simp only [Option.bind_eq_bind, Option.bind_eq_some_iff] at h
          obtain ⟨xs, h1, h2⟩ := h
          exact meth_get_ok hF ih hg hlen h1 h2 hline hA eo hG hl S
        · cases h
    · cases h
  ·
    rename_i hn; cases hn
    exact hC ih h₀ hA eo hG hl S
  · cases h
end
end Mine
end SWJ
section SWK
open PySem PySem.W PyProof.Rows PySem.Calls
namespace Mine
variable {prog : Program} {w : World}
theorem plainB_iff {x : Str} : plainB x = true ↔ plainName x := by
  unfold plainB plainName
  simp only [Bool.and_eq_true, Bool.not_eq_true']
theorem lookup_mem {β : Type} : ∀ {l : List (Str × β)} {a : Str} {b : β}, l.lookup a = some b → (a, b) ∈ l := PySem.mem_of_lookup_some
theorem lookup_some {β : Type} : ∀ {l : List (Str × β)} {a : Str} {b : β}, (a, b) ∈ l → ∃ c, l.lookup a = some c
  | (k, v) :: l, a, b, h => by
    rw [List.lookup_cons]
    split
    · exact ⟨_, rfl⟩
    · rename_i hk
      rcases List.mem_cons.mp h with h | h
      · cases h; simp at hk
      · exact lookup_some h
structure Fit (sc isc : Scope) (x : Str) : Prop where
  kind : isc.kind = .function
  hx : isc.names.lookup x = some .local
  px : plainName x
  cell : ∀ y ∈ isc.names, y.2 ≠ .cell
  loc : ∀ y ∈ isc.names, y.2 = .local → isc.names.lookup y.1 = some .local
  free : ∀ y ∈ isc.names, y.2 = .free → sc.names.lookup y.1 = some .cell ∨ sc.names.lookup y.1 = some .free
  plain : ∀ y ∈ isc.names, plainName y.1
theorem Fit.of {sc isc : Scope} {x : Str} (h : compFit sc isc x = true) : Fit sc isc x := by
  unfold compFit at h
  simp only [Bool.and_eq_true, List.all_eq_true, decide_eq_true_eq, Bool.or_eq_true, plainB_iff] at h
  obtain ⟨⟨⟨h1, h2⟩, h3⟩, h4⟩ := h
  exact ⟨h1, h2, h3, fun y hy => (h4 y hy).1.1.1, fun y hy e => ((h4 y hy).1.1.2).resolve_left fun h => h e, fun y hy e => by
    rcases (h4 y hy).1.2 with (h | h) | h
    · exact absurd e h
    · exact .inl h
    · exact .inr h, fun y hy => (h4 y hy).2⟩
def cloAll (env : Env) : List (Str × NameKind) → List (Str × Addr) → List (Str × Addr)
  | [], cs => cs
  | (n, k) :: r, cs => if k = .free then (match env.cells.lookup n with | some c => cloAll env r ((n, c) :: cs) | none => cloAll env r cs) else cloAll env r cs
theorem clo_eq {env : Env} : ∀ (l : List (Str × NameKind)) (cs : List (Str × Addr)), (∀ y ∈ l, y.2 = .free → ∃ c, env.cells.lookup y.1 = some c) →
    (forIn l cs fun x cs => (match x with | (name, kind) => if (kind == .free) = true then do let c ← cellOf env name; pure (ForInStep.yield ((name, c) :: cs)) else pure (ForInStep.yield cs) : Sem (ForInStep (List (Str × Addr))))) = pure (cloAll env l cs)
  | [], cs, _ => rfl
  | (n, k) :: r, cs, h => by
    rw [List.forIn_cons]
    have hr : ∀ y ∈ r, y.2 = .free → ∃ c, env.cells.lookup y.1 = some c := fun y hy => h y (List.mem_cons_of_mem _ hy)
    by_cases hk : k = .free
    · subst hk
      obtain ⟨c, hc⟩ := h (n, .free) List.mem_cons_self rfl
      have e : cellOf env n = pure c := by unfold cellOf; simp only at hc; rw [hc]
      simp only [beq_self_eq_true, if_true, e, pure_bind]
      rw [clo_eq r _ hr]
      simp only at hc
      conv => rhs; unfold cloAll
      simp only [if_true, hc]
    · have hb : (k == NameKind.free) = false := by simpa using hk
      simp only [hb, Bool.false_eq_true, if_false, pure_bind]
      rw [clo_eq r _ hr]
      conv => rhs; unfold cloAll
      simp only [hk, if_false]
theorem closure_eq {env : Env} {isc : Scope} (h : ∀ y ∈ isc.names, y.2 = .free → ∃ c, env.cells.lookup y.1 = some c) : closureFor isc env = pure (cloAll env isc.names []) := by
  unfold closureFor
  rw [← clo_eq isc.names [] h]
  simp only [bind_pure]
theorem cloAll_sound {env : Env} : ∀ (l : List (Str × NameKind)) (cs : List (Str × Addr)), (∀ n c, (n, c) ∈ cs → env.cells.lookup n = some c) → ∀ n c, (n, c) ∈ cloAll env l cs → env.cells.lookup n = some c
  | [], cs, h => h
  | (n, k) :: r, cs, h => by
    unfold cloAll
    split
    · split
      · rename_i c hc
        refine cloAll_sound r _ fun n' c' hm => ?_
        rcases List.mem_cons.mp hm with hm | hm
        · cases hm; exact hc
        · exact h _ _ hm
      · exact cloAll_sound r _ h
    · exact cloAll_sound r _ h
theorem cloAll_more {env : Env} : ∀ (l : List (Str × NameKind)) (cs : List (Str × Addr)) (x : Str × Addr), x ∈ cs → x ∈ cloAll env l cs
  | [], cs, x, h => h
  | (n, k) :: r, cs, x, h => by
    unfold cloAll
    split
    · split
      · exact cloAll_more r _ x (List.mem_cons_of_mem _ h)
      · exact cloAll_more r _ x h
    · exact cloAll_more r _ x h
theorem cloAll_has {env : Env} : ∀ (l : List (Str × NameKind)) (cs : List (Str × Addr)) (n : Str) (c : Addr), (n, NameKind.free) ∈ l → env.cells.lookup n = some c → (n, c) ∈ cloAll env l cs
  | (n', k) :: r, cs, n, c, h, hc => by
    unfold cloAll
    rcases List.mem_cons.mp h with h | h
    · cases h
      simp only [if_true, hc]
      exact cloAll_more _ _ _ List.mem_cons_self
    · split
      · split <;> exact cloAll_has r _ n c h hc
      · exact cloAll_has r _ n c h hc
theorem clo_lookup {env : Env} {isc : Scope} {n : Str} {c : Addr} (h : (n, NameKind.free) ∈ isc.names) (hc : env.cells.lookup n = some c) : (cloAll env isc.names []).lookup n = some c := by
  obtain ⟨c', h'⟩ := lookup_some (cloAll_has isc.names [] n c h hc)
  have := cloAll_sound isc.names [] (fun _ _ h => nomatch h) n c' (lookup_mem h')
  rw [hc] at this; cases this; exact h'
theorem relabel_look {env : Env} : ∀ {names : List (Str × NameKind)} {x : Str} {k : NameKind}, names.lookup x = some k →
    ∃ k', (names.map fun (n, k) => if (k == NameKind.free && env.scope.kind == .function && env.kindOf n == some .cell) then (n, NameKind.cell) else (n, k)).lookup x = some k' ∧ (k' = k ∨ (k = .free ∧ k' = .cell))
  | [], _, _, h => by simp at h
  | (n, k) :: r, x, k₀, h => by
    have ih := @relabel_look env r x k₀
    show ∃ k', List.lookup x ((if (k == NameKind.free && env.scope.kind == .function && env.kindOf n == some .cell) = true then (n, NameKind.cell) else (n, k)) :: _) = some k' ∧ _
    cases hx : x == n with
    | true =>
      simp only [List.lookup_cons, hx] at h
      obtain rfl : k = k₀ := by simpa using h
      by_cases hc : (k == NameKind.free && env.scope.kind == .function && env.kindOf n == some .cell) = true
      · rw [if_pos hc]
        refine ⟨_, by simp [List.lookup_cons, hx], .inr ⟨?_, rfl⟩⟩
        simp only [Bool.and_eq_true] at hc
        simpa using hc.1.1
      · rw [if_neg hc]
        exact ⟨_, by simp [List.lookup_cons, hx], .inl rfl⟩
    | false =>
      simp only [List.lookup_cons, hx] at h
      by_cases hc : (k == NameKind.free && env.scope.kind == .function && env.kindOf n == some .cell) = true
      · rw [if_pos hc]; simp only [List.lookup_cons, hx]; exact ih h
      · rw [if_neg hc]; simp only [List.lookup_cons, hx]; exact ih h
theorem comp_kind {isc : Scope} {cl : List (Str × Addr)} {C : Addr} {env : Env} {x : Str} {k : NameKind} (h : isc.names.lookup x = some k) : ∃ k', (compEnvC isc cl C env).kindOf x = some k' ∧ (k' = k ∨ (k = .free ∧ k' = .cell)) :=
  relabel_look h
theorem comp_env {sc isc : Scope} {env : Env} {x : Str} (fit : Fit sc isc x) (eo : EnvOk env sc) (C : Addr) : EnvOk (compEnvC isc (cloAll env isc.names []) C env) isc where
  kind := fit.kind
  g := eo.g
  b := eo.b
  names := fun y hy => by
    have hy' : isc.names.lookup y = some .globalImplicit := by simpa [glob] using hy
    obtain ⟨k', h1, h2 | ⟨h2, _⟩⟩ := comp_kind (cl := cloAll env isc.names []) (C := C) (env := env) hy'
    · subst h2; exact ⟨h1, fit.plain _ (lookup_mem hy')⟩
    · cases h2
  cells := fun y hy => by
    rcases hy with hy | hy
    · exact absurd rfl (fit.cell _ (lookup_mem hy))
    · obtain ⟨_, c, hc⟩ := eo.cells y (fit.free _ (lookup_mem hy) rfl)
      refine ⟨?_, c, clo_lookup (lookup_mem hy) hc⟩
      obtain ⟨k', h1, h2 | ⟨_, h2⟩⟩ := comp_kind (cl := cloAll env isc.names []) (C := C) (env := env) hy
      · subst h2; exact .inr h1
      · subst h2; exact .inl h1
theorem comp_sees {W : Wd prog w} {sc isc : Scope} {env : Env} {x : Str} (fit : Fit sc isc x) (eo : EnvOk env sc) {C : Addr} {X X' : AS} {h h' : Heap} {ρ : Ro} (S : Sees W X env h ρ)
    (hk : ∀ b o, h.get? b = some o → h'.get? b = some o ∧ (¬ X b → ¬ X' b)) {m : Str → Option Value} (hn : h'.Ns C m) {d : PyData} {v : Value} (hm : m x = some v) (r : Rp X' h' d v) :
    Sees W X' (compEnvC isc (cloAll env isc.names []) C env) h' (put (cap isc ρ) x (.dat d)) := by
  intro y rv hy
  unfold put at hy
  split at hy
  · rename_i e
    subst e
    cases hy
    refine ⟨fit.px, v, .inl ⟨?_, m, hn, hm⟩, r⟩
    obtain ⟨k', h1, h2 | ⟨h2, _⟩⟩ := comp_kind (cl := cloAll env isc.names []) (C := C) (env := env) fit.hx
    · subst h2; exact h1
    · cases h2
  · unfold cap at hy
    split at hy
    · rename_i hf
      obtain ⟨p, v', nv, rv'⟩ := S _ _ hy
      refine ⟨p, v', .inr ?_, rv'.keep fun b o hx e => ⟨(hk b o e).1, (hk b o e).2 hx⟩⟩
      obtain ⟨h1, c, hc⟩ := eo.cells y (fit.free _ (lookup_mem hf) rfl)
      refine ⟨?_, c, clo_lookup (lookup_mem hf) hc, ?_⟩
      · obtain ⟨k', h1, h2 | ⟨_, h2⟩⟩ := comp_kind (cl := cloAll env isc.names []) (C := C) (env := env) hf
        · subst h2; exact .inr h1
        · subst h2; exact .inl h1
      · rcases nv with ⟨k, _⟩ | ⟨_, c', hc', hv⟩
        · rcases h1 with h1 | h1 <;> rw [k] at h1 <;> cases h1
        · rw [hc] at hc'; cases hc'
          exact hv.keeps fun b o e => (hk b o e).1
    · cases hy
theorem cmpL_snoc {f : PyData → Option (Option PyData)} : ∀ {xs : List PyData} {ys : List PyData} {x : PyData} {y : Option PyData}, cmpL f xs = some ys → f x = some y → cmpL f (xs ++ [x]) = some (ys ++ y.toList)
  | [], ys, x, y, h, e => by
    simp only [cmpL, Option.some.injEq] at h
    subst h
    simp only [List.nil_append, cmpL, e, Option.bind_eq_bind, Option.bind_some]
    cases y <;> rfl
  | a :: xs, ys, x, y, h, e => by
    simp only [cmpL, Option.bind_eq_bind, Option.bind_eq_some_iff] at h
    obtain ⟨b, hb, zs, hz, h⟩ := h
    simp only [List.cons_append, cmpL, hb, cmpL_snoc hz e, Option.bind_eq_bind, Option.bind_some]
    cases b with
    | none => simp only [Option.some.injEq] at h ⊢; subst h; rfl
    | some b => simp only [Option.some.injEq] at h ⊢; subst h; rfl
theorem cmpL_split {f : PyData → Option (Option PyData)} : ∀ {xs zs : List PyData} {ys : List PyData}, cmpL f (xs ++ zs) = some ys → ∃ a b, cmpL f xs = some a ∧ cmpL f zs = some b
  | [], zs, ys, h => ⟨[], ys, rfl, h⟩
  | x :: xs, zs, ys, h => by
    simp only [List.cons_append, cmpL, Option.bind_eq_bind, Option.bind_eq_some_iff] at h
    obtain ⟨b, hb, ws, hw, _⟩ := h
    obtain ⟨a, c, h1, h2⟩ := cmpL_split hw
    cases b with
    | none => exact ⟨a, c, by simp only [cmpL, hb, h1, Option.bind_eq_bind, Option.bind_some], h2⟩
    | some b => exact ⟨b :: a, c, by simp only [cmpL, hb, h1, Option.bind_eq_bind, Option.bind_some], h2⟩
theorem cmpL_get {f : PyData → Option (Option PyData)} : ∀ {xs ys : List PyData}, cmpL f xs = some ys → ∀ {i : Nat} {x : PyData}, xs[i]? = some x → ∃ y, f x = some y
  | [], ys, h, i, x, e => by simp at e
  | a :: xs, ys, h, i, x, e => by
    simp only [cmpL, Option.bind_eq_bind, Option.bind_eq_some_iff] at h
    obtain ⟨b, hb, zs, hz, h⟩ := h
    cases i with
    | zero => simp at e; subst e; exact ⟨b, hb⟩
    | succ i => exact cmpL_get hz (by simpa using e)
theorem cmpL_len {f : PyData → Option (Option PyData)} : ∀ {xs ys : List PyData}, cmpL f xs = some ys → ys.length ≤ xs.length
  | [], ys, h => by simp only [cmpL, Option.some.injEq] at h; subst h; exact Nat.le_refl _
  | a :: xs, ys, h => by
    simp only [cmpL, Option.bind_eq_bind, Option.bind_eq_some_iff] at h
    obtain ⟨b, hb, zs, hz, h⟩ := h
    have := cmpL_len hz
    cases b <;> (simp only [Option.some.injEq] at h; subst h; simp; omega)
end Mine
end SWK
section SWL
open PySem PySem.W PyProof.Rows PySem.Calls
namespace Mine
variable {prog : Program} {w : World}
def compF (F : Fn) (n : Nat) (isc : Scope) (elt : Expr) (x : Str) (ifs : List Expr) (ρ : Ro) (v : PyData) : Option (Option PyData) := do
  let b ← tsts F n isc ifs (put (cap isc ρ) x (.dat v))
  if b then do
    let y ← ev F n isc elt (put (cap isc ρ) x (.dat v))
    some (some y)
  else some none
def XC (X : AS) (wr : List Addr) (C D : Addr) : AS := fun b => X b ∨ b ∈ wr ∨ b = C ∨ b = D
theorem comp_loop {W : Wd prog w} {k : Nat} {F : Fn} {n : Nat} (ih : EvAll W k F n) {sc isc : Scope} {elt iter : Expr} {x : Str} {px pos : Pos} {ifs : List Expr} {ρ : Ro} {env : Env} {A : Around} {X : AS} {xs ds : List PyData} {s₀ s₂ s : Shared}
    {I C D : Addr} {fp wr : List Addr} {P : Nat → Value → Prop} {St : Nat → Heap → Prop} {m : Str → Option Value} {R : Result → Shared → Prop}
    (fit : Fit sc isc x) (eo : EnvOk env sc) (hA : AOk (k + 1) A) (hG : W.G s₀.heap) (hl : Live X s₀.heap) (S : Sees W X env s₀.heap ρ) (it : IterOk prog w A X xs s₀ I fp wr P St s₂) (hf : cmpL (compF F n isc elt x ifs ρ) xs = some ds)
    (hC : s₂.heap.get? C = none) (hD : s₂.heap.get? D = none) (hCD : D ≠ C) (hCf : C ∉ fp) (hDf : D ∉ fp) (hst : St 0 s.heap) (hn : s.heap.Ns C m) (hacc : s.heap.PlainList D #[]) (hs : s = { s₂ with heap := s.heap, toks := s.toks })
    (hk : ∀ b o, s₂.heap.get? b = some o → s.heap.get? b = some o)
    (hR : ∀ h' tk m' ys, h'.Ns C m' → h'.PlainList D (List.toArray ys) → Rps (XC X wr C D) h' ds ys → (∀ b o, b ∉ wr → s₂.heap.get? b = some o → h'.get? b = some o) → R (.ok .next) { s₂ with heap := h', toks := tk }) :
    codeAny (model prog w) A (.compLoop (.ListComp elt [⟨.Name x px, iter, ifs, 0⟩] isc pos) 0 (.ref I) (.ref D) (compEnvC isc (cloAll env isc.names []) C env)) R s := by
  have hCw : C ∉ wr := fun h => hCf (it.W.sub _ h)
  have hDw : D ∉ wr := fun h => hDf (it.W.sub _ h)
  have ceo := comp_env fit eo C
  have hxk : (compEnvC isc (cloAll env isc.names []) C env).kindOf x = some .local := lookup_relabel_local fit.hx
  refine codeAny_compLoop_tests
    (fun q s' => ∃ h' tk m' ys es i, s' = { s₂ with heap := h', toks := tk } ∧ i ≤ xs.length ∧ q = xs.length + 1 - i ∧ St i h' ∧ h'.PlainList D (List.toArray ys) ∧ h'.Ns C m' ∧ cmpL (compF F n isc elt x ifs ρ) (xs.take i) = some es ∧ Rps (XC X wr C D) h' es ys ∧
      (∀ b o, b ∉ wr → s₂.heap.get? b = some o → h'.get? b = some o)) ?_ (xs.length + 1)
    ⟨s.heap, s.toks, m, [], [], 0, hs, Nat.zero_le _, rfl, hst, hacc, hn, rfl, by simp only [Rps], fun b o _ e => hk b o e⟩
  rintro q s' ⟨H, tk, m', ys, es, i, rfl, hi, rfl, hst', hacc', hn', hes, hys, hk'⟩
  by_cases hlt : i < xs.length
  · obtain ⟨d, hd⟩ : ∃ d, xs[i]? = some d := ⟨_, List.getElem?_eq_getElem hlt⟩
    obtain ⟨y, hy⟩ := cmpL_get hf hd
    refine it.W.item i _ _ _ hlt hst' fun v h₁ tk₁ hPv hst₁ hk₁ => ?_
    refine wpAny_assign_Name (wpAny_storeName_local hxk (hn'.at' fun o e => hk₁ _ o hCw e) (fun h₂ hn₂ hs₂ => ?_) (by simp [compEnvC, relabel, fit.kind]))
    have up₂ : ∀ b o, b ≠ C → b ∉ wr → H.get? b = some o → h₂.get? b = some o := fun b o hbC hbf e => hs₂.extBut b o hbC (hk₁ b o hbf e)
    have hst₂ : St (i + 1) h₂ := it.W.frame _ _ _ hst₁ fun b hb o e => hs₂.extBut b o (fun h => hCf ((show b = C from h) ▸ hb)) e
    have old₂ : ∀ b o, b ∉ wr → s₂.heap.get? b = some o → h₂.get? b = some o := fun b o hb e => up₂ b o (by rintro rfl; rw [hC] at e; cases e) hb (hk' b o hb e)
    have all₂ : ∀ b o, s₀.heap.get? b = some o → h₂.get? b = some o := fun b o e => old₂ b o (fun hb => by rw [it.new b hb] at e; cases e) (kp_get it.k e)
    have hG₂ : W.G h₂ := W.keep hG all₂
    have hD₂ : h₂.PlainList D (List.toArray ys) := hacc'.at fun o e => up₂ D o hCD hDw e
    have live₂ : Live (XC X wr C D) h₂ := by
      rintro b (hb | hb | rfl | rfl)
      · obtain ⟨o, e⟩ := hl b hb; exact ⟨o, all₂ b o e⟩
      · exact it.lives _ _ hst₂ b hb
      · obtain ⟨o, _, _, e, _⟩ := hn₂; exact ⟨o, e⟩
      · obtain ⟨_, e⟩ := hD₂; exact ⟨_, e⟩
    have rv : Rp (XC X wr C D) h₂ d v := by
      refine Rp.keep (fun b o hb e => ⟨old₂ b o (fun h => hb (.inr h)) e, ?_⟩) (it.item i v d hPv hd)
      rintro (h | h | rfl | rfl)
      · exact hb (.inl h)
      · exact hb (.inr h)
      · rw [hC] at e; cases e
      · rw [hD] at e; cases e
    have S₂ : Sees W (XC X wr C D) (compEnvC isc (cloAll env isc.names []) C env) h₂ (put (cap isc ρ) x (.dat d)) := by
      refine comp_sees fit eo S (fun b o e => ⟨all₂ b o e, ?_⟩) hn₂ (by simp) rv
      rintro hb (h | h | rfl | rfl)
      · exact hb h
      · rw [it.new b h] at e; cases e
      · rw [kp_get it.k e] at hC; cases hC
      · rw [kp_get it.k e] at hD; cases hD
    unfold compF at hy
    simp only [Option.bind_eq_bind, Option.bind_eq_some_iff] at hy
    obtain ⟨c, h1, h2⟩ := hy
    refine wpk (ih.tsts h1 hA ceo hG₂ live₂ S₂) fun ok s₃ q₃ => ?_
    obtain ⟨rfl, q₃⟩ := q₃
    have k₃ := fun b o e => kp_get (b := b) (o := o) q₃ e
    have take1 : xs.take (i + 1) = xs.take i ++ [d] := by rw [List.take_add_one, hd]; rfl
    have rest : ∀ s₄ : Shared, Keeps { s₂ with heap := h₂, toks := tk₁ + 1 } s₄ → Rps (XC X wr C D) s₄.heap es ys := fun s₄ k₄ => by
      refine Rps.keep (fun b o hb e => ⟨kp_get k₄ (up₂ b o (fun h => hb (.inr (.inr (.inl h)))) (fun h => hb (.inr (.inl h))) e), hb⟩) hys
    cases ok with
    | false =>
      simp only [Bool.false_eq_true, if_false, Option.some.injEq] at h2 ⊢
      subst h2
      have e3 : compF F n isc elt x ifs ρ d = some none := by unfold compF; simp only [h1, Option.bind_eq_bind, Option.bind_some, Bool.false_eq_true, if_false]
      obtain ⟨h₃, tk₃, rfl, kk₃⟩ := q₃
      refine ⟨xs.length + 1 - (i + 1), by omega, h₃, tk₃, _, ys, es, i + 1, rfl, hlt, rfl, it.W.frame _ _ _ hst₂ fun b _ o e => kk₃ b o e, hD₂.at fun o e => kk₃ D o e, hn₂.keeps kk₃, ?_, rest _ ⟨h₃, tk₃, rfl, kk₃⟩, fun b o hb e => kk₃ b o (old₂ b o hb e)⟩
      rw [take1]
      have := cmpL_snoc hes e3
      simpa using this
    | true =>
      simp only [if_true, Option.bind_eq_some_iff, Option.some.injEq] at h2 ⊢
      obtain ⟨y', h2, rfl⟩ := h2
      have e3 : compF F n isc elt x ifs ρ d = some (some y') := by unfold compF; simp only [h1, h2, Option.bind_eq_bind, Option.bind_some, if_true]
      refine wpk (ih.ev h2 hA ceo (W.keep hG₂ k₃) (live₂.keeps q₃) (S₂.keeps q₃)) fun yv s₄ q₄ => ?_
      have k₄ := kp_trans q₃ q₄.2
      have r4 := rest _ k₄
      have ry := q₄.1
      obtain ⟨h₄, tk₄, rfl, kk₄⟩ := k₄
      have hlen := cmpL_len hes
      have hys' : (List.toArray ys).size ≤ sizeLine := by
        have := hys.length
        have h3 := it.size
        have h4 : (xs.take i).length ≤ xs.length := List.length_take_le' _ _
        simp only [List.size_toArray]
        show ys.length ≤ 2 ^ 24
        omega
      refine wpAny_list_append_plain (hsz := hys') (hD₂.at fun o e => kk₄ D o e) fun h₅ hl₅ hs₅ => ?_
      refine ⟨xs.length + 1 - (i + 1), by omega, h₅, tk₄, _, ys ++ [yv], es ++ [y'], i + 1, rfl, hlt, rfl,
        it.W.frame _ _ _ hst₂ fun b hb o e => hs₅.extBut b o (fun h => hDf (h ▸ hb)) (kk₄ b o e), by simpa using hl₅, (hn₂.keeps kk₄).sameBut hs₅ (Ne.symm hCD), ?_, ?_, fun b o hb e => hs₅.extBut b o (by rintro rfl; rw [hD] at e; cases e) (kk₄ b o (old₂ b o hb e))⟩
      · rw [take1]
        simpa using cmpL_snoc hes e3
      · have r5 : Rps (XC X wr C D) h₄ (es ++ [y']) (ys ++ [yv]) := r4.append (by simp only [Rps]; exact ⟨yv, [], rfl, ry, rfl⟩)
        exact Rps.keep (fun b o hb e => ⟨hs₅.extBut b o (fun h => hb (.inr (.inr (.inr h)))) e, hb⟩) r5
  · have hin : i = xs.length := by omega
    subst hin
    refine it.W.done _ _ _ hst' fun h₁ tk₁ hk₁ => ?_
    rw [List.take_of_length_le (Nat.le_refl _), hf] at hes
    cases hes
    exact hR h₁ tk₁ m' ys (hn'.at' fun o e => hk₁ _ o hCw e) (hacc'.at fun o e => hk₁ _ o hDw e) (Rps.keep (fun b o hb e => ⟨hk₁ b o (fun h => hb (.inr (.inl h))) e, hb⟩) hys) fun b o hb e => hk₁ b o hb (hk' b o hb e)
theorem comp_block {W : Wd prog w} {k : Nat} {F : Fn} {n : Nat} (ih : EvAll W k F n) {sc isc : Scope} {elt iter : Expr} {x : Str} {px pos : Pos} {ifs : List Expr} {ρ : Ro} {env : Env} {A : Around} {X : AS} {xs ds : List PyData} {s₀ s₂ : Shared}
    {I : Addr} {fp wr : List Addr} {P : Nat → Value → Prop} {St : Nat → Heap → Prop} {RR : Value → Addr → Result → Shared → Prop} {E : Value → Shared → Prop}
    (fit : Fit sc isc x) (eo : EnvOk env sc) (hA : AOk (k + 1) A) (hG : W.G s₀.heap) (hl : Live X s₀.heap) (S : Sees W X env s₀.heap ρ) (it : IterOk prog w A X xs s₀ I fp wr P St s₂) (hf : cmpL (compF F n isc elt x ifs ρ) xs = some ds)
    (hRR : ∀ D C h' tk m' ys, s₂.heap.get? D = none → s₂.heap.get? C = none → D ≠ C → h'.Ns C m' → h'.PlainList D (List.toArray ys) → Rps (XC X wr C D) h' ds ys → (∀ b o, b ∉ wr → s₂.heap.get? b = some o → h'.get? b = some o) →
      RR (.ref D) C (.ok .next) { s₂ with heap := h', toks := tk }) :
    wpAny (model prog w) A (newList []) (fun acc s₃ => wpAny (model prog w) A (newFunctionEnv isc env.globals (cloAll env isc.names []) [] env.qual none .none (some env)) (fun cenv s₄ =>
      codeAny (model prog w) A (.compStart (.ListComp elt [⟨.Name x px, iter, ifs, 0⟩] isc pos) 0 (.ref I) acc { cenv with scope := relabel isc env }) (RR acc cenv.locals) s₄) E s₃) E s₂ := by
  refine wpAny_newObj_type (wpAny_newFunctionEnv fit.cell (by intro y hy; simp at hy) (fun h₁ hns₁ hsb₁ => ?_) fit.kind)
  dsimp only at hns₁ hsb₁ ⊢
  generalize hH2 : s₂.heap.push { cls := .type "list", dict := none, data := .seq ([] : List Value).toArray } = H2 at hns₁ hsb₁ ⊢
  have hC : H2.objs.size = s₂.heap.objs.size + 1 := by rw [← hH2, Heap.size_push]
  have hDC : s₂.heap.objs.size ≠ H2.objs.size := by rw [hC]; exact Nat.ne_of_lt (Nat.lt_succ_self _)
  have below : ∀ b, b < s₂.heap.objs.size → b ≠ H2.objs.size ∧ b ≠ s₂.heap.objs.size := fun b hb => ⟨by rw [hC]; exact Nat.ne_of_lt (Nat.lt_succ_of_lt hb), Nat.ne_of_lt hb⟩
  have hDf : s₂.heap.objs.size ∉ fp := fun hm => Nat.lt_irrefl _ (it.low _ hm)
  have hCf : H2.objs.size ∉ fp := fun hm => by have := it.low _ hm; rw [hC] at this; exact Nat.lt_irrefl _ (Nat.lt_of_succ_lt this)
  have old : ∀ b o, s₂.heap.get? b = some o → h₁.get? b = some o := fun b o e => hsb₁.extBut b o (below b (Heap.lt_size e)).1 (Heap.get?_push_of_some _ (hH2 ▸ Heap.get?_push_of_some _ e))
  have hacc : h₁.PlainList s₂.heap.objs.size #[] := ⟨_, hsb₁.extBut _ _ hDC (Heap.get?_push_of_some _ (hH2 ▸ Heap.get?_push_size _ rfl))⟩
  have hst₁ : St 0 h₁ := it.W.frame _ _ _ it.st fun b _ o e => old b o e
  have fresh : ∀ a, s₂.heap.objs.size ≤ a → s₂.heap.get? a = none := fun a ha => by
    cases e : s₂.heap.get? a with
    | none => rfl
    | some o' => exact absurd (Heap.lt_size e) (Nat.not_lt.mpr ha)
  have loop : ∀ s₃ : Shared, s₃ = { s₂ with heap := h₁, toks := s₂.toks + ([] : List (Str × Value)).length } →
      codeAny (model prog w) A (.compLoop (.ListComp elt [⟨.Name x px, iter, ifs, 0⟩] isc pos) 0 (.ref I) (.ref s₂.heap.objs.size) (compEnvC isc (cloAll env isc.names []) H2.objs.size env))
        (RR (.ref s₂.heap.objs.size) H2.objs.size) s₃ := by
    rintro s₃ rfl
    refine comp_loop ih fit eo hA hG hl S it hf (fresh _ (by rw [hC]; exact Nat.le_succ _)) (fresh _ (Nat.le_refl _)) hDC hCf hDf hst₁ hns₁ hacc rfl old fun h' tk m' ys hn hp hr hk => ?_
    exact hRR _ _ h' tk m' ys (fresh _ (Nat.le_refl _)) (fresh _ (by rw [hC]; exact Nat.le_succ _)) hDC hn hp hr hk
  exact codeAny_compStart_list (loop _ rfl) (it.W.self 0 _ _ _ hst₁ (loop _ rfl))
theorem its_noset {F : Fn} {n : Nat} {sc : Scope} {e : Expr} {ρ : Ro} {xs : List PyData} (h : its F n sc e ρ = some xs) (env : Env) (x : Value) : foldedSetIterable e env x = pure x := by
  cases e <;> first
    | rfl
    | (exfalso
       cases n with
       | zero => simp [its] at h
       | succ n => cases n <;> simp [its, rangeArgs, ev] at h)
theorem ev_comp {F : Fn} {n : Nat} {sc isc : Scope} {elt it : Expr} {x : Str} {px pos : Pos} {ifs : List Expr} {ρ : Ro} {d : PyData} (h : ev F (n + 1) sc (.ListComp elt [⟨.Name x px, it, ifs, 0⟩] isc pos) ρ = some d) :
    Fit sc isc x ∧ ∃ xs ds, its F n sc it ρ = some xs ∧ cmpL (compF F n isc elt x ifs ρ) xs = some ds ∧ d = .list ds := by
  simp only [ev] at h
  split at h
  · rename_i hf
    simp only [Option.bind_eq_bind, Option.bind_eq_some_iff, Option.some.injEq] at h
    obtain ⟨xs, h1, ds, h2, rfl⟩ := h
    exact ⟨Fit.of hf, xs, ds, h1, h2, rfl⟩
  · cases h
theorem fit_clo {sc isc : Scope} {x : Str} {env : Env} (fit : Fit sc isc x) (eo : EnvOk env sc) : closureFor isc env = pure (cloAll env isc.names []) :=
  closure_eq fun y hy e => (eo.cells y.1 (fit.free y hy e)).2
theorem comp_end {X : AS} {wr : List Addr} {C D : Addr} {xs ds : List PyData} {ys : List Value} {s₀ s₂ : Shared} {A : Around} {I : Addr} {fp : List Addr} {P : Nat → Value → Prop} {St : Nat → Heap → Prop} (it : IterOk prog w A X xs s₀ I fp wr P St s₂)
    (hl : Live X s₀.heap) (hD : s₂.heap.get? D = none) (hDC : D ≠ C) {h' h'' : Heap} (hp : h'.PlainList D (List.toArray ys)) (hr : Rps (XC X wr C D) h' ds ys) (hs : Heap.SameBut C h' h'') : Rp X h'' (.list ds) (.ref D) := by
  simp only [Rp]
  refine ⟨D, ys, rfl, (hl.keeps it.k).fresh hD, hp.extBut hs.extBut hDC, Rps.keep (fun b o hb e => ⟨hs.extBut b o (fun h => hb (.inr (.inr (.inl h)))) e, fun h => hb (.inl h)⟩) hr⟩
theorem comp_ok {W : Wd prog w} {k : Nat} {F : Fn} {n : Nat} : CompOk W k F n := by
  intro ih sc elt x px it ifs isc pos ρ d env A s X E h hA eo hG hl S
  obtain ⟨fit, xs, ds, h1, h2, rfl⟩ := ev_comp h
  rw [eval_ListComp]
  refine wpAny_comprehension_free (use := none) rfl (its_noset h1 env) (fit_clo fit eo) fit.kind fit.loc (wpk (ih.its h1 hA eo hG hl S) fun xv s₁ h₁ => wpk h₁ fun itv s₂ h₂ => ?_)
  obtain ⟨I, fp, wr, P, St, rfl, io⟩ := h₂
  refine comp_block (RR := fun acc C => compPost (model prog w) A E none (Gv X s (.list ds)) acc C) ih fit eo hA hG hl S io h2 ?_
  intro D C h' tk m' ys hD hC hDC hn hp hr hk
  refine ⟨m', hn, fun h'' hs'' => ⟨comp_end io hl hD hDC hp hr hs'', ?_⟩⟩
  obtain ⟨h₂, t₂, rfl, kk⟩ := id io.k
  exact ⟨h'', tk, rfl, fun b o e => hs''.extBut b o (by rintro rfl; rw [kk _ _ e] at hC; cases hC) (hk b o (fun hb => by rw [io.new b hb] at e; cases e) (kk b o e))⟩
end Mine
end SWL
section SWM
open PySem PySem.W PyProof.Rows PySem.Calls
namespace Mine
variable {prog : Program} {w : World}
theorem ev_all {W : Wd prog w} {k : Nat} {F : Fn} (N : NmOk W) (hF : FnOk W k F) : ∀ n, EvAll W k F n
  | 0 => ⟨fun h => by simp [ev] at h, fun h => by simp [evs] at h, fun h => by simp [evp] at h, fun h => by simp [tst] at h, fun h => by simp [its] at h, fun h => by simp [tsts] at h⟩
  | n + 1 => by
    have ih := ev_all N hF n
    exact ⟨ev_ok N hF comp_ok ih, evs_ok ih, evp_ok ih, tst_ok ih, its_ok N ih, tsts_ok ih⟩
end Mine
end SWM
section SWN
open PySem PySem.W PyProof.Rows PySem.Calls
namespace Mine
inductive Fl where
  | next
  | ret (d : PyData)
def stFit (sc : Scope) (x : Str) : Bool := (decide (sc.names.lookup x = some .local) || decide (sc.names.lookup x = some .cell)) && plainB x
def bindT (sc : Scope) (ρ : Ro) : Expr → PyData → Option Ro
  | .Name x _, d => if stFit sc x = true then some (put ρ x (.dat d)) else none
  | .Tuple [.Name x _, .Name y _] _ _, .tuple [a, b] => if stFit sc x = true ∧ stFit sc y = true then some (put (put ρ x (.dat a)) y (.dat b)) else none
  | _, _ => none
def forL (f : PyData → Ro → Option (Fl × Ro)) : List PyData → Ro → Option (Fl × Ro)
  | [], ρ => some (.next, ρ)
  | x :: xs, ρ => do
    let r ← f x ρ
    match r.1 with
    | .ret d => some (.ret d, r.2)
    | .next => forL f xs r.2
def whL (c : Ro → Option Bool) (f : Ro → Option (Fl × Ro)) : Nat → Ro → Option (Fl × Ro)
  | 0, _ => none
  | n + 1, ρ => do
    let b ← c ρ
    if b then do
      let r ← f ρ
      match r.1 with
      | .ret d => some (.ret d, r.2)
      | .next => whL c f n r.2
    else some (.next, ρ)
abbrev sTup : Str := Str.ofString "TupleComp"
def makeArg (sc : Scope) : Expr → Option (List Expr)
  | .Call (.Name f _) es [] _ => if f = sTup ∧ glob sc f = true ∧ es.length = 1 then some es else none
  | _ => none
mutual
def exS (F : Fn) : Nat → Scope → Stmt → Ro → Option (Fl × Ro)
  | 0, _, _, _ => none
  | n + 1, sc, .Assign [.Name x _] e _, ρ =>
    if stFit sc x = true then
      match makeArg sc e with
      | some es => do
        let xs ← evs F n sc es ρ
        match xs with
        | [.list ks] => some (.next, put ρ x (.inst (.list ks)))
        | _ => none
      | none => do
        let d ← ev F n sc e ρ
        some (.next, put ρ x (.dat d))
    else none
  | n + 1, sc, .If t b o _, ρ => do
    let c ← tst F n sc t ρ
    if c then exL F n sc b ρ else exL F n sc o ρ
  | n + 1, sc, .For tg it body [] _, ρ => do
    let xs ← its F n sc it ρ
    forL (fun v ρ => do
      let ρ' ← bindT sc ρ tg v
      exL F n sc body ρ') xs ρ
  | n + 1, sc, .While t body [] _, ρ => whL (tst F n sc t) (exL F n sc body) n ρ
  | n + 1, sc, .Return (some e) _, ρ => do
    let d ← ev F n sc e ρ
    some (.ret d, ρ)
  | _ + 1, _, _, _ => none
def exL (F : Fn) : Nat → Scope → List Stmt → Ro → Option (Fl × Ro)
  | 0, _, _, _ => none
  | _ + 1, _, [], ρ => some (.next, ρ)
  | n + 1, sc, st :: r, ρ => do
    let q ← exS F n sc st ρ
    match q.1 with
    | .ret d => some (.ret d, q.2)
    | .next => exL F n sc r q.2
end
variable {prog : Program} {w : World}
def Own (env : Env) (b : Addr) : Prop := b = env.locals ∨ ∃ n, env.cells.lookup n = some b
structure FEnv (env : Env) (sc : Scope) : Prop where
  hs : env.scope = sc
  eo : EnvOk env sc
  apart : env.cells.Pairwise fun x y => x.2 ≠ y.2
  off : ∀ n c, env.cells.lookup n = some c → c ≠ env.locals
structure Fm (W : Wd prog w) (Y : AS) (h₀ : Heap) (env : Env) (ρ : Ro) (s : Shared) : Prop where
  own : ∀ b, Own env b → Y b
  new : ∀ b, Own env b → h₀.get? b = none
  ns : ∃ m, s.heap.Ns env.locals m
  cell : ∀ n c, env.cells.lookup n = some c → ∃ v, s.heap.IsCell c v
  sees : Sees W Y env s.heap ρ
  live : Live Y s.heap
  g : W.G h₀
  base : ∀ b o, h₀.get? b = some o → s.heap.get? b = some o
def SK (env : Env) (s s' : Shared) : Prop := (∃ h tk, s' = { s with heap := h, toks := tk }) ∧ ∀ b o, ¬ Own env b → s.heap.get? b = some o → s'.heap.get? b = some o
theorem sk_refl {env : Env} (s : Shared) : SK env s s := ⟨⟨s.heap, s.toks, rfl⟩, fun _ _ _ e => e⟩
theorem sk_of {env : Env} {s s' : Shared} (k : Keeps s s') : SK env s s' := by
  obtain ⟨h, tk, rfl, kk⟩ := k
  exact ⟨⟨h, tk, rfl⟩, fun b o _ e => kk b o e⟩
theorem sk_trans {env : Env} {s s' s'' : Shared} (a : SK env s s') (b : SK env s' s'') : SK env s s'' := by
  obtain ⟨⟨h, tk, rfl⟩, k⟩ := a
  obtain ⟨⟨h', tk', rfl⟩, k'⟩ := b
  exact ⟨⟨h', tk', rfl⟩, fun b o hb e => k' b o hb (k b o hb e)⟩
theorem Fm.G {W : Wd prog w} {Y : AS} {h₀ : Heap} {env : Env} {ρ : Ro} {s : Shared} (f : Fm W Y h₀ env ρ s) : W.G s.heap := W.keep f.g f.base
theorem ns_fun {h : Heap} {a : Addr} {m m' : Str → Option Value} (x : h.Ns a m) (y : h.Ns a m') (z : Str) : m z = m' z := by
  obtain ⟨o, es, ep, ho, hd, _, hm⟩ := x
  obtain ⟨o', es', ep', ho', hd', _, hm'⟩ := y
  rw [ho] at ho'; cases ho'
  rw [hd] at hd'; cases hd'
  rw [← hm, ← hm']
theorem Fm.keeps {W : Wd prog w} {Y : AS} {h₀ : Heap} {env : Env} {ρ : Ro} {s s' : Shared} (f : Fm W Y h₀ env ρ s) (k : Keeps s s') : Fm W Y h₀ env ρ s' :=
  ⟨f.own, f.new, let ⟨m, h⟩ := f.ns; ⟨m, h.keeps fun _ _ e => kp_get k e⟩, fun n c h => let ⟨v, x⟩ := f.cell n c h; ⟨v, x.keeps fun _ _ e => kp_get k e⟩, f.sees.keeps k, f.live.keeps k, f.g, fun b o e => kp_get k (f.base b o e)⟩
theorem Fm.move {W : Wd prog w} {Y Y' : AS} {h₀ : Heap} {env : Env} {ρ : Ro} {s s' : Shared} (f : Fm W Y h₀ env ρ s) (hk : ∀ b o, (¬ Y b ∨ Own env b ∨ h₀.get? b = some o) → s.heap.get? b = some o → s'.heap.get? b = some o)
    (hy : ∀ b o, ¬ Y b → s.heap.get? b = some o → ¬ Y' b) (ho : ∀ b, Own env b → Y' b) (hl : Live Y' s'.heap) : Fm W Y' h₀ env ρ s' where
  own := ho
  new := f.new
  ns := let ⟨m, h⟩ := f.ns; ⟨m, h.at' fun o e => hk _ o (.inr (.inl (.inl rfl))) e⟩
  cell := fun n c h => by
    obtain ⟨v, o, e, d⟩ := f.cell n c h
    exact ⟨v, o, hk _ o (.inr (.inl (.inr ⟨n, h⟩))) e, d⟩
  sees := fun x r hx => by
    obtain ⟨p, v, nv, rv⟩ := f.sees x r hx
    refine ⟨p, v, ?_, rv.keep fun b o hb e => ⟨hk b o (.inl hb) e, hy b o hb e⟩⟩
    rcases nv with ⟨k, m, h, e⟩ | ⟨k, c, hc, o, e, d⟩
    · exact .inl ⟨k, m, h.at' fun o e => hk _ o (.inr (.inl (.inl rfl))) e, e⟩
    · exact .inr ⟨k, c, hc, o, hk _ o (.inr (.inl (.inr ⟨x, hc⟩))) e, d⟩
  live := hl
  g := f.g
  base := fun b o e => hk b o (.inr (.inr e)) (f.base b o e)
theorem stFit_iff {sc : Scope} {x : Str} (h : stFit sc x = true) : (sc.names.lookup x = some .local ∨ sc.names.lookup x = some .cell) ∧ plainName x := by
  unfold stFit at h
  simp only [Bool.and_eq_true, Bool.or_eq_true, decide_eq_true_eq, plainB_iff] at h
  exact h
theorem fm_store {W : Wd prog w} {Y : AS} {h₀ : Heap} {env : Env} {sc : Scope} {ρ : Ro} {s : Shared} {x : Str} {rv : V} {v : Value} {A : Around} {E : Value → Shared → Prop} {Q : Unit → Shared → Prop} (fe : FEnv env sc) (f : Fm W Y h₀ env ρ s) (hx : stFit sc x = true)
    (r : Rv W Y s.heap rv v) (h : ∀ s', Fm W Y h₀ env (put ρ x rv) s' → SK env s s' → Q () s') : wpAny (model prog w) A (storeName env x v) Q E s := by
  obtain ⟨hk, hp⟩ := stFit_iff hx
  obtain ⟨m, hn⟩ := f.ns
  rcases hk with hk | hk
  · have hk' : env.kindOf x = some .local := by unfold Env.kindOf; rw [fe.hs]; exact hk
    refine wpAny_storeName_local hk' hn (fun h' hn' hs' => ?_) (by rw [fe.eo.kind]; rfl)
    have keep : ∀ b o, b ≠ env.locals → s.heap.get? b = some o → h'.get? b = some o := fun b o hb e => hs'.extBut b o hb e
    have hY : ∀ b o, ¬ Y b → s.heap.get? b = some o → h'.get? b = some o ∧ ¬ Y b := fun b o hb e => ⟨keep b o (by rintro rfl; exact hb (f.own _ (.inl rfl))) e, hb⟩
    refine h _ ⟨f.own, f.new, ⟨_, hn'⟩, fun n c hc => ?_, fun y r' hy => ?_, fun a ha => ?_, f.g, fun b o e => ?_⟩ ⟨⟨_, _, rfl⟩, fun b o hb e => keep b o (fun q => hb (.inl q)) e⟩
    · obtain ⟨v', hv'⟩ := f.cell n c hc
      exact ⟨v', hv'.sameBut hs' (fe.off n c hc)⟩
    · unfold put at hy
      split at hy
      · rename_i e
        cases hy
        refine ⟨e ▸ hp, v, .inl ⟨e ▸ hk', _, hn', by simp [e]⟩, r.keep hY⟩
      · rename_i e
        obtain ⟨p', v', nv, rv'⟩ := f.sees y r' hy
        refine ⟨p', v', ?_, rv'.keep hY⟩
        rcases nv with ⟨k, m', hm, e'⟩ | ⟨k, c, hc, hv⟩
        · refine .inl ⟨k, _, hn', ?_⟩
          simp only [e, if_false]
          rw [ns_fun hn hm]; exact e'
        · exact .inr ⟨k, c, hc, hv.sameBut hs' (fe.off y c hc)⟩
    · obtain ⟨o, e⟩ := f.live a ha
      by_cases hb : a = env.locals
      · subst hb; obtain ⟨o', _, _, e', _⟩ := hn'; exact ⟨o', e'⟩
      · exact ⟨o, keep a o hb e⟩
    · exact keep b o (by rintro rfl; rw [f.new _ (.inl rfl)] at e; cases e) (f.base b o e)
  · have hk' : env.kindOf x = some .cell := by unfold Env.kindOf; rw [fe.hs]; exact hk
    obtain ⟨_, c, hc⟩ := fe.eo.cells x (.inl hk)
    obtain ⟨v₀, hv₀⟩ := f.cell x c hc
    refine wpAny_storeName_cell fe.eo.kind hk' hc hv₀ fun h' hc' hs' => ?_
    have keep : ∀ b o, b ≠ c → s.heap.get? b = some o → h'.get? b = some o := fun b o hb e => hs'.extBut b o hb e
    have hY : ∀ b o, ¬ Y b → s.heap.get? b = some o → h'.get? b = some o ∧ ¬ Y b := fun b o hb e => ⟨keep b o (by rintro rfl; exact hb (f.own _ (.inr ⟨x, hc⟩))) e, hb⟩
    have other : ∀ y c', env.cells.lookup y = some c' → y ≠ x → c' ≠ c := fun y c' hy hne e => hne (name_of_addr fe.apart (PySem.mem_of_lookup hy) (e ▸ PySem.mem_of_lookup hc))
    refine h _ ⟨f.own, f.new, ⟨m, hn.sameBut hs' (fe.off x c hc).symm⟩, fun n c' hc'' => ?_, fun y r' hy => ?_, fun a ha => ?_, f.g, fun b o e => ?_⟩ ⟨⟨_, _, rfl⟩, fun b o hb e => keep b o (fun q => hb (.inr ⟨x, q ▸ hc⟩)) e⟩
    · by_cases e : c' = c
      · subst e; exact ⟨_, hc'⟩
      · obtain ⟨v', hv'⟩ := f.cell n c' hc''
        exact ⟨v', hv'.sameBut hs' e⟩
    · unfold put at hy
      split at hy
      · rename_i e
        cases hy
        subst e
        exact ⟨hp, v, .inr ⟨.inl hk', c, hc, hc'⟩, r.keep hY⟩
      · rename_i e
        obtain ⟨p', v', nv, rv'⟩ := f.sees y r' hy
        refine ⟨p', v', ?_, rv'.keep hY⟩
        rcases nv with ⟨k, m', hm, e'⟩ | ⟨k, c', hc'', hv⟩
        · exact .inl ⟨k, m', hm.sameBut hs' (fe.off x c hc).symm, e'⟩
        · exact .inr ⟨k, c', hc'', hv.sameBut hs' (other y c' hc'' e)⟩
    · obtain ⟨o, e⟩ := f.live a ha
      by_cases hb : a = c
      · subst hb; obtain ⟨o', e', _⟩ := hc'; exact ⟨o', e'⟩
      · exact ⟨o, keep a o hb e⟩
    · exact keep b o (by rintro rfl; rw [f.new _ (.inr ⟨x, hc⟩)] at e; cases e) (f.base b o e)
end Mine
end SWN
section SWO
open PySem PySem.W PyProof.Rows PySem.Calls
namespace Mine
variable {prog : Program} {w : World}
def FlowR (Y : AS) (h : Heap) : Fl → Flow → Prop
  | .next, f => f = .next
  | .ret d, f => ∃ v, f = .ret v ∧ Rp Y h d v
structure StAll (W : Wd prog w) (k : Nat) (F : Fn) (n : Nat) : Prop where
  exS : ∀ {sc st ρ q env A s Y h₀ E}, exS F n sc st ρ = some q → AOk (k + 1) A → FEnv env sc → Fm W Y h₀ env ρ s →
    wpAny (model prog w) A (exec st env) (fun f s' => FlowR Y s'.heap q.1 f ∧ Fm W Y h₀ env q.2 s' ∧ SK env s s') E s
  exL : ∀ {sc st ρ q env A s Y h₀ E}, exL F n sc st ρ = some q → AOk (k + 1) A → FEnv env sc → Fm W Y h₀ env ρ s →
    wpAny (model prog w) A (execs st env) (fun f s' => FlowR Y s'.heap q.1 f ∧ Fm W Y h₀ env q.2 s' ∧ SK env s s') E s
section
variable {W : Wd prog w} {k : Nat} {F : Fn} {n : Nat}
theorem bind_target {sc : Scope} {ρ ρ' : Ro} {tg : Expr} {d : PyData} {v : Value} {Y : AS} {h₀ : Heap} {env : Env} {A : Around} {s : Shared} {E : Value → Shared → Prop} (hh : A.handled = none) (h : bindT sc ρ tg d = some ρ') (fe : FEnv env sc) (f : Fm W Y h₀ env ρ s) (r : Rp Y s.heap d v) :
    wpAny (model prog w) A (assign tg env v) (fun _ s' => Fm W Y h₀ env ρ' s' ∧ SK env s s') E s := by
  unfold bindT at h
  split at h
  · split at h
    · rename_i hx
      cases h
      exact wpAny_assign_Name (fm_store fe f hx (rv := .dat d) r fun s' a b => ⟨a, b⟩)
    · cases h
  · split at h
    · rename_i x px y py x1 pt a b hx
      cases h
      simp only [Rp] at r
      obtain ⟨T, vs, rfl, hX, ht, hr⟩ := r
      simp only [Rps] at hr
      obtain ⟨va, vr, rfl, ra, vb, vr', rfl, rb, rfl⟩ := hr
      refine wpAny_assign_Tuple hh ht.isTuple rfl rfl fun h' hx' => ?_
      have kk : Keeps s { s with heap := h' } := ⟨h', s.toks, rfl, fun b o e => hx' b o (Nat.ne_of_lt (Heap.lt_size e)) e⟩
      show wpAny _ A (do holding [vb] (assign (.Name x px) env va); do holding [] (assign (.Name y py) env vb); pure ()) _ _ _
      have kY : ∀ (s' : Shared), SK env { s with heap := h' } s' → Rp Y s'.heap b vb := fun s' sk => Rp.keep (fun b o hb e => ⟨sk.2 b o (fun q => hb (f.own b q)) (kp_get kk e), hb⟩) rb
      refine wpAny_bind (wpAny_holding (wpAny_assign_Name (fm_store fe (f.keeps kk) hx.1 (rv := .dat a) (Rp.keeps kk ra) fun s' f' sk => ?_)))
      refine wpAny_bind (wpAny_holding (wpAny_assign_Name (fm_store fe f' hx.2 (rv := .dat b) (kY s' sk) fun s'' f'' sk' => wpAny_pure ⟨f'', sk_trans (sk_of kk) (sk_trans sk sk')⟩)))
    · cases h
  · cases h
theorem go_target {sc : Scope} {ρ ρ' : Ro} {tg : Expr} {d : PyData} {v : Value} {A : Around} {Y X : AS} {h : Heap} {xs : List PyData} {i : Nat} {s₀ s₂ s : Shared} {I : Addr} {fp wr : List Addr} {P : Nat → Value → Prop} {St : Nat → Heap → Prop} {E : Value → Shared → Prop} {Q : Unit → Shared → Prop}
    (io : IterOk prog w A Y xs s₀ I fp wr P St s₂) (hb : bindT sc ρ tg d = some ρ') (hd : xs[i]? = some d) (r : Rp X h d v) {j : Nat} (st : St j s.heap) (hQ : Q () s) : wpAny (model prog w) A (letOwnedTupleGo tg (.ref I) v) Q E s := by
  unfold bindT at hb
  split at hb
  · exact wpAny_of_eq (a := ()) rfl hQ
  · simp only [Rp] at r
    obtain ⟨T, vs, rfl, _⟩ := r
    exact io.go _ _ _ _ _ _ _ _ _ _ hd st hQ
  · cases hb
theorem for_ok (ih : StAll W k F n) {sc : Scope} {tg it : Expr} {body : List Stmt} {pos : Pos} {ρ : Ro} {q : Fl × Ro} {env : Env} {A : Around} {s : Shared} {Y : AS} {h₀ : Heap} {E : Value → Shared → Prop} (eva : EvAll W k F n) {xs : List PyData} (h1 : its F n sc it ρ = some xs)
    (h2 : forL (fun v ρ => do let ρ' ← bindT sc ρ tg v; exL F n sc body ρ') xs ρ = some q) (hA : AOk (k + 1) A) (fe : FEnv env sc) (f : Fm W Y h₀ env ρ s) :
    wpAny (model prog w) A (exec (.For tg it body [] pos) env) (fun f s' => FlowR Y s'.heap q.1 f ∧ Fm W Y h₀ env q.2 s' ∧ SK env s s') E s := by
  refine wpAny_For (wpk (eva.its h1 hA fe.eo f.G f.live f.sees) fun xv s₁ h₁ => wpk h₁ fun itv s₂ h₂ => ?_) (its_noset h1 env)
  obtain ⟨I, fp, wr, P, St, rfl, io⟩ := h₂
  let Z : AS := fun b => Y b ∨ b ∈ wr
  have wrOwn : ∀ b ∈ wr, ¬ Own env b := fun b hb hO => by
    obtain ⟨o, e⟩ := f.live b (f.own b hO)
    rw [io.new b hb] at e; cases e
  have wrNew : ∀ b ∈ wr, h₀.get? b = none := fun b hb => by
    cases e : h₀.get? b with
    | none => rfl
    | some o => have := f.base b o e; rw [io.new b hb] at this; cases this
  have weak : ∀ {ρ' : Ro} {s' : Shared}, Fm W Z h₀ env ρ' s' → Fm W Y h₀ env ρ' s' := fun f' =>
    f'.move (fun b o _ e => e) (fun b o hb _ hy => hb (.inl hy)) f.own fun a ha => f'.live a (.inl ha)
  refine codeAny_forLoop_any (fun q' s' => ∃ i ρi, i ≤ xs.length ∧ q' = xs.length + 1 - i ∧ St i s'.heap ∧ forL (fun v ρ => do let ρ' ← bindT sc ρ tg v; exL F n sc body ρ') (xs.drop i) ρi = some q ∧ Fm W Z h₀ env ρi s' ∧ (∃ h tk, s' = { s₂ with heap := h, toks := tk }) ∧
      (∀ b o, ¬ Own env b → b ∉ wr → s₂.heap.get? b = some o → s'.heap.get? b = some o)) ?_ (xs.length + 1) ⟨0, ρ, Nat.zero_le _, rfl, io.st, by simpa using h2, ?_, ⟨_, _, rfl⟩, fun b o _ _ e => e⟩
  · rintro q' s' ⟨i, ρi, hi, rfl, hst, hfl, fi, ⟨H, tk, rfl⟩, hk⟩
    have fin : ∀ (s₃ : Shared), (∃ h tk, s₃ = { s₂ with heap := h, toks := tk }) → (∀ b o, ¬ Own env b → b ∉ wr → s₂.heap.get? b = some o → s₃.heap.get? b = some o) → SK env s s₃ := by
      rintro s₃ ⟨h₃, t₃, rfl⟩ hk₃
      obtain ⟨h₂', t₂', e₂, kk⟩ := io.k
      refine ⟨⟨h₃, t₃, by rw [e₂]⟩, fun b o hO e => hk₃ b o hO (fun hb => by rw [io.new b hb] at e; cases e) (kp_get io.k e)⟩
    by_cases hlt : i < xs.length
    · obtain ⟨d, hd⟩ : ∃ d, xs[i]? = some d := ⟨_, List.getElem?_eq_getElem hlt⟩
      have hdrop : xs.drop i = d :: xs.drop (i + 1) := by
        rw [List.drop_eq_getElem_cons hlt]
        congr 1
        rw [List.getElem?_eq_getElem hlt] at hd; cases hd; rfl
      rw [hdrop] at hfl
      simp only [forL, Option.bind_eq_bind, Option.bind_eq_some_iff] at hfl
      obtain ⟨r, ⟨ρ', hb, hr⟩, hrest⟩ := hfl
      refine io.W.item i _ _ _ hlt hst fun v h₁ tk₁ hPv hst₁ hk₁ => ?_
      have f1 : Fm W Z h₀ env ρi { s₂ with heap := h₁, toks := tk₁ } := fi.move (fun b o hc e => hk₁ b o (fun hb => by
          rcases hc with hc | hc | hc
          · exact hc (.inr hb)
          · exact wrOwn b hb hc
          · rw [wrNew b hb] at hc; cases hc) e) (fun b o hb _ => hb) fi.own (fun a ha => by
          by_cases hw : a ∈ wr
          · exact io.lives _ _ hst₁ a hw
          · obtain ⟨o, e⟩ := fi.live a ha
            exact ⟨o, hk₁ a o hw e⟩)
      have rv : Rp Z h₁ d v := Rp.keep (fun b o hb e => ⟨hk₁ b o (fun h => hb (.inr h)) (hk b o (fun h => hb (.inl (f.own b h))) (fun h => hb (.inr h)) e), hb⟩) (io.item i v d hPv hd)
      refine go_target io hb hd rv hst₁ ?_
      refine wpk (bind_target (W := W) hA.h hb fe f1 rv) fun _ s₃ q₃ => ?_
      obtain ⟨f3, sk3⟩ := q₃
      refine wpk (ih.exL hr hA fe f3) fun fl s₄ q₄ => ?_
      obtain ⟨hfl, f4, sk4⟩ := q₄
      have sk := sk_trans sk3 sk4
      obtain ⟨⟨h₄, t₄, rfl⟩, kk4⟩ := sk
      have hk4 : ∀ b o, ¬ Own env b → b ∉ wr → s₂.heap.get? b = some o → h₄.get? b = some o := fun b o hO hw e => kk4 b o hO (hk₁ b o hw (hk b o hO hw e))
      obtain ⟨fl', ρ''⟩ := r
      cases fl' with
      | ret dr =>
        simp only [Option.some.injEq] at hrest
        subst hrest
        obtain ⟨v', rfl, rr⟩ := hfl
        exact ⟨⟨v', rfl, Rp.keep (fun b o hb e => ⟨e, fun h => hb (.inl h)⟩) rr⟩, weak f4, fin _ ⟨_, _, rfl⟩ hk4⟩
      | next =>
        simp only at hrest
        have hfl' : fl = .next := hfl
        subst hfl'
        refine ⟨xs.length + 1 - (i + 1), by omega, i + 1, ρ'', hlt, rfl, ?_, hrest, f4, ⟨_, _, rfl⟩, hk4⟩
        exact io.W.frame _ _ _ hst₁ fun b hb o e => kk4 b o (fun h => io.off b hb (f.own b h)) e
    · have hin : i = xs.length := by omega
      subst hin
      rw [List.drop_of_length_le (Nat.le_refl _)] at hfl
      simp only [forL, Option.some.injEq] at hfl
      subst hfl
      refine io.W.done _ _ _ hst fun h₁ tk₁ hk₁ => wpAny_execs_nil ?_
      have hk1 : ∀ b o, ¬ Own env b → b ∉ wr → s₂.heap.get? b = some o → h₁.get? b = some o := fun b o hO hw e => hk₁ b o hw (hk b o hO hw e)
      refine ⟨rfl, ?_, fin _ ⟨_, _, rfl⟩ hk1⟩
      refine fi.move (fun b o hc e => hk₁ b o (fun hb => by
          rcases hc with hc | hc | hc
          · exact hc (.inr hb)
          · exact wrOwn b hb hc
          · rw [wrNew b hb] at hc; cases hc) e) (fun b o hb _ hy => hb (.inl hy)) f.own (fun a ha => ?_)
      obtain ⟨o₀, e₀⟩ := f.live a ha
      obtain ⟨o, e⟩ := fi.live a (.inl ha)
      exact ⟨o, hk₁ a o (fun hb => by rw [io.new a hb] at e₀; cases e₀) e⟩
  · refine f.move (fun b o _ e => kp_get io.k e) (fun b o hb e h => ?_) (fun b hb => .inl (f.own b hb)) (fun a ha => ?_)
    · rcases h with h | h
      · exact hb h
      · rw [io.new b h] at e; cases e
    · rcases ha with ha | ha
      · exact f.live.keeps io.k a ha
      · exact io.lives _ _ io.st a ha
theorem while_ok (ih : StAll W k F n) (eva : EvAll W k F n) {sc : Scope} {t : Expr} {body : List Stmt} {pos : Pos} {ρ : Ro} {q : Fl × Ro} {env : Env} {A : Around} {s : Shared} {Y : AS} {h₀ : Heap} {E : Value → Shared → Prop} {j : Nat}
    (h2 : whL (tst F n sc t) (exL F n sc body) j ρ = some q) (hA : AOk (k + 1) A) (fe : FEnv env sc) (f : Fm W Y h₀ env ρ s) :
    wpAny (model prog w) A (exec (.While t body [] pos) env) (fun f s' => FlowR Y s'.heap q.1 f ∧ Fm W Y h₀ env q.2 s' ∧ SK env s s') E s := by
  refine wpAny_While (codeAny_whileLoop (fun m s' => ∃ ρ', whL (tst F n sc t) (exL F n sc body) m ρ' = some q ∧ Fm W Y h₀ env ρ' s' ∧ SK env s s') ?_ j ⟨ρ, h2, f, sk_refl _⟩)
  rintro m s' ⟨ρ', hw, f', sk⟩
  cases m with
  | zero => simp [whL] at hw
  | succ m =>
    simp only [whL, Option.bind_eq_bind, Option.bind_eq_some_iff] at hw
    obtain ⟨b, h1, hw⟩ := hw
    refine wpk (eva.tst h1 hA fe.eo f'.G f'.live f'.sees) fun b' s₂ q₂ => ?_
    obtain ⟨rfl, k₂⟩ := q₂
    have sk2 := sk_trans sk (sk_of k₂)
    cases b' with
    | false =>
      simp only [Bool.false_eq_true, if_false, Option.some.injEq] at hw ⊢
      subst hw
      exact wpAny_execs_nil ⟨rfl, f'.keeps k₂, sk2⟩
    | true =>
      simp only [if_true, Option.bind_eq_some_iff] at hw ⊢
      obtain ⟨r, hr, hw⟩ := hw
      refine wpk (ih.exL hr hA fe (f'.keeps k₂)) fun fl s₃ q₃ => ?_
      obtain ⟨hfl, f3, sk3⟩ := q₃
      obtain ⟨fl', ρ''⟩ := r
      cases fl' with
      | ret dr =>
        simp only [Option.some.injEq] at hw
        subst hw
        obtain ⟨v', rfl, rr⟩ := hfl
        exact ⟨⟨v', rfl, rr⟩, f3, sk_trans sk2 sk3⟩
      | next =>
        simp only at hw
        have hfl' : fl = .next := hfl
        subst hfl'
        exact ⟨m, Nat.lt_succ_self _, ρ'', hw, f3, sk_trans sk2 sk3⟩
theorem comp_form {F : Fn} {n : Nat} {sc : Scope} {elt : Expr} {gens : List Comprehension} {isc : Scope} {pos : Pos} {ρ : Ro} {d : PyData} (h : ev F (n + 1) sc (.ListComp elt gens isc pos) ρ = some d) : ∃ y py it ifs, gens = [⟨.Name y py, it, ifs, 0⟩] := by
  unfold ev at h
  split at h
  all_goals first
    | (rename_i he; cases he; done)
    | (rename_i he; cases he; exact ⟨_, _, _, _, rfl⟩)
    | (cases h; done)
theorem swaps {F : Fn} {n : Nat} {sc : Scope} {e : Expr} {ρ : Ro} {d : PyData} (h : ev F n sc e ρ = some d) (x : Str) (px : Pos) (line : Nat) (env : Env) :
    ∃ b, swapsWith e (some (.Name x px)) line env = pure b ∧ (b = true → env.kindOf x = some .local ∧ ∃ m elt y py it ifs isc pos, n = m + 1 ∧ e = .ListComp elt [⟨.Name y py, it, ifs, 0⟩] isc pos) := by
  cases n with
  | zero => simp [ev] at h
  | succ n =>
    cases e <;> first
      | exact ⟨false, rfl, fun h => by cases h⟩
      | (exfalso; simp [ev] at h; done)
      | skip
    rename_i elt gens isc pos
    refine ⟨_, rfl, fun hb => ?_⟩
    simp only [Bool.and_eq_true, beq_iff_eq] at hb
    refine ⟨hb.1.1.2, n, ?_⟩
    obtain ⟨y, py, it, ifs, rfl⟩ := comp_form h
    exact ⟨elt, y, py, it, ifs, isc, pos, rfl, rfl⟩
theorem assign_comp (eva : EvAll W k F n) {sc isc : Scope} {elt it : Expr} {x y : Str} {px py pos spos : Pos} {ifs : List Expr} {ρ : Ro} {d : PyData} {env : Env} {A : Around} {s : Shared} {Y : AS} {h₀ : Heap} {E : Value → Shared → Prop}
    (h : ev F (n + 1) sc (.ListComp elt [⟨.Name y py, it, ifs, 0⟩] isc pos) ρ = some d) (hsw : swapsWith (.ListComp elt [⟨.Name y py, it, ifs, 0⟩] isc pos) (some (.Name x px)) spos.line env = pure true) (hx : stFit sc x = true)
    (hA : AOk (k + 1) A) (fe : FEnv env sc) (f : Fm W Y h₀ env ρ s) :
    wpAny (model prog w) A (exec (.Assign [.Name x px] (.ListComp elt [⟨.Name y py, it, ifs, 0⟩] isc pos) spos) env) (fun f s' => f = .next ∧ Fm W Y h₀ env (put ρ x (.dat d)) s' ∧ SK env s s') E s := by
  obtain ⟨fit, xs, ds, h1, h2, rfl⟩ := ev_comp h
  rw [exec_Assign_Name_used _ _ _ _ hsw]
  refine wpAny_bind (wpAny_standAt (wpAny_bind ?_))
  show wpAny _ A (do let _ ← comprehension (.ListComp elt [⟨.Name y py, it, ifs, 0⟩] isc pos) isc env _ (newList []) false (eval it env) (some (assign (.Name x px) env))) _ _ s
  refine wpAny_bind (wpAny_mono (wpAny_comprehension_free (use := some (assign (.Name x px) env)) (Q := fun _ s' => Fm W Y h₀ env (put ρ x (.dat (.list ds))) s' ∧ SK env s s') rfl (its_noset h1 env) (fit_clo fit fe.eo) fit.kind fit.loc
    (wpk (eva.its h1 hA fe.eo f.G f.live f.sees) fun xv s₁ h₁ => wpk h₁ fun itv s₂ h₂ => ?_)) (fun _ s' hq => wpAny_pure (wpAny_pure ⟨rfl, hq⟩)) fun _ _ e => e)
  obtain ⟨I, fp, wr, P, St, rfl, io⟩ := h₂
  refine comp_block (RR := fun acc C => compPost (model prog w) A E (some (assign (.Name x px) env)) (fun _ s' => Fm W Y h₀ env (put ρ x (.dat (.list ds))) s' ∧ SK env s s') acc C) eva fit fe.eo hA f.G f.live f.sees io h2 ?_
  intro D C h' tk m' ys hD hC hDC hn hp hr hk
  have kk : Keeps s { s₂ with heap := h', toks := tk } := by
    obtain ⟨h₂', t₂', e₂, kk⟩ := id io.k
    refine ⟨h', tk, by rw [e₂], fun b o e => hk b o (fun hb => by rw [io.new b hb] at e; cases e) (kp_get io.k e)⟩
  have sC : s.heap.get? C = none := by
    cases e : s.heap.get? C with
    | none => rfl
    | some o => rw [kp_get io.k e] at hC; cases hC
  have nC : ∀ b, Own env b → b ≠ C := by
    rintro b hO rfl
    obtain ⟨o, e⟩ := f.live _ (f.own _ hO)
    rw [sC] at e; cases e
  let Z : AS := fun b => Y b ∨ b = C
  have fZ : Fm W Z h₀ env ρ { s₂ with heap := h', toks := tk } := f.move (fun b o _ e => kp_get kk e) (fun b o hb e h => by
      rcases h with h | rfl
      · exact hb h
      · rw [sC] at e; cases e) (fun b hb => .inl (f.own b hb)) (fun a ha => by
      rcases ha with ha | rfl
      · exact f.live.keeps kk a ha
      · obtain ⟨o, _, _, e, _⟩ := hn; exact ⟨o, e⟩)
  have rl : Rp Z h' (.list ds) (.ref D) := by
    simp only [Rp]
    refine ⟨D, ys, rfl, ?_, hp, Rps.keep (fun b o hb e => ⟨e, ?_⟩) hr⟩
    · rintro (h | h)
      · exact (f.live.keeps io.k).fresh hD h
      · exact hDC h
    · rintro (h | h)
      · exact hb (.inl h)
      · exact hb (.inr (.inr (.inl h)))
  show wpAny _ A (assign (.Name x px) env (.ref D)) _ _ _
  refine wpAny_assign_Name (fm_store fe fZ hx (rv := .dat (.list ds)) rl fun s'' f'' sk'' => ?_)
  have hnC : ∃ m, s''.heap.Ns C m := ⟨m', hn.at' fun o e => sk''.2 C o (fun h => nC C h rfl) e⟩
  obtain ⟨m'', hn''⟩ := hnC
  refine ⟨m'', hn'', fun h₃ hs₃ => ⟨?_, ?_⟩⟩
  · refine f''.move (fun b o hc e => hs₃.extBut b o ?_ e) (fun b o hb _ h => hb (.inl h)) f.own (fun a ha => ?_)
    · rintro rfl
      rcases hc with hc | hc | hc
      · exact hc (.inr rfl)
      · exact nC _ hc rfl
      · have := f.base _ _ hc; rw [sC] at this; cases this
    · obtain ⟨o, e⟩ := f''.live a (.inl ha)
      refine ⟨o, hs₃.extBut a o ?_ e⟩
      rintro rfl
      obtain ⟨o', e'⟩ := f.live _ ha
      rw [sC] at e'; cases e'
  · obtain ⟨⟨h₄, t₄, rfl⟩, kk₄⟩ := sk''
    obtain ⟨h₂', t₂', e₂, _⟩ := id io.k
    refine ⟨⟨h₃, t₄, by rw [e₂]⟩, fun b o hO e => hs₃.extBut b o (by rintro rfl; rw [sC] at e; cases e) (kk₄ b o hO (kp_get kk e))⟩
theorem exS_ok (hF : FnOk W k F) (evs_ : ∀ m, EvAll W k F m) (ih : StAll W k F n) {sc st ρ q env A s Y h₀ E} (h : exS F (n + 1) sc st ρ = some q) (hA : AOk (k + 1) A) (fe : FEnv env sc) (f : Fm W Y h₀ env ρ s) :
    wpAny (model prog w) A (exec st env) (fun f s' => FlowR Y s'.heap q.1 f ∧ Fm W Y h₀ env q.2 s' ∧ SK env s s') E s := by
  have eva := evs_ n
  unfold exS at h
  split at h
  · cases ‹_ = _›
  · rename_i sc ρ _ _ _ _ n' x px e spos hn
    cases hn
    split at h
    · rename_i hx
      split at h
      · rename_i es hm
        simp only [Option.bind_eq_bind, Option.bind_eq_some_iff] at h
        obtain ⟨xs, h1, h⟩ := h
        split at h
        · rename_i ks
          cases h
          unfold makeArg at hm
          split at hm
          · split at hm
            · rename_i fn np es' p hh
              cases hm
              obtain ⟨rfl, hg, hlen⟩ := hh
              refine wpAny_Assign_Name (wpAny_Call_NameR (ld_glob W fe.eo hg f.G W.mkNm ?_)) rfl
              obtain ⟨e1, rfl⟩ := List.length_eq_one_iff.mp hlen
              have hns := evs_nostar h1
              refine callWith_K (W.inK f.G) W.mkKeep ?_ (starEach_plain (hns e1 List.mem_cons_self)) rfl
              refine wpk (eva.evs h1 hA fe.eo f.G f.live f.sees) fun vs s₁ q₁ => ?_
              have G1 := W.keep f.G fun _ _ e => kp_get q₁.2 e
              refine ⟨W.inK G1, ?_⟩
              have r1 := q₁.1
              simp only [Rps] at r1
              obtain ⟨v, vr, rfl, rv, rfl⟩ := r1
              refine wpk (hF.make ks A s₁ Y v E (hA.mono (Nat.le_succ _)) G1 (f.live.keeps q₁.2) rv) fun ov s₂ q₂ => ?_
              have kk := kp_trans q₁.2 q₂.2
              exact fm_store fe (f.keeps kk) hx (rv := .inst (.list ks)) q₂.1 fun s' f' sk' => ⟨rfl, f', sk_trans (sk_of kk) sk'⟩
            · cases hm
          · cases hm
        · cases h
      · simp only [Option.bind_eq_bind, Option.bind_eq_some_iff, Option.some.injEq] at h
        obtain ⟨d, h1, rfl⟩ := h
        obtain ⟨b, hs, hb⟩ := swaps h1 x px spos.line env
        cases b with
        | false =>
          refine wpAny_Assign_Name (wpk (eva.ev h1 hA fe.eo f.G f.live f.sees) fun v s₁ q₁ => ?_) hs
          exact fm_store fe (f.keeps q₁.2) hx (rv := .dat d) q₁.1 fun s' f' sk' => ⟨rfl, f', sk_trans (sk_of q₁.2) sk'⟩
        | true =>
          obtain ⟨_, m, elt, y, py, it, ifs, isc, pos, rfl, rfl⟩ := hb rfl
          exact wpk (assign_comp (evs_ m) h1 hs hx hA fe f) fun _ _ q => ⟨q.1, q.2⟩
    · cases h
  · rename_i n' sc t b o pos ρ hn
    cases hn
    simp only [Option.bind_eq_bind, Option.bind_eq_some_iff] at h
    obtain ⟨c, h1, h2⟩ := h
    refine wpAny_If (wpk (eva.tst h1 hA fe.eo f.G f.live f.sees) fun c' s₁ q₁ => ?_)
    obtain ⟨rfl, k₁⟩ := q₁
    cases c'
    · simp only [Bool.false_eq_true, if_false] at h2 ⊢
      exact wpk (ih.exL h2 hA fe (f.keeps k₁)) fun fl s₂ q₂ => ⟨q₂.1, q₂.2.1, sk_trans (sk_of k₁) q₂.2.2⟩
    · simp only [if_true] at h2 ⊢
      exact wpk (ih.exL h2 hA fe (f.keeps k₁)) fun fl s₂ q₂ => ⟨q₂.1, q₂.2.1, sk_trans (sk_of k₁) q₂.2.2⟩
  · rename_i n' sc tg it body pos ρ hn
    cases hn
    simp only [Option.bind_eq_bind, Option.bind_eq_some_iff] at h
    obtain ⟨xs, h1, h2⟩ := h
    exact for_ok ih eva h1 h2 hA fe f
  · rename_i n' sc t body pos ρ hn
    cases hn
    exact while_ok ih eva h hA fe f
  · rename_i n' sc e pos ρ hn
    cases hn
    simp only [Option.bind_eq_bind, Option.bind_eq_some_iff, Option.some.injEq] at h
    obtain ⟨d, h1, rfl⟩ := h
    exact wpAny_Return_some (wpk (eva.ev h1 hA fe.eo f.G f.live f.sees) fun v s₁ q₁ => ⟨⟨v, rfl, q₁.1⟩, f.keeps q₁.2, sk_of q₁.2⟩)
  · cases h
theorem exL_ok (ih : StAll W k F n) {sc st ρ q env A s Y h₀ E} (h : exL F (n + 1) sc st ρ = some q) (hA : AOk (k + 1) A) (fe : FEnv env sc) (f : Fm W Y h₀ env ρ s) :
    wpAny (model prog w) A (execs st env) (fun f s' => FlowR Y s'.heap q.1 f ∧ Fm W Y h₀ env q.2 s' ∧ SK env s s') E s := by
  cases st with
  | nil =>
    simp only [exL, Option.some.injEq] at h
    subst h
    exact wpAny_execs_nil ⟨rfl, f, sk_refl _⟩
  | cons st r =>
    simp only [exL, Option.bind_eq_bind, Option.bind_eq_some_iff] at h
    obtain ⟨q1, h1, h⟩ := h
    refine wpAny_execs_cons (wpk (ih.exS h1 hA fe f) fun fl s₁ q₁ => ?_)
    obtain ⟨hfl, f1, sk1⟩ := q₁
    obtain ⟨fl', ρ'⟩ := q1
    cases fl' with
    | ret d =>
      simp only [Option.some.injEq] at h
      subst h
      obtain ⟨v, rfl, rr⟩ := hfl
      exact ⟨⟨v, rfl, rr⟩, f1, sk1⟩
    | next =>
      simp only at h
      have hfl' : fl = .next := hfl
      subst hfl'
      exact wpk (ih.exL h hA fe f1) fun fl s₂ q₂ => ⟨q₂.1, q₂.2.1, sk_trans sk1 q₂.2.2⟩
theorem st_all (N : NmOk W) (hF : FnOk W k F) : ∀ n, StAll W k F n
  | 0 => ⟨fun h => by simp [exS] at h, fun h => by simp [exL] at h⟩
  | n + 1 => ⟨exS_ok hF (ev_all N hF) (st_all N hF n), exL_ok (st_all N hF n)⟩
end
end Mine
end SWO
section SWP
open PySem PySem.W PyProof.Rows PySem.Calls
namespace Mine
variable {prog : Program} {w : World}
def bindAll : List Str → List PyData → Ro → Ro
  | x :: xs, d :: ds, ρ => bindAll xs ds (put ρ x (.dat d))
  | _, _, ρ => ρ
def fnFit (sc : Scope) (params : List Str) : Bool :=
  decide (sc.kind = .function) && !sc.isCoroutine && !sc.isGenerator && (sc.names.all fun y => decide (y.2 ≠ .free) && plainB y.1) && (params.all fun x => stFit sc x)
theorem cellsFrom_more : ∀ (l : List (Str × NameKind)) (n : Nat) (acc : List (Str × Addr)) (x : Str × Addr), x ∈ acc → x ∈ cellsFrom n l acc
  | [], _, _, _, h => h
  | (m, k) :: r, n, acc, x, h => by
    unfold cellsFrom
    split
    · exact cellsFrom_more r _ _ x (List.mem_cons_of_mem _ h)
    · exact cellsFrom_more r _ _ x h
theorem cellsFrom_has : ∀ (l : List (Str × NameKind)) (n : Nat) (acc : List (Str × Addr)) (x : Str), (x, NameKind.cell) ∈ l → ∃ c, (x, c) ∈ cellsFrom n l acc
  | (m, k) :: r, n, acc, x, h => by
    unfold cellsFrom
    rcases List.mem_cons.mp h with h | h
    · cases h
      rw [if_pos (by decide)]
      exact ⟨n, cellsFrom_more _ _ _ _ List.mem_cons_self⟩
    · split
      · exact cellsFrom_has r _ _ x h
      · exact cellsFrom_has r _ _ x h
theorem cellsFrom_look {sc : Scope} {x : Str} (n : Nat) (h : sc.names.lookup x = some .cell) : ∃ c, (cellsFrom n sc.names []).lookup x = some c := by
  obtain ⟨c, hc⟩ := cellsFrom_has sc.names n [] x (lookup_mem h)
  exact lookup_some hc
def BindOk (W : Wd prog w) (Y : AS) (h : Heap) (ko : Str → Option NameKind) (ρ : Ro) (m cm : Str → Option Value) : Prop :=
  ∀ x r, ρ x = some r → plainName x ∧ ∃ v, ((ko x = some .local ∧ m x = some v) ∨ (ko x = some .cell ∧ cm x = some v)) ∧ Rv W Y h r v
theorem bindOk_step {W : Wd prog w} {Y : AS} {h : Heap} {ko : Str → Option NameKind} {ρ : Ro} {m cm : Str → Option Value} (b : BindOk W Y h ko ρ m cm) {x : Str} {d : PyData} {v : Value} (hx : ko x = some .local ∨ ko x = some .cell) (hp : plainName x) (r : Rp Y h d v) :
    BindOk W Y h ko (put ρ x (.dat d)) (if ko x = some .local then fun y => if y = x then some v else m y else m) (if ko x = some .local then cm else fun y => if y = x then some v else cm y) := by
  intro y r' hy
  unfold put at hy
  split at hy
  · rename_i e
    subst e
    cases hy
    refine ⟨hp, v, ?_, r⟩
    rcases hx with hx | hx
    · exact .inl ⟨hx, by rw [if_pos hx]; simp⟩
    · exact .inr ⟨hx, by rw [if_neg (by rw [hx]; decide)]; simp⟩
  · rename_i e
    obtain ⟨p', v', hv, rv'⟩ := b y r' hy
    refine ⟨p', v', ?_, rv'⟩
    rcases hv with ⟨h1, h2⟩ | ⟨h1, h2⟩
    · refine .inl ⟨h1, ?_⟩
      split
      · simp only [e, if_false]; exact h2
      · exact h2
    · refine .inr ⟨h1, ?_⟩
      split
      · exact h2
      · simp only [e, if_false]; exact h2
theorem bindOk_all {W : Wd prog w} {Y : AS} {h : Heap} {ko : Str → Option NameKind} : ∀ {params : List Str} {ds : List PyData} {vs : List Value} {ρ : Ro} {m cm : Str → Option Value}, BindOk W Y h ko ρ m cm → Rps Y h ds vs → params.length = ds.length →
    (∀ x ∈ params, (ko x = some .local ∨ ko x = some .cell) ∧ plainName x) → BindOk W Y h ko (bindAll params ds ρ) (bindL ko (params.zip vs) m) (bindC ko (params.zip vs) cm)
  | [], [], vs, ρ, m, cm, b, _, _, _ => by
    simp only [bindAll, List.zip_nil_left, bindL, bindC]; exact b
  | x :: xs, d :: ds, vs, ρ, m, cm, b, r, hl, hp => by
    simp only [Rps] at r
    obtain ⟨v, vr, rfl, r1, r2⟩ := r
    simp only [bindAll, List.zip_cons_cons, bindL, bindC]
    exact bindOk_all (bindOk_step b (hp x List.mem_cons_self).1 (hp x List.mem_cons_self).2 r1) r2 (by simpa using hl) fun y hy => hp y (List.mem_cons_of_mem _ hy)
  | [], _ :: _, _, _, _, _, _, _, hl, _ => by cases hl
  | _ :: _, [], _, _, _, _, _, _, hl, _ => by cases hl
structure FnAt (W : Wd prog w) (a : Addr) (fd : FuncData) (body : List Stmt) (params : List Str) : Prop where
  at_ : ∃ o, o.data = .func fd ∧ ∀ h, W.G h → h.get? a = some o
  lim : ∀ h, W.G h → h.NoLimit
  code : ∀ h, W.G h → h.CodeRec fd.code fd.qualname
  body : fd.body = .stmts body
  clo : fd.closure = []
  g : fd.globals = mainGlobals
  b : fd.builtins = builtinsNs
  bind : ∀ vals : List Value, vals.length = params.length → bindArgs fd ⟨vals, []⟩ = pure (params.zip vals)
  fit : fnFit fd.scope params = true
theorem fn_run {W : Wd prog w} {k : Nat} {F : Fn} {n : Nat} (sa : StAll W k F n) {a : Addr} {fd : FuncData} {body : List Stmt} {params : List Str} (fa : FnAt W a fd body params) {A : Around} {s : Shared} {X : AS} {vs : List Value} {E : Value → Shared → Prop} {ρ : Ro} {d : PyData} {ρ' : Ro}
    (hlen : vs.length = params.length) (hb : ∀ h ko, (∀ x ∈ params, (ko x = some .local ∨ ko x = some .cell) ∧ plainName x) → (∀ b o, s.heap.get? b = some o → h.get? b = some o) → ∀ Y : AS, (∀ b o, ¬ X b → s.heap.get? b = some o → ¬ Y b) →
      BindOk W Y h ko ρ (bindL ko (params.zip vs) fun _ => none) (bindC ko (params.zip vs) fun _ => none))
    (hrun : exL F n fd.scope body ρ = some (.ret d, ρ')) (hA : AOk (k + 2) A) (hG : W.G s.heap) (hl : Live X s.heap) :
    wpAny (model prog w) A (call (.ref a) vs) (Gv X s d) E s := by
  obtain ⟨o, hd, ho⟩ := fa.at_
  have hfit := fa.fit
  unfold fnFit at hfit
  simp only [Bool.and_eq_true, decide_eq_true_eq, Bool.not_eq_true', List.all_eq_true, plainB_iff] at hfit
  obtain ⟨⟨⟨⟨hkind, hco⟩, hgen⟩, hnames⟩, hparams⟩ := hfit
  refine wpAny_call ?_
  have hroom : A.depth < recursionLimit := by
    have := hA.d
    show A.depth < 1000
    omega
  refine codeAny_call_cells hroom (ho _ hG) hd (fa.lim _ hG) (fa.code _ hG) fa.body (fa.bind vs hlen) fa.clo ?_ (fun s₁ x => ?_) hco hgen hkind
  · intro y hy
    have hm : y.1 ∈ params := (List.of_mem_zip hy).1
    obtain ⟨h1 | h1, _⟩ := stFit_iff (hparams _ hm)
    · exact .inl h1
    · obtain ⟨c, hc⟩ := cellsFrom_look (s.heap.objs.size + 1) h1
      exact .inr ⟨h1, by rw [hc]; rfl⟩
  · generalize hE : callEnvC fd s.heap.objs.size a = env at x ⊢
    have hsc : env.scope = fd.scope := by rw [← hE]; rfl
    have hcells : env.cells = cellsFrom (s.heap.objs.size + 1) fd.scope.names [] := by rw [← hE]; rfl
    have hloc : env.locals = s.heap.objs.size := by rw [← hE]; rfl
    have hko : ∀ y, env.kindOf y = fd.scope.names.lookup y := fun y => by unfold Env.kindOf; rw [hsc]
    have eo : EnvOk env fd.scope := {
      kind := by rw [hsc]; exact hkind
      g := by rw [← hE]; exact fa.g
      b := by rw [← hE]; exact fa.b
      names := fun y hy => by
        have hy' : fd.scope.names.lookup y = some .globalImplicit := by simpa [glob] using hy
        exact ⟨by rw [hko]; exact hy', (hnames _ (lookup_mem hy')).2⟩
      cells := fun y hy => by
        rcases hy with hy | hy
        · refine ⟨.inl (by rw [hko]; exact hy), ?_⟩
          rw [hcells]; exact cellsFrom_look _ hy
        · exact absurd rfl (hnames _ (lookup_mem hy)).1 }
    have offc : ∀ m c, env.cells.lookup m = some c → env.locals < c := fun m c hc => x.above m c (PySem.mem_of_lookup hc)
    have fe : FEnv env fd.scope := ⟨hsc, eo, x.apart, fun m c hc => Nat.ne_of_gt (offc m c hc)⟩
    have ownGe : ∀ b, Own env b → s.heap.objs.size ≤ b := by
      rintro b (rfl | ⟨m, hm⟩)
      · rw [hloc]; exact Nat.le_refl _
      · exact Nat.le_of_lt (hloc ▸ offc m b hm)
    have ge_none : ∀ b, s.heap.objs.size ≤ b → s.heap.get? b = none := fun b hb => by
      cases e : s.heap.get? b with
      | none => rfl
      | some o => exact absurd (Heap.lt_size e) (Nat.not_lt.mpr hb)
    let Y : AS := fun b => X b ∨ Own env b
    have bo := hb s₁.heap env.kindOf (fun y hy => by
        obtain ⟨h1, h2⟩ := stFit_iff (hparams y hy)
        rw [hko]; exact ⟨h1, h2⟩) x.toInCall.keep Y (fun b o hb e h => by
        rcases h with h | h
        · exact hb h
        · rw [ge_none b (ownGe b h)] at e; cases e)
    have fm : Fm W Y s.heap env ρ s₁ := {
      own := fun b hb => .inr hb
      new := fun b hb => ge_none b (ownGe b hb)
      ns := ⟨_, x.toInCall.ns⟩
      cell := fun m c hc => ⟨_, x.cell m c hc⟩
      sees := fun y r hy => by
        obtain ⟨p, v, hv, rv⟩ := bo y r hy
        refine ⟨p, v, ?_, rv⟩
        rcases hv with ⟨h1, h2⟩ | ⟨h1, h2⟩
        · exact .inl ⟨h1, _, x.toInCall.ns, h2⟩
        · obtain ⟨_, c, hc⟩ := eo.cells y (.inl (by rw [← hko]; exact h1))
          exact .inr ⟨.inl h1, c, hc, h2 ▸ x.cell y c hc⟩
      live := fun b hb => by
        rcases hb with hb | (rfl | ⟨m, hm⟩)
        · obtain ⟨o, e⟩ := hl b hb; exact ⟨o, x.toInCall.keep b o e⟩
        · obtain ⟨o, _, _, e, _⟩ := x.toInCall.ns; exact ⟨o, e⟩
        · obtain ⟨o, e, _⟩ := x.cell m b hm; exact ⟨o, e⟩
      g := hG
      base := x.toInCall.keep }
    refine wpk (sa.exL hrun (hA.deeper env) fe fm) fun fl s₂ q => ?_
    obtain ⟨⟨v, rfl, rv⟩, f2, ⟨⟨h₂, t₂, rfl⟩, _⟩⟩ := q
    refine ⟨Rp.keep (fun b o hb e => ⟨e, fun h => hb (.inl h)⟩) rv, ?_⟩
    obtain ⟨h₁', t₁', rfl⟩ := x.toInCall.same
    exact ⟨h₂, t₂, rfl, f2.base⟩
theorem fn_ok {W : Wd prog w} {k : Nat} {F : Fn} {n : Nat} (sa : StAll W k F n) {a : Addr} {fd : FuncData} {body : List Stmt} {params : List Str} (fa : FnAt W a fd body params) {args : List PyData} {d : PyData} {ρ' : Ro} (hlen : params.length = args.length)
    (hrun : exL F n fd.scope body (bindAll params args fun _ => none) = some (.ret d, ρ')) : CallOk W (k + 2) (.ref a) args d := by
  intro A s X vs E hA hG hl r
  refine fn_run sa fa (r.length.trans hlen.symm) (fun h ko hp hk Y hY => ?_) hrun hA hG hl
  exact bindOk_all (fun _ _ h => nomatch h) (r.keep fun b o hb e => ⟨hk b o e, hY b o hb e⟩) hlen hp
end Mine
end SWP
section SWQ
open PySem PySem.W PyProof.Rows PySem.Calls PySem.Spec
namespace Mine
variable {prog : Program} {w : World}
def leS (a b : Str) : Bool := !ltS b a
def sortS (l : List Str) : List Str := l.mergeSort leS
def minI : List Int → Int
  | [] => 0
  | [a] => a
  | a :: r => if a ≤ minI r then a else minI r
def bltD (f : Str) (args : List PyData) : Option PyData :=
  if f = Str.ofString "len" then match args with
    | [.list xs] => if xs.length ≤ 1000000 then some (.int xs.length) else none
    | [.str x] => if x.length ≤ 1000000 then some (.int x.length) else none
    | _ => none
  else if f = Str.ofString "ord" then match args with
    | [.str x] => if x.length = 1 then some (.int (x.cps.getD 0 0 : Nat)) else none
    | _ => none
  else if f = Str.ofString "chr" then match args with
    | [.int i] => if 0 ≤ i ∧ i ≤ 1114111 then some (.str ⟨#[i.toNat]⟩) else none
    | _ => none
  else if f = Str.ofString "sum" then match args with
    | [.list xs] => (intsD xs).map fun is => .int is.sum
    | _ => none
  else if f = Str.ofString "min" then match args with
    | [.list xs] => (intsD xs).bind fun is => if is = [] then none else some (.int (minI is))
    | _ => none
  else if f = Str.ofString "sorted" then match args with
    | [.list xs] => (strsD xs).bind fun ss => if ss.length < 64 then some (.list ((sortS ss).map .str)) else none
    | _ => none
  else if f = Str.ofString "tuple" then match args with
    | [.list xs] => if xs.length ≤ 1000000 then some (.tuple xs) else none
    | _ => none
  else none
theorem ltS_cps (a b : Str) : ltCps a.cps.toList b.cps.toList = ltS a b := by rw [ltCps_eq]; rfl
theorem leS_total (a b : Str) : (leS a b || leS b a) = true := by
  unfold leS ltS
  by_cases h : b.cps.toList < a.cps.toList
  · have := List.lt_asymm h
    simp [h, this]
  · simp [h]
theorem leS_trans (a b c : Str) (h1 : leS a b = true) (h2 : leS b c = true) : leS a c = true := by
  unfold leS ltS at *
  simp only [Bool.not_eq_true', decide_eq_false_iff_not, List.not_lt] at *
  exact List.le_trans h1 h2
theorem leS_anti (a b : Str) (h1 : leS a b = true) (h2 : leS b a = true) : a = b := by
  unfold leS ltS at *
  simp only [Bool.not_eq_true', decide_eq_false_iff_not, List.not_lt] at *
  have := List.le_antisymm h1 h2
  cases a; cases b
  simp only [Str.mk.injEq] at *
  exact Array.toList_inj.mp this
theorem risingS_pw : ∀ (p : Str) (l : List Str), risingS p l = true → (p :: l).Pairwise (fun a b => leS a b = true)
  | p, [], _ => by simp
  | p, x :: r, h => by
    have h' : (!ltCps x.cps.toList p.cps.toList && risingS x r) = true := h
    rw [Bool.and_eq_true, ltS_cps] at h'
    have ih := risingS_pw x r h'.2
    refine List.pairwise_cons.mpr ⟨fun y hy => ?_, ih⟩
    rcases List.mem_cons.mp hy with rfl | hy
    · exact h'.1
    · exact leS_trans _ _ _ h'.1 (List.rel_of_pairwise_cons ih hy)
theorem sortS_unique {l l' : List Str} (hp : l'.Perm l) (hs : sortedS l' = true) : l' = sortS l := by
  have p1 : l'.Pairwise (fun a b => leS a b = true) := by
    cases l' with
    | nil => exact List.Pairwise.nil
    | cons x r => exact risingS_pw x r hs
  have p2 : (sortS l).Pairwise (fun a b => leS a b = true) := List.pairwise_mergeSort leS_trans leS_total l
  exact List.Perm.eq_of_pairwise (fun a b _ _ h1 h2 => leS_anti a b h1 h2) p1 p2 (hp.trans (List.mergeSort_perm l leS).symm)
theorem strsAre_of {X : AS} {h : Heap} : ∀ {xs : List PyData} {ss : List Str} {vs : List Value}, strsD xs = some ss → Rps X h xs vs → StrsAre vs ss
  | [], ss, vs, e, r => by simp only [strsD, Option.some.injEq] at e; subst e; simp only [Rps] at r; subst r; exact .nil
  | d :: xs, ss, vs, e, r => by
    simp only [Rps] at r
    obtain ⟨v, vr, rfl, r1, r2⟩ := r
    cases d <;> simp only [strsD, reduceCtorEq, Option.map_eq_some_iff] at e
    obtain ⟨t, e, rfl⟩ := e
    simp only [Rp] at r1
    obtain ⟨u, rfl⟩ := r1
    exact .cons _ _ (strsAre_of e r2)
theorem rps_of_strs {X : AS} {h : Heap} : ∀ {ss : List Str} {vs : List Value}, StrsAre vs ss → Rps X h (ss.map .str) vs
  | [], _, .nil => by simp only [List.map_nil, Rps]
  | _ :: _, _, .cons x t r => by simp only [List.map_cons, Rps]; exact ⟨_, _, rfl, rp_str, rps_of_strs r⟩
theorem intsAre_of {X : AS} {h : Heap} : ∀ {xs : List PyData} {ss : List Int} {vs : List Value}, intsD xs = some ss → Rps X h xs vs → IntsAre vs ss
  | [], ss, vs, e, r => by simp only [intsD, Option.some.injEq] at e; subst e; simp only [Rps] at r; subst r; exact .nil
  | d :: xs, ss, vs, e, r => by
    simp only [Rps] at r
    obtain ⟨v, vr, rfl, r1, r2⟩ := r
    cases d <;> simp only [intsD, reduceCtorEq, Option.map_eq_some_iff] at e
    obtain ⟨t, e, rfl⟩ := e
    simp only [Rp] at r1
    obtain ⟨u, rfl⟩ := r1
    exact .cons _ _ (intsAre_of e r2)
theorem minI_mem : ∀ (l : List Int), l ≠ [] → minI l ∈ l ∧ ∀ a ∈ l, minI l ≤ a
  | [], h => absurd rfl h
  | [a], _ => by simp [minI]
  | a :: b :: r, _ => by
    obtain ⟨h1, h2⟩ := minI_mem (b :: r) (by simp)
    have e : minI (a :: b :: r) = if a ≤ minI (b :: r) then a else minI (b :: r) := rfl
    rw [e]
    split
    · rename_i h
      refine ⟨List.mem_cons_self, fun x hx => ?_⟩
      rcases List.mem_cons.mp hx with rfl | hx
      · exact Int.le_refl _
      · exact Int.le_trans h (h2 x hx)
    · rename_i h
      refine ⟨List.mem_cons_of_mem _ h1, fun x hx => ?_⟩
      rcases List.mem_cons.mp hx with rfl | hx
      · omega
      · exact h2 x hx
section
variable {W : Wd prog w} {k : Nat}
theorem rps1 {X : AS} {h : Heap} {d : PyData} {vs : List Value} (r : Rps X h [d] vs) : ∃ v, vs = [v] ∧ Rp X h d v := by
  simp only [Rps] at r
  obtain ⟨v, vr, rfl, r1, rfl⟩ := r
  exact ⟨v, rfl, r1⟩
theorem len_ok {d r : PyData} (h : bltD (Str.ofString "len") [d] = some r) : CallOk W k (.builtin "len") [d] r := by
  intro A s X vs E hA hG hl rv
  obtain ⟨v, rfl, r1⟩ := rps1 rv
  unfold bltD at h
  rw [if_pos rfl] at h
  split at h
  · rename_i xs hd
    cases hd
    split at h
    · rename_i hz
      cases h
      simp only [Rp] at r1
      obtain ⟨a, vs, rfl, _, hpl, hr⟩ := r1
      have e : vs.toArray.size = xs.length := by rw [List.size_toArray, hr.length]
      refine call_len_list hpl.isList (by rw [e]; omega) ⟨?_, kp_tok _ _⟩
      rw [e]; exact rp_int
    · cases h
  · rename_i x hd
    cases hd
    split at h
    · rename_i hz
      cases h
      simp only [Rp] at r1
      obtain ⟨t, rfl⟩ := r1
      exact PySem.P.len_str (by omega) ⟨rp_int, kp_tok _ _⟩
    · cases h
  · cases h
theorem ord_ok {x : Str} (h1 : x.length = 1) : CallOk W k (.builtin "ord") [.str x] (.int (x.cps.getD 0 0 : Nat)) := by
  intro A s X vs E hA hG hl rv
  obtain ⟨v, rfl, r1⟩ := rps1 rv
  simp only [Rp] at r1
  obtain ⟨t, rfl⟩ := r1
  exact ord_of_one h1 ⟨rp_int, kp_tok _ _⟩
theorem chr_ok {i : Int} (h0 : 0 ≤ i) (h1 : i ≤ 1114111) : CallOk W k (.builtin "chr") [.int i] (.str ⟨#[i.toNat]⟩) := by
  intro A s X vs E hA hG hl rv
  obtain ⟨v, rfl, r1⟩ := rps1 rv
  simp only [Rp] at r1
  obtain ⟨t, rfl⟩ := r1
  exact chr_of_range h0 h1 ⟨rp_str, kp_tok _ _⟩
theorem sum_ok {xs : List PyData} {is : List Int} (h : intsD xs = some is) : CallOk W k (.builtin "sum") [.list xs] (.int is.sum) := by
  intro A s X vs E hA hG hl rv
  obtain ⟨v, rfl, r1⟩ := rps1 rv
  simp only [Rp] at r1
  obtain ⟨a, vs, rfl, _, hpl, hr⟩ := r1
  have hi := intsAre_of h hr
  obtain ⟨ys, e⟩ := hi.allInts.items
  have hns : is = ys.toList.map (·.1) := by rw [← hi.numsOf, ← nums_intItems, ← e]
  refine sum_intListG hA.h (e ▸ hpl.isList) fun h' tk t' hk => ?_
  rw [preSum_eq, List.take_of_length_le (by simp), ← hns]
  exact ⟨rp_int, h', tk, rfl, hk⟩
theorem min_ok {xs : List PyData} {is : List Int} (h : intsD xs = some is) (hne : is ≠ []) : CallOk W k (.builtin "min") [.list xs] (.int (minI is)) := by
  intro A s X vs E hA hG hl rv
  obtain ⟨v, rfl, r1⟩ := rps1 rv
  simp only [Rp] at r1
  obtain ⟨a, vs, rfl, _, hpl, hr⟩ := r1
  have hi := intsAre_of h hr
  obtain ⟨ys, e⟩ := hi.allInts.items
  have hns : is = ys.toList.map (·.1) := by rw [← hi.numsOf, ← nums_intItems, ← e]
  have hsz : 0 < ys.size := by
    have h3 := List.length_pos_iff.mpr hne
    rw [hns, List.length_map, Array.length_toList] at h3; exact h3
  refine min_intList hA.h (e ▸ hpl.isList) hsz fun v h' tk hv hk => ?_
  obtain ⟨hb1, hb2⟩ := argBest_lt (numAt ys) (ys.size - 1)
  generalize argBest (fun i j => decide (numAt ys i < numAt ys j)) (ys.size - 1) = b at hv hb1 hb2
  have hb : b < ys.size := by omega
  have hv' : v = .int (ys[b]).1 (ys[b]).2 := by
    simp only [intItems, Array.getElem?_map, Array.getElem?_eq_getElem hb, Option.map_some, Option.some.injEq] at hv
    exact hv.symm
  have hnum : ∀ j (hj : j < ys.size), numAt ys j = (ys[j]).1 := fun j hj => by unfold numAt; simp [Array.getElem?_eq_getElem hj]
  have hmin : (ys[b]).1 = minI is := by
    obtain ⟨m1, m2⟩ := minI_mem is hne
    refine Int.le_antisymm ?_ ?_
    · rw [hns] at m1
      obtain ⟨p, hp, e1⟩ := List.mem_map.mp m1
      obtain ⟨j, hj, rfl⟩ := List.mem_iff_getElem.mp hp
      have hj' : j < ys.size := by simpa using hj
      have := hb2 j (by omega)
      rw [hnum b hb, hnum j hj'] at this
      rw [hns, ← e1]
      simpa using this
    · apply m2
      rw [hns]
      exact List.mem_map.mpr ⟨ys[b], by simp, rfl⟩
  rw [hv', hmin]
  exact ⟨rp_int, h', tk, rfl, hk⟩
theorem sorted_ok {xs : List PyData} {ss : List Str} (h : strsD xs = some ss) (h64 : ss.length < 64) : CallOk W k (.builtin "sorted") [.list xs] (.list ((sortS ss).map .str)) := by
  intro A s X vs E hA hG hl rv
  obtain ⟨v, rfl, r1⟩ := rps1 rv
  simp only [Rp] at r1
  obtain ⟨a, vs, rfl, _, hpl, hr⟩ := r1
  have hS := strsAre_of h hr
  refine sorted_strs hpl.isList hS (by rw [StrsAre.length hS]; exact h64) fun out ss' a1 a2 a3 => ?_
  rw [← sortS_unique a2 a3]
  obtain ⟨e, he⟩ := sortedAll_at s.heap vs out
  refine ⟨?_, _, s.toks, rfl, fun _ _ => sortedAll_old⟩
  simp only [Rp]
  refine ⟨_, out.toList, rfl, hl.fresh ?_, ⟨e, by simpa using he⟩, rps_of_strs a1⟩
  cases e : s.heap.get? (s.heap.objs.size + 1) with
  | none => rfl
  | some o => exact absurd (Heap.lt_size e) (Nat.not_lt.mpr (Nat.le_succ _))
theorem tuple_ok {xs : List PyData} (hz : xs.length ≤ 1000000) : CallOk W k (.type "tuple") [.list xs] (.tuple xs) := by
  intro A s X vs E hA hG hl rv
  obtain ⟨v, rfl, r1⟩ := rps1 rv
  simp only [Rp] at r1
  obtain ⟨a, vs, rfl, _, hpl, hr⟩ := r1
  refine call_tuple_list hpl.isList (fun h' hk => ?_) (by rw [List.size_toArray, hr.length]; show xs.length ≤ 2 ^ 24; omega)
  have kk : Keeps s { s with heap := h' } := ⟨h', s.toks, rfl, hk⟩
  refine ⟨?_, kp_trans kk (kp_push { s with heap := h' } _)⟩
  exact Rp.newTuple (s := { s with heap := h' }) (hl.keeps kk) (hr.keeps kk)
end
end Mine
end SWQ
section SWR
open PySem PySem.W PyProof.Rows PySem.Calls
set_option maxRecDepth 100000
namespace Mine
noncomputable section
def KF1 (P : Params) : Frag := (List.range 150).zip (objsC P)
theorem k_cmp (P : Params) : findIn (KF1 P) (.ref 38) "compare" = some (some (.ref 35)) := by kernel_rfl
theorem k_init (P : Params) : findIn (KF1 P) (.ref 38) "__init__" = some (some (.ref 28)) := by kernel_rfl
theorem k_make (P : Params) : makesIn (KF1 P) 38 = true := by kernel_rfl
theorem k_keep (P : Params) : keepIn (KF1 P) (.ref 38) = true := by kernel_rfl
theorem k_ga (P : Params) : findIn (KF1 P) (.ref 38) "__getattribute__" = some (some (.builtin "object.__getattribute__")) := by kernel_rfl
theorem k_gt (P : Params) : findIn (KF1 P) (.ref 38) "__getattr__" = some none := by kernel_rfl
theorem k_sa (P : Params) : findIn (KF1 P) (.ref 38) "__setattr__" = some (some (.builtin "object.__setattr__")) := by kernel_rfl
theorem k_po (P : Params) : plainOver (KF1 P) 38 = true := by kernel_rfl
theorem k_tk (P : Params) : takerIn (KF1 P) 38 sCSL = some none := by kernel_rfl
theorem k_hd (P : Params) : hasDictIn (KF1 P) 38 = true := by kernel_rfl
theorem k_csl (P : Params) : findIn (KF1 P) (.ref 38) sCSL = some none := by kernel_rfl
theorem k_fn28 (P : Params) : typeIn (KF1 P) (.ref 28) = some (.type "function") := by kernel_rfl
theorem k_fn35 (P : Params) : typeIn (KF1 P) (.ref 35) = some (.type "function") := by kernel_rfl
theorem zip_lookup {l : List Obj} {n a : Nat} {o : Obj} (h : ((List.range n).zip l).lookup a = some o) : l[a]? = some o := by
  have hm : (a, o) ∈ (List.range n).zip l := by
    revert h
    generalize (List.range n).zip l = z
    induction z with
    | nil => intro h; cases h
    | cons x r ih =>
      obtain ⟨k, v⟩ := x
      intro h
      rw [List.lookup_cons] at h
      split at h
      · rename_i hk
        cases h
        have : a = k := by simpa using hk
        subst this
        exact List.mem_cons_self
      · exact List.mem_cons_of_mem _ (ih h)
  obtain ⟨i, hi⟩ := List.mem_iff_getElem?.mp hm
  rw [List.getElem?_zip_eq_some] at hi
  obtain ⟨h1, h2⟩ := hi
  obtain ⟨h3, h4⟩ := List.getElem?_eq_some_iff.mp h1
  simp only [List.getElem_range] at h4
  subst h4
  exact h2
theorem in_K1 {w : World} {h : Heap} (y : says1 w h) : (KF1 w.params).In h := fun a o e => y a o (zip_lookup e)
def dictEs (o : Obj) : Array DictEntry := match o.data with
  | .dict es _ => es
  | _ => #[]
def strKeysB (o : Obj) : Bool := match o.data with
  | .dict es _ => es.all fun e => match e.key with | .str _ _ => true | _ => false
  | _ => false
theorem ns_of {h : Heap} {a : Addr} {o : Obj} (ho : h.get? a = some o) (hk : strKeysB o = true) : h.Ns a (nsFind (dictEs o)) := by
  unfold strKeysB at hk
  unfold dictEs
  split at hk
  · rename_i es ep hd
    refine ⟨o, es, ep, ho, hd, fun e he => ?_, fun x => rfl⟩
    rw [Array.all_eq_true'] at hk
    have := hk e he
    split at this
    · rename_i x t hx; exact ⟨x, t, hx⟩
    · cases this
  · cases hk
theorem keys3 (P : Params) : strKeysB (oC_3 P) = true := by kernel_rfl
theorem keys0 (P : Params) : strKeysB (boot_o_0 P) = true := by kernel_rfl
def nm1 (P : Params) (x : Str) : Option Value := match nsFind (dictEs (oC_3 P)) x with
  | some v => some v
  | none => nsFind (dictEs (boot_o_0 P)) x
def instOf1 (P : Params) (X : AS) (h : Heap) (ks : PyData) (v : Value) : Prop :=
  ∃ x dx t n lv, v = .ref x ∧ ¬ X x ∧ ¬ X dx ∧ h.get? x = some (instObj 38 dx) ∧ h.get? dx = some (dictOf [⟨PyData.keyHash P sCSL, .str sCSL t, lv⟩] n) ∧ Rp X h ks lv ∧ ∃ l, ks = .list l
def W1 (w : World) : Wd pp w where
  G := says1 w
  keep := fun y k => says_keeps w _ _ y k
  nm := nm1 w.params
  look := fun {h} y {x v} hx => by
    refine ⟨_, _, ns_of (y 3 _ rfl) (keys3 _), ns_of (y 0 _ rfl) (keys0 _), ?_⟩
    unfold nm1 at hx
    split at hx
    · rename_i v' e; cases hx; exact .inl e
    · rename_i e; exact .inr ⟨e, hx⟩
  Inst := instOf1 w.params
  instKeep := fun hk i => by
    obtain ⟨x, dx, t, n, lv, rfl, hx, hd, h1, h2, r, hl⟩ := i
    exact ⟨x, dx, t, n, lv, rfl, (hk _ _ hx h1).2, (hk _ _ hd h2).2, (hk _ _ hx h1).1, (hk _ _ hd h2).1, r.keep hk, hl⟩
  fc := 35
  meth := fun {X s k ov} y i A E imp Q hQ => by
    obtain ⟨x, dx, t, n, lv, rfl, hx, hd, h1, h2, r, hl⟩ := i
    exact method_fn (in_K1 y) (ox := instObj 38 dx) (C := 38) (od := some (dictOf [⟨PyData.keyHash w.params sCSL, .str sCSL t, lv⟩] n)) ⟨h1, rfl, rfl, h2⟩ (k_ga _) (k_gt _) (k_cmp _) (k_fn35 _) (by kernel_rfl) hQ
  attr := fun {X s k ov} y i A E Q hQ => by
    obtain ⟨x, dx, t, n, lv, rfl, hx, hd, h1, h2, r, l, rfl⟩ := i
    have hlv : handedIn lv = true := by
      simp only [Rp] at r
      obtain ⟨a, vs, rfl, _⟩ := r
      rfl
    refine get_value (in_K1 y) (ox := instObj 38 dx) (C := 38) (od := some (dictOf [⟨PyData.keyHash w.params sCSL, .str sCSL t, lv⟩] n)) ⟨h1, rfl, rfl, h2⟩ (k_ga _) (findObj_own (k_hd _) (k_csl _) rfl ?_) hlv (hQ lv r)
    kernel_rfl
  K := KF1 w.params
  inK := in_K1
  mka := 38
  mkNm := by kernel_rfl
  mkKeep := k_keep _
  fcAt := ⟨_, _, fun h y => y 35 _ rfl, rfl⟩
end
end Mine
end SWR
section SWS
open PySem PySem.W PyProof.Rows PySem.Calls
set_option maxRecDepth 100000
namespace Mine
noncomputable section
theorem keysS (P : Params) : strKeysB ((objsC P).getD cStatics (boot_o_0 P)) = true := by kernel_rfl
theorem lim1 {w : World} {h : Heap} (y : says1 w h) : h.NoLimit :=
  ⟨_, ns_of (y cStatics _ rfl) (keysS w.params), by kernel_rfl⟩
def fdOf (st : Stmt) (qual : Str) (pm cd : Value) : FuncData := match st with
  | .FunctionDef name args body _ _ _ scope _ _ _ => { name, qualname := qual, params := args, body := .stmts body, scope, globals := 3, closure := [], defaults := .none, kwdefaults := .none, pyModule := pm, code := cd, builtins := 0 }
  | _ => { name := qual, qualname := qual, params := default, body := .stmts [], scope := default, globals := 3, closure := [], defaults := .none, kwdefaults := .none, pyModule := pm, code := cd, builtins := 0 }
def bodyOf (st : Stmt) : List Stmt := match st with
  | .FunctionDef _ _ body _ _ _ _ _ _ _ => body
  | _ => []
def scopeOf (st : Stmt) : Scope := match st with
  | .FunctionDef _ _ _ _ _ _ scope _ _ _ => scope
  | _ => default
def argsOf (st : Stmt) : List Str := match st with
  | .FunctionDef _ args _ _ _ _ _ _ _ _ => args.args.map (·.arg)
  | _ => []
theorem len_two {l : List Value} (h : l.length = 2) : ∃ a b, l = [a, b] := by
  match l, h with
  | [a, b], _ => exact ⟨a, b, rfl⟩
theorem len_three {l : List Value} (h : l.length = 3) : ∃ a b c, l = [a, b, c] := by
  match l, h with
  | [a, b, c], _ => exact ⟨a, b, c, rfl⟩
theorem code1 {w : World} {h : Heap} (y : says1 w h) {cd : Value} {q : Str} (e : codeIn (KF1 w.params) cd q = true) : h.CodeRec cd q := codeRec_of (in_K1 y) e
abbrev st_tc_init : Stmt := stIn bd 1 0
abbrev fd_tc_init : FuncData := fdOf st_tc_init (Str.ofString "TupleComp.__init__") (.str (Str.ofString "cpy313.pstats") 187) (.ref 27)
theorem at_tc_init (w : World) : FnAt (W1 w) 28 fd_tc_init (bodyOf st_tc_init) [Str.ofString "self", Str.ofString "comp_select_list"] where
  at_ := ⟨_, rfl, fun h y => y 28 _ rfl⟩
  lim := fun h y => lim1 y
  code := fun h y => code1 y (by kernel_rfl)
  body := rfl
  clo := rfl
  g := rfl
  b := rfl
  bind := fun vals hl => by
    obtain ⟨a, b, rfl⟩ := len_two hl
    kernel_rfl
  fit := by kernel_rfl
abbrev st_tc_compare : Stmt := stIn bd 1 1
abbrev fd_tc_compare : FuncData := fdOf st_tc_compare (Str.ofString "TupleComp.compare") (.str (Str.ofString "cpy313.pstats") 187) (.ref 34)
theorem at_tc_compare (w : World) : FnAt (W1 w) 35 fd_tc_compare (bodyOf st_tc_compare) [Str.ofString "self", Str.ofString "left", Str.ofString "right"] where
  at_ := ⟨_, rfl, fun h y => y 35 _ rfl⟩
  lim := fun h y => lim1 y
  code := fun h y => code1 y (by kernel_rfl)
  body := rfl
  clo := rfl
  g := rfl
  b := rfl
  bind := fun vals hl => by
    obtain ⟨a, b, c, rfl⟩ := len_three hl
    kernel_rfl
  fit := by kernel_rfl
abbrev st_in_table_b1 : Stmt := stAt bd 4
abbrev fd_in_table_b1 : FuncData := fdOf st_in_table_b1 (Str.ofString "in_table_b1") (.str (Str.ofString "cpy313.stringprep") 231) (.ref 59)
theorem at_in_table_b1 (w : World) : FnAt (W1 w) 60 fd_in_table_b1 (bodyOf st_in_table_b1) [Str.ofString "code"] where
  at_ := ⟨_, rfl, fun h y => y 60 _ rfl⟩
  lim := fun h y => lim1 y
  code := fun h y => code1 y (by kernel_rfl)
  body := rfl
  clo := rfl
  g := rfl
  b := rfl
  bind := fun vals hl => by
    obtain ⟨a, rfl⟩ := List.length_eq_one_iff.mp hl
    kernel_rfl
  fit := by kernel_rfl
abbrev st_map_table_b3 : Stmt := stAt bd 6
abbrev fd_map_table_b3 : FuncData := fdOf st_map_table_b3 (Str.ofString "map_table_b3") (.str (Str.ofString "cpy313.stringprep") 231) (.ref 105)
theorem at_map_table_b3 (w : World) : FnAt (W1 w) 106 fd_map_table_b3 (bodyOf st_map_table_b3) [Str.ofString "code"] where
  at_ := ⟨_, rfl, fun h y => y 106 _ rfl⟩
  lim := fun h y => lim1 y
  code := fun h y => code1 y (by kernel_rfl)
  body := rfl
  clo := rfl
  g := rfl
  b := rfl
  bind := fun vals hl => by
    obtain ⟨a, rfl⟩ := List.length_eq_one_iff.mp hl
    kernel_rfl
  fit := by kernel_rfl
abbrev st_word : Stmt := stAt bd 8
abbrev fd_word : FuncData := fdOf st_word (Str.ofString "_law_word") (.str (Str.ofString "law_mr0250_01") 2259) (.ref 112)
theorem at_word (w : World) : FnAt (W1 w) 113 fd_word (bodyOf st_word) [Str.ofString "x"] where
  at_ := ⟨_, rfl, fun h y => y 113 _ rfl⟩
  lim := fun h y => lim1 y
  code := fun h y => code1 y (by kernel_rfl)
  body := rfl
  clo := rfl
  g := rfl
  b := rfl
  bind := fun vals hl => by
    obtain ⟨a, rfl⟩ := List.length_eq_one_iff.mp hl
    kernel_rfl
  fit := by kernel_rfl
abbrev st_sign : Stmt := stAt bd 9
abbrev fd_sign : FuncData := fdOf st_sign (Str.ofString "_law_sign") (.str (Str.ofString "law_mr0250_01") 2259) (.ref 119)
theorem at_sign (w : World) : FnAt (W1 w) 120 fd_sign (bodyOf st_sign) [Str.ofString "letter", Str.ofString "form"] where
  at_ := ⟨_, rfl, fun h y => y 120 _ rfl⟩
  lim := fun h y => lim1 y
  code := fun h y => code1 y (by kernel_rfl)
  body := rfl
  clo := rfl
  g := rfl
  b := rfl
  bind := fun vals hl => by
    obtain ⟨a, b, rfl⟩ := len_two hl
    kernel_rfl
  fit := by kernel_rfl
abbrev st_unseen : Stmt := stAt bd 10
abbrev fd_unseen : FuncData := fdOf st_unseen (Str.ofString "_law_unseen") (.str (Str.ofString "law_mr0250_01") 2259) (.ref 126)
theorem at_unseen (w : World) : FnAt (W1 w) 127 fd_unseen (bodyOf st_unseen) [Str.ofString "k"] where
  at_ := ⟨_, rfl, fun h y => y 127 _ rfl⟩
  lim := fun h y => lim1 y
  code := fun h y => code1 y (by kernel_rfl)
  body := rfl
  clo := rfl
  g := rfl
  b := rfl
  bind := fun vals hl => by
    obtain ⟨a, rfl⟩ := List.length_eq_one_iff.mp hl
    kernel_rfl
  fit := by kernel_rfl
abbrev st_piece : Stmt := stAt bd 11
abbrev fd_piece : FuncData := fdOf st_piece (Str.ofString "_law_piece") (.str (Str.ofString "law_mr0250_01") 2259) (.ref 131)
theorem at_piece (w : World) : FnAt (W1 w) 132 fd_piece (bodyOf st_piece) [Str.ofString "which", Str.ofString "x"] where
  at_ := ⟨_, rfl, fun h y => y 132 _ rfl⟩
  lim := fun h y => lim1 y
  code := fun h y => code1 y (by kernel_rfl)
  body := rfl
  clo := rfl
  g := rfl
  b := rfl
  bind := fun vals hl => by
    obtain ⟨a, b, rfl⟩ := len_two hl
    kernel_rfl
  fit := by kernel_rfl
abbrev st_prepared : Stmt := stAt bd 12
abbrev fd_prepared : FuncData := fdOf st_prepared (Str.ofString "_law_prepared") (.str (Str.ofString "law_mr0250_01") 2259) (.ref 136)
theorem at_prepared (w : World) : FnAt (W1 w) 137 fd_prepared (bodyOf st_prepared) [Str.ofString "piece"] where
  at_ := ⟨_, rfl, fun h y => y 137 _ rfl⟩
  lim := fun h y => lim1 y
  code := fun h y => code1 y (by kernel_rfl)
  body := rfl
  clo := rfl
  g := rfl
  b := rfl
  bind := fun vals hl => by
    obtain ⟨a, rfl⟩ := List.length_eq_one_iff.mp hl
    kernel_rfl
  fit := by kernel_rfl
abbrev st_sorted : Stmt := stAt bd 13
abbrev fd_sorted : FuncData := fdOf st_sorted (Str.ofString "_law_sorted") (.str (Str.ofString "law_mr0250_01") 2259) (.ref 143)
theorem at_sorted (w : World) : FnAt (W1 w) 144 fd_sorted (bodyOf st_sorted) [Str.ofString "places", Str.ofString "rows", Str.ofString "keys"] where
  at_ := ⟨_, rfl, fun h y => y 144 _ rfl⟩
  lim := fun h y => lim1 y
  code := fun h y => code1 y (by kernel_rfl)
  body := rfl
  clo := rfl
  g := rfl
  b := rfl
  bind := fun vals hl => by
    obtain ⟨a, b, c, rfl⟩ := len_three hl
    kernel_rfl
  fit := by kernel_rfl
abbrev st_law : Stmt := stAt bd 14
abbrev fd_law : FuncData := fdOf st_law (Str.ofString "law") (.str (Str.ofString "law_mr0250_01") 2259) (.ref 148)
theorem at_law (w : World) : FnAt (W1 w) 149 fd_law (bodyOf st_law) [Str.ofString "script"] where
  at_ := ⟨_, rfl, fun h y => y 149 _ rfl⟩
  lim := fun h y => lim1 y
  code := fun h y => code1 y (by kernel_rfl)
  body := rfl
  clo := rfl
  g := rfl
  b := rfl
  bind := fun vals hl => by
    obtain ⟨a, rfl⟩ := List.length_eq_one_iff.mp hl
    kernel_rfl
  fit := by kernel_rfl
end
end Mine
end SWS
section SWT
open PySem PySem.W PyProof.Rows PySem.Calls
set_option maxRecDepth 100000
namespace Mine
noncomputable section
abbrev sSelf : Str := Str.ofString "self"
theorem init_body : ∃ p1 p2 p3 p4, bodyOf st_tc_init = [.Assign [.Attribute (.Name sSelf p1) sCSL p2] (.Name sCSL p3) p4] := ⟨_, _, _, _, rfl⟩
theorem plain_self : plainName sSelf := plainB_iff.mp (by kernel_rfl)
theorem plain_csl : plainName sCSL := plainB_iff.mp (by kernel_rfl)
theorem make_ok (w : World) {k : Nat} (ks : List PyData) (A : Around) (s : Shared) (X : AS) (v : Value) (E : Value → Shared → Prop) (hA : AOk (k + 2) A) (y : says1 w s.heap) (hl : Live X s.heap) (rv : Rp X s.heap (.list ks) v) :
    wpAny (model pp w) A (call (.ref 38) [v]) (fun ov s' => instOf1 w.params X s'.heap (.list ks) ov ∧ Keeps s s') E s := by
  obtain ⟨h, g, d, t, os⟩ := s
  dsimp only at y hl rv
  refine wpAny_call (make_core (makes_of (in_K1 y) (k_make _)) (looks_findIn (in_K1 y) (k_init _)) (fun self => bind_fn (in_K1 y) self (k_fn28 _)) (.inl rfl) ?_)
  generalize hB : A.under (.builtin "type.__call__" ⟨[.ref 38, v], []⟩) = B
  have hBd : B.depth = A.depth + 1 := by rw [← hB]; rfl
  have kk : ∀ b o, h.get? b = some o → ((h.push emptyDict).push (instObj 38 h.objs.size)).get? b = some o := fun b o e => Heap.get?_push_of_some _ (Heap.get?_push_of_some _ e)
  have y' : says1 w ((h.push emptyDict).push (instObj 38 h.objs.size)) := says_keeps w _ _ y kk
  have fa := at_tc_init w
  obtain ⟨o, hd, ho⟩ := fa.at_
  have hdx : ((h.push emptyDict).push (instObj 38 h.objs.size)).get? h.objs.size = some emptyDict := Heap.get?_push_of_some _ (Heap.get?_push_size _ rfl)
  have hx : ((h.push emptyDict).push (instObj 38 h.objs.size)).get? (h.objs.size + 1) = some (instObj 38 h.objs.size) := by
    have := Heap.get?_push_size (o := instObj 38 h.objs.size) (h.push emptyDict) rfl
    rwa [Heap.size_push] at this
  have hroom : B.depth < recursionLimit := by
    have := hA.d
    show B.depth < 1000
    omega
  refine codeAny_call_cells hroom (ho _ y') hd (fa.lim _ y') (fa.code _ y') fa.body (fa.bind [.ref (h.objs.size + 1), v] rfl) fa.clo ?_ (fun s₁ x => ?_)
  · intro z hz
    refine .inl ?_
    simp only [List.zip_cons_cons, List.zip_nil_left, List.mem_cons, List.not_mem_nil, or_false] at hz
    rcases hz with rfl | rfl <;> kernel_rfl
  · obtain ⟨p1, p2, p3, p4, hb⟩ := init_body
    rw [hb]
    have fr := x.toInCall
    generalize hE : callEnvC fd_tc_init _ 28 = env at x fr ⊢
    have hsc : env.scope = fd_tc_init.scope := by rw [← hE]; rfl
    have hk : env.scope.kind = .function := by rw [hsc]; kernel_rfl
    have hk1 : env.kindOf sSelf = some .local := by unfold Env.kindOf; rw [hsc]; kernel_rfl
    have hk2 : env.kindOf sCSL = some .local := by unfold Env.kindOf; rw [hsc]; kernel_rfl
    have hns := fr.ns
    have m1 : bindL env.kindOf (List.zip [Str.ofString "self", Str.ofString "comp_select_list"] [.ref (h.objs.size + 1), v]) (fun _ => none) sSelf = some (.ref (h.objs.size + 1)) := by
      simp only [List.zip_cons_cons, List.zip_nil_left, bindL, hk1, hk2, if_true]
      rw [if_neg (by decide +kernel)]
    have m2 : bindL env.kindOf (List.zip [Str.ofString "self", Str.ofString "comp_select_list"] [.ref (h.objs.size + 1), v]) (fun _ => none) sCSL = some v := by
      simp only [List.zip_cons_cons, List.zip_nil_left, bindL, hk1, hk2, if_true]
    refine wpAny_execs_cons (plainObj_wpAny_Assign_Attribute ?_)
    refine wpAny_Name (wpAny_loadName_local hk hk2 hns m2 ?_) plain_csl.1
    refine wpAny_Name (wpAny_loadName_local hk hk1 hns m1 ?_) plain_self.1
    have hLge : h.objs.size + 2 ≤ env.locals := by
      have := fr.fresh
      rw [Heap.size_push, Heap.size_push] at this
      exact this
    have F : Fr h env.locals s₁.heap (bindL env.kindOf (List.zip [Str.ofString "self", Str.ofString "comp_select_list"] [.ref (h.objs.size + 1), v]) (fun _ => none)) := ⟨hns, fun b o e => fr.keep b o (kk b o e), by omega⟩
    have none_of : ∀ b, h.objs.size ≤ b → h.get? b = none := fun b hb => by
      cases e : h.get? b with
      | none => rfl
      | some o => exact absurd (Heap.lt_size e) (Nat.not_lt.mpr hb)
    have N : News h env.locals s₁.heap [(h.objs.size + 1, instObj 38 h.objs.size), (h.objs.size, dictOf [] 0)] := by
      intro p hp
      simp only [List.mem_cons, List.not_mem_nil, or_false] at hp
      rcases hp with rfl | rfl
      · exact ⟨fr.keep _ _ hx, Nat.ne_of_lt (Nat.lt_of_lt_of_le (Nat.lt_succ_self _) hLge), none_of _ (Nat.le_succ _)⟩
      · exact ⟨fr.keep _ _ hdx, Nat.ne_of_lt (Nat.lt_of_lt_of_le (Nat.lt_succ_of_lt (Nat.lt_succ_self _)) hLge), none_of _ (Nat.le_refl _)⟩
    refine set_dict (K := KF1 w.params) (C := 38) F (in_K1 y) N (ox := instObj 38 h.objs.size) (dx := h.objs.size) (es := []) (n := 0) ⟨fr.keep _ _ hx, rfl, rfl, fr.keep _ _ hdx⟩ rfl (k_sa _) (k_po _) (k_tk _) (k_hd _) rfl rfl
      (.tail (Nat.ne_of_gt (Nat.lt_succ_self _)) (.head fun p hp => nomatch hp)) (Nat.le_of_ble_eq_true rfl) fun h' F' N' => ?_
    refine wpAny_execs_nil ⟨rfl, ?_, ?_⟩
    · have n1 := N' _ List.mem_cons_self
      have n2 := N' _ (List.mem_cons_of_mem _ List.mem_cons_self)
      refine ⟨_, _, _, _, v, rfl, hl.fresh (none_of _ (Nat.le_succ _)), hl.fresh (none_of _ (Nat.le_refl _)), n1.1, n2.1, ?_, ks, rfl⟩
      exact rv.keep fun b o hb e => ⟨F'.keep b o e, hb⟩
    · obtain ⟨h₁, t₁, e₁⟩ := fr.same
      subst e₁
      exact ⟨h', _, rfl, F'.keep⟩
end
end Mine
end SWT
section SWU
open PySem PySem.W PyProof.Rows PySem.Calls
set_option maxRecDepth 100000
namespace Mine
noncomputable section
theorem hash_small {k : Int} (h0 : 0 ≤ k) (h1 : k < 2 ^ 32) : hashInt k = k := by
  have e : ((k.natAbs : Int) % ((2 ^ 61 - 1 : Nat) : Int)) = k := by
    have : (k.natAbs : Int) = k := Int.natAbs_of_nonneg h0
    rw [this]
    exact Int.emod_eq_of_lt h0 (by omega)
  have hr : rawHash k = k := by
    unfold rawHash
    simp only [e]
    rw [if_neg (show ¬ k < 0 by omega), if_neg]
    intro h
    have := beq_iff_eq.mp h
    omega
  unfold hashInt
  rw [hr, if_neg]
  intro h
  have := beq_iff_eq.mp h
  omega
def b1L : List Int := [65024, 65025, 65026, 65027, 65028, 65029, 6150, 65030, 65031, 65032, 65033, 6155, 6156, 6157, 8203, 8204, 8205, 65034, 65035, 65036, 65037, 65038, 65039, 173, 847, 8288, 65279]
def setEs (o : Obj) : Array (Int × Value) := match o.data with
  | .set es _ _ => es
  | _ => #[]
def setOkB (o : Obj) (l : List Int) : Bool := match o.data with
  | .set es _ t => (es.toList.map (·.1) == l) && (es.toList.all fun e => match e.2 with | .int k _ => decide (k = e.1) && decide (0 ≤ k) && decide (k < 2 ^ 32) | _ => false) && decide (es.size < scanBound) && t.fits es.size
  | _ => false
theorem set50 (P : Params) : setOkB (oA_50 P) b1L = true := by kernel_rfl
theorem set_of {prog : Program} {w : World} {h : Heap} {a : Addr} {o : Obj} {l : List Int} (ho : h.get? a = some o) (hx : o.ExactSet) (hk : setOkB o l = true) : ∃ n, h.SetOf (intKind prog w) a (fun k => l.contains k) n := by
  unfold setOkB at hk
  split at hk
  · rename_i es ep t hd
    simp only [Bool.and_eq_true, decide_eq_true_eq, List.all_eq_true, beq_iff_eq] at hk
    obtain ⟨⟨⟨h1, h2⟩, h3⟩, h4⟩ := hk
    have shape : ∀ e ∈ es.toList, ∃ tk, e.2 = .int e.1 tk ∧ 0 ≤ e.1 ∧ e.1 < 2 ^ 32 := fun e he => by
      have := h2 e he
      split at this
      · rename_i k tk hv
        simp only [Bool.and_eq_true, decide_eq_true_eq] at this
        obtain ⟨⟨rfl, a⟩, b⟩ := this
        exact ⟨tk, hv, a, b⟩
      · cases this
    refine ⟨_, o, es, ep, t, ho, hx, hd, fun e he => ?_, fun k => ?_, h3, h4, rfl⟩
    · obtain ⟨tk, hv, a, b⟩ := shape e he
      rw [hv]
      exact ⟨⟨e.1, by show (e.1 == e.1) = true; exact beq_self_eq_true _, (hash_small a b).symm⟩, rfl⟩
    · rw [List.contains_iff_mem, ← h1, List.mem_map]
      constructor
      · rintro ⟨e, he, rfl⟩
        obtain ⟨tk, hv, _⟩ := shape e he
        exact ⟨e, he, by rw [hv]; show (e.1 == e.1) = true; exact beq_self_eq_true _⟩
      · rintro ⟨e, he, hk⟩
        obtain ⟨tk, hv, _⟩ := shape e he
        rw [hv] at hk
        have hk' : (e.1 == k) = true := hk
        exact ⟨e, he, beq_iff_eq.mp hk'⟩
  · cases hk
theorem inset_ok (w : World) (i : Int) (A : Around) (s : Shared) (X : AS) (av : Value) (E : Value → Shared → Prop) (y : says1 w s.heap) (r : Rp X s.heap (.int i) av) :
    wpAny (model pp w) A (compareOp .In av (.ref 50)) (Gv X s (.bool (b1L.contains i))) E s := by
  simp only [Rp] at r
  obtain ⟨t, rfl⟩ := r
  obtain ⟨n, hS⟩ := set_of (prog := pp) (w := w) (y 50 _ rfl) ⟨rfl, rfl, rfl⟩ (set50 w.params)
  exact wpAny_inSet_of (k := i) (by show (i == i) = true; exact beq_self_eq_true _) rfl hS ⟨rp_bool, kp_tok _ _⟩
def b3Get (k : Int) : Option Str := (b3P.find? fun x => x.1.1 == k).map (·.2.1)
def b3D (k : Int) : PyData := match b3Get k with
  | some x => .str x
  | none => .none
theorem find_ents3 (k : Int) : ∀ (l : List Pr) (t : Nat), ((ents3 t l).find? fun e => Value.isInt k e.key).map (·.val) = none ∧ (l.find? fun x => x.1.1 == k) = none ∨ ∃ x u, ((ents3 t l).find? fun e => Value.isInt k e.key).map (·.val) = some (.str x.2.1 u) ∧ (l.find? fun x => x.1.1 == k) = some x
  | [], _ => .inl ⟨rfl, rfl⟩
  | x :: r, t => by
    simp only [ents3, List.find?_cons]
    have e : Value.isInt k (.int x.1.1 t) = (x.1.1 == k) := rfl
    rw [e]
    cases h : x.1.1 == k
    · exact find_ents3 k r _
    · exact .inr ⟨x, t + 1, rfl, rfl⟩
theorem find_ents2 (k : Int) : ∀ (l : List Pr) (t : Nat), ((ents2 t l).find? fun e => Value.isInt k e.key).map (·.val) = none ∧ (l.find? fun x => x.1.1 == k) = none ∨ ∃ x u, ((ents2 t l).find? fun e => Value.isInt k e.key).map (·.val) = some (.str x.2.1 u) ∧ (l.find? fun x => x.1.1 == k) = some x
  | [], _ => .inl ⟨rfl, rfl⟩
  | x :: r, t => by
    simp only [ents2, List.find?_cons]
    have e : Value.isInt k (.int x.1.1 t) = (x.1.1 == k) := rfl
    rw [e]
    cases h : x.1.1 == k
    · exact find_ents2 k r _
    · exact .inr ⟨x, t + 1, rfl, rfl⟩
theorem ents3_keys : ∀ (l : List Pr) (t : Nat), (∀ x ∈ l, 0 ≤ x.1.1 ∧ x.1.1 < 2 ^ 32) → ∀ e ∈ ents3 t l, ∃ k u, e.key = .int k u ∧ e.hash = k ∧ 0 ≤ k ∧ k < 2 ^ 32
  | [], _, _, e, he => by cases he
  | x :: r, t, h, e, he => by
    simp only [ents3] at he
    rcases List.mem_cons.mp he with rfl | he
    · exact ⟨x.1.1, t, rfl, rfl, h x List.mem_cons_self⟩
    · exact ents3_keys r _ (fun y hy => h y (List.mem_cons_of_mem _ hy)) e he
theorem ents2_keys : ∀ (l : List Pr) (t : Nat), (∀ x ∈ l, 0 ≤ x.1.1 ∧ x.1.1 < 2 ^ 32) → ∀ e ∈ ents2 t l, ∃ k u, e.key = .int k u ∧ e.hash = k ∧ 0 ≤ k ∧ k < 2 ^ 32
  | [], _, _, e, he => by cases he
  | x :: r, t, h, e, he => by
    simp only [ents2] at he
    rcases List.mem_cons.mp he with rfl | he
    · exact ⟨x.1.1, t, rfl, rfl, h x List.mem_cons_self⟩
    · exact ents2_keys r _ (fun y hy => h y (List.mem_cons_of_mem _ hy)) e he
theorem b3_keyAll : ∀ x ∈ b3P, 0 ≤ x.1.1 ∧ x.1.1 < 2 ^ 32 := fun x hx => by
  have := List.all_eq_true.mp b3_keyOk x hx
  simpa using this
theorem map61 {w : World} {h : Heap} (y : says1 w h) : ∃ f : Int → Option Value, h.MapOf (intKind pp w) 61 f ∧ ∀ k, (f k = none ∧ b3Get k = none) ∨ ∃ x u, f k = some (.str x u) ∧ b3Get k = some x := by
  refine ⟨_, ⟨b3Main, _, _, y 61 _ rfl, ⟨rfl, rfl, rfl⟩, rfl, fun e he => ?_, fun k => rfl⟩, fun k => ?_⟩
  · have hk : ∃ k u, e.key = .int k u ∧ e.hash = k ∧ 0 ≤ k ∧ k < 2 ^ 32 := by
      have he' : e ∈ ents3 300 (b3P.take 646) ++ ents2 2238 last4 := by simpa using he
      rcases List.mem_append.mp he' with he | he
      · exact ents3_keys _ _ (fun x hx => b3_keyAll x (List.mem_of_mem_take hx)) e he
      · exact ents2_keys _ _ (fun x hx => b3_keyAll x (List.mem_of_mem_drop hx)) e he
    obtain ⟨k, u, h1, h2, h3, h4⟩ := hk
    exact ⟨k, by rw [h1]; show (k == k) = true; exact beq_self_eq_true _, by rw [h2]; exact (hash_small h3 h4).symm⟩
  · have hb : b3P = b3P.take 646 ++ last4 := (List.take_append_drop 646 b3P).symm
    have hf : findBy (intKind pp w).is (ents3 300 (b3P.take 646) ++ ents2 2238 last4).toArray k = ((ents3 300 (b3P.take 646) ++ ents2 2238 last4).find? fun e => Value.isInt k e.key).map (·.val) := by
      unfold findBy
      rw [List.find?_toArray]
      rfl
    have hg : b3Get k = ((b3P.take 646 ++ last4).find? fun x => x.1.1 == k).map (·.2.1) := by
      unfold b3Get
      rw [← hb]
    rw [hf, hg, List.find?_append, List.find?_append]
    rcases find_ents3 k (b3P.take 646) 300 with ⟨h1, h2⟩ | ⟨x, u, h1, h2⟩
    · have h1' : (ents3 300 (b3P.take 646)).find? (fun e => Value.isInt k e.key) = none := Option.map_eq_none_iff.mp h1
      rw [h1', h2, Option.none_or, Option.none_or]
      rcases find_ents2 k last4 2238 with ⟨h3, h4⟩ | ⟨x, u, h3, h4⟩
      · exact .inl ⟨h3, by rw [h4]; rfl⟩
      · exact .inr ⟨x.2.1, u, h3, by rw [h4]; rfl⟩
    · obtain ⟨e, he, he'⟩ := Option.map_eq_some_iff.mp h1
      rw [he, h2, Option.some_or, Option.some_or]
      exact .inr ⟨x.2.1, u, by rw [Option.map_some, he'], rfl⟩
theorem get_ok (w : World) (i : Int) (A : Around) (s : Shared) (X : AS) (vs : List Value) (E : Value → Shared → Prop) (y : says1 w s.heap) (r : Rps X s.heap [.int i] vs) :
    wpAny (model pp w) A (call (.builtin "dict.get") (.ref 61 :: vs)) (Gv X s (b3D i)) E s := by
  obtain ⟨v, rfl, r1⟩ := rps1 r
  simp only [Rp] at r1
  obtain ⟨t, rfl⟩ := r1
  obtain ⟨f, hm, hf⟩ := map61 y
  refine call_meetsIn PySem.F.slot_dict_get hm.typeIs PySem.F.entry_dict_get (PySem.F.args_dict_get_2 _ _) (meets_dict_get (intKind pp w) 61 (k := i) (by show (i == i) = true; exact beq_self_eq_true _) (by decide)) ⟨f, hm, ?_⟩
  unfold b3D
  rcases hf i with ⟨h1, h2⟩ | ⟨x, u, h1, h2⟩
  · rw [h1, h2]
    exact ⟨by simp only [Rp]; rfl, kp_tok _ _⟩
  · rw [h1, h2]
    exact ⟨rp_str, kp_tok _ _⟩
theorem low_ok {w : World} {x : Str} (hx : x.length ≤ 1000) (A : Around) (s : Shared) (X : AS) (t : Tok) (E : Value → Shared → Prop) : wpAny (model pp w) A (call (.builtin "str.lower") [.str x t]) (Gv X s (.str (Txt.lower x))) E s :=
  PyProof.Rows.SCL.lower (by omega) fun _ => ⟨rp_str, kp_tok _ _⟩
end
end Mine
end SWU
section SWV
open PySem PySem.W PyProof.Rows PySem.Calls
set_option maxRecDepth 100000
namespace Mine
noncomputable section
def retOf : Fl × Ro → Option PyData
  | (.ret d, _) => some d
  | _ => none
def runF (F : Fn) (st : Stmt) (params : List Str) (args : List PyData) : Option PyData :=
  if params.length = args.length then
    (exL F 60 (scopeOf st) (bodyOf st) (bindAll params args fun _ => none)).bind retOf
  else none
def F0 : Fn := fun f args =>
  if f = sIn then match args with
    | [.int i] => some (.bool (b1L.contains i))
    | _ => none
  else if f = sGetB3 then match args with
    | [.int i] => some (b3D i)
    | _ => none
  else if f = sLower then match args with
    | [.str x] => if x.length ≤ 1000 then some (.str (Txt.lower x)) else none
    | _ => none
  else bltD f args
theorem runF_ok {w : World} {k : Nat} {F : Fn} (hF : FnOk (W1 w) k F) (N : NmOk (W1 w)) {a : Addr} {st : Stmt} {q : Str} {pm cd : Value} {params : List Str} (fa : FnAt (W1 w) a (fdOf st q pm cd) (bodyOf st) params) (hsc : (fdOf st q pm cd).scope = scopeOf st) {args : List PyData} {d : PyData}
    (h : runF F st params args = some d) : CallOk (W1 w) (k + 2) (.ref a) args d := by
  unfold runF at h
  split at h
  · rename_i hl
    obtain ⟨⟨fl, ρ'⟩, he, hr⟩ := Option.bind_eq_some_iff.mp h
    cases fl with
    | next => cases hr
    | ret d' =>
      cases hr
      exact fn_ok (st_all N hF 60) fa hl (by rw [hsc]; exact he)
  · cases h
end
end Mine
end SWV
section SWX
open PySem PySem.W PyProof.Rows PySem.Calls
set_option maxRecDepth 100000
namespace Mine
section
variable {F : Fn} {n : Nat} {sc : Scope} {ρ : Ro} {p : Pos}
theorem e_const {c : Const} {k : Nat} {d : PyData} (h : constD c = some d) : ev F (n + 1) sc (.Constant c k p) ρ = some d := by simp only [ev]; exact h
theorem e_name {x : Str} {d : PyData} (h : ρ x = some (.dat d)) : ev F (n + 1) sc (.Name x p) ρ = some d := by simp only [ev, h]
theorem e_bin {l r : Expr} {op : Operator} {a b d : PyData} (ha : ev F n sc l ρ = some a) (hb : ev F n sc r ρ = some b) (h : binD op a b = some d) : ev F (n + 1) sc (.BinOp l op r p) ρ = some d := by
  simp only [ev, ha, hb, Option.bind_eq_bind, Option.bind_some]; exact h
theorem e_neg {e : Expr} {i : Int} (h : ev F n sc e ρ = some (.int i)) : ev F (n + 1) sc (.UnaryOp .USub e p) ρ = some (.int (-i)) := by
  simp only [ev, h, Option.bind_eq_bind, Option.bind_some, asInt]
theorem e_attr {o : Str} {q : Pos} {k : PyData} (h : ρ o = some (.inst k)) : ev F (n + 1) sc (.Attribute (.Name o q) sCSL p) ρ = some k := by
  simp only [ev, h, if_true]
theorem e_in {l : Expr} {q : Pos} {a d : PyData} (hg : glob sc sB1 = true) (ha : ev F n sc l ρ = some a) (h : F sIn [a] = some d) : ev F (n + 1) sc (.Compare l [.In] [.Name sB1 q] p) ρ = some d := by
  simp only [ev, ha, Option.bind_eq_bind, Option.bind_some, hg, and_self, if_true]; exact h
theorem e_if {t b o : Expr} {c : Bool} {d : PyData} (ht : tst F n sc t ρ = some c) (h : (if c = true then ev F n sc b ρ else ev F n sc o ρ) = some d) : ev F (n + 1) sc (.IfExp t b o p) ρ = some d := by
  simp only [ev, ht, Option.bind_eq_bind, Option.bind_some]; exact h
theorem e_list {es : List Expr} {xs : List PyData} (h : evs F n sc es ρ = some xs) (hl : xs.length ≤ 1000000) : ev F (n + 1) sc (.List es p) ρ = some (.list xs) := by
  simp only [ev, h, Option.bind_eq_bind, Option.bind_some, if_pos hl]
theorem e_tuple {es : List Expr} {xs : List PyData} {k : Nat} (h : evs F n sc es ρ = some xs) (hl : xs.length ≤ 1000000) : ev F (n + 1) sc (.Tuple es k p) ρ = some (.tuple xs) := by
  simp only [ev, h, Option.bind_eq_bind, Option.bind_some, if_pos hl]
theorem e_slice {v : Expr} {lo hi st : Option Expr} {q : Pos} {xs : List PyData} {l u t : Option Int} (h : ev F n sc v ρ = some (.list xs)) (h1 : evp F n sc lo ρ = some l) (h2 : evp F n sc hi ρ = some u) (h3 : evp F n sc st ρ = some t) (hl : xs.length ≤ 1000000) (ht : t ≠ some 0) :
    ev F (n + 1) sc (.Subscript v (.Slice lo hi st q) p) ρ = some (.list (sliceL xs l u t)) := by
  simp only [ev, h, h1, h2, h3, Option.bind_eq_bind, Option.bind_some, asList, if_pos (And.intro hl ht)]
theorem e_sub {v i : Expr} {a b d : PyData} (hv : ev F n sc v ρ = some a) (hi : ev F n sc i ρ = some b) (h : idxD a b = some d) : ev F (n + 1) sc (.Subscript v i p) ρ = some d := by
  have hns : ∀ lo hi' st q, i ≠ .Slice lo hi' st q := by
    rintro lo hi' st q rfl
    cases n <;> simp [ev] at hi
  unfold ev
  split
  all_goals first
    | (rename_i he; cases he; done)
    | (rename_i he; cases he; exact absurd rfl (hns _ _ _ _))
    | exact (‹∀ (v_1 i_1 : Expr) (pos : Pos), Expr.Subscript v i p = Expr.Subscript v_1 i_1 pos → False› _ _ _ rfl).elim
    | (rename_i hn he; cases hn; cases he; simp only [hv, hi, Option.bind_eq_bind, Option.bind_some]; exact h)
    | (rename_i hn; cases hn; simp only [hv, hi, Option.bind_eq_bind, Option.bind_some]; exact h)
theorem e_cmp {l r : Expr} {op : CmpOp} {a b : PyData} {c : Bool} (hop : op ≠ .In) (hm : behindInMarks op r = false) (ha : ev F n sc l ρ = some a) (hb : ev F n sc r ρ = some b) (h : cmpD op a b = some c) : ev F (n + 1) sc (.Compare l [op] [r] p) ρ = some (.bool c) := by
  unfold ev
  split
  all_goals first
    | (rename_i he; cases he; done)
    | (rename_i he; cases he; exact absurd rfl hop)
    | exact (‹∀ (l_1 : Expr) (op_1 : CmpOp) (r_1 : Expr) (pos : Pos), Expr.Compare l [op] [r] p = Expr.Compare l_1 [op_1] [r_1] pos → False› _ _ _ _ rfl).elim
    | (rename_i hn he; cases hn; cases he; simp only [hm, ha, hb, h, Bool.false_eq_true, if_false, Option.bind_eq_bind, Option.bind_some])
    | (rename_i hn; cases hn; simp only [hm, ha, hb, h, Bool.false_eq_true, if_false, Option.bind_eq_bind, Option.bind_some])
theorem e_call {f : Str} {q : Pos} {args : List Expr} {xs : List PyData} {d : PyData} (hg : glob sc f = true) (hn : f ≠ sList ∧ f ≠ sTC ∧ f ≠ sLower ∧ f ≠ sIn ∧ f ≠ sGetB3) (ha : evs F n sc args ρ = some xs) (h : F f xs = some d) : ev F (n + 1) sc (.Call (.Name f q) args [] p) ρ = some d := by
  simp only [ev, hg, if_true, hn.1, if_false, hn.2.1, hn.2.2.1, hn.2.2.2.1, hn.2.2.2.2, or_self, ha, Option.bind_eq_bind, Option.bind_some]; exact h
theorem e_lrange {q q' p' : Pos} {e : Expr} {k : Int} (hg : glob sc sList = true) (hr : glob sc sRange = true) (he : evs F n sc [e] ρ = some [.int k]) (h1 : -1000000 ≤ k) (h2 : k ≤ 1000000) :
    ev F (n + 1) sc (.Call (.Name sList q) [.Call (.Name sRange q') [e] [] p'] [] p) ρ = some (.list (rangeD 0 k)) := by
  simp only [ev, hg, hr, if_true, List.head?_cons, rangeArgs, and_self, he, intsD, Option.map_some, Option.bind_eq_bind, Option.bind_some, h1, h2, List.length_singleton]
theorem e_join {x : Str} {k : Nat} {q ap : Pos} {e : Expr} {xs : List PyData} {ys : List Str} (hl : (ap.endLine == p.line) = true) (h : ev F n sc e ρ = some (.list xs)) (hs : strsD xs = some ys) (hj : JoinOk x ys = true) :
    ev F (n + 1) sc (.Call (.Attribute (.Constant (.str x) k q) sJoin ap) [e] [] p) ρ = some (.str (Txt.join x ys)) := by
  simp only [ev, hl, h, hs, asList, and_self, if_true, Option.bind_eq_bind, Option.bind_some, hj]
theorem e_compare {o : Str} {q ap : Pos} {args : List Expr} {k : PyData} {xs : List PyData} {d : PyData} (hl : (ap.endLine == p.line) = true) (ho : ρ o = some (.inst k)) (hn : args.length = 2) (ha : evs F n sc args ρ = some xs) (h : F sTC (k :: xs) = some d) :
    ev F (n + 1) sc (.Call (.Attribute (.Name o q) sCompare ap) args [] p) ρ = some d := by
  simp only [ev, hl, ho, hn, and_self, if_true, ha, Option.bind_eq_bind, Option.bind_some]; exact h
theorem e_lower {o : Str} {q ap : Pos} {a d : PyData} (hl : (ap.endLine == p.line) = true) (ho : ρ o = some (.dat a)) (h : F sLower [a] = some d) :
    ev F (n + 1) sc (.Call (.Attribute (.Name o q) sLower ap) [] [] p) ρ = some d := by
  simp only [ev, hl, ho, and_self, if_true]; exact h
theorem e_get {q ap : Pos} {args : List Expr} {xs : List PyData} {d : PyData} (hl : (ap.endLine == p.line) = true) (ho : ρ sB3 = none) (hg : glob sc sB3 = true) (hn : args.length = 1) (ha : evs F n sc args ρ = some xs) (h : F sGetB3 xs = some d) :
    ev F (n + 1) sc (.Call (.Attribute (.Name sB3 q) sGet ap) args [] p) ρ = some d := by
  simp only [ev, hl, ho, hg, hn, and_self, if_true, ha, Option.bind_eq_bind, Option.bind_some]; exact h
theorem e_comp {elt it : Expr} {x : Str} {px : Pos} {ifs : List Expr} {isc : Scope} {xs ds : List PyData} (hf : compFit sc isc x = true) (hi : its F n sc it ρ = some xs) (h : cmpL (compF F n isc elt x ifs ρ) xs = some ds) :
    ev F (n + 1) sc (.ListComp elt [⟨.Name x px, it, ifs, 0⟩] isc p) ρ = some (.list ds) := by
  simp only [ev, hf, if_true, hi, Option.bind_eq_bind, Option.bind_some]
  have : cmpL (fun v => (tsts F n isc ifs (put (cap isc ρ) x (.dat v))).bind fun b => if b = true then (ev F n isc elt (put (cap isc ρ) x (.dat v))).bind fun y => some (some y) else some none) xs = some ds := h
  rw [this]; rfl
theorem c_one {elt : Expr} {x : Str} {ifs : List Expr} {isc : Scope} {v y : PyData} (ht : tsts F n isc ifs (put (cap isc ρ) x (.dat v)) = some true) (he : ev F n isc elt (put (cap isc ρ) x (.dat v)) = some y) : compF F n isc elt x ifs ρ v = some (some y) := by
  simp only [compF, ht, he, Option.bind_eq_bind, Option.bind_some, if_true]
theorem c_no {elt : Expr} {x : Str} {ifs : List Expr} {isc : Scope} {v : PyData} (ht : tsts F n isc ifs (put (cap isc ρ) x (.dat v)) = some false) : compF F n isc elt x ifs ρ v = some none := by
  simp only [compF, ht, Option.bind_eq_bind, Option.bind_some, Bool.false_eq_true, if_false]
theorem es_nil : evs F (n + 1) sc [] ρ = some [] := by simp only [evs]
theorem es_cons {e : Expr} {r : List Expr} {x : PyData} {xs : List PyData} (h : ev F n sc e ρ = some x) (hr : evs F n sc r ρ = some xs) : evs F (n + 1) sc (e :: r) ρ = some (x :: xs) := by
  simp only [evs, h, hr, Option.bind_eq_bind, Option.bind_some]
theorem ep_none : evp F (n + 1) sc none ρ = some none := by simp only [evp]
theorem ep_some {e : Expr} {i : Int} (h : ev F n sc e ρ = some (.int i)) : evp F (n + 1) sc (some e) ρ = some (some i) := by simp only [evp, h, Option.bind_eq_bind, Option.bind_some, asInt]
theorem t_not {e : Expr} {b : Bool} (h : tst F n sc e ρ = some b) : tst F (n + 1) sc (.UnaryOp .Not e p) ρ = some (!b) := by simp only [tst, h, Option.bind_eq_bind, Option.bind_some]
theorem t_and {x y : Expr} {a b : Bool} (h : tst F n sc x ρ = some a) (hb : (if a = true then tst F n sc y ρ else some false) = some b) : tst F (n + 1) sc (.BoolOp .And [x, y] p) ρ = some b := by
  simp only [tst, h, Option.bind_eq_bind, Option.bind_some]; exact hb
theorem t_cmp {l r : Expr} {op : CmpOp} {a b : PyData} {c : Bool} (hm : behindInMarks op r = false) (ha : ev F n sc l ρ = some a) (hb : ev F n sc r ρ = some b) (h : cmpD op a b = some c) : tst F (n + 1) sc (.Compare l [op] [r] p) ρ = some c := by
  simp only [tst, hm, ha, hb, Bool.false_eq_true, if_false, Option.bind_eq_bind, Option.bind_some]; exact h
theorem t_call {f : Expr} {a : List Expr} {k : List Keyword} {b : Bool} (h : ev F n sc (.Call f a k p) ρ = some (.bool b)) : tst F (n + 1) sc (.Call f a k p) ρ = some b := by
  simp only [tst, h, Option.bind_eq_bind, Option.bind_some, asBool]
theorem ts_nil : tsts F (n + 1) sc [] ρ = some true := by simp only [tsts]
theorem ts_cons {e : Expr} {r : List Expr} {a b : Bool} (h : tst F n sc e ρ = some a) (hb : (if a = true then tsts F n sc r ρ else some false) = some b) : tsts F (n + 1) sc (e :: r) ρ = some b := by
  simp only [tsts, h, Option.bind_eq_bind, Option.bind_some]; exact hb
theorem i_range1 {e : Expr} {q : Pos} {k : Int} (hr : glob sc sRange = true) (h : evs F n sc [e] ρ = some [.int k]) (h1 : -1000000 ≤ k) (h2 : k ≤ 1000000) : its F (n + 1) sc (.Call (.Name sRange q) [e] [] p) ρ = some (rangeD 0 k) := by
  simp only [its, rangeArgs, hr, and_self, if_true, h, intsD, Option.map_some, Option.bind_eq_bind, Option.bind_some, h1, h2]
theorem i_range2 {e e' : Expr} {q : Pos} {l k : Int} (hr : glob sc sRange = true) (h : evs F n sc [e, e'] ρ = some [.int l, .int k]) (h3 : -1000000 ≤ l) (h4 : l ≤ 1000000) (h1 : -1000000 ≤ k) (h2 : k ≤ 1000000) : its F (n + 1) sc (.Call (.Name sRange q) [e, e'] [] p) ρ = some (rangeD l k) := by
  simp only [its, rangeArgs, hr, and_self, if_true, h, intsD, Option.map_some, Option.bind_eq_bind, Option.bind_some, h1, h2, h3, h4]
theorem i_val {e : Expr} {a : PyData} {xs : List PyData} (hr : rangeArgs sc e = none) (h : ev F n sc e ρ = some a) (hi : itemsD a = some xs) : its F (n + 1) sc e ρ = some xs := by
  simp only [its, hr, h, Option.bind_eq_bind, Option.bind_some]; exact hi
theorem l_nil : exL F (n + 1) sc [] ρ = some (.next, ρ) := by simp only [exL]
theorem l_ret {st : Stmt} {r : List Stmt} {d : PyData} {ρ' : Ro} (h : exS F n sc st ρ = some (.ret d, ρ')) : exL F (n + 1) sc (st :: r) ρ = some (.ret d, ρ') := by
  simp only [exL, h, Option.bind_eq_bind, Option.bind_some]
theorem l_next {st : Stmt} {r : List Stmt} {ρ' : Ro} {q : Fl × Ro} (h : exS F n sc st ρ = some (.next, ρ')) (hr : exL F n sc r ρ' = some q) : exL F (n + 1) sc (st :: r) ρ = some q := by
  simp only [exL, h, Option.bind_eq_bind, Option.bind_some]; exact hr
theorem s_assign {x : Str} {px : Pos} {e : Expr} {d : PyData} (hx : stFit sc x = true) (hm : makeArg sc e = none) (h : ev F n sc e ρ = some d) : exS F (n + 1) sc (.Assign [.Name x px] e p) ρ = some (.next, put ρ x (.dat d)) := by
  simp only [exS, hx, if_true, hm, h, Option.bind_eq_bind, Option.bind_some]
theorem s_make {x : Str} {px : Pos} {e : Expr} {es : List Expr} {ks : List PyData} (hx : stFit sc x = true) (hm : makeArg sc e = some es) (h : evs F n sc es ρ = some [.list ks]) : exS F (n + 1) sc (.Assign [.Name x px] e p) ρ = some (.next, put ρ x (.inst (.list ks))) := by
  simp only [exS, hx, if_true, hm, h, Option.bind_eq_bind, Option.bind_some]
theorem s_if {t : Expr} {b o : List Stmt} {c : Bool} {q : Fl × Ro} (ht : tst F n sc t ρ = some c) (h : (if c = true then exL F n sc b ρ else exL F n sc o ρ) = some q) : exS F (n + 1) sc (.If t b o p) ρ = some q := by
  simp only [exS, ht, Option.bind_eq_bind, Option.bind_some]; exact h
def forF (F : Fn) (n : Nat) (sc : Scope) (tg : Expr) (body : List Stmt) (v : PyData) (ρ : Ro) : Option (Fl × Ro) := (bindT sc ρ tg v).bind fun ρ' => exL F n sc body ρ'
theorem s_for {tg it : Expr} {body : List Stmt} {xs : List PyData} {q : Fl × Ro} (hi : its F n sc it ρ = some xs) (h : forL (forF F n sc tg body) xs ρ = some q) : exS F (n + 1) sc (.For tg it body [] p) ρ = some q := by
  simp only [exS, hi, Option.bind_eq_bind, Option.bind_some]; exact h
theorem s_while {t : Expr} {body : List Stmt} {q : Fl × Ro} (h : whL (tst F n sc t) (exL F n sc body) n ρ = some q) : exS F (n + 1) sc (.While t body [] p) ρ = some q := by
  simp only [exS]; exact h
theorem s_ret {e : Expr} {d : PyData} (h : ev F n sc e ρ = some d) : exS F (n + 1) sc (.Return (some e) p) ρ = some (.ret d, ρ) := by
  simp only [exS, h, Option.bind_eq_bind, Option.bind_some]
theorem f_nil {f : PyData → Ro → Option (Fl × Ro)} : forL f [] ρ = some (.next, ρ) := rfl
theorem f_next {f : PyData → Ro → Option (Fl × Ro)} {x : PyData} {xs : List PyData} {ρ' : Ro} {q : Fl × Ro} (h : f x ρ = some (.next, ρ')) (hr : forL f xs ρ' = some q) : forL f (x :: xs) ρ = some q := by
  simp only [forL, h, Option.bind_eq_bind, Option.bind_some]; exact hr
theorem f_ret {f : PyData → Ro → Option (Fl × Ro)} {x : PyData} {xs : List PyData} {ρ' : Ro} {d : PyData} (h : f x ρ = some (.ret d, ρ')) : forL f (x :: xs) ρ = some (.ret d, ρ') := by
  simp only [forL, h, Option.bind_eq_bind, Option.bind_some]
theorem w_stop {c : Ro → Option Bool} {f : Ro → Option (Fl × Ro)} {k : Nat} (h : c ρ = some false) : whL c f (k + 1) ρ = some (.next, ρ) := by
  simp only [whL, h, Option.bind_eq_bind, Option.bind_some, Bool.false_eq_true, if_false]
theorem w_go {c : Ro → Option Bool} {f : Ro → Option (Fl × Ro)} {k : Nat} {ρ' : Ro} {q : Fl × Ro} (h : c ρ = some true) (hf : f ρ = some (.next, ρ')) (hr : whL c f k ρ' = some q) : whL c f (k + 1) ρ = some q := by
  simp only [whL, h, hf, Option.bind_eq_bind, Option.bind_some, if_true]; exact hr
theorem run_of {F : Fn} {st : Stmt} {params : List Str} {args : List PyData} {d : PyData} {ρ' : Ro} (hl : params.length = args.length) (h : exL F 60 (scopeOf st) (bodyOf st) (bindAll params args fun _ => none) = some (.ret d, ρ')) : runF F st params args = some d := by
  unfold runF
  rw [if_pos hl, h]; rfl
end
end Mine
end SWX
section SWY
open PySem PySem.W PyProof.Rows PySem.Calls
set_option maxRecDepth 100000
namespace Mine
noncomputable section
theorem nm_ok (w : World) : NmOk (W1 w) := ⟨by kernel_rfl, by kernel_rfl⟩
theorem f0_tc (l : List PyData) : F0 sTC l = none := by kernel_rfl
theorem f0_low (l : List PyData) : F0 sLower l = match l with
    | [.str x] => if x.length ≤ 1000 then some (.str (Txt.lower x)) else none
    | _ => none := by kernel_rfl
theorem f0_in (l : List PyData) : F0 sIn l = match l with
    | [.int i] => some (.bool (b1L.contains i))
    | _ => none := by kernel_rfl
theorem f0_get (l : List PyData) : F0 sGetB3 l = match l with
    | [.int i] => some (b3D i)
    | _ => none := by kernel_rfl
theorem f0_blt {f : Str} {l : List PyData} (h1 : f ≠ sLower) (h2 : f ≠ sIn) (h3 : f ≠ sGetB3) : F0 f l = bltD f l := by
  unfold F0; rw [if_neg h2, if_neg h3, if_neg h1]
theorem blt_fn (w : World) {k : Nat} {f : Str} {args : List PyData} {d : PyData} (h : bltD f args = some d) : ∃ fv, (W1 w).nm f = some fv ∧ Cal (W1 w) fv ∧ CallOk (W1 w) k fv args d := by
  unfold bltD at h
  split at h
  · rename_i e; subst e
    have hn : (W1 w).nm (Str.ofString "len") = some (.builtin "len") := by kernel_rfl
    split at h
    · rename_i xs
      exact ⟨_, hn, .inl ⟨_, rfl⟩, len_ok (by unfold bltD; rw [if_pos rfl]; exact h)⟩
    · rename_i xs
      exact ⟨_, hn, .inl ⟨_, rfl⟩, len_ok (by unfold bltD; rw [if_pos rfl]; exact h)⟩
    · cases h
  split at h
  · rename_i e; subst e
    have hn : (W1 w).nm (Str.ofString "ord") = some (.builtin "ord") := by kernel_rfl
    split at h
    · split at h
      · rename_i h1; cases h; exact ⟨_, hn, .inl ⟨_, rfl⟩, ord_ok h1⟩
      · cases h
    · cases h
  split at h
  · rename_i e; subst e
    have hn : (W1 w).nm (Str.ofString "chr") = some (.builtin "chr") := by kernel_rfl
    split at h
    · split at h
      · rename_i h1; cases h; exact ⟨_, hn, .inl ⟨_, rfl⟩, chr_ok h1.1 h1.2⟩
      · cases h
    · cases h
  split at h
  · rename_i e; subst e
    have hn : (W1 w).nm (Str.ofString "sum") = some (.builtin "sum") := by kernel_rfl
    split at h
    · obtain ⟨is, h1, rfl⟩ := Option.map_eq_some_iff.mp h
      exact ⟨_, hn, .inl ⟨_, rfl⟩, sum_ok h1⟩
    · cases h
  split at h
  · rename_i e; subst e
    have hn : (W1 w).nm (Str.ofString "min") = some (.builtin "min") := by kernel_rfl
    split at h
    · obtain ⟨is, h1, h⟩ := Option.bind_eq_some_iff.mp h
      split at h
      · cases h
      · rename_i hne; cases h
        exact ⟨_, hn, .inl ⟨_, rfl⟩, min_ok h1 hne⟩
    · cases h
  split at h
  · rename_i e; subst e
    have hn : (W1 w).nm (Str.ofString "sorted") = some (.builtin "sorted") := by kernel_rfl
    split at h
    · obtain ⟨is, h1, h⟩ := Option.bind_eq_some_iff.mp h
      split at h
      · rename_i h64; cases h
        exact ⟨_, hn, .inl ⟨_, rfl⟩, sorted_ok h1 h64⟩
      · cases h
    · cases h
  split at h
  · rename_i e; subst e
    have hn : (W1 w).nm (Str.ofString "tuple") = some (.type "tuple") := by kernel_rfl
    split at h
    · split at h
      · rename_i hz; cases h; exact ⟨_, hn, .inr (.inl ⟨_, rfl⟩), tuple_ok hz⟩
      · cases h
    · cases h
  · cases h
theorem blt_nil (f : Str) : bltD f [] = none := by
  unfold bltD
  repeat (split; rfl)
  rfl
theorem fnok0 (w : World) (k : Nat) : FnOk (W1 w) (k + 2) F0 where
  ne := fun f => by
    unfold F0
    split; rfl
    split; rfl
    split; rfl
    exact blt_nil f
  fn := fun f args d h _ h1 h2 h3 => by
    rw [f0_blt h1 h2 h3] at h
    exact blt_fn w h
  cmp := fun ks args d h => by rw [f0_tc] at h; cases h
  low := fun a d h => by
    rw [f0_low] at h
    split at h
    · rename_i x e
      cases e
      split at h
      · rename_i hx; cases h
        exact ⟨_, rfl, fun A s X t E _ => low_ok hx A s X t E⟩
      · cases h
    · cases h
  inset := fun a d h => by
    rw [f0_in] at h
    split at h
    · rename_i i e
      cases e; cases h
      exact ⟨.ref 50, by kernel_rfl, fun A s X av E _ y r => inset_ok w i A s X av E y r⟩
    · cases h
  get := fun xs d h => by
    rw [f0_get] at h
    split at h
    · rename_i i
      cases h
      exact ⟨61, b3Main, by kernel_rfl, fun h y => y 61 _ rfl, rfl, rfl, fun A s X vs E _ y r => get_ok w i A s X vs E y r⟩
    · cases h
  make := fun ks A s X v E hA y hl r => make_ok w ks A s X v E hA y hl r
def addF (F : Fn) (name : Str) (st : Stmt) (params : List Str) : Fn := fun f args => if f = name then runF F st params args else F f args
theorem FnOk.mono {prog : Program} {w : World} {W : Wd prog w} {k j : Nat} {F : Fn} (h : FnOk W k F) (hk : k ≤ j) : FnOk W j F where
  ne := h.ne
  fn := fun f args d e a b c d' => by
    obtain ⟨fv, h1, h2, h3⟩ := h.fn f args d e a b c d'
    exact ⟨fv, h1, h2, fun A s X vs E hA => h3 A s X vs E (hA.mono hk)⟩
  cmp := fun ks args d e A s X ov vs E hA => h.cmp ks args d e A s X ov vs E (hA.mono hk)
  low := fun a d e => by
    obtain ⟨x, h1, h2⟩ := h.low a d e
    exact ⟨x, h1, fun A s X t E hA => h2 A s X t E (hA.mono hk)⟩
  inset := fun a d e => by
    obtain ⟨v, h1, h2⟩ := h.inset a d e
    exact ⟨v, h1, fun A s X av E hA => h2 A s X av E (hA.mono hk)⟩
  get := fun xs d e => by
    obtain ⟨r, o, h1, h2, h3, h4, h5⟩ := h.get xs d e
    exact ⟨r, o, h1, h2, h3, h4, fun A s X vs E hA => h5 A s X vs E (hA.mono hk)⟩
  make := fun ks A s X v E hA => h.make ks A s X v E (hA.mono hk)
end
end Mine
end SWY
section SWZ
open PySem PySem.W PyProof.Rows PySem.Calls
set_option maxRecDepth 100000
namespace Mine
noncomputable section
def notSp (name : Str) : Prop := name ≠ sTC ∧ name ≠ sLower ∧ name ≠ sIn ∧ name ≠ sGetB3
def withF (F G : Fn) (name : Str) (st : Stmt) (params : List Str) : Fn := fun f args => if f = name then runF F st params args else G f args
theorem withF_same {F G : Fn} {name : Str} {st : Stmt} {params : List Str} {args : List PyData} : withF F G name st params name args = runF F st params args := if_pos rfl
theorem withF_other {F G : Fn} {name f : Str} {st : Stmt} {params : List Str} {args : List PyData} (h : f ≠ name) : withF F G name st params f args = G f args := if_neg h
theorem fnok_add {w : World} {k : Nat} {F G : Fn} (hF : FnOk (W1 w) k F) (hG : FnOk (W1 w) (k + 2) G) {name : Str} {a : Addr} {st : Stmt} {q : Str} {pm cd : Value} {params : List Str} (fa : FnAt (W1 w) a (fdOf st q pm cd) (bodyOf st) params)
    (hsc : (fdOf st q pm cd).scope = scopeOf st) (hn : (W1 w).nm name = some (.ref a)) (hp : params ≠ []) (hsp : notSp name) : FnOk (W1 w) (k + 2) (withF F G name st params) where
  ne := fun f => by
    unfold withF
    split
    · unfold runF
      rw [if_neg]
      intro h
      exact hp (List.length_eq_zero_iff.mp h)
    · exact hG.ne f
  fn := fun f args d h h1 h2 h3 h4 => by
    unfold withF at h
    split at h
    · rename_i e
      subst e
      obtain ⟨o, hd, ho⟩ := fa.at_
      exact ⟨.ref a, hn, .inr (.inr ⟨a, o, _, rfl, ho, hd⟩), runF_ok hF (nm_ok w) fa hsc h⟩
    · exact hG.fn f args d h h1 h2 h3 h4
  cmp := fun ks args d h => by rw [withF_other (Ne.symm hsp.1)] at h; exact hG.cmp ks args d h
  low := fun a d h => by rw [withF_other (Ne.symm hsp.2.1)] at h; exact hG.low a d h
  inset := fun a d h => by rw [withF_other (Ne.symm hsp.2.2.1)] at h; exact hG.inset a d h
  get := fun xs d h => by rw [withF_other (Ne.symm hsp.2.2.2)] at h; exact hG.get xs d h
  make := hG.make
abbrev sLeft : Str := Str.ofString "left"
abbrev sRight : Str := Str.ofString "right"
def roCmp (ks l r : PyData) : Ro := bindAll [sLeft, sRight] [l, r] (put (fun _ => none) sSelf (.inst ks))
def runCmp (F : Fn) (args : List PyData) : Option PyData := match args with
  | [ks, l, r] => (exL F 60 (scopeOf st_tc_compare) (bodyOf st_tc_compare) (roCmp ks l r)).bind retOf
  | _ => none
def withCmp (F G : Fn) : Fn := fun f args => if f = sTC then runCmp F args else G f args
theorem withCmp_other {F G : Fn} {f : Str} {args : List PyData} (h : f ≠ sTC) : withCmp F G f args = G f args := if_neg h
theorem fnok_cmp {w : World} {k : Nat} {F G : Fn} (hF : FnOk (W1 w) k F) (hG : FnOk (W1 w) (k + 2) G) : FnOk (W1 w) (k + 2) (withCmp F G) where
  ne := fun f => by
    unfold withCmp
    split
    · rfl
    · exact hG.ne f
  fn := fun f args d h h1 h2 h3 h4 => by rw [withCmp_other h1] at h; exact hG.fn f args d h h1 h2 h3 h4
  cmp := fun ks args d h A s X ov vs E hA hGs hl hi r => by
    unfold withCmp at h
    rw [if_pos rfl] at h
    unfold runCmp at h
    split at h
    · rename_i ks' l r' e
      cases e
      obtain ⟨⟨fl, ρ'⟩, he, hr⟩ := Option.bind_eq_some_iff.mp h
      cases fl with
      | next => cases hr
      | ret d' =>
        cases hr
        have hlen : (ov :: vs).length = 3 := by rw [List.length_cons, r.length]; rfl
        refine fn_run (st_all (nm_ok w) hF 60) (at_tc_compare w) hlen (fun h ko hp hk Y hY => ?_) (ρ := roCmp ks l r') (ρ' := ρ') he hA hGs hl
        have hp1 := hp sSelf List.mem_cons_self
        have b0 : BindOk (W1 w) Y h ko (put (fun _ => none) sSelf (.inst ks)) (if ko sSelf = some .local then fun y => if y = sSelf then some ov else none else fun _ => none) (if ko sSelf = some .local then fun _ => none else fun y => if y = sSelf then some ov else none) := by
          intro y rv hy
          unfold put at hy
          split at hy
          · rename_i e
            subst e
            cases hy
            refine ⟨hp1.2, ov, ?_, ?_⟩
            · rcases hp1.1 with hx | hx
              · exact .inl ⟨hx, by rw [if_pos hx]; simp⟩
              · exact .inr ⟨hx, by rw [if_neg (by rw [hx]; decide)]; simp⟩
            · exact (W1 w).instKeep (fun b o hb e => ⟨hk b o e, hY b o hb e⟩) hi
          · cases hy
        exact bindOk_all (params := [sLeft, sRight]) b0 (r.keep fun b o hb e => ⟨hk b o e, hY b o hb e⟩) rfl fun x hx => hp x (List.mem_cons_of_mem _ hx)
    · cases h
  low := fun a d h => by rw [withCmp_other (by decide +kernel)] at h; exact hG.low a d h
  inset := fun a d h => by rw [withCmp_other (by decide +kernel)] at h; exact hG.inset a d h
  get := fun xs d h => by rw [withCmp_other (by decide +kernel)] at h; exact hG.get xs d h
  make := hG.make
abbrev nWord : Str := Str.ofString "_law_word"
abbrev nSign : Str := Str.ofString "_law_sign"
abbrev nUnseen : Str := Str.ofString "_law_unseen"
abbrev nB1 : Str := Str.ofString "in_table_b1"
abbrev nB3 : Str := Str.ofString "map_table_b3"
abbrev nPiece : Str := Str.ofString "_law_piece"
abbrev nPrep : Str := Str.ofString "_law_prepared"
abbrev nSorted : Str := Str.ofString "_law_sorted"
abbrev pWord : List Str := [Str.ofString "x"]
abbrev pSign : List Str := [Str.ofString "letter", Str.ofString "form"]
abbrev pUnseen : List Str := [Str.ofString "k"]
abbrev pCode : List Str := [Str.ofString "code"]
abbrev pPiece : List Str := [Str.ofString "which", Str.ofString "x"]
abbrev pPrep : List Str := [Str.ofString "piece"]
abbrev pSorted : List Str := [Str.ofString "places", Str.ofString "rows", Str.ofString "keys"]
def F1 : Fn := withCmp F0 (withF F0 (withF F0 (withF F0 (withF F0 (withF F0 F0 nB3 st_map_table_b3 pCode) nB1 st_in_table_b1 pCode) nUnseen st_unseen pUnseen) nSign st_sign pSign) nWord st_word pWord)
def F2 : Fn := withF F1 (withF F1 (withF F1 F1 nPiece st_piece pPiece) nPrep st_prepared pPrep) nSorted st_sorted pSorted
theorem nsp (x : Str) (h : (decide (x ≠ sTC) && decide (x ≠ sLower) && decide (x ≠ sIn) && decide (x ≠ sGetB3)) = true) : notSp x := by
  simp only [Bool.and_eq_true, decide_eq_true_eq] at h
  exact ⟨h.1.1.1, h.1.1.2, h.1.2, h.2⟩
theorem fnok1 (w : World) : FnOk (W1 w) 4 F1 :=
  fnok_cmp (fnok0 w 0) (fnok_add (fnok0 w 0) (fnok_add (fnok0 w 0) (fnok_add (fnok0 w 0) (fnok_add (fnok0 w 0) (fnok_add (fnok0 w 0) (fnok0 w 2)
    (at_map_table_b3 w) rfl (by kernel_rfl) (by simp) (nsp _ (by decide +kernel)))
    (at_in_table_b1 w) rfl (by kernel_rfl) (by simp) (nsp _ (by decide +kernel)))
    (at_unseen w) rfl (by kernel_rfl) (by simp) (nsp _ (by decide +kernel)))
    (at_sign w) rfl (by kernel_rfl) (by simp) (nsp _ (by decide +kernel)))
    (at_word w) rfl (by kernel_rfl) (by simp) (nsp _ (by decide +kernel)))
theorem fnok2 (w : World) : FnOk (W1 w) 6 F2 :=
  fnok_add (fnok1 w) (fnok_add (fnok1 w) (fnok_add (fnok1 w) ((fnok1 w).mono (by decide))
    (at_piece w) rfl (by kernel_rfl) (by simp) (nsp _ (by decide +kernel)))
    (at_prepared w) rfl (by kernel_rfl) (by simp) (nsp _ (by decide +kernel)))
    (at_sorted w) rfl (by kernel_rfl) (by simp) (nsp _ (by decide +kernel))
theorem law_call (w : World) {xs : List PyData} {d : PyData} (h : runF F2 st_law [Str.ofString "script"] [.list xs] = some d) : CallOk (W1 w) 8 (.ref 149) [.list xs] d :=
  runF_ok (fnok2 w) (nm_ok w) (at_law w) rfl h
end
end Mine
end SWZ
section SYA
open PySem PySem.W PyProof.Rows PySem.Calls
set_option maxRecDepth 100000
namespace Mine
noncomputable section
def wordL : List Str := [Str.ofString "", Str.ofString "f", Str.ofString "ff", Str.ofString "fi", Str.ofString "ffi", Str.ofString "s", Str.ofString "st", Str.ofString "ss"]
def wd (x : Int) : Str := wordL.getD (x.fmod 8).toNat (Str.ofString "")
theorem mod8 (x : Int) : 0 ≤ x.fmod 8 ∧ x.fmod 8 < 8 := ⟨Int.fmod_nonneg_of_pos x (by decide), Int.fmod_lt_of_pos x (by decide)⟩
theorem word_idx (x : Int) : idxD (.list (wordL.map .str)) (.int (x.fmod 8)) = some (.str (wd x)) := by
  obtain ⟨h0, h1⟩ := mod8 x
  unfold wd
  generalize x.fmod 8 = y at h0 h1
  have : y = 0 ∨ y = 1 ∨ y = 2 ∨ y = 3 ∨ y = 4 ∨ y = 5 ∨ y = 6 ∨ y = 7 := by omega
  rcases this with rfl | rfl | rfl | rfl | rfl | rfl | rfl | rfl <;> kernel_rfl
theorem run_word (x : Int) : runF F0 st_word pWord [.int x] = some (.str (wd x)) :=
  run_of rfl (l_ret (s_ret (e_sub (e_list (es_cons (e_const rfl) (es_cons (e_const rfl) (es_cons (e_const rfl) (es_cons (e_const rfl) (es_cons (e_const rfl) (es_cons (e_const rfl) (es_cons (e_const rfl) (es_cons (e_const rfl) es_nil)))))))) (by decide))
    (e_bin (e_name rfl) (e_const rfl) rfl) (word_idx x))))
end
end Mine
end SYA
section SYB
open PySem PySem.W PyProof.Rows PySem.Calls
set_option maxRecDepth 100000
namespace Mine
noncomputable section
def alphaL : List Nat := [0, 1, 2, 4, 7, 8, 9, 10, 11, 12]
def signC (c : Nat) (form : Nat) : Nat := if form < 2 then c - 32 * form else 119808 + 52 * alphaL.getD (form - 2) 0 + c - 97
def chS (c : Nat) : Str := ⟨#[c]⟩
def strIs (o : Option PyData) (x : Str) : Bool := match o with
  | some (.str y) => decide (y = x)
  | _ => false
theorem strIs_eq {o : Option PyData} {x : Str} (h : strIs o x = true) : o = some (.str x) := by
  unfold strIs at h
  split at h
  · rw [of_decide_eq_true h]
  · cases h
def letters : List Nat := [102, 105, 115, 116]
theorem sign_all : (letters.all fun c => (List.range 12).all fun f => strIs (runF F0 st_sign pSign [.str (chS c), .int f]) (chS (signC c f))) = true := by kernel_rfl
theorem unseen_all : ((List.range 27).all fun k => (match runF F0 st_unseen pUnseen [.int k] with | some (.str x) => decide (x.length = 1) && b1L.contains (x.cps.getD 0 0 : Nat) | _ => false)) = true := by kernel_rfl
end
end Mine
end SYB
section SYC
open PySem PySem.W PyProof.Rows PySem.Calls
set_option maxRecDepth 100000
namespace Mine
noncomputable section
section
variable {F : Fn} {n : Nat} {sc : Scope} {ρ : Ro} {p : Pos}
theorem s_ift {t : Expr} {b o : List Stmt} {q : Fl × Ro} (ht : tst F n sc t ρ = some true) (h : exL F n sc b ρ = some q) : exS F (n + 1) sc (.If t b o p) ρ = some q := s_if ht (by rw [if_pos rfl]; exact h)
theorem s_iff {t : Expr} {b o : List Stmt} {q : Fl × Ro} (ht : tst F n sc t ρ = some false) (h : exL F n sc o ρ = some q) : exS F (n + 1) sc (.If t b o p) ρ = some q := s_if ht (by rw [if_neg Bool.false_ne_true]; exact h)
theorem e_ift {t b o : Expr} {d : PyData} (ht : tst F n sc t ρ = some true) (h : ev F n sc b ρ = some d) : ev F (n + 1) sc (.IfExp t b o p) ρ = some d := e_if ht (by rw [if_pos rfl]; exact h)
theorem e_iff {t b o : Expr} {d : PyData} (ht : tst F n sc t ρ = some false) (h : ev F n sc o ρ = some d) : ev F (n + 1) sc (.IfExp t b o p) ρ = some d := e_if ht (by rw [if_neg Bool.false_ne_true]; exact h)
theorem t_andt {x y : Expr} {b : Bool} (h : tst F n sc x ρ = some true) (hb : tst F n sc y ρ = some b) : tst F (n + 1) sc (.BoolOp .And [x, y] p) ρ = some b := t_and h (by rw [if_pos rfl]; exact hb)
theorem t_andf {x y : Expr} (h : tst F n sc x ρ = some false) : tst F (n + 1) sc (.BoolOp .And [x, y] p) ρ = some false := t_and h (by rw [if_neg Bool.false_ne_true])
theorem ts_t {e : Expr} {r : List Expr} {b : Bool} (h : tst F n sc e ρ = some true) (hb : tsts F n sc r ρ = some b) : tsts F (n + 1) sc (e :: r) ρ = some b := ts_cons h (by rw [if_pos rfl]; exact hb)
theorem ts_f {e : Expr} {r : List Expr} (h : tst F n sc e ρ = some false) : tsts F (n + 1) sc (e :: r) ρ = some false := ts_cons h (by rw [if_neg Bool.false_ne_true])
end
theorem f0_ord (c : Nat) : F0 (Str.ofString "ord") [.str (chS c)] = some (.int c) := by kernel_rfl
theorem ord_names : Str.ofString "ord" ≠ sList ∧ Str.ofString "ord" ≠ sTC ∧ Str.ofString "ord" ≠ sLower ∧ Str.ofString "ord" ≠ sIn ∧ Str.ofString "ord" ≠ sGetB3 := by decide +kernel
theorem run_b1 (c : Nat) : runF F0 st_in_table_b1 pCode [.str (chS c)] = some (.bool (b1L.contains (c : Int))) :=
  run_of rfl (l_ret (s_ret (e_in rfl (e_call rfl ord_names (es_cons (e_name rfl) es_nil) (f0_ord c)) (f0_in _))))
def mapB3 (c : Nat) : Str := match b3Get c with
  | some x => x
  | none => Txt.lower (chS c)
theorem run_b3 (c : Nat) : runF F0 st_map_table_b3 pCode [.str (chS c)] = some (.str (mapB3 c)) := by
  cases h : b3Get c with
  | some x =>
    have e : b3D c = .str x := by unfold b3D; rw [h]
    have e' : mapB3 c = x := by unfold mapB3; rw [h]
    rw [e']
    have g : F0 sGetB3 [.int c] = some (.str x) := by rw [← e]; exact f0_get _
    exact run_of rfl (l_next (s_assign rfl rfl (e_get rfl rfl rfl rfl (es_cons (e_call rfl ord_names (es_cons (e_name rfl) es_nil) (f0_ord c)) es_nil) g))
      (l_ret (s_ift (t_cmp rfl (e_name rfl) (e_const rfl) rfl) (l_ret (s_ret (e_name rfl))))))
  | none =>
    have e : b3D c = .none := by unfold b3D; rw [h]
    have e' : mapB3 c = Txt.lower (chS c) := by unfold mapB3; rw [h]
    rw [e']
    have g : F0 sGetB3 [.int c] = some .none := by rw [← e]; exact f0_get _
    have g2 : F0 sLower [.str (chS c)] = some (.str (Txt.lower (chS c))) := f0_low _
    exact run_of rfl (l_next (s_assign rfl rfl (e_get rfl rfl rfl rfl (es_cons (e_call rfl ord_names (es_cons (e_name rfl) es_nil) (f0_ord c)) es_nil) g))
      (l_next (s_iff (t_cmp rfl (e_name rfl) (e_const rfl) rfl) l_nil) (l_ret (s_ret (e_lower rfl rfl g2)))))
end
end Mine
end SYC
section SYD
open PySem PySem.W PyProof.Rows PySem.Calls
set_option maxRecDepth 100000
namespace Mine
noncomputable section
theorem f1_b1 (l : List PyData) : F1 nB1 l = runF F0 st_in_table_b1 pCode l := by
  unfold F1
  rw [withCmp_other (by decide +kernel), withF_other (by decide +kernel), withF_other (by decide +kernel), withF_other (by decide +kernel), withF_same]
theorem f1_b3 (l : List PyData) : F1 nB3 l = runF F0 st_map_table_b3 pCode l := by
  unfold F1
  rw [withCmp_other (by decide +kernel), withF_other (by decide +kernel), withF_other (by decide +kernel), withF_other (by decide +kernel), withF_other (by decide +kernel), withF_same]
theorem f1_word (l : List PyData) : F1 nWord l = runF F0 st_word pWord l := by
  unfold F1
  rw [withCmp_other (by decide +kernel), withF_same]
theorem f1_sign (l : List PyData) : F1 nSign l = runF F0 st_sign pSign l := by
  unfold F1
  rw [withCmp_other (by decide +kernel), withF_other (by decide +kernel), withF_same]
theorem f1_unseen (l : List PyData) : F1 nUnseen l = runF F0 st_unseen pUnseen l := by
  unfold F1
  rw [withCmp_other (by decide +kernel), withF_other (by decide +kernel), withF_other (by decide +kernel), withF_same]
theorem f1_blt {f : Str} {l : List PyData} (h : (decide (f ≠ sTC) && decide (f ≠ nWord) && decide (f ≠ nSign) && decide (f ≠ nUnseen) && decide (f ≠ nB1) && decide (f ≠ nB3) && decide (f ≠ sLower) && decide (f ≠ sIn) && decide (f ≠ sGetB3)) = true) : F1 f l = bltD f l := by
  simp only [Bool.and_eq_true, decide_eq_true_eq] at h
  obtain ⟨⟨⟨⟨⟨⟨⟨⟨h1, h2⟩, h3⟩, h4⟩, h5⟩, h6⟩, h7⟩, h8⟩, h9⟩ := h
  unfold F1
  rw [withCmp_other h1, withF_other h2, withF_other h3, withF_other h4, withF_other h5, withF_other h6, f0_blt h7 h8 h9]
end
end Mine
end SYD
section SYE
open PySem PySem.W PyProof.Rows PySem.Calls
set_option maxRecDepth 100000
namespace Mine
noncomputable section
def b1 (c : Nat) : Bool := b1L.contains (c : Int)
def prepL (cs : List Nat) : List Str := (cs.filter fun c => !b1 c).map mapB3
theorem cmpL_prep {f : PyData → Option (Option PyData)} (hf : ∀ c, f (.str (chS c)) = some (if b1 c = true then none else some (.str (mapB3 c)))) : ∀ cs : List Nat, cmpL f (cs.map fun c => .str (chS c)) = some ((prepL cs).map .str)
  | [] => rfl
  | c :: cs => by
    simp only [List.map_cons, cmpL, hf, cmpL_prep hf cs, Option.bind_eq_bind, Option.bind_some]
    unfold prepL
    cases h : b1 c <;> simp [h]
theorem strsD_map : ∀ l : List Str, strsD (l.map .str) = some l
  | [] => rfl
  | x :: r => by simp only [List.map_cons, strsD, strsD_map r, Option.map_some]
theorem g_b1 : nB1 ≠ sList ∧ nB1 ≠ sTC ∧ nB1 ≠ sLower ∧ nB1 ≠ sIn ∧ nB1 ≠ sGetB3 := by decide +kernel
theorem g_b3 : nB3 ≠ sList ∧ nB3 ≠ sTC ∧ nB3 ≠ sLower ∧ nB3 ≠ sIn ∧ nB3 ≠ sGetB3 := by decide +kernel
theorem run_prep (s : Str) (hs : s.length ≤ 1000000) (hj : JoinOk (Str.ofString "") (prepL s.cps.toList) = true) : runF F1 st_prepared pPrep [.str s] = some (.str (Txt.join (Str.ofString "") (prepL s.cps.toList))) := by
  have hi : itemsD (.str s) = some (s.cps.toList.map fun c => .str (chS c)) := (if_pos hs : (if s.length ≤ 1000000 then some (s.cps.toList.map fun c => PyData.str (chS c)) else none) = _)
  refine run_of rfl (l_ret (s_ret (e_join rfl (e_comp rfl (i_val rfl (e_name rfl) hi) (cmpL_prep (fun c => ?_) s.cps.toList)) (strsD_map _) hj)))
  cases h : b1 c
  · rw [if_neg Bool.false_ne_true]
    refine c_one (ts_t (t_not (t_call (e_call rfl g_b1 (es_cons (e_name rfl) es_nil) ((f1_b1 _).trans ((run_b1 c).trans (by rw [show b1L.contains (c : Int) = false from h])))))) ts_nil) (e_call rfl g_b3 (es_cons (e_name rfl) es_nil) ((f1_b3 _).trans (run_b3 c)))
  · rw [if_pos rfl]
    exact c_no (ts_f (t_not (t_call (e_call rfl g_b1 (es_cons (e_name rfl) es_nil) ((f1_b1 _).trans ((run_b1 c).trans (by rw [show b1L.contains (c : Int) = true from h])))))))
end
end Mine
end SYE
section SYF
open PySem PySem.W PyProof.Rows PySem.Calls
set_option maxRecDepth 100000
namespace Mine
noncomputable section
theorem mod_nat (x : Int) (m : Nat) (hm : 0 < m) : ∃ f : Nat, f < m ∧ x.fmod m = f := by
  have h0 := Int.fmod_nonneg_of_pos x (show (0 : Int) < m by omega)
  have h1 := Int.fmod_lt_of_pos x (show (0 : Int) < m by omega)
  exact ⟨(x.fmod m).toNat, by omega, by omega⟩
theorem run_sign {c f : Nat} (hc : c ∈ letters) (hf : f < 12) : runF F0 st_sign pSign [.str (chS c), .int f] = some (.str (chS (signC c f))) :=
  strIs_eq (List.all_eq_true.mp (List.all_eq_true.mp sign_all c hc) f (List.mem_range.mpr hf))
def form (x : Int) (k : Nat) : Int := ((x.fdiv 16).fdiv (12 ^ k)).fmod 12
theorem run_unseen {k : Nat} (hk : k < 27) : ∃ c : Nat, b1 c = true ∧ runF F0 st_unseen pUnseen [.int k] = some (.str (chS c)) := by
  have h := List.all_eq_true.mp unseen_all k (List.mem_range.mpr hk)
  split at h
  · rename_i x hx
    simp only [Bool.and_eq_true, decide_eq_true_eq] at h
    refine ⟨x.cps.getD 0 0, h.2, ?_⟩
    rw [hx, one_sign h.1]
    simp [chS]
  · cases h
end
end Mine
end SYF
section SYG
open PySem PySem.W PyProof.Rows PySem.Calls
set_option maxRecDepth 100000
namespace Mine
noncomputable section
theorem cmpL_map {α : Type} {f : PyData → Option (Option PyData)} {g : α → PyData} {h : α → Option PyData} : ∀ {l : List α}, (∀ a ∈ l, f (g a) = some (h a)) → cmpL f (l.map g) = some (l.filterMap h)
  | [], _ => rfl
  | a :: l, H => by
    simp only [List.map_cons, cmpL, H a List.mem_cons_self, cmpL_map (l := l) (fun b hb => H b (List.mem_cons_of_mem _ hb)), Option.bind_eq_bind, Option.bind_some, List.filterMap_cons]
    cases h a <;> rfl
theorem cmpL_all {α β : Type} {f : PyData → Option (Option PyData)} {g : α → PyData} {h : α → β} {k : β → PyData} {l : List α} (H : ∀ a ∈ l, f (g a) = some (some (k (h a)))) : cmpL f (l.map g) = some ((l.map h).map k) := by
  have := cmpL_map (f := f) (g := g) (h := fun a => some (k (h a))) H
  rw [this]
  simp [Function.comp_def]
theorem rangeD0 (n : Nat) : rangeD 0 n = (List.range n).map fun i => .int (i : Nat) := by
  unfold rangeD
  have : ((n : Int) - 0).toNat = n := by omega
  rw [this]
  simp
theorem eq_int (a b : Int) : cmpD .Eq (.int a) (.int b) = some (a == b) := rfl
theorem join_cps : ∀ l : List Str, (Txt.join (Str.ofString "") l).cps.toList = l.flatMap (·.cps.toList) := by
  intro l
  show (Builtin.Str.glued (Str.ofString "") l).cps.toList = _
  rw [StrLaws.glued_eq_join]
  have e0 : Str.ofString "" = ⟨#[]⟩ := by kernel_rfl
  rw [e0]
  induction l with
  | nil => rfl
  | cons x r ih =>
    cases r with
    | nil => simp [Str.join]
    | cons y r =>
      have : Str.join ⟨#[]⟩ (x :: y :: r) = x ++ ⟨#[]⟩ ++ Str.join ⟨#[]⟩ (y :: r) := rfl
      rw [this]
      have e1 : ∀ a b : Str, (a ++ b).cps = a.cps ++ b.cps := fun _ _ => rfl
      rw [e1, e1, Array.toList_append, Array.toList_append, ih]
      simp
theorem str_ext {a b : Str} (h : a.cps.toList = b.cps.toList) : a = b := by
  cases a; cases b; simp only [Str.mk.injEq] at *; exact Array.toList_inj.mp h
theorem joinOk_small {l : List Str} (h : (l.map (·.length)).sum ≤ 1000000) : JoinOk (Str.ofString "") l = true := by
  unfold JoinOk
  rw [StrLaws.joinTotal]
  have e : (Str.ofString "").length = 0 := by kernel_rfl
  rw [e, Nat.mul_zero, Nat.add_zero]
  unfold Builtin.Str.tooLong
  rw [sizeLine_big]
  simp
  omega
theorem sign_facts : (letters.all fun c => (List.range 12).all fun f => !b1 (signC c f) && decide (mapB3 (signC c f) = chS c) && decide (signC c f < 0x110000)) = true := by kernel_rfl
theorem word_facts : (wordL.all fun w => w.cps.toList.all (fun c => letters.contains c) && decide (w.length ≤ 3)) = true := by kernel_rfl
def ligL : List Nat := [0xfeff, 0x2131, 0xfb00, 0xfb01, 0xfb03, 0x17f, 0xfb05, 0xdf]
theorem lig_facts : ((List.range 8).all fun i => decide ((prepL [ligL.getD i 0]).flatMap (·.cps.toList) = (wordL.getD i (Str.ofString "")).cps.toList) && decide (ligL.getD i 0 < 0x110000)) = true := by kernel_rfl
theorem wd_mem (x : Int) : wd x ∈ wordL := by
  obtain ⟨h0, h1⟩ := mod8 x
  unfold wd
  rw [List.getD_eq_getElem?_getD, List.getElem?_eq_getElem (show (x.fmod 8).toNat < wordL.length by show _ < 8; omega)]
  exact List.getElem_mem _
theorem wd_letters (x : Int) : (∀ c ∈ (wd x).cps.toList, c ∈ letters) ∧ (wd x).length ≤ 3 := by
  have h := List.all_eq_true.mp word_facts _ (wd_mem x)
  rw [Bool.and_eq_true, List.all_eq_true, decide_eq_true_eq] at h
  exact ⟨fun c hc => by simpa using h.1 c hc, h.2⟩
structure PieceOf (w : Str) (s : Str) : Prop where
  len : s.length ≤ 4
  fits : ∀ c ∈ s.cps.toList, c < 0x110000
  prep : (prepL s.cps.toList).flatMap (·.cps.toList) = w.cps.toList
end
end Mine
end SYG
section SYH
open PySem PySem.W PyProof.Rows PySem.Calls
set_option maxRecDepth 100000
namespace Mine
noncomputable section
theorem g_word : nWord ≠ sList ∧ nWord ≠ sTC ∧ nWord ≠ sLower ∧ nWord ≠ sIn ∧ nWord ≠ sGetB3 := by decide +kernel
theorem g_sign : nSign ≠ sList ∧ nSign ≠ sTC ∧ nSign ≠ sLower ∧ nSign ≠ sIn ∧ nSign ≠ sGetB3 := by decide +kernel
theorem g_unseen : nUnseen ≠ sList ∧ nUnseen ≠ sTC ∧ nUnseen ≠ sLower ∧ nUnseen ≠ sIn ∧ nUnseen ≠ sGetB3 := by decide +kernel
abbrev nLen : Str := Str.ofString "len"
theorem g_len : nLen ≠ sList ∧ nLen ≠ sTC ∧ nLen ≠ sLower ∧ nLen ≠ sIn ∧ nLen ≠ sGetB3 := by decide +kernel
theorem f1_len (l : List PyData) : F1 nLen l = bltD nLen l := f1_blt (by decide +kernel)
theorem blt_len_str {x : Str} (h : x.length ≤ 1000000) : bltD nLen [.str x] = some (.int x.length) := by
  show (if x.length ≤ 1000000 then some (PyData.int x.length) else none) = _
  rw [if_pos h]
theorem blt_len_list {x : List PyData} (h : x.length ≤ 1000000) : bltD nLen [.list x] = some (.int x.length) := by
  show (if x.length ≤ 1000000 then some (PyData.int x.length) else none) = _
  rw [if_pos h]
theorem seqIndex_nat {i n : Nat} (h : i < n) : seqIndex? (i : Int) n = some i := by
  unfold seqIndex?
  have h1 : ¬ (i : Int) < 0 := by omega
  simp only [h1, if_false]
  rw [if_pos (by simp; omega)]
  simp
theorem idx_str {x : Str} {k : Nat} (h : k < x.cps.toList.length) (hk : k < 1000) : idxD (.str x) (.int k) = some (.str (chS x.cps.toList[k])) := by
  have h' : k < x.length := by simpa [Str.length] using h
  simp only [idxD]
  rw [if_pos (by omega), seqIndex_nat h']
  have h2 : k < x.cps.size := h'
  simp only [Option.bind_some, Array.getElem?_eq_getElem h2, Option.map_some]
  simp [chS]
theorem bin_fdiv {a b : Int} (h : b ≠ 0 ∧ b.natAbs < 1073741824) : binD .FloorDiv (.int a) (.int b) = some (.int (a.fdiv b)) := by
  show (if b ≠ 0 ∧ b.natAbs < 1073741824 then some (PyData.int (a.fdiv b)) else none) = _
  rw [if_pos h]
theorem bin_mod {a b : Int} (h : b ≠ 0) : binD .Mod (.int a) (.int b) = some (.int (a.fmod b)) := by
  show (if b = 0 then none else some (PyData.int (a.fmod b))) = _
  rw [if_neg h]
theorem bin_pow {a : Int} {k : Nat} (h : k ≤ 1000) (ha : a.natAbs < 2 ^ 60) : binD .Pow (.int a) (.int k) = some (.int (a ^ k)) := by
  show (if 0 ≤ (k : Int) ∧ (k : Int) ≤ 1000 ∧ a.natAbs < 2 ^ 60 then some (PyData.int (a ^ (k : Int).toNat)) else none) = _
  rw [if_pos ⟨by omega, by omega, ha⟩]; simp
theorem pow12 {k : Nat} (h : k < 3) : ((12 : Int) ^ k ≠ 0) ∧ ((12 : Int) ^ k).natAbs < 1073741824 := by
  have : k = 0 ∨ k = 1 ∨ k = 2 := by omega
  rcases this with rfl | rfl | rfl <;> decide
theorem mod12 (x : Int) : ((x.fmod 12).toNat : Int) = x.fmod 12 ∧ (x.fmod 12).toNat < 12 := by
  have h0 := Int.fmod_nonneg_of_pos x (show (0 : Int) < 12 by omega)
  have h1 := Int.fmod_lt_of_pos x (show (0 : Int) < 12 by omega)
  omega
def fmN (x : Int) (k : Nat) : Nat := (form x k).toNat
theorem fmN_lt (x : Int) (k : Nat) : fmN x k < 12 := (mod12 _).2
theorem fmN_eq (x : Int) (k : Nat) : form x k = (fmN x k : Int) := ((mod12 _).1).symm
def signs (which x : Int) : List Nat := (List.range (wd which).cps.toList.length).map fun k => signC ((wd which).cps.toList.getD k 0) (fmN x k)
def sPieceV : Str := Str.ofString "piece"
def joined (which x : Int) : Str := ⟨(signs which x).toArray⟩
theorem join_signs (which x : Int) : Txt.join (Str.ofString "") ((signs which x).map chS) = joined which x := by
  apply str_ext
  rw [join_cps]
  simp only [joined, List.flatMap_map]
  have : (fun a => (chS a).cps.toList) = fun a => [a] := rfl
  rw [this]
  simp
theorem joinOk_chS {l : List Nat} (h : l.length ≤ 1000000) : JoinOk (Str.ofString "") (l.map chS) = true := by
  apply joinOk_small
  have : ((l.map chS).map (·.length)) = l.map fun _ => 1 := by rw [List.map_map]; rfl
  rw [this, List.map_const', List.sum_replicate_nat]
  omega
theorem sign_prep {c f : Nat} (hc : c ∈ letters) (hf : f < 12) : b1 (signC c f) = false ∧ mapB3 (signC c f) = chS c ∧ signC c f < 0x110000 := by
  have h := List.all_eq_true.mp (List.all_eq_true.mp sign_facts c hc) f (List.mem_range.mpr hf)
  simp only [Bool.and_eq_true, decide_eq_true_eq, Bool.not_eq_true'] at h
  exact ⟨h.1.1, h.1.2, h.2⟩
theorem prep_signs {l : List Nat} (fm : Nat → Nat) (hl : ∀ c ∈ l, c ∈ letters) (hf : ∀ k, fm k < 12) : (prepL ((List.range l.length).map fun k => signC (l.getD k 0) (fm k))).flatMap (·.cps.toList) = l := by
  have hb : ∀ k ∈ List.range l.length, l.getD k 0 ∈ letters := fun k hk => by
    have hk := List.mem_range.mp hk
    rw [List.getD_eq_getElem?_getD, List.getElem?_eq_getElem hk]
    exact hl _ (List.getElem_mem _)
  unfold prepL
  rw [List.filter_eq_self.mpr (fun a ha => by
    obtain ⟨k, hk, rfl⟩ := List.mem_map.mp ha
    rw [(sign_prep (hb k hk) (hf k)).1]; rfl)]
  have e1 : ((List.range l.length).map (mapB3 ∘ fun k => signC (l.getD k 0) (fm k))) = (List.range l.length).map fun k => chS (l.getD k 0) := List.map_congr_left fun k hk => (sign_prep (hb k hk) (hf k)).2.1
  rw [List.map_map, e1, List.flatMap_map]
  have e : (fun a => (chS (l.getD a 0)).cps.toList) = fun a => [l.getD a 0] := rfl
  rw [e, ← List.map_eq_flatMap]
  apply List.ext_getElem (by simp)
  intro i h1 h2
  simp [List.getD_eq_getElem?_getD, List.getElem?_eq_getElem h2]
end
end Mine
end SYH
section SYI
open PySem PySem.W PyProof.Rows PySem.Calls
set_option maxRecDepth 100000
namespace Mine
noncomputable section
theorem lig_idx (x : Int) : idxD (.str (Str.ofString "\uFEFFℱﬀﬁﬃſﬅß")) (.int (x.fmod 8)) = some (.str (chS (ligL.getD (x.fmod 8).toNat 0))) := by
  obtain ⟨h0, h1⟩ := mod8 x
  generalize x.fmod 8 = y at h0 h1
  have : y = 0 ∨ y = 1 ∨ y = 2 ∨ y = 3 ∨ y = 4 ∨ y = 5 ∨ y = 6 ∨ y = 7 := by omega
  rcases this with rfl | rfl | rfl | rfl | rfl | rfl | rfl | rfl <;> kernel_rfl
structure MidOf (w : Str) (s : Str) : Prop where
  len : s.length ≤ 3
  fits : ∀ c ∈ s.cps.toList, c < 0x110000
  prep : (prepL s.cps.toList).flatMap (·.cps.toList) = w.cps.toList
theorem mid_lig (x : Int) : MidOf (wd x) (chS (ligL.getD (x.fmod 8).toNat 0)) := by
  obtain ⟨h0, h1⟩ := mod8 x
  have h := List.all_eq_true.mp lig_facts (x.fmod 8).toNat (List.mem_range.mpr (by omega))
  simp only [Bool.and_eq_true, decide_eq_true_eq] at h
  refine ⟨by show 1 ≤ 3; omega, fun c hc => ?_, h.1⟩
  have : c = ligL.getD (x.fmod 8).toNat 0 := by simpa [chS] using hc
  rw [this]; exact h.2
theorem mid_signs (which x : Int) : MidOf (wd which) (joined which x) := by
  obtain ⟨h1, h2⟩ := wd_letters which
  refine ⟨?_, fun c hc => ?_, ?_⟩
  · have : (joined which x).length = (wd which).length := by simp [joined, Str.length, signs]
    omega
  · simp only [joined, signs, List.mem_map, List.mem_range] at hc
    obtain ⟨k, hk, rfl⟩ := hc
    refine (sign_prep (h1 _ ?_) (fmN_lt x k)).2.2
    rw [List.getD_eq_getElem?_getD, List.getElem?_eq_getElem hk]
    exact List.getElem_mem _
  · exact prep_signs (fmN x) h1 (fmN_lt x)
theorem mod28 (x : Int) : ((x.fmod 28).toNat : Int) = x.fmod 28 ∧ (x.fmod 28).toNat < 28 := by
  have h0 := Int.fmod_nonneg_of_pos x (show (0 : Int) < 28 by omega)
  have h1 := Int.fmod_lt_of_pos x (show (0 : Int) < 28 by omega)
  omega
theorem prepL_append (a b : List Nat) : prepL (a ++ b) = prepL a ++ prepL b := by simp [prepL]
theorem str_app (a b : Str) : (a ++ b).cps.toList = a.cps.toList ++ b.cps.toList := Array.toList_append
theorem b1_fits {c : Nat} (h : b1 c = true) : c < 0x110000 := by
  have e : (b1L.all fun i => decide (i < 0x110000)) = true := by kernel_rfl
  have := List.all_eq_true.mp e c (by unfold b1 at h; exact List.contains_iff_mem.mp h)
  have := of_decide_eq_true this
  omega
theorem piece_rest {ρ : Ro} {w s : Str} {x : Int} (hs : MidOf w s) (h1 : ρ (Str.ofString "piece") = some (.dat (.str s))) (h2 : ρ (Str.ofString "x") = some (.dat (.int x))) :
    ∃ r ρ', PieceOf w r ∧ exL F1 57 (scopeOf st_piece) ((bodyOf st_piece).drop 3) ρ = some (.ret (.str r), ρ') := by
  have tl : exS F1 56 (scopeOf st_piece) ((bodyOf st_piece).getD 3 default) ρ = some (.next, put ρ (Str.ofString "tail") (.dat (.int ((x.fdiv 27648).fmod 28)))) :=
    s_assign rfl rfl (e_bin (e_bin (e_name h2) (e_const rfl) (bin_fdiv (by decide))) (e_const rfl) (bin_mod (by decide)))
  obtain ⟨e1, e2⟩ := mod28 (x.fdiv 27648)
  by_cases ht : (x.fdiv 27648).fmod 28 = 0
  · refine ⟨s, _, ⟨by have := hs.len; omega, hs.fits, hs.prep⟩, l_next tl (l_ret (s_ret (e_ift (t_cmp rfl (e_name rfl) (e_const rfl) ?_) (e_name ?_))))⟩
    · rw [eq_int, ht]; rfl
    · exact h1
  · have e3 : (x.fdiv 27648).fmod 28 - 1 = ((((x.fdiv 27648).fmod 28).toNat - 1 : Nat) : Int) := by omega
    obtain ⟨c, hc, hr⟩ := run_unseen (k := ((x.fdiv 27648).fmod 28).toNat - 1) (by omega)
    rw [← e3] at hr
    refine ⟨s ++ chS c, _, ⟨?_, ?_, ?_⟩, l_next tl (l_ret (s_ret (e_iff (t_cmp rfl (e_name rfl) (e_const rfl) ?_) (e_bin (e_name (d := .str s) h1) (e_call rfl g_unseen (es_cons (e_bin (e_name rfl) (e_const rfl) rfl) es_nil) ((f1_unseen _).trans hr)) ?_))))⟩
    · have := hs.len
      rw [Str.length_append]
      have : (chS c).length = 1 := rfl
      omega
    · intro y hy
      rw [str_app, List.mem_append] at hy
      rcases hy with hy | hy
      · exact hs.fits y hy
      · have : y = c := by simpa [chS] using hy
        rw [this]; exact b1_fits hc
    · rw [str_app, prepL_append, List.flatMap_append, hs.prep]
      have : prepL (chS c).cps.toList = [] := by
        show prepL [c] = []
        unfold prepL
        rw [List.filter_cons, hc]; rfl
      rw [this]; simp
    · rw [eq_int]; simp [ht]
    · have := hs.len
      have h1 : (chS c).length = 1 := rfl
      show (if s.length + (chS c).length ≤ 1000000 then some (PyData.str (s ++ chS c)) else none) = _
      rw [if_pos (by omega)]
theorem piece_join {which x : Int} {ρ : Ro} (hx : ρ (Str.ofString "x") = some (.dat (.int x))) (hword : ρ (Str.ofString "word") = some (.dat (.str (wd which)))) :
    exS F1 58 (scopeOf st_piece) ((bodyOf st_piece).getD 1 default) ρ = some (.next, put ρ (Str.ofString "piece") (.dat (.str (joined which x)))) := by
  obtain ⟨hw1, hw2⟩ := wd_letters which
  have hlen : (wd which).length = (wd which).cps.toList.length := rfl
  rw [← join_signs]
  refine s_assign rfl rfl (e_join rfl (e_comp rfl (i_range1 rfl (es_cons (e_call rfl g_len (es_cons (e_name hword) es_nil) ((f1_len _).trans (blt_len_str (by omega)))) es_nil) (by omega) (by omega)) ?_) (strsD_map _) (joinOk_chS (by rw [signs, List.length_map, List.length_range]; omega)))
  have hs : (signs which x).map chS = (List.range (wd which).length).map fun k => chS (signC ((wd which).cps.toList.getD k 0) (fmN x k)) := List.map_map
  rw [rangeD0, hs]
  refine cmpL_all (k := .str) fun k hk => ?_
  have hk := List.mem_range.mp hk
  have hm : (wd which).cps.toList[k]'hk ∈ letters := hw1 _ (List.getElem_mem _)
  refine c_one ts_nil (e_call rfl g_sign (es_cons (e_sub (e_name hword) (e_name rfl) (idx_str hk (by omega))) (es_cons (e_bin (e_bin (e_bin (e_name hx) (e_const rfl) (bin_fdiv (by decide))) (e_bin (e_const rfl) (e_name rfl) (bin_pow (by omega) (by decide))) (bin_fdiv (pow12 (by omega)))) (e_const rfl) (bin_mod (by decide))) es_nil)) ((f1_sign _).trans ?_))
  have e := fmN_eq x k
  unfold form at e
  rw [e, run_sign hm (fmN_lt x k)]
  simp [List.getD_eq_getElem?_getD, List.getElem?_eq_getElem hk]
theorem run_piece (which x : Int) : ∃ s, PieceOf (wd which) s ∧ runF F1 st_piece pPiece [.int which, .int x] = some (.str s) := by
  by_cases h : (x.fdiv 8).fmod 2 = 1
  · obtain ⟨r, ρ', h1, h2⟩ := piece_rest (mid_lig which) (ρ := put (put (put (bindAll pPiece [.int which, .int x] fun _ => none) (Str.ofString "word") (.dat (.str (wd which)))) (Str.ofString "piece") (.dat (.str (joined which x)))) (Str.ofString "piece") (.dat (.str (chS (ligL.getD (which.fmod 8).toNat 0))))) (x := x) rfl rfl
    refine ⟨r, h1, run_of rfl (l_next (s_assign rfl rfl (e_call rfl g_word (es_cons (e_name rfl) es_nil) ((f1_word _).trans (run_word which)))) (l_next (piece_join rfl rfl) (l_next (s_ift (t_cmp rfl (e_bin (e_bin (e_name rfl) (e_const rfl) (bin_fdiv (by decide))) (e_const rfl) (bin_mod (by decide))) (e_const rfl) (by rw [eq_int, h]; rfl)) (l_next (s_assign rfl rfl (e_sub (e_const rfl) (e_bin (e_name rfl) (e_const rfl) (bin_mod (by decide))) (lig_idx which))) l_nil)) h2)))⟩
  · obtain ⟨r, ρ', h1, h2⟩ := piece_rest (mid_signs which x) (ρ := put (put (bindAll pPiece [.int which, .int x] fun _ => none) (Str.ofString "word") (.dat (.str (wd which)))) (Str.ofString "piece") (.dat (.str (joined which x)))) (x := x) rfl rfl
    refine ⟨r, h1, run_of rfl (l_next (s_assign rfl rfl (e_call rfl g_word (es_cons (e_name rfl) es_nil) ((f1_word _).trans (run_word which)))) (l_next (piece_join rfl rfl) (l_next (s_iff (t_cmp rfl (e_bin (e_bin (e_name rfl) (e_const rfl) (bin_fdiv (by decide))) (e_const rfl) (bin_mod (by decide))) (e_const rfl) (by rw [eq_int]; simp [h])) l_nil) h2)))⟩
theorem run_prepared {w s : Str} (hw : w.length ≤ 1000) (h : PieceOf w s) : runF F1 st_prepared pPrep [.str s] = some (.str w) := by
  rw [run_prep s (by have := h.len; omega) (joinOk_small ?_)]
  · congr 2
    exact str_ext ((join_cps _).trans h.prep)
  · have e := congrArg List.length h.prep
    rw [List.length_flatMap] at e
    have e2 : w.cps.toList.length = w.length := rfl
    have e3 : (prepL s.cps.toList).map (·.length) = (prepL s.cps.toList).map fun a => a.cps.toList.length := rfl
    rw [e3, e, e2]; omega
end
end Mine
end SYI
section SYJ
open PySem PySem.W PyProof.Rows PySem.Calls
set_option maxRecDepth 100000
namespace Mine
noncomputable section
def ltD : PyData → PyData → Bool
  | .str x, .str y => ltS x y
  | .int x, .int y => decide (x < y)
  | _, _ => false
def sameK : PyData → PyData → Bool
  | .str _, .str _ => true
  | .int _, .int _ => true
  | _, _ => false
theorem cmp_lt {a b : PyData} (h : sameK a b = true) : cmpD .Lt a b = some (ltD a b) := by
  cases a <;> cases b <;> first | rfl | (simp [sameK] at h)
theorem cmp_gt {a b : PyData} (h : sameK a b = true) : cmpD .Gt a b = some (ltD b a) := by
  cases a <;> cases b <;> first | rfl | (simp [sameK] at h)
def keyD (k : Nat × Int) : PyData := .tuple [.int k.1, .int k.2]
def cmpK (L R : List PyData) : List (Nat × Int) → Option Int
  | [] => none
  | (i, d) :: ks => if ltD (L.getD i .none) (R.getD i .none) = true then some (-d) else if ltD (R.getD i .none) (L.getD i .none) = true then some d else cmpK L R ks
theorem idx_tuple {xs : List PyData} {k : Nat} (h : k < xs.length) (hz : xs.length ≤ 1000000) : idxD (.tuple xs) (.int k) = some (xs.getD k .none) := by
  simp only [idxD]
  rw [if_pos (by omega), seqIndex_nat h]
  simp [List.getElem?_eq_getElem h]
theorem idx_list {xs : List PyData} {k : Nat} (h : k < xs.length) (hz : xs.length ≤ 1000000) : idxD (.list xs) (.int k) = some (xs.getD k .none) := by
  simp only [idxD]
  rw [if_pos (by omega), seqIndex_nat h]
  simp [List.getElem?_eq_getElem h]
abbrev cmpFor : Stmt := (bodyOf st_tc_compare).getD 0 default
def forTg : Stmt → Expr
  | .For t _ _ _ _ => t
  | _ => default
def forBody : Stmt → List Stmt
  | .For _ _ b _ _ => b
  | _ => []
theorem cmp_for {F : Fn} {n : Nat} {L R : List PyData} (hL : L.length ≤ 1000000) (hR : R.length ≤ 1000000) : ∀ {ks : List (Nat × Int)} {ρ : Ro}, (∀ k ∈ ks, k.1 < L.length ∧ k.1 < R.length ∧ sameK (L.getD k.1 .none) (R.getD k.1 .none) = true) →
    ρ sLeft = some (.dat (.tuple L)) → ρ sRight = some (.dat (.tuple R)) →
    ∃ ρ', forL (forF F (n + 10) (scopeOf st_tc_compare) (forTg cmpFor) (forBody cmpFor)) (ks.map keyD) ρ = some (match cmpK L R ks with | some c => .ret (.int c) | none => .next, ρ')
  | [], ρ, _, _, _ => ⟨ρ, rfl⟩
  | (i, d) :: ks, ρ, hk, h1, h2 => by
    obtain ⟨k1, k2, k3⟩ := hk (i, d) List.mem_cons_self
    simp only at k1 k2 k3
    generalize ha : L.getD i .none = a at k3
    generalize hb : R.getD i .none = b at k3
    have il : idxD (.tuple L) (.int i) = some a := by rw [idx_tuple k1 hL, ha]
    have ir : idxD (.tuple R) (.int i) = some b := by rw [idx_tuple k2 hR, hb]
    have c1 := cmp_lt k3
    have c2 := cmp_gt k3
    simp only [List.map_cons]
    unfold cmpK
    rw [ha, hb]
    cases e1 : ltD a b with
    | true =>
      rw [e1] at c1
      refine ⟨_, f_ret (Option.bind_eq_some_iff.mpr ⟨_, rfl, l_next (s_assign rfl rfl (e_sub (e_name h1) (e_name rfl) il)) (l_next (s_assign rfl rfl (e_sub (e_name h2) (e_name rfl) ir)) (l_ret (s_ift (t_cmp rfl (e_name rfl) (e_name rfl) c1) (l_ret (s_ret (e_neg (e_name rfl)))))))⟩)⟩
    | false =>
      rw [e1] at c1
      cases e2 : ltD b a with
      | true =>
        rw [e2] at c2
        refine ⟨_, f_ret (Option.bind_eq_some_iff.mpr ⟨_, rfl, l_next (s_assign rfl rfl (e_sub (e_name h1) (e_name rfl) il)) (l_next (s_assign rfl rfl (e_sub (e_name h2) (e_name rfl) ir)) (l_next (s_iff (t_cmp rfl (e_name rfl) (e_name rfl) c1) l_nil) (l_ret (s_ift (t_cmp rfl (e_name rfl) (e_name rfl) c2) (l_ret (s_ret (e_name rfl)))))))⟩)⟩
      | false =>
        rw [e2] at c2
        obtain ⟨ρ', h⟩ := cmp_for (F := F) (n := n) hL hR (ks := ks) (ρ := put (put (put (put ρ (Str.ofString "index") (.dat (.int i))) (Str.ofString "direction") (.dat (.int d))) (Str.ofString "l") (.dat a)) (Str.ofString "r") (.dat b)) (fun k h => hk k (List.mem_cons_of_mem _ h)) h1 h2
        refine ⟨ρ', ?_⟩
        simp only [Bool.false_eq_true, if_false]
        refine f_next (Option.bind_eq_some_iff.mpr ⟨_, rfl, l_next (s_assign rfl rfl (e_sub (e_name h1) (e_name rfl) il)) (l_next (s_assign rfl rfl (e_sub (e_name h2) (e_name rfl) ir)) (l_next (s_iff (t_cmp rfl (e_name rfl) (e_name rfl) c1) l_nil) (l_next (s_iff (t_cmp rfl (e_name rfl) (e_name rfl) c2) l_nil) l_nil)))⟩) h
theorem items_list {xs : List PyData} (h : xs.length ≤ 1000000) : itemsD (.list xs) = some xs := if_pos h
theorem run_cmp {F : Fn} {L R : List PyData} (hL : L.length ≤ 1000000) (hR : R.length ≤ 1000000) {ks : List (Nat × Int)} (hz : ks.length ≤ 1000000) (hk : ∀ k ∈ ks, k.1 < L.length ∧ k.1 < R.length ∧ sameK (L.getD k.1 .none) (R.getD k.1 .none) = true) :
    runCmp F [.list (ks.map keyD), .tuple L, .tuple R] = some (.int ((cmpK L R ks).getD 0)) := by
  unfold runCmp
  obtain ⟨ρ', h⟩ := cmp_for (F := F) (n := 48) hL hR (ρ := roCmp (.list (ks.map keyD)) (.tuple L) (.tuple R)) hk rfl rfl
  have hi : (ks.map keyD).length ≤ 1000000 := by rw [List.length_map]; exact hz
  cases e : cmpK L R ks with
  | some c =>
    rw [e] at h
    have g : exL F 60 (scopeOf st_tc_compare) (bodyOf st_tc_compare) (roCmp (.list (ks.map keyD)) (.tuple L) (.tuple R)) = some (.ret (.int c), ρ') :=
      l_ret (s_for (i_val rfl (e_attr rfl) (items_list hi)) h)
    simp only [g]; rfl
  | none =>
    rw [e] at h
    have g : exL F 60 (scopeOf st_tc_compare) (bodyOf st_tc_compare) (roCmp (.list (ks.map keyD)) (.tuple L) (.tuple R)) = some (.ret (.int 0), ρ') :=
      l_next (s_for (i_val rfl (e_attr rfl) (items_list hi)) h) (l_ret (s_ret (e_const rfl)))
    simp only [g]; rfl
def spotOf (gt : Nat → Nat → Bool) (done : List Nat) (p : Nat) : Nat → Nat
  | 0 => 0
  | s + 1 => if gt (done.getD s 0) p = true then spotOf gt done p s else s + 1
def insAt (gt : Nat → Nat → Bool) (done : List Nat) (p : Nat) : List Nat := done.take (spotOf gt done p done.length) ++ [p] ++ done.drop (spotOf gt done p done.length)
def isort (gt : Nat → Nat → Bool) (l : List Nat) : List Nat := l.foldl (insAt gt) []
def natsD (l : List Nat) : List PyData := l.map fun i => .int (i : Nat)
def rowGt (rows : List (List PyData)) (ks : List (Nat × Int)) (p q : Nat) : Bool := decide ((cmpK (rows.getD p []) (rows.getD q []) ks).getD 0 = 1)
theorem sliceL_upto {xs : List PyData} {b : Nat} (hb : b ≤ xs.length) : sliceL xs none (some b) none = xs.take b := by
  have : sliceL xs none (some b) none = (sliceRange 0 b 1).filterMap (xs[·]?) := by
    unfold sliceL
    have e : sliceBounds none (some (b : Int)) none xs.length = (0, (b : Int), 1) := by
      unfold sliceBounds
      simp
      omega
    rw [e]
  rw [this]
  have e := sliceRange_one 0 b
  have e' : ((0 : Nat) : Int) = 0 := rfl
  rw [e'] at e
  rw [e]
  have := pick_run xs.toArray 0 (b - 0)
  simp at this ⊢
  exact this
theorem sliceL_from {xs : List PyData} {a : Nat} (ha : a ≤ xs.length) : sliceL xs (some a) none none = xs.drop a := by
  have : sliceL xs (some a) none none = (sliceRange a xs.length 1).filterMap (xs[·]?) := by
    unfold sliceL
    have e : sliceBounds (some (a : Int)) none none xs.length = ((a : Int), (xs.length : Int), 1) := by
      unfold sliceBounds
      simp
      omega
    rw [e]
  rw [this, sliceRange_one]
  have := pick_run xs.toArray a (xs.length - a)
  simp at this ⊢
  rw [this]
  exact List.take_of_length_le (by simp)
end
end Mine
end SYJ
section SYK
open PySem PySem.W PyProof.Rows PySem.Calls
set_option maxRecDepth 100000
namespace Mine
noncomputable section
theorem f1_tc (l : List PyData) : F1 sTC l = runCmp F0 l := by unfold F1 withCmp; rw [if_pos rfl]
abbrev sPlaces : Str := Str.ofString "places"
abbrev sRows : Str := Str.ofString "rows"
abbrev sKeys : Str := Str.ofString "keys"
abbrev sOrder : Str := Str.ofString "order"
abbrev sDone : Str := Str.ofString "done"
abbrev sPlace : Str := Str.ofString "place"
abbrev sSpot : Str := Str.ofString "spot"
abbrev sorFor : Stmt := (bodyOf st_sorted).getD 2 default
abbrev sorWh : Stmt := (forBody sorFor).getD 1 default
def whTest : Stmt → Expr
  | .While t _ _ _ => t
  | _ => default
def whBody : Stmt → List Stmt
  | .While _ b _ _ => b
  | _ => []
structure RowsOk (rows : List (List PyData)) (ks : List (Nat × Int)) : Prop where
  len : rows.length ≤ 1000
  rlen : ∀ p < rows.length, (rows.getD p []).length ≤ 1000
  kl : ks.length ≤ 1000
  ok : ∀ p < rows.length, ∀ q < rows.length, ∀ k ∈ ks, k.1 < (rows.getD p []).length ∧ sameK ((rows.getD p []).getD k.1 .none) ((rows.getD q []).getD k.1 .none) = true
theorem rows_cmp {rows : List (List PyData)} {ks : List (Nat × Int)} (h : RowsOk rows ks) {p q : Nat} (hp : p < rows.length) (hq : q < rows.length) :
    F1 sTC [.list (ks.map keyD), .tuple (rows.getD p []), .tuple (rows.getD q [])] = some (.int ((cmpK (rows.getD p []) (rows.getD q []) ks).getD 0)) := by
  rw [f1_tc]
  have := h.rlen p hp
  have := h.rlen q hq
  have := h.kl
  exact run_cmp (by omega) (by omega) (by omega) fun k hk => ⟨(h.ok p hp q hq k hk).1, (h.ok q hq p hp k hk).1, (h.ok p hp q hq k hk).2⟩
theorem natsD_getD {l : List Nat} {i : Nat} (h : i < l.length) : (natsD l).getD i .none = .int (l.getD i 0 : Nat) := by
  simp [natsD, List.getD_eq_getElem?_getD, List.getElem?_eq_getElem h]
theorem idx_nats {l : List Nat} {i : Nat} (h : i < l.length) (hz : l.length ≤ 1000000) : idxD (.list (natsD l)) (.int i) = some (.int (l.getD i 0 : Nat)) := by
  rw [idx_list (by simpa [natsD] using h) (by simpa [natsD] using hz), natsD_getD h]
theorem idx_rows {rows : List (List PyData)} {i : Nat} (h : i < rows.length) (hz : rows.length ≤ 1000000) : idxD (.list (rows.map .tuple)) (.int i) = some (.tuple (rows.getD i [])) := by
  rw [idx_list (by simpa using h) (by simpa using hz)]
  simp [List.getD_eq_getElem?_getD, List.getElem?_eq_getElem h]
structure SorEnv (ρ : Ro) (rows : List (List PyData)) (ks : List (Nat × Int)) (done : List Nat) : Prop where
  rows : ρ sRows = some (.dat (.list (rows.map .tuple)))
  order : ρ sOrder = some (.inst (.list (ks.map keyD)))
  done : ρ sDone = some (.dat (.list (natsD done)))
theorem sor_while {rows : List (List PyData)} {ks : List (Nat × Int)} (H : RowsOk rows ks) {done : List Nat} (hd : ∀ p ∈ done, p < rows.length) (hdl : done.length ≤ 1000) {p : Nat} (hp : p < rows.length) {n : Nat} :
    ∀ (s : Nat) (fuel : Nat) (ρ : Ro), s < fuel → s ≤ done.length → SorEnv ρ rows ks done → ρ sPlace = some (.dat (.int p)) → ρ sSpot = some (.dat (.int s)) →
    ∃ ρ', whL (tst F1 (n + 10) (scopeOf st_sorted) (whTest sorWh)) (exL F1 (n + 10) (scopeOf st_sorted) (whBody sorWh)) fuel ρ = some (.next, ρ') ∧ SorEnv ρ' rows ks done ∧ ρ' sPlace = some (.dat (.int p)) ∧ ρ' sSpot = some (.dat (.int (spotOf (rowGt rows ks) done p s : Nat)))
  | 0, fuel + 1, ρ, _, _, E, hpl, hs => by
    refine ⟨ρ, w_stop (t_andf (t_cmp rfl (e_name hs) (e_const rfl) rfl)), E, hpl, hs⟩
  | s + 1, fuel + 1, ρ, hf, hl, E, hpl, hs => by
    have hsd : s < done.length := by omega
    have hgd : done.getD s 0 < rows.length := by
      rw [List.getD_eq_getElem?_getD, List.getElem?_eq_getElem hsd]
      exact hd _ (List.getElem_mem _)
    have hr := H.len
    have e1 : ((s + 1 : Nat) : Int) - 1 = (s : Nat) := by omega
    have t0 : cmpD .Gt (.int ((s + 1 : Nat) : Int)) (.int 0) = some true := by
      show some (decide ((0 : Int) < ((s + 1 : Nat) : Int))) = _
      rw [decide_eq_true (by omega)]
    have tt : tst F1 (n + 10) (scopeOf st_sorted) (whTest sorWh) ρ = some (rowGt rows ks (done.getD s 0) p) := by
      refine t_andt (t_cmp rfl (e_name hs) (e_const rfl) t0) (t_cmp rfl (e_compare rfl E.order rfl (es_cons (e_sub (e_name E.rows) (e_sub (e_name E.done) (e_bin (e_name hs) (e_const rfl) rfl) ?_) (idx_rows hgd (by omega))) (es_cons (e_sub (e_name E.rows) (e_name hpl) (idx_rows hp (by omega))) es_nil)) (rows_cmp H hgd hp)) (e_const rfl) ?_)
      · rw [e1]; exact idx_nats hsd (by omega)
      · rw [eq_int]; rfl
    cases g : rowGt rows ks (done.getD s 0) p with
    | false =>
      rw [g] at tt
      refine ⟨ρ, w_stop tt, E, hpl, ?_⟩
      simp only [spotOf, g, Bool.false_eq_true, if_false]; exact hs
    | true =>
      rw [g] at tt
      obtain ⟨ρ', h1, h2, h3, h4⟩ := sor_while H hd hdl hp (n := n) s fuel (put ρ sSpot (.dat (.int s))) (by omega) (by omega) ⟨E.rows, E.order, E.done⟩ hpl rfl
      refine ⟨ρ', w_go tt (l_next (s_assign rfl rfl (e_bin (e_name hs) (e_const rfl) (by show some (PyData.int (((s + 1 : Nat) : Int) - 1)) = _; rw [e1]))) l_nil) h1, h2, h3, ?_⟩
      simp only [spotOf, g, if_true]; exact h4
end
end Mine
end SYK
section SYL
open PySem PySem.W PyProof.Rows PySem.Calls
set_option maxRecDepth 100000
namespace Mine
noncomputable section
theorem spotOf_le (gt : Nat → Nat → Bool) (done : List Nat) (p : Nat) : ∀ s, spotOf gt done p s ≤ s
  | 0 => Nat.le_refl 0
  | s + 1 => by
    unfold spotOf
    split
    · exact Nat.le_succ_of_le (spotOf_le gt done p s)
    · exact Nat.le_refl _
theorem insAt_perm (gt : Nat → Nat → Bool) (done : List Nat) (p : Nat) : (insAt gt done p).Perm (p :: done) := by
  unfold insAt
  generalize spotOf gt done p done.length = k
  have : (done.take k ++ [p] ++ done.drop k).Perm ([p] ++ (done.take k ++ done.drop k)) := by
    rw [← List.append_assoc]
    exact List.Perm.append_right _ List.perm_append_comm
  rw [List.take_append_drop] at this
  exact this
theorem natsD_append (a b : List Nat) : natsD (a ++ b) = natsD a ++ natsD b := by simp [natsD]
theorem natsD_length (a : List Nat) : (natsD a).length = a.length := by simp [natsD]
theorem bin_list {a b : List PyData} (h : a.length + b.length ≤ 1000000) : binD .Add (.list a) (.list b) = some (.list (a ++ b)) := by
  show (if a.length + b.length ≤ 1000000 then some (PyData.list (a ++ b)) else none) = _
  rw [if_pos h]
theorem sor_for {rows : List (List PyData)} {ks : List (Nat × Int)} (H : RowsOk rows ks) {n : Nat} :
    ∀ (ps : List Nat) (done : List Nat) (ρ : Ro), (∀ p ∈ ps, p < rows.length) → (∀ p ∈ done, p < rows.length) → ps.length + done.length ≤ n → n ≤ 900 → SorEnv ρ rows ks done →
    ∃ ρ', forL (forF F1 (n + 20) (scopeOf st_sorted) (forTg sorFor) (forBody sorFor)) (natsD ps) ρ = some (.next, ρ') ∧ SorEnv ρ' rows ks (ps.foldl (insAt (rowGt rows ks)) done)
  | [], done, ρ, _, _, _, _, E => ⟨ρ, rfl, E⟩
  | p :: ps, done, ρ, hp, hd, hl, hn, E => by
    have hpp := hp p List.mem_cons_self
    simp only [List.length_cons] at hl
    obtain ⟨ρ1, w1, E1, w2, w3⟩ := sor_while H hd (by omega) hpp (n := n + 7) done.length (n + 17) (put (put ρ sPlace (.dat (.int p))) sSpot (.dat (.int done.length))) (by omega) (Nat.le_refl _) ⟨E.rows, E.order, E.done⟩ rfl rfl
    have hsp := spotOf_le (rowGt rows ks) done p done.length
    have hperm := insAt_perm (rowGt rows ks) done p
    have hlen := hperm.length_eq
    simp only [List.length_cons] at hlen
    have hval : PyData.list (natsD (done.take (spotOf (rowGt rows ks) done p done.length)) ++ [.int p] ++ natsD (done.drop (spotOf (rowGt rows ks) done p done.length))) = .list (natsD (insAt (rowGt rows ks) done p)) := by
      unfold insAt; rw [natsD_append, natsD_append]; rfl
    obtain ⟨ρ2, f1, E2⟩ := sor_for H (n := n) ps (insAt (rowGt rows ks) done p) (put ρ1 sDone (.dat (.list (natsD (insAt (rowGt rows ks) done p))))) (fun q hq => hp q (List.mem_cons_of_mem _ hq)) (fun q hq => by
      rcases List.mem_cons.mp (hperm.mem_iff.mp hq) with rfl | h
      · exact hpp
      · exact hd q h) (by omega) hn ⟨E1.rows, E1.order, rfl⟩
    refine ⟨ρ2, f_next (Option.bind_eq_some_iff.mpr ⟨_, rfl, l_next (s_assign rfl rfl (e_call rfl g_len (es_cons (e_name (ρ := put ρ sPlace (.dat (.int p))) E.done) es_nil) ((f1_len _).trans ((blt_len_list (by rw [natsD_length]; omega)).trans (by rw [natsD_length])))))
      (l_next (s_while w1) (l_next (s_assign rfl rfl (e_bin (e_bin (e_slice (e_name E1.done) ep_none (ep_some (e_name w3)) ep_none (by rw [natsD_length]; omega) (by simp)) (e_list (es_cons (e_name w2) es_nil) (by simp)) (bin_list ?_)) (e_slice (e_name E1.done) (ep_some (e_name w3)) ep_none ep_none (by rw [natsD_length]; omega) (by simp)) ?_)) l_nil))⟩) f1, E2⟩
    · rw [sliceL_upto (by rw [natsD_length]; exact hsp), List.length_take, natsD_length]; simp; omega
    · rw [sliceL_upto (by rw [natsD_length]; exact hsp), sliceL_from (by rw [natsD_length]; exact hsp)]
      refine (bin_list ?_).trans ?_
      · simp [natsD_length]; omega
      · have t1 : (natsD done).take (spotOf (rowGt rows ks) done p done.length) = natsD (done.take (spotOf (rowGt rows ks) done p done.length)) := by simp [natsD, List.map_take]
        have t2 : (natsD done).drop (spotOf (rowGt rows ks) done p done.length) = natsD (done.drop (spotOf (rowGt rows ks) done p done.length)) := by simp [natsD, List.map_drop]
        rw [t1, t2, hval]
theorem run_sorted {rows : List (List PyData)} {ks : List (Nat × Int)} (H : RowsOk rows ks) {ps : List Nat} (hp : ∀ p ∈ ps, p < rows.length) (hl : ps.length ≤ 20) :
    runF F1 st_sorted pSorted [.list (natsD ps), .list (rows.map .tuple), .list (ks.map keyD)] = some (.list (natsD (isort (rowGt rows ks) ps))) := by
  obtain ⟨ρ', f, E⟩ := sor_for H (n := 36) ps [] (put (put (bindAll pSorted [.list (natsD ps), .list (rows.map .tuple), .list (ks.map keyD)] fun _ => none) sOrder (.inst (.list (ks.map keyD)))) sDone (.dat (.list []))) hp (fun _ h => nomatch h) (by simp; omega) (by omega) ⟨rfl, rfl, rfl⟩
  exact run_of rfl (l_next (s_make rfl rfl (es_cons (e_name rfl) es_nil)) (l_next (s_assign rfl rfl (e_list es_nil (by decide))) (l_next (s_for (i_val rfl (e_name rfl) (items_list (by rw [natsD_length]; omega))) f) (l_ret (s_ret (e_name E.done))))))
end
end Mine
end SYL
section SMA
namespace Mine
def SR (gt : Nat → Nat → Bool) (B : Nat → Nat → Prop) (a b : Nat) : Prop := gt b a = true ∨ (gt a b = false ∧ B a b)
theorem spot_after {gt : Nat → Nat → Bool} {done : List Nat} {p : Nat} : ∀ s, ∀ i, spotOf gt done p s ≤ i → i < s → gt (done.getD i 0) p = true
  | 0, i, _, h => absurd h (Nat.not_lt_zero i)
  | s + 1, i, h1, h2 => by
    unfold spotOf at h1
    split at h1
    · rename_i hg
      by_cases e : i = s
      · rw [e]; exact hg
      · exact spot_after s i h1 (by omega)
    · omega
theorem spot_before {gt : Nat → Nat → Bool} {done : List Nat} {p : Nat} : ∀ s, spotOf gt done p s = 0 ∨ gt (done.getD (spotOf gt done p s - 1) 0) p = false
  | 0 => .inl rfl
  | s + 1 => by
    unfold spotOf
    split
    · exact spot_before s
    · rename_i h
      right
      simpa using h
theorem insAt_pw {gt : Nat → Nat → Bool} {P : Nat → Prop} (as : ∀ a b, P a → P b → gt a b = true → gt b a = false) (nt : ∀ a b c, P a → P b → P c → gt a c = true → gt a b = true ∨ gt b c = true)
    {B : Nat → Nat → Prop} {done : List Nat} {p : Nat} (hp : P p) (hd : ∀ a ∈ done, P a) (hB : ∀ a ∈ done, B a p) (hpw : done.Pairwise (SR gt B)) : (insAt gt done p).Pairwise (SR gt B) := by
  unfold insAt
  have ha := spot_after (gt := gt) (done := done) (p := p) done.length
  have hb := spot_before (gt := gt) (done := done) (p := p) done.length
  have hle := spotOf_le gt done p done.length
  generalize spotOf gt done p done.length = k at ha hb hle
  have hsplit : (done.take k ++ done.drop k).Pairwise (SR gt B) := by rw [List.take_append_drop]; exact hpw
  obtain ⟨q1, q2, q3⟩ := List.pairwise_append.mp hsplit
  have hafter : ∀ b ∈ done.drop k, SR gt B p b := fun b hb' => by
    obtain ⟨i, hi, rfl⟩ := List.mem_iff_getElem.mp hb'
    rw [List.getElem_drop]
    have hi' : k + i < done.length := by rw [List.length_drop] at hi; omega
    have := ha (k + i) (by omega) hi'
    rw [List.getD_eq_getElem?_getD, List.getElem?_eq_getElem hi', Option.getD_some] at this
    exact .inl this
  have hbefore : ∀ a ∈ done.take k, SR gt B a p := fun a ha' => by
    have hmem : a ∈ done := List.mem_of_mem_take ha'
    rcases hb with hb | hb
    · rw [hb] at ha'; simp at ha'
    · have hk : 0 < k := by
        rcases Nat.eq_zero_or_pos k with h | h
        · rw [h] at ha'; simp at ha'
        · exact h
      have hk' : k - 1 < done.length := by omega
      rw [List.getD_eq_getElem?_getD, List.getElem?_eq_getElem hk', Option.getD_some] at hb
      have hlm : done[k - 1] ∈ done := List.getElem_mem _
      refine .inr ⟨?_, hB a hmem⟩
      cases hg : gt a p with
      | false => rfl
      | true =>
        obtain ⟨i, hi, rfl⟩ := List.mem_iff_getElem.mp ha'
        rw [List.getElem_take] at hg hmem
        rw [List.length_take] at hi
        by_cases e : i = k - 1
        · subst e; rw [hb] at hg; cases hg
        · rcases nt _ done[k - 1] _ (hd _ hmem) (hd _ hlm) hp hg with h | h
          · have := List.pairwise_iff_getElem.mp hpw i (k - 1) (by omega) hk' (by omega)
            rcases this with h' | ⟨h', _⟩
            · rw [as _ _ (hd _ hmem) (hd _ hlm) h] at h'; cases h'
            · rw [h] at h'; cases h'
          · rw [hb] at h; cases h
  refine List.pairwise_append.mpr ⟨List.pairwise_append.mpr ⟨q1, by simp, fun a h b h' => ?_⟩, q2, fun a h b h' => ?_⟩
  · rw [List.mem_singleton.mp h']; exact hbefore a h
  · rcases List.mem_append.mp h with h | h
    · exact q3 a h b h'
    · rw [List.mem_singleton.mp h]; exact hafter b h'
theorem isort_spec {gt : Nat → Nat → Bool} {P : Nat → Prop} (as : ∀ a b, P a → P b → gt a b = true → gt b a = false) (nt : ∀ a b c, P a → P b → P c → gt a c = true → gt a b = true ∨ gt b c = true)
    {B : Nat → Nat → Prop} {l : List Nat} (hl : ∀ a ∈ l, P a) (hB : l.Pairwise B) : (isort gt l).Perm l ∧ (isort gt l).Pairwise (SR gt B) := by
  have key : ∀ (l done : List Nat), (∀ a ∈ l, P a) → l.Pairwise B → (∀ a ∈ done, P a) → (∀ a ∈ done, ∀ b ∈ l, B a b) → done.Pairwise (SR gt B) → (l.foldl (insAt gt) done).Perm (l ++ done) ∧ (l.foldl (insAt gt) done).Pairwise (SR gt B) := by
    intro l
    induction l with
    | nil => intro done _ _ _ _ h; exact ⟨List.Perm.refl _, h⟩
    | cons p l ih =>
      intro done h1 h2 h3 h4 h5
      have hperm := insAt_perm gt done p
      have h2' := List.pairwise_cons.mp h2
      have := ih (insAt gt done p) (fun a h => h1 a (List.mem_cons_of_mem _ h)) h2'.2 (fun a h => by
        rcases List.mem_cons.mp (hperm.mem_iff.mp h) with rfl | h
        · exact h1 _ List.mem_cons_self
        · exact h3 a h) (fun a h b hb => by
        rcases List.mem_cons.mp (hperm.mem_iff.mp h) with rfl | h
        · exact h2'.1 b hb
        · exact h4 a h b (List.mem_cons_of_mem _ hb)) (insAt_pw as nt (h1 p List.mem_cons_self) h3 (fun a h => h4 a h p List.mem_cons_self) h5)
      refine ⟨this.1.trans ?_, this.2⟩
      exact (List.Perm.append_left l hperm).trans List.perm_middle
  have := key l [] hl hB (fun _ h => nomatch h) (fun _ h => nomatch h) List.Pairwise.nil
  rw [List.append_nil] at this
  exact this
theorem sr_unique {gt : Nat → Nat → Bool} {P : Nat → Prop} (as : ∀ a b, P a → P b → gt a b = true → gt b a = false) {B : Nat → Nat → Prop} (hB : ∀ a b, B a b → ¬ B b a) {l l' : List Nat} (hl : ∀ a ∈ l, P a) (hp : l.Perm l') (h : l.Pairwise (SR gt B)) (h' : l'.Pairwise (SR gt B)) : l = l' := by
  refine List.Perm.eq_of_pairwise (fun a b ha hb h1 h2 => ?_) h h' hp
  exfalso
  have pa := hl a ha
  have pb := hl b (hp.mem_iff.mpr hb)
  rcases h1 with h1 | ⟨h1, b1⟩
  · rcases h2 with h2 | ⟨h2, _⟩
    · rw [as _ _ pa pb h2] at h1; cases h1
    · rw [h1] at h2; cases h2
  · rcases h2 with h2 | ⟨_, b2⟩
    · rw [h1] at h2; cases h2
    · exact hB _ _ b1 b2
end Mine
end SMA
section SMB
namespace Mine
structure Lin {α : Type} (lt : α → α → Prop) : Prop where
  irr : ∀ a, ¬ lt a a
  tr : ∀ a b c, lt a b → lt b c → lt a c
  tri : ∀ a b, lt a b ∨ a = b ∨ lt b a
def ltd {α : Type} (lt : α → α → Prop) (d : Int) (x y : α) : Prop := (d = 1 ∧ lt x y) ∨ (d = -1 ∧ lt y x)
section
variable {α : Type} {lt : α → α → Prop} (L : Lin lt) {d : Int}
include L
theorem ltd_irr (a : α) : ¬ ltd lt d a a := fun h => by rcases h with ⟨_, h⟩ | ⟨_, h⟩ <;> exact L.irr _ h
theorem ltd_tr {a b c : α} (h1 : ltd lt d a b) (h2 : ltd lt d b c) : ltd lt d a c := by
  rcases h1 with ⟨e, h1⟩ | ⟨e, h1⟩ <;> rcases h2 with ⟨e', h2⟩ | ⟨e', h2⟩
  · exact .inl ⟨e, L.tr _ _ _ h1 h2⟩
  · omega
  · omega
  · exact .inr ⟨e, L.tr _ _ _ h2 h1⟩
theorem ltd_tri (hd : d = 1 ∨ d = -1) (a b : α) : ltd lt d a b ∨ a = b ∨ ltd lt d b a := by
  rcases L.tri a b with h | h | h
  · rcases hd with e | e
    · exact .inl (.inl ⟨e, h⟩)
    · exact .inr (.inr (.inr ⟨e, h⟩))
  · exact .inr (.inl h)
  · rcases hd with e | e
    · exact .inr (.inr (.inl ⟨e, h⟩))
    · exact .inl (.inr ⟨e, h⟩)
end
def G {α : Type} (lt : α → α → Prop) (W : Nat → α) (n : Nat) (d : Nat → Int) (p q : Nat) : Prop := ∃ i, i < n ∧ (∀ j, j < i → W (p + j) = W (q + j)) ∧ ltd lt (d i) (W (q + i)) (W (p + i))
section
variable {α : Type} {lt : α → α → Prop} (L : Lin lt) {W : Nat → α} {n : Nat} {d : Nat → Int}
include L
theorem G_asymm {p q : Nat} (h : G lt W n d p q) (h' : G lt W n d q p) : False := by
  obtain ⟨i, _, h1, h2⟩ := h
  obtain ⟨j, _, h3, h4⟩ := h'
  rcases Nat.lt_trichotomy i j with e | e | e
  · rw [h3 i e] at h2; exact ltd_irr L _ h2
  · subst e; exact ltd_irr L _ (ltd_tr L h2 h4)
  · rw [h1 j e] at h4; exact ltd_irr L _ h4
theorem least_of {Q : Nat → Prop} : ∀ k, Q k → ∃ j, j ≤ k ∧ Q j ∧ ∀ i, i < j → ¬ Q i := by
  intro k
  induction k using Nat.strongRecOn with
  | _ k ih =>
    intro h
    by_cases e : ∃ i, i < k ∧ Q i
    · obtain ⟨i, hi, hq⟩ := e
      obtain ⟨j, h1, h2, h3⟩ := ih i hi hq
      exact ⟨j, by omega, h2, h3⟩
    · exact ⟨k, Nat.le_refl _, h, fun i hi hq => e ⟨i, hi, hq⟩⟩
theorem G_neg (hd : ∀ i, d i = 1 ∨ d i = -1) {p q r : Nat} (h : G lt W n d p r) : G lt W n d p q ∨ G lt W n d q r := by
  obtain ⟨i, hi, h1, h2⟩ := h
  by_cases e : ∃ j, j < i ∧ W (p + j) ≠ W (q + j)
  · obtain ⟨j0, hj0, hne0⟩ := e
    obtain ⟨j, hj, hne, hl⟩ := least_of (Q := fun j => W (p + j) ≠ W (q + j)) L j0 hne0
    have heq : ∀ i', i' < j → W (p + i') = W (q + i') := fun i' h => Classical.byContradiction (hl i' h)
    rcases ltd_tri L (hd j) (W (q + j)) (W (p + j)) with h | h | h
    · exact .inl ⟨j, by omega, heq, h⟩
    · exact absurd h.symm hne
    · refine .inr ⟨j, by omega, fun k hk => ?_, ?_⟩
      · rw [← heq k hk]; exact h1 k (by omega)
      · rw [← h1 j (by omega)]; exact h
  · have heq : ∀ j, j < i → W (p + j) = W (q + j) := fun j hj => Classical.byContradiction fun hne => e ⟨j, hj, hne⟩
    rcases ltd_tri L (hd i) (W (q + i)) (W (p + i)) with h | h | h
    · exact .inl ⟨i, hi, heq, h⟩
    · exact .inr ⟨i, hi, fun k hk => by rw [← heq k hk]; exact h1 k hk, by rw [h]; exact h2⟩
    · exact .inr ⟨i, hi, fun k hk => by rw [← heq k hk]; exact h1 k hk, ltd_tr L h2 h⟩
theorem G_eq (hd : ∀ i, d i = 1 ∨ d i = -1) {p q : Nat} (h1 : ¬ G lt W n d p q) (h2 : ¬ G lt W n d q p) : ∀ i, i < n → W (p + i) = W (q + i) := by
  intro i
  induction i using Nat.strongRecOn with
  | _ i ih =>
    intro hi
    rcases ltd_tri L (hd i) (W (q + i)) (W (p + i)) with h | h | h
    · exact absurd ⟨i, hi, fun j hj => ih j hj (by omega), h⟩ h1
    · exact h.symm
    · exact absurd ⟨i, hi, fun j hj => (ih j hj (by omega)).symm, h⟩ h2
theorem G_ne {p q : Nat} (h : ∀ i, i < n → W (p + i) = W (q + i)) : ¬ G lt W n d p q := by
  rintro ⟨i, hi, _, h2⟩
  rw [h i hi] at h2
  exact ltd_irr L _ h2
theorem G_shift {p q : Nat} (h : G lt W n d p q) (h0 : W p = W q) (hd : ∀ i, d (i + 1) = d i) : G lt W n d (p + 1) (q + 1) := by
  obtain ⟨i, hi, h1, h2⟩ := h
  cases i with
  | zero => simp only [Nat.add_zero] at h2; rw [h0] at h2; exact absurd h2 (ltd_irr L _)
  | succ i =>
    refine ⟨i, by omega, fun j hj => ?_, ?_⟩
    · have := h1 (j + 1) (by omega)
      rw [Nat.add_right_comm, Nat.add_right_comm q]
      exact this
    · rw [Nat.add_right_comm, Nat.add_right_comm p, ← hd i]; exact h2
theorem G_turn {p q : Nat} (h : G lt W n d p q) (h0 : W p = W q) (hd : ∀ i, d (i + 1) = - d i) : G lt W n d (q + 1) (p + 1) := by
  obtain ⟨i, hi, h1, h2⟩ := h
  cases i with
  | zero => simp only [Nat.add_zero] at h2; rw [h0] at h2; exact absurd h2 (ltd_irr L _)
  | succ i =>
    refine ⟨i, by omega, fun j hj => ?_, ?_⟩
    · have := h1 (j + 1) (by omega)
      rw [Nat.add_right_comm, Nat.add_right_comm p]
      exact this.symm
    · rw [Nat.add_right_comm, Nat.add_right_comm q]
      have e := hd i
      rcases h2 with ⟨e', h2⟩ | ⟨e', h2⟩
      · exact .inr ⟨by omega, h2⟩
      · exact .inl ⟨by omega, h2⟩
end
def Per {α : Type} (W : Nat → α) (t : Nat) : Prop := ∀ i, W (i + t) = W i
theorem per_sub {α : Type} {W : Nat → α} {s t : Nat} (hs : Per W s) (ht : Per W t) (h : s ≤ t) : Per W (t - s) := fun i => by
  rw [← hs (i + (t - s)), Nat.add_assoc, Nat.sub_add_cancel h, ht i]
theorem per_mul {α : Type} {W : Nat → α} {m : Nat} (h : Per W m) : ∀ k, Per W (k * m)
  | 0 => fun i => by rw [Nat.zero_mul, Nat.add_zero]
  | k + 1 => fun i => by rw [Nat.succ_mul, ← Nat.add_assoc, h, per_mul h k]
theorem per_mod {α : Type} {W : Nat → α} {m : Nat} (h : Per W m) (p : Nat) : W p = W (p % m) := by
  have := per_mul h (p / m) (p % m)
  rw [Nat.mul_comm, Nat.mod_add_div] at this
  exact this
theorem per_dvd {α : Type} {W : Nat → α} {m t : Nat} (hm : Per W m) (h0 : 0 < m) (hl : ∀ s, 0 < s → s < m → ¬ Per W s) (ht : Per W t) : t % m = 0 := by
  rcases Nat.eq_zero_or_pos (t % m) with h | h
  · exact h
  · refine absurd ?_ (hl (t % m) h (Nat.mod_lt _ h0))
    have e : t % m = t - (t / m) * m := by have := Nat.mod_add_div t m; rw [Nat.mul_comm] at this; omega
    rw [e]
    exact per_sub (per_mul hm _) ht (Nat.div_mul_le_self t m)
end Mine
end SMB
section SMC
namespace Mine
theorem perm_of_nodup {l l' : List Nat} (h : l.Nodup) (h' : l'.Nodup) (e : ∀ a, a ∈ l ↔ a ∈ l') : l.Perm l' := by
  rw [List.perm_iff_count]
  intro a
  rw [h.count, h'.count]
  simp only [e a]
def flip (tw : Bool) (c t : Nat) : Nat := if tw = true then t else c - 1 - t
def sg (m c : Nat) (tw : Bool) (p : Nat) : Nat := (p % m + 1) % m + m * flip tw c (p / m)
def sgi (m c : Nat) (tw : Bool) (p : Nat) : Nat := (p % m + (m - 1)) % m + m * flip tw c (p / m)
theorem flip_lt {tw : Bool} {c t : Nat} (h : t < c) : flip tw c t < c := by unfold flip; split <;> omega
theorem flip_flip {tw : Bool} {c t : Nat} (h : t < c) : flip tw c (flip tw c t) = t := by unfold flip; cases tw <;> simp <;> omega
theorem place_lt {m c a t : Nat} (ha : a < m) (ht : t < c) : a + m * t < m * c := by
  have : m * (t + 1) ≤ m * c := Nat.mul_le_mul_left m ht
  rw [Nat.mul_add] at this
  omega
theorem div_lt {m c p : Nat} (h0 : 0 < m) (h : p < m * c) : p / m < c := (Nat.div_lt_iff_lt_mul h0).mpr (by rw [Nat.mul_comm]; exact h)
theorem sg_lt {m c : Nat} {tw : Bool} {p : Nat} (h0 : 0 < m) (h : p < m * c) : sg m c tw p < m * c := place_lt (Nat.mod_lt _ h0) (flip_lt (div_lt h0 h))
theorem sgi_lt {m c : Nat} {tw : Bool} {p : Nat} (h0 : 0 < m) (h : p < m * c) : sgi m c tw p < m * c := place_lt (Nat.mod_lt _ h0) (flip_lt (div_lt h0 h))
theorem pl_mod {m a t : Nat} (h : a < m) : (a + m * t) % m = a := by rw [Nat.add_mul_mod_self_left, Nat.mod_eq_of_lt h]
theorem pl_div {m a t : Nat} (h : a < m) : (a + m * t) / m = t := by
  rw [Nat.add_mul_div_left _ _ (by omega), Nat.div_eq_of_lt h, Nat.zero_add]
theorem sg_mod {m c : Nat} {tw : Bool} {p : Nat} (h0 : 0 < m) : sg m c tw p % m = (p % m + 1) % m := pl_mod (Nat.mod_lt _ h0)
theorem sg_div {m c : Nat} {tw : Bool} {p : Nat} (h0 : 0 < m) : sg m c tw p / m = flip tw c (p / m) := pl_div (Nat.mod_lt _ h0)
theorem sg_sgi {m c : Nat} {tw : Bool} {p : Nat} (h0 : 0 < m) (h : p < m * c) : sg m c tw (sgi m c tw p) = p := by
  have e1 : sgi m c tw p % m = (p % m + (m - 1)) % m := pl_mod (Nat.mod_lt _ h0)
  have e2 : sgi m c tw p / m = flip tw c (p / m) := pl_div (Nat.mod_lt _ h0)
  unfold sg
  rw [e1, e2, flip_flip (div_lt h0 h), Nat.mod_add_mod, Nat.add_assoc, Nat.sub_add_cancel h0, Nat.add_mod_right, Nat.mod_mod, Nat.mod_add_div]
structure Ring {α : Type} (lt : α → α → Prop) (W : Nat → α) (n m c : Nat) (d : Nat → Int) (tw : Bool) : Prop where
  L : Lin lt
  pn : Per W n
  pm : Per W m
  m0 : 0 < m
  c0 : 0 < c
  least : ∀ s, 0 < s → s < m → ¬ Per W s
  nm : n = m * c
  d1 : ∀ i, d i = 1 ∨ d i = -1
  dt : tw = true → ∀ i, d (i + 1) = d i
  df : tw = false → ∀ i, d (i + 1) = - d i
section
variable {α : Type} {lt : α → α → Prop} {W : Nat → α} {n m c : Nat} {d : Nat → Int} {tw : Bool} (R : Ring lt W n m c d tw)
include R
theorem G_per {p q p' q' : Nat} (h : G lt W n d p q) (hp : p % m = p' % m) (hq : q % m = q' % m) : G lt W n d p' q' := by
  have key : ∀ a b, a % m = b % m → ∀ i, W (a + i) = W (b + i) := fun a b e i => by
    rw [per_mod R.pm (a + i), per_mod R.pm (b + i), Nat.add_mod, e, ← Nat.add_mod]
  obtain ⟨i, hi, h1, h2⟩ := h
  exact ⟨i, hi, fun j hj => by rw [← key p p' hp, ← key q q' hq]; exact h1 j hj, by rw [← key p p' hp, ← key q q' hq]; exact h2⟩
theorem eq_mod {p q : Nat} (hpq : p < q) (h : ∀ i, i < n → W (p + i) = W (q + i)) : p % m = q % m := by
  have hn : 0 < n := by rw [R.nm]; exact Nat.mul_pos R.m0 R.c0
  have hall : ∀ i, W (p + i) = W (q + i) := fun i => by
    have e : ∀ a, W (a + i) = W (a + i % n) := fun a => by
      have := per_mul R.pn (i / n) (a + i % n)
      rw [Nat.add_assoc, Nat.mul_comm, Nat.mod_add_div] at this
      exact this
    rw [e p, e q]
    exact h _ (Nat.mod_lt _ hn)
  have hper : Per W (q - p) := fun i => by
    have e1 := per_mul R.pn p i
    have e2 := per_mul R.pn p (i + (q - p))
    have hle : p ≤ p * n := Nat.le_mul_of_pos_right p hn
    have := hall (i + (p * n - p))
    have a1 : p + (i + (p * n - p)) = i + p * n := by omega
    have a2 : q + (i + (p * n - p)) = i + (q - p) + p * n := by omega
    rw [a1, a2, e1, e2] at this
    exact this.symm
  have hz := per_dvd R.pm R.m0 R.least hper
  have : q = p + (q - p) := by omega
  rw [this, Nat.add_mod, hz, Nat.add_zero, Nat.mod_mod]
def dummy : True := trivial
end
def PS {α : Type} (lt : α → α → Prop) (W : Nat → α) (n : Nat) (d : Nat → Int) (p q : Nat) : Prop := G lt W n d q p ∨ (¬ G lt W n d p q ∧ p < q)
section
variable {α : Type} {lt : α → α → Prop} {W : Nat → α} {n m c : Nat} {d : Nat → Int} {tw : Bool} (R : Ring lt W n m c d tw)
include R
theorem PS_anti {p q : Nat} (h : PS lt W n d p q) (h' : PS lt W n d q p) : False := by
  rcases h with h | ⟨h, e⟩
  · rcases h' with h' | ⟨h', _⟩
    · exact G_asymm R.L h h'
    · exact h' h
  · rcases h' with h' | ⟨_, e'⟩
    · exact h h'
    · omega
theorem PS_next {p q : Nat} (hp : p < n) (hq : q < n) (h : PS lt W n d p q) (h0 : W p = W q) : if tw = true then PS lt W n d (sg m c tw p) (sg m c tw q) else PS lt W n d (sg m c tw q) (sg m c tw p) := by
  have m1 : ∀ a, (a + 1) % m = sg m c tw a % m := fun a => by rw [sg_mod R.m0, Nat.mod_add_mod]
  by_cases hg : G lt W n d q p
  · cases tw with
    | true => exact .inl (G_per R (G_shift R.L hg h0.symm (R.dt rfl)) (m1 q) (m1 p))
    | false => exact .inl (G_per R (G_turn R.L hg h0.symm (R.df rfl)) (m1 p) (m1 q))
  · rcases h with h | ⟨h, hlt⟩
    · exact absurd h hg
    · have e := eq_mod R hlt (G_eq R.L R.d1 h hg)
      have hpd : p / m < c := div_lt R.m0 (by rw [← R.nm]; exact hp)
      have hqd : q / m < c := div_lt R.m0 (by rw [← R.nm]; exact hq)
      have hdiv : p / m < q / m := by
        have e1 := Nat.mod_add_div p m
        have e2 := Nat.mod_add_div q m
        rcases Nat.lt_or_ge (p / m) (q / m) with h | h
        · exact h
        · have := Nat.mul_le_mul_left m h
          omega
      have hng : ∀ a b, a % m = b % m → ¬ G lt W n d a b := fun a b e => by
        refine G_ne R.L fun i _ => ?_
        rw [per_mod R.pm (a + i), per_mod R.pm (b + i), Nat.add_mod, e, ← Nat.add_mod]
      have em : sg m c tw p % m = sg m c tw q % m := by rw [sg_mod R.m0, sg_mod R.m0, e]
      have key : ∀ a b, a % m = b % m → a / m < b / m → a < b := fun a b h1 h2 => by
        have e1 := Nat.mod_add_div a m
        have e2 := Nat.mod_add_div b m
        have := Nat.mul_le_mul_left m h2
        rw [Nat.mul_succ] at this
        have := R.m0
        omega
      cases tw with
      | true => exact .inr ⟨hng _ _ em, key _ _ em (by rw [sg_div R.m0, sg_div R.m0]; unfold flip; simp; exact hdiv)⟩
      | false => exact .inr ⟨hng _ _ em.symm, key _ _ em.symm (by rw [sg_div R.m0, sg_div R.m0]; unfold flip; simp; omega)⟩
theorem W_sg {p : Nat} : W (sg m c tw p + (n - 1)) = W p := by
  have hn : 0 < n := by rw [R.nm]; exact Nat.mul_pos R.m0 R.c0
  have e1 : (sg m c tw p + (n - 1)) % m = p % m := by
    rw [← Nat.mod_add_mod, sg_mod R.m0, Nat.mod_add_mod, Nat.add_assoc]
    have : 1 + (n - 1) = n := by omega
    rw [this, R.nm, Nat.add_mul_mod_self_left, Nat.mod_mod]
  rw [per_mod R.pm, e1, ← per_mod R.pm]
end
end Mine
end SMC
section SMD
namespace Mine
section
variable {α : Type} {lt : α → α → Prop} {W : Nat → α} {n m c : Nat} {d : Nat → Int} {tw : Bool} (R : Ring lt W n m c d tw) {gt : Nat → Nat → Bool} (hgt : ∀ p q, p < n → q < n → (gt p q = true ↔ G lt W n d p q))
include R hgt
theorem turns_perm : (isort gt (List.range n)).Perm (List.range n) ∧ (isort gt (List.range n)).Pairwise (PS lt W n d) := by
  have hs := isort_spec (gt := gt) (P := fun p => p < n) (B := fun a b => a < b) (l := List.range n) (fun a b ha hb h => by
    cases e : gt b a with
    | false => rfl
    | true => exact (G_asymm R.L ((hgt a b ha hb).mp h) ((hgt b a hb ha).mp e)).elim) (fun a b c ha hb hc h => by
    rcases G_neg R.L R.d1 (q := b) ((hgt a c ha hc).mp h) with h | h
    · exact .inl ((hgt a b ha hb).mpr h)
    · exact .inr ((hgt b c hb hc).mpr h)) (fun a h => List.mem_range.mp h) List.pairwise_lt_range
  refine ⟨hs.1, List.Pairwise.imp_of_mem (fun {a b} ha hb h => ?_) hs.2⟩
  have ha' : a < n := List.mem_range.mp (hs.1.mem_iff.mp ha)
  have hb' : b < n := List.mem_range.mp (hs.1.mem_iff.mp hb)
  rcases h with h | ⟨h, e⟩
  · exact .inl ((hgt b a hb' ha').mp h)
  · refine .inr ⟨fun hG => ?_, e⟩
    rw [(hgt a b ha' hb').mpr hG] at h
    cases h
theorem turns_mem {p : Nat} : p ∈ isort gt (List.range n) ↔ p < n := ((turns_perm R hgt).1.mem_iff).trans List.mem_range
theorem turns_len : (isort gt (List.range n)).length = n := by rw [(turns_perm R hgt).1.length_eq, List.length_range]
theorem turns_nodup : (isort gt (List.range n)).Nodup := (turns_perm R hgt).1.nodup_iff.mpr List.nodup_range
theorem pos_lt {a b : Nat} (ha : a < n) (hb : b < n) (h : PS lt W n d a b) : (isort gt (List.range n)).idxOf a < (isort gt (List.range n)).idxOf b := by
  have ma := (turns_mem R hgt).mpr ha
  have mb := (turns_mem R hgt).mpr hb
  have la := List.idxOf_lt_length_of_mem ma
  have lb := List.idxOf_lt_length_of_mem mb
  have ga := List.getElem_idxOf la
  have gb := List.getElem_idxOf lb
  rcases Nat.lt_trichotomy ((isort gt (List.range n)).idxOf a) ((isort gt (List.range n)).idxOf b) with e | e | e
  · exact e
  · exfalso
    have : a = b := by rw [← ga, ← gb]; congr 1
    subst this
    exact PS_anti R h h
  · exfalso
    have := List.pairwise_iff_getElem.mp (turns_perm R hgt).2 _ _ lb la e
    rw [ga, gb] at this
    exact PS_anti R h this
theorem turns_at {a : Nat} (ha : a < n) : (isort gt (List.range n)).getD ((isort gt (List.range n)).idxOf a) 0 = a := by
  have la := List.idxOf_lt_length_of_mem ((turns_mem R hgt).mpr ha)
  rw [List.getD_eq_getElem?_getD, List.getElem?_eq_getElem la, Option.getD_some, List.getElem_idxOf la]
theorem onward_eq {gt2 : Nat → Nat → Bool} (hgt2 : ∀ a b, a < n → b < n → (gt2 a b = true ↔ ltd lt (d 0) (W ((isort gt (List.range n)).getD b 0 + (n - 1))) (W ((isort gt (List.range n)).getD a 0 + (n - 1))))) :
    isort gt2 (if tw = true then List.range n else (List.range n).reverse) = (isort gt (List.range n)).map fun p => (isort gt (List.range n)).idxOf (sg m c tw p) := by
  have hn : 0 < n := by rw [R.nm]; exact Nat.mul_pos R.m0 R.c0
  have hlen := turns_len R hgt
  have hT := turns_perm R hgt
  have hmem := fun {p} => turns_mem R hgt (p := p)
  have hnd := turns_nodup R hgt
  have hat := fun {a} => turns_at R hgt (a := a)
  have hpos := fun {a b} => pos_lt R hgt (a := a) (b := b)
  generalize hTe : isort gt (List.range n) = T at *
  let B : Nat → Nat → Prop := fun a b => if tw = true then a < b else b < a
  have hB : ∀ a b, B a b → ¬ B b a := fun a b h h' => by
    show False
    simp only [B] at h h'
    cases tw <;> simp at h h' <;> omega
  have as : ∀ a b, a < n → b < n → gt2 a b = true → gt2 b a = false := fun a b ha hb h => by
    cases e : gt2 b a with
    | false => rfl
    | true => exact (ltd_irr R.L _ (ltd_tr R.L ((hgt2 a b ha hb).mp h) ((hgt2 b a hb ha).mp e))).elim
  have nt : ∀ a b c, a < n → b < n → c < n → gt2 a c = true → gt2 a b = true ∨ gt2 b c = true := fun a b c ha hb hc h => by
    have h := (hgt2 a c ha hc).mp h
    rcases ltd_tri R.L (R.d1 0) (W (T.getD b 0 + (n - 1))) (W (T.getD a 0 + (n - 1))) with h' | h' | h'
    · exact .inl ((hgt2 a b ha hb).mpr h')
    · exact .inr ((hgt2 b c hb hc).mpr (by rw [h']; exact h))
    · exact .inr ((hgt2 b c hb hc).mpr (ltd_tr R.L h h'))
  have hl0 : ∀ a ∈ (if tw = true then List.range n else (List.range n).reverse), a < n := fun a h => by
    cases tw <;> simpa using h
  have hB0 : (if tw = true then List.range n else (List.range n).reverse).Pairwise B := by
    simp only [B]
    cases tw with
    | true => simpa using List.pairwise_lt_range
    | false => simp only [Bool.false_eq_true, if_false]; rw [List.pairwise_reverse]; exact List.pairwise_lt_range
  have hs := isort_spec (gt := gt2) (P := fun p => p < n) (B := B) as nt hl0 hB0
  have hperm0 : (if tw = true then List.range n else (List.range n).reverse).Perm (List.range n) := by
    cases tw with
    | true => exact List.Perm.refl _
    | false => exact List.reverse_perm _
  have sgl : ∀ p, p < n → sg m c tw p < n := fun p h => by rw [R.nm] at h ⊢; exact sg_lt R.m0 h
  have sgil : ∀ p, p < n → sgi m c tw p < n := fun p h => by rw [R.nm] at h ⊢; exact sgi_lt R.m0 h
  have idl : ∀ p, p < n → T.idxOf p < n := fun p h => by rw [← hlen]; exact List.idxOf_lt_length_of_mem (hmem.mpr h)
  have head : ∀ p, p < n → W (T.getD (T.idxOf (sg m c tw p)) 0 + (n - 1)) = W p := fun p h => by
    rw [hat (sgl p h)]; exact W_sg R
  have hO : (T.map fun p => T.idxOf (sg m c tw p)).Pairwise (SR gt2 B) := by
    rw [List.pairwise_map]
    refine List.Pairwise.imp_of_mem (fun {p q} hp hq h => ?_) hT.2
    have hp := hmem.mp hp
    have hq := hmem.mp hq
    by_cases e0 : W p = W q
    · right
      refine ⟨?_, ?_⟩
      · cases e : gt2 (T.idxOf (sg m c tw p)) (T.idxOf (sg m c tw q)) with
        | false => rfl
        | true =>
          have := (hgt2 _ _ (idl _ (sgl _ hp)) (idl _ (sgl _ hq))).mp e
          rw [head _ hp, head _ hq, e0] at this
          exact (ltd_irr R.L _ this).elim
      · have := PS_next R hp hq h e0
        simp only [B]
        cases tw with
        | true => simp only [if_true] at this ⊢; exact hpos (sgl _ hp) (sgl _ hq) this
        | false => simp only [Bool.false_eq_true, if_false] at this ⊢; exact hpos (sgl _ hq) (sgl _ hp) this
    · left
      rw [hgt2 _ _ (idl _ (sgl _ hq)) (idl _ (sgl _ hp)), head _ hp, head _ hq]
      rcases h with ⟨i, hi, h1, h2⟩ | ⟨h, _⟩
      · cases i with
        | zero => exact h2
        | succ i => exact absurd (h1 0 (by omega)).symm e0
      · rcases ltd_tri R.L (R.d1 0) (W p) (W q) with h' | h' | h'
        · exact h'
        · exact absurd h' e0
        · exact absurd ⟨0, hn, fun j hj => absurd hj (Nat.not_lt_zero j), h'⟩ h
  have hOn : (T.map fun p => T.idxOf (sg m c tw p)).Nodup := by
    refine List.Pairwise.imp_of_mem (fun {a b} ha hb h => ?_) hO
    rintro rfl
    obtain ⟨p, hp, rfl⟩ := List.mem_map.mp ha
    have hl := idl _ (sgl _ (hmem.mp hp))
    rcases h with h | ⟨_, h⟩
    · exact (ltd_irr R.L _ ((hgt2 _ _ hl hl).mp h)).elim
    · exact hB _ _ h h
  have hOp : (T.map fun p => T.idxOf (sg m c tw p)).Perm (List.range n) := by
    refine perm_of_nodup hOn List.nodup_range fun a => ⟨fun h => ?_, fun h => ?_⟩
    · obtain ⟨p, hp, rfl⟩ := List.mem_map.mp h
      exact List.mem_range.mpr (idl _ (sgl _ (hmem.mp hp)))
    · have ha := List.mem_range.mp h
      have ha' : a < T.length := by rw [hlen]; exact ha
      have hm : T[a] < n := hmem.mp (List.getElem_mem _)
      refine List.mem_map.mpr ⟨sgi m c tw T[a], hmem.mpr (sgil _ hm), ?_⟩
      show T.idxOf (sg m c tw (sgi m c tw T[a])) = a
      rw [sg_sgi R.m0 (by rw [← R.nm]; exact hm)]
      exact hnd.idxOf_getElem a ha'
  exact sr_unique (P := fun p => p < n) as hB (fun a h => hl0 a (hs.1.mem_iff.mp h)) ((hs.1.trans hperm0).trans hOp.symm) hs.2 hO
end
def kth (n m : Nat) (tw : Bool) (k : Nat) : Nat := k % m + if tw = false ∧ k % 2 = 1 then n - m else 0
theorem kth_next {α : Type} {lt : α → α → Prop} {W : Nat → α} {n m c : Nat} {d : Nat → Int} {tw : Bool} (R : Ring lt W n m c d tw) (k : Nat) : sg m c tw (kth n m tw k) = kth n m tw (k + 1) := by
  have hm := R.m0
  have hc := R.c0
  have hnm : n - m = m * (c - 1) := by rw [R.nm, Nat.mul_sub, Nat.mul_one]
  have e : ∀ k, kth n m tw k = k % m + m * (if tw = false ∧ k % 2 = 1 then c - 1 else 0) := fun k => by
    unfold kth
    rw [hnm]
    split <;> simp
  have hk : k % m < m := Nat.mod_lt _ hm
  rw [e k, e (k + 1)]
  unfold sg
  rw [pl_mod hk, pl_div hk, Nat.mod_add_mod]
  congr 2
  unfold flip
  cases tw with
  | true => simp
  | false =>
    have : k % 2 = 0 ∨ k % 2 = 1 := by omega
    rcases this with h | h
    · have h' : (k + 1) % 2 = 1 := by omega
      simp [h, h']
    · have h' : (k + 1) % 2 = 0 := by omega
      simp [h, h']
theorem kth_lt {α : Type} {lt : α → α → Prop} {W : Nat → α} {n m c : Nat} {d : Nat → Int} {tw : Bool} (R : Ring lt W n m c d tw) (k : Nat) : kth n m tw k < n := by
  have hm := R.m0
  have hk : k % m < m := Nat.mod_lt _ hm
  have : m * 1 ≤ m * c := Nat.mul_le_mul_left m R.c0
  have := R.nm
  unfold kth
  split <;> omega
end Mine
end SMD
section SLA
open PySem PySem.W PyProof.Rows PySem.Calls
set_option maxRecDepth 100000
namespace Mine
noncomputable section
theorem f2_piece (l : List PyData) : F2 nPiece l = runF F1 st_piece pPiece l := by
  unfold F2
  rw [withF_other (by decide +kernel), withF_other (by decide +kernel), withF_same]
theorem f2_prep (l : List PyData) : F2 nPrep l = runF F1 st_prepared pPrep l := by
  unfold F2
  rw [withF_other (by decide +kernel), withF_same]
theorem f2_sorted (l : List PyData) : F2 nSorted l = runF F1 st_sorted pSorted l := by
  unfold F2
  rw [withF_same]
theorem f2_f1 {f : Str} {l : List PyData} (h : (decide (f ≠ nSorted) && decide (f ≠ nPrep) && decide (f ≠ nPiece)) = true) : F2 f l = F1 f l := by
  simp only [Bool.and_eq_true, decide_eq_true_eq] at h
  unfold F2
  rw [withF_other h.1.1, withF_other h.1.2, withF_other h.2]
theorem f2_word (l : List PyData) : F2 nWord l = runF F0 st_word pWord l := (f2_f1 (by decide +kernel)).trans (f1_word l)
theorem f2_len (l : List PyData) : F2 nLen l = bltD nLen l := (f2_f1 (by decide +kernel)).trans (f1_len l)
abbrev nSum : Str := Str.ofString "sum"
abbrev nMin : Str := Str.ofString "min"
abbrev nSrt : Str := Str.ofString "sorted"
abbrev nTuple : Str := Str.ofString "tuple"
theorem f2_sum (l : List PyData) : F2 nSum l = bltD nSum l := (f2_f1 (by decide +kernel)).trans (f1_blt (by decide +kernel))
theorem f2_min (l : List PyData) : F2 nMin l = bltD nMin l := (f2_f1 (by decide +kernel)).trans (f1_blt (by decide +kernel))
theorem f2_srt (l : List PyData) : F2 nSrt l = bltD nSrt l := (f2_f1 (by decide +kernel)).trans (f1_blt (by decide +kernel))
theorem f2_tuple (l : List PyData) : F2 nTuple l = bltD nTuple l := (f2_f1 (by decide +kernel)).trans (f1_blt (by decide +kernel))
theorem g_piece : nPiece ≠ sList ∧ nPiece ≠ sTC ∧ nPiece ≠ sLower ∧ nPiece ≠ sIn ∧ nPiece ≠ sGetB3 := by decide +kernel
theorem g_prep : nPrep ≠ sList ∧ nPrep ≠ sTC ∧ nPrep ≠ sLower ∧ nPrep ≠ sIn ∧ nPrep ≠ sGetB3 := by decide +kernel
theorem g_sorted : nSorted ≠ sList ∧ nSorted ≠ sTC ∧ nSorted ≠ sLower ∧ nSorted ≠ sIn ∧ nSorted ≠ sGetB3 := by decide +kernel
theorem g_sum : nSum ≠ sList ∧ nSum ≠ sTC ∧ nSum ≠ sLower ∧ nSum ≠ sIn ∧ nSum ≠ sGetB3 := by decide +kernel
theorem g_min : nMin ≠ sList ∧ nMin ≠ sTC ∧ nMin ≠ sLower ∧ nMin ≠ sIn ∧ nMin ≠ sGetB3 := by decide +kernel
theorem g_srt : nSrt ≠ sList ∧ nSrt ≠ sTC ∧ nSrt ≠ sLower ∧ nSrt ≠ sIn ∧ nSrt ≠ sGetB3 := by decide +kernel
theorem g_tuple : nTuple ≠ sList ∧ nTuple ≠ sTC ∧ nTuple ≠ sLower ∧ nTuple ≠ sIn ∧ nTuple ≠ sGetB3 := by decide +kernel
theorem intsD_map : ∀ l : List Int, intsD (l.map .int) = some l
  | [] => rfl
  | x :: r => by simp only [List.map_cons, intsD, intsD_map r, Option.map_some]
theorem blt_sum (l : List Int) : bltD nSum [.list (l.map .int)] = some (.int l.sum) := by
  show (intsD (l.map .int)).map (fun is => PyData.int is.sum) = _
  rw [intsD_map]; rfl
theorem blt_min {l : List Int} (h : l ≠ []) : bltD nMin [.list (l.map .int)] = some (.int (minI l)) := by
  show (intsD (l.map .int)).bind (fun is => if is = [] then none else some (PyData.int (minI is))) = _
  rw [intsD_map, Option.bind_some, if_neg h]
theorem blt_srt {l : List Str} (h : l.length < 64) : bltD nSrt [.list (l.map .str)] = some (.list ((sortS l).map .str)) := by
  show (strsD (l.map .str)).bind (fun ss => if ss.length < 64 then some (PyData.list ((sortS ss).map .str)) else none) = _
  rw [strsD_map, Option.bind_some, if_pos h]
theorem blt_tuple {l : List PyData} (h : l.length ≤ 1000000) : bltD nTuple [.list l] = some (.tuple l) := by
  show (if l.length ≤ 1000000 then some (PyData.tuple l) else none) = _
  rw [if_pos h]
def FitS (x : Str) : Prop := PyData.strOk x = true
theorem lay_strs : ∀ {l : List Str}, (∀ x ∈ l, FitS x) → PyData.canLayAll0 (l.map .str) = true
  | [], _ => rfl
  | x :: r, h => by
    simp only [List.map_cons, PyData.canLayAll0, PyData.canLay0, Bool.and_eq_true]
    exact ⟨h x List.mem_cons_self, lay_strs fun y hy => h y (List.mem_cons_of_mem _ hy)⟩
theorem depth_strs : ∀ l : List Str, PyData.depthAll (l.map .str) = 0
  | [] => rfl
  | x :: r => by simp only [List.map_cons, PyData.depthAll, PyData.depth, depth_strs r, Nat.max_self]
theorem eqv_strs : ∀ a b : List Str, PyData.eqvAll (a.map .str) (b.map .str) = decide (a = b)
  | [], [] => by simp [PyData.eqvAll]
  | [], _ :: _ => by simp [PyData.eqvAll]
  | _ :: _, [] => by simp [PyData.eqvAll]
  | x :: a, y :: b => by
    simp only [List.map_cons, PyData.eqvAll, PyData.eqv, eqv_strs a b, List.cons.injEq, Bool.decide_and]
    rfl
theorem ne_strs {a b : List Str} (ha : ∀ x ∈ a, FitS x) (hb : ∀ x ∈ b, FitS x) : cmpD .NotEq (.list (a.map .str)) (.list (b.map .str)) = some (!decide (a = b)) := by
  simp only [cmpD, PyData.canLay0, lay_strs ha, lay_strs hb, PyData.depth, depth_strs, PyData.eqv, eqv_strs]
  rfl
theorem eq_strs {a b : List Str} (ha : ∀ x ∈ a, FitS x) (hb : ∀ x ∈ b, FitS x) : cmpD .Eq (.list (a.map .str)) (.list (b.map .str)) = some (decide (a = b)) := by
  simp only [cmpD, PyData.canLay0, lay_strs ha, lay_strs hb, PyData.depth, depth_strs, PyData.eqv, eqv_strs]
  rfl
theorem ne_str {a b : Str} (ha : FitS a) (hb : FitS b) : cmpD .NotEq (.str a) (.str b) = some (!decide (a = b)) := by
  have h : (PyData.canLay0 (.str a) && PyData.canLay0 (.str b) && decide (PyData.depth (.str a) ≤ 8)) = true := by
    rw [Bool.and_eq_true, Bool.and_eq_true]
    exact ⟨⟨ha, hb⟩, rfl⟩
  exact if_pos h
theorem ne_ints (a : List Int) : cmpD .NotEq (.list (a.map .int)) (.list []) = some (!a.isEmpty) := by
  simp only [cmpD, PyData.canLay0, PyProof.Rows.canLayAll_ints, PyData.depth, PyProof.Rows.depthAll_ints]
  cases a <;> rfl
theorem fit_of {x : Str} (h : ∀ c ∈ x.cps.toList, c < 0x110000) : FitS x := by
  unfold FitS PyData.strOk
  rw [Array.all_eq_true']
  intro c hc
  exact decide_eq_true (h c (Array.mem_toList_iff.mpr hc))
theorem fit_wd (x : Int) : FitS (wd x) := fit_of fun c hc => by
  have : ∀ c ∈ letters, c < 0x110000 := by decide
  exact this c ((wd_letters x).1 c hc)
theorem sliceL_1 (xs : List PyData) : sliceL xs none none (some 1) = xs := by
  have : sliceL xs none none (some 1) = (sliceRange 0 xs.length 1).filterMap (xs[·]?) := by
    unfold sliceL
    have e : sliceBounds none none (some (1 : Int)) xs.length = (0, (xs.length : Int), 1) := by unfold sliceBounds; simp
    rw [e]
  rw [this]
  have e := sliceRange_one 0 xs.length
  have e' : ((0 : Nat) : Int) = 0 := rfl
  rw [e'] at e
  rw [e]
  have := pick_run xs.toArray 0 (xs.length - 0)
  simp at this ⊢
  exact this
theorem sliceRange_back (n : Nat) : sliceRange ((n : Int) - 1) (-1) (-1) = (List.range n).reverse := by
  unfold sliceRange
  have h0 : ¬ ((-1 : Int) > 0) := by omega
  simp only [h0, if_false]
  have hc : (if (n : Int) - 1 > -1 then ((n : Int) - 1 - -1 - -1 - 1) / (- -1) else 0).toNat = n := by
    split
    · have : ((n : Int) - 1 - -1 - -1 - 1) = n := by omega
      rw [this]; simp
    · omega
  rw [hc]
  apply List.ext_getElem (by simp)
  intro i h1 h2
  simp at h1
  simp
  omega
theorem sliceL_m1 (xs : List PyData) : sliceL xs none none (some (-1)) = xs.reverse := by
  have : sliceL xs none none (some (-1)) = (sliceRange ((xs.length : Int) - 1) (-1) (-1)).filterMap (xs[·]?) := by
    unfold sliceL
    have e : sliceBounds none none (some (-1 : Int)) xs.length = ((xs.length : Int) - 1, -1, -1) := by unfold sliceBounds; simp
    rw [e]
  rw [this, sliceRange_back, List.filterMap_reverse]
  congr 1
  have := pick_run xs.toArray 0 xs.length
  simp at this
  exact this
end
end Mine
end SLA
section SLB
open PySem PySem.W PyProof.Rows PySem.Calls
set_option maxRecDepth 100000
namespace Mine
noncomputable section
abbrev eS : Str := Str.ofString ""
def LtS (x y : Str) : Prop := ltS x y = true
theorem linS : Lin LtS where
  irr := fun a h => by unfold LtS ltS at h; exact List.lt_irrefl _ (of_decide_eq_true h)
  tr := fun a b c h1 h2 => by
    unfold LtS ltS at *
    exact decide_eq_true (List.lt_trans (of_decide_eq_true h1) (of_decide_eq_true h2))
  tri := fun a b => by
    by_cases h : LtS a b
    · exact .inl h
    · by_cases h' : LtS b a
      · exact .inr (.inr h')
      · refine .inr (.inl ?_)
        refine leS_anti a b ?_ ?_
        · unfold leS; unfold LtS at h'; simpa using h'
        · unfold leS; unfold LtS at h; simpa using h
theorem cmpK_G {L R : List PyData} {f g : Nat → Str} {d : Nat → Int} (hd : ∀ i, d i = 1 ∨ d i = -1) : ∀ (c s : Nat), (∀ i, s ≤ i → i < s + c → L.getD i .none = .str (f i) ∧ R.getD i .none = .str (g i)) →
    ((cmpK L R ((List.range' s c).map fun k => (k, d k))).getD 0 = 1 ↔ ∃ i, s ≤ i ∧ i < s + c ∧ (∀ j, s ≤ j → j < i → f j = g j) ∧ ltd LtS (d i) (g i) (f i))
  | 0, s, _ => by
    simp only [List.range'_zero, List.map_nil, cmpK]
    constructor
    · intro h; simp at h
    · rintro ⟨i, h1, h2, _⟩; omega
  | c + 1, s, H => by
    rw [List.range'_succ, List.map_cons]
    unfold cmpK
    obtain ⟨e1, e2⟩ := H s (Nat.le_refl _) (by omega)
    rw [e1, e2]
    have ih := cmpK_G (L := L) (R := R) (f := f) (g := g) hd c (s + 1) (fun i h1 h2 => H i (by omega) (by omega))
    have l1 : ltD (.str (f s)) (.str (g s)) = ltS (f s) (g s) := rfl
    have l2 : ltD (.str (g s)) (.str (f s)) = ltS (g s) (f s) := rfl
    rw [l1, l2]
    rcases linS.tri (f s) (g s) with h | h | h
    · rw [if_pos (show ltS (f s) (g s) = true from h)]
      simp only [Option.getD_some]
      constructor
      · intro e
        exact ⟨s, Nat.le_refl _, by omega, fun j _ _ => by omega, .inr ⟨by omega, h⟩⟩
      · rintro ⟨i, i1, i2, i3, i4⟩
        by_cases e : i = s
        · subst e
          rcases i4 with ⟨_, i4⟩ | ⟨i5, i4⟩
          · exact (linS.irr _ (linS.tr _ _ _ i4 h)).elim
          · omega
        · have := i3 s (Nat.le_refl _) (by omega)
          rw [this] at h; exact (linS.irr _ h).elim
    · have n1 : ¬ ltS (f s) (g s) = true := by rw [h]; exact linS.irr _
      have n2 : ¬ ltS (g s) (f s) = true := by rw [h]; exact linS.irr _
      rw [if_neg n1, if_neg n2, ih]
      constructor
      · rintro ⟨i, i1, i2, i3, i4⟩
        refine ⟨i, by omega, by omega, fun j j1 j2 => ?_, i4⟩
        by_cases e : j = s
        · rw [e]; exact h
        · exact i3 j (by omega) j2
      · rintro ⟨i, i1, i2, i3, i4⟩
        by_cases e : i = s
        · subst e; rw [h] at i4; exact (ltd_irr linS _ i4).elim
        · exact ⟨i, by omega, by omega, fun j j1 j2 => i3 j (by omega) j2, i4⟩
    · have n1 : ¬ ltS (f s) (g s) = true := fun h' => linS.irr _ (linS.tr _ _ _ h' h)
      rw [if_neg n1, if_pos (show ltS (g s) (f s) = true from h)]
      simp only [Option.getD_some]
      constructor
      · intro e
        exact ⟨s, Nat.le_refl _, by omega, fun j _ _ => by omega, .inl ⟨e, h⟩⟩
      · rintro ⟨i, i1, i2, i3, i4⟩
        by_cases e : i = s
        · subst e
          rcases i4 with ⟨i5, _⟩ | ⟨_, i4⟩
          · exact i5
          · exact (linS.irr _ (linS.tr _ _ _ i4 h)).elim
        · have := i3 s (Nat.le_refl _) (by omega)
          rw [this] at h; exact (linS.irr _ h).elim
def Wf (ws : List Str) (p : Nat) : Str := ws.getD (p % ws.length) eS
def rot (ws : List Str) (k : Nat) : List Str := ws.drop k ++ ws.take k
def rowOf (ws ps : List Str) (k : Nat) : List PyData := (rot ws k ++ [ps.getD k eS]).map .str
def rowsL (ws ps : List Str) : List (List PyData) := (List.range ws.length).map (rowOf ws ps)
def dfun (up turn : Int) (i : Nat) : Int := if i % 2 = 0 then up else up * turn
def keysL (n : Nat) (up turn : Int) : List (Nat × Int) := (List.range n).map fun k => (k, dfun up turn k)
theorem rot_length (ws : List Str) (k : Nat) (h : k ≤ ws.length) : (rot ws k).length = ws.length := by unfold rot; simp; omega
theorem rot_at {ws : List Str} {k i : Nat} (hk : k ≤ ws.length) (hi : i < ws.length) : (rot ws k)[i]? = some (Wf ws (k + i)) := by
  unfold rot Wf
  rw [List.getElem?_append, List.length_drop]
  split
  · rename_i h
    rw [List.getElem?_drop, Nat.mod_eq_of_lt (by omega), List.getD_eq_getElem?_getD, List.getElem?_eq_getElem (by omega), Option.getD_some]
  · rename_i h
    have e : (k + i) % ws.length = i - (ws.length - k) := by
      rw [Nat.mod_eq_sub_mod (by omega), Nat.mod_eq_of_lt (by omega)]; omega
    rw [List.getElem?_take, if_pos (by omega), e, List.getD_eq_getElem?_getD, List.getElem?_eq_getElem (by omega), Option.getD_some]
theorem row_at {ws ps : List Str} {k i : Nat} (hk : k < ws.length) (hi : i < ws.length) : (rowOf ws ps k).getD i .none = .str (Wf ws (k + i)) := by
  unfold rowOf
  rw [List.getD_eq_getElem?_getD, List.getElem?_map, List.getElem?_append_left (by rw [rot_length _ _ (by omega)]; exact hi), rot_at (by omega) hi]
  rfl
theorem rowsL_at {ws ps : List Str} {k : Nat} (hk : k < ws.length) : (rowsL ws ps).getD k [] = rowOf ws ps k := by
  unfold rowsL
  rw [List.getD_eq_getElem?_getD, List.getElem?_map, List.getElem?_range hk]
  rfl
theorem rowsL_len (ws ps : List Str) : (rowsL ws ps).length = ws.length := by unfold rowsL; simp
theorem rowOf_len {ws ps : List Str} {k : Nat} (hk : k ≤ ws.length) : (rowOf ws ps k).length = ws.length + 1 := by unfold rowOf; simp [rot_length _ _ hk]
theorem rows_ok {ws ps : List Str} (hn : ws.length ≤ 8) (up turn : Int) : RowsOk (rowsL ws ps) (keysL ws.length up turn) where
  len := by rw [rowsL_len]; omega
  rlen := fun p hp => by rw [rowsL_len] at hp; rw [rowsL_at hp, rowOf_len (by omega)]; omega
  kl := by unfold keysL; simp; omega
  ok := fun p hp q hq k hk => by
    rw [rowsL_len] at hp hq
    unfold keysL at hk
    obtain ⟨i, hi, rfl⟩ := List.mem_map.mp hk
    have hi := List.mem_range.mp hi
    simp only
    rw [rowsL_at hp, rowsL_at hq, row_at hp hi, row_at hq hi, rowOf_len (by omega)]
    exact ⟨by omega, rfl⟩
theorem dfun_1 {up turn : Int} (hu : up = 1 ∨ up = -1) (ht : turn = 1 ∨ turn = -1) (i : Nat) : dfun up turn i = 1 ∨ dfun up turn i = -1 := by
  unfold dfun
  split
  · exact hu
  · rcases hu with rfl | rfl <;> rcases ht with rfl | rfl <;> simp
theorem rows_gt {ws ps : List Str} {up turn : Int} (hu : up = 1 ∨ up = -1) (ht : turn = 1 ∨ turn = -1) {p q : Nat} (hp : p < ws.length) (hq : q < ws.length) :
    rowGt (rowsL ws ps) (keysL ws.length up turn) p q = true ↔ G LtS (Wf ws) ws.length (dfun up turn) p q := by
  unfold rowGt keysL
  rw [decide_eq_true_iff, rowsL_at hp, rowsL_at hq, List.range_eq_range', cmpK_G (f := fun i => Wf ws (p + i)) (g := fun i => Wf ws (q + i)) (dfun_1 hu ht) ws.length 0 (fun i _ hi => ⟨row_at hp (by omega), row_at hq (by omega)⟩)]
  unfold G
  constructor
  · rintro ⟨i, _, i2, i3, i4⟩
    exact ⟨i, by omega, fun j hj => i3 j (Nat.zero_le _) hj, i4⟩
  · rintro ⟨i, i2, i3, i4⟩
    exact ⟨i, Nat.zero_le _, by omega, fun j _ hj => i3 j hj, i4⟩
theorem Wf_per {ws : List Str} : Per (Wf ws) ws.length := fun i => by unfold Wf; rw [Nat.add_mod_right]
theorem rot_per {ws : List Str} {t : Nat} (ht : t ≤ ws.length) (h0 : 0 < ws.length) : rot ws t = ws ↔ Per (Wf ws) t := by
  constructor
  · intro h i
    have e : ∀ i, i < ws.length → Wf ws (i + t) = Wf ws i := fun i hi => by
      have := rot_at ht hi
      rw [h, List.getElem?_eq_getElem hi] at this
      rw [Nat.add_comm, ← Option.some.inj this]
      unfold Wf
      rw [Nat.mod_eq_of_lt hi, List.getD_eq_getElem?_getD, List.getElem?_eq_getElem hi, Option.getD_some]
    have e1 := e _ (Nat.mod_lt i h0)
    rw [per_mod Wf_per (i % ws.length + t), Nat.mod_add_mod, ← per_mod Wf_per (i + t), ← per_mod Wf_per i] at e1
    exact e1
  · intro h
    apply List.ext_getElem?
    intro i
    by_cases hi : i < ws.length
    · rw [rot_at ht hi, Nat.add_comm, h i, List.getElem?_eq_getElem hi]
      unfold Wf
      rw [Nat.mod_eq_of_lt hi, List.getD_eq_getElem?_getD, List.getElem?_eq_getElem hi, Option.getD_some]
    · rw [List.getElem?_eq_none (by rw [rot_length _ _ ht]; omega), List.getElem?_eq_none (by omega)]
theorem ring_of {ws : List Str} {m : Nat} (h0 : 0 < m) (hm : m ≤ ws.length) (hp : rot ws m = ws) (hl : ∀ t, 0 < t → t < m → rot ws t ≠ ws) {up turn : Int} (hu : up = 1 ∨ up = -1) (ht : turn = 1 ∨ turn = -1) :
    Ring LtS (Wf ws) ws.length m (ws.length / m) (dfun up turn) (decide (turn = 1)) := by
  have hn : 0 < ws.length := by omega
  have pm := (rot_per hm hn).mp hp
  have least : ∀ s, 0 < s → s < m → ¬ Per (Wf ws) s := fun s h1 h2 h3 => hl s h1 h2 ((rot_per (by omega) hn).mpr h3)
  have hz := per_dvd pm h0 least Wf_per
  have e := Nat.mod_add_div ws.length m
  rw [hz, Nat.zero_add] at e
  refine ⟨linS, Wf_per, pm, h0, ?_, least, e.symm, dfun_1 hu ht, fun h i => ?_, fun h i => ?_⟩
  · exact Nat.div_pos hm h0
  · have h := of_decide_eq_true h
    unfold dfun
    rw [h, Int.mul_one]
    split <;> split <;> rfl
  · have h : turn = -1 := by
      have := of_decide_eq_false h
      omega
    unfold dfun
    rw [h]
    have : i % 2 = 0 ∨ i % 2 = 1 := by omega
    rcases this with hi | hi
    · have h' : (i + 1) % 2 = 1 := by omega
      simp [hi, h']
    · have h' : (i + 1) % 2 = 0 := by omega
      simp [hi, h']
end
end Mine
end SLB
section SLC
open PySem PySem.W PyProof.Rows PySem.Calls
set_option maxRecDepth 100000
namespace Mine
noncomputable section
def turnsL (ws ps : List Str) (up turn : Int) : List Nat := isort (rowGt (rowsL ws ps) (keysL ws.length up turn)) (List.range ws.length)
def prevS (n : Nat) (l : List Str) (p : Nat) : Str := l.getD ((p + (n - 1)) % n) eS
def keptL (ws ps : List Str) (up turn : Int) : List Str := (turnsL ws ps up turn).map (prevS ws.length ps)
def headOf (ws ps : List Str) (p : Nat) : List PyData := [.str (prevS ws.length ws p), .str (prevS ws.length ps p)]
def headsL (ws ps : List Str) (up turn : Int) : List (List PyData) := (turnsL ws ps up turn).map (headOf ws ps)
def startL (n : Nat) (turn : Int) : List Nat := if decide (turn = 1) = true then List.range n else (List.range n).reverse
def onwardL (ws ps : List Str) (up turn : Int) : List Nat := isort (rowGt (headsL ws ps up turn) [(0, up)]) (startL ws.length turn)
section
variable {ws ps : List Str} {m : Nat} {up turn : Int} (hu : up = 1 ∨ up = -1) (ht : turn = 1 ∨ turn = -1) (R : Ring LtS (Wf ws) ws.length m (ws.length / m) (dfun up turn) (decide (turn = 1)))
include hu ht R
theorem hgtL : ∀ p q, p < ws.length → q < ws.length → (rowGt (rowsL ws ps) (keysL ws.length up turn) p q = true ↔ G LtS (Wf ws) ws.length (dfun up turn) p q) := fun _ _ hp hq => rows_gt hu ht hp hq
theorem tl_len : (turnsL ws ps up turn).length = ws.length := turns_len R (hgtL hu ht R)
theorem tl_mem {p : Nat} : p ∈ turnsL ws ps up turn ↔ p < ws.length := turns_mem R (hgtL hu ht R)
theorem head_at {a : Nat} (ha : a < ws.length) : (headsL ws ps up turn).getD a [] = headOf ws ps ((turnsL ws ps up turn).getD a 0) := by
  have hl : a < (turnsL ws ps up turn).length := by rw [tl_len hu ht R]; exact ha
  unfold headsL
  rw [List.getD_eq_getElem?_getD, List.getElem?_map, List.getElem?_eq_getElem hl, List.getD_eq_getElem?_getD, List.getElem?_eq_getElem hl]
  rfl
theorem heads_len : (headsL ws ps up turn).length = ws.length := by unfold headsL; rw [List.length_map, tl_len hu ht R]
theorem heads_ok (hn : ws.length ≤ 8) : RowsOk (headsL ws ps up turn) [(0, up)] where
  len := by rw [heads_len hu ht R]; omega
  rlen := fun p hp => by rw [heads_len hu ht R] at hp; rw [head_at hu ht R hp]; show 2 ≤ 1000; omega
  kl := by simp
  ok := fun p hp q hq k hk => by
    rw [heads_len hu ht R] at hp hq
    rw [head_at hu ht R hp, head_at hu ht R hq, List.mem_singleton.mp hk]
    exact ⟨by show 0 < 2; omega, rfl⟩
theorem heads_gt (a b : Nat) (ha : a < ws.length) (hb : b < ws.length) : rowGt (headsL ws ps up turn) [(0, up)] a b = true ↔ ltd LtS (dfun up turn 0) (Wf ws ((turnsL ws ps up turn).getD b 0 + (ws.length - 1))) (Wf ws ((turnsL ws ps up turn).getD a 0 + (ws.length - 1))) := by
  have e := cmpK_G (L := headOf ws ps ((turnsL ws ps up turn).getD a 0)) (R := headOf ws ps ((turnsL ws ps up turn).getD b 0)) (f := fun _ => Wf ws ((turnsL ws ps up turn).getD a 0 + (ws.length - 1))) (g := fun _ => Wf ws ((turnsL ws ps up turn).getD b 0 + (ws.length - 1))) (d := fun _ => up) (fun _ => hu) 1 0 (fun i _ hi => by
    have : i = 0 := by omega
    subst this
    exact ⟨rfl, rfl⟩)
  unfold rowGt
  rw [decide_eq_true_iff, head_at hu ht R ha, head_at hu ht R hb]
  have e' : (cmpK (headOf ws ps ((turnsL ws ps up turn).getD a 0)) (headOf ws ps ((turnsL ws ps up turn).getD b 0)) [(0, up)]).getD 0 = 1 ↔ _ := e
  rw [e']
  constructor
  · rintro ⟨i, _, _, _, h⟩; exact h
  · intro h; exact ⟨0, Nat.le_refl _, by omega, fun _ _ h => by omega, h⟩
theorem onward_is : onwardL ws ps up turn = (turnsL ws ps up turn).map fun p => (turnsL ws ps up turn).idxOf (sg m (ws.length / m) (decide (turn = 1)) p) :=
  onward_eq R (hgtL hu ht R) (heads_gt hu ht R)
theorem onward_len : (onwardL ws ps up turn).length = ws.length := by rw [onward_is hu ht R, List.length_map, tl_len hu ht R]
theorem onward_at {p : Nat} (hp : p < ws.length) : (onwardL ws ps up turn).getD ((turnsL ws ps up turn).idxOf p) 0 = (turnsL ws ps up turn).idxOf (sg m (ws.length / m) (decide (turn = 1)) p) := by
  have hl := List.idxOf_lt_length_of_mem ((tl_mem (ps := ps) hu ht R).mpr hp)
  rw [onward_is hu ht R, List.getD_eq_getElem?_getD, List.getElem?_map, List.getElem?_eq_getElem hl, List.getElem_idxOf hl]
  rfl
theorem kept_at {p : Nat} (hp : p < ws.length) : (keptL ws ps up turn).getD ((turnsL ws ps up turn).idxOf p) eS = prevS ws.length ps p := by
  have hl := List.idxOf_lt_length_of_mem ((tl_mem (ps := ps) hu ht R).mpr hp)
  unfold keptL
  rw [List.getD_eq_getElem?_getD, List.getElem?_map, List.getElem?_eq_getElem hl, List.getElem_idxOf hl]
  rfl
theorem first_words : (turnsL ws ps up turn).map (fun p => ws.getD p eS) = if up = 1 then sortS ws else (sortS ws).reverse := by
  have hT := turns_perm R (hgtL (ps := ps) hu ht R)
  have hn : 0 < ws.length := by rw [R.nm]; exact Nat.mul_pos R.m0 R.c0
  have hWf : ∀ p, p < ws.length → ws.getD p eS = Wf ws p := fun p h => by unfold Wf; rw [Nat.mod_eq_of_lt h]
  have hperm : ((turnsL ws ps up turn).map (fun p => ws.getD p eS)).Perm ws := by
    refine (hT.1.map _).trans ?_
    have : (List.range ws.length).map (fun p => ws.getD p eS) = ws := by
      apply List.ext_getElem (by simp)
      intro i h1 h2
      simp [List.getD_eq_getElem?_getD, List.getElem?_eq_getElem h2]
    rw [this]
  have hpw : ((turnsL ws ps up turn).map (fun p => ws.getD p eS)).Pairwise (fun a b => ¬ ltd LtS up b a) := by
    rw [List.pairwise_map]
    refine List.Pairwise.imp_of_mem (fun {p q} hp hq h => ?_) hT.2
    rw [hWf p ((tl_mem (ps := ps) hu ht R).mp hp), hWf q ((tl_mem (ps := ps) hu ht R).mp hq)]
    rcases h with ⟨i, hi, h1, h2⟩ | ⟨h, _⟩
    · cases i with
      | zero => exact fun h' => ltd_irr linS _ (ltd_tr linS h' h2)
      | succ i => rw [show Wf ws p = Wf ws q from (h1 0 (by omega)).symm]; exact ltd_irr linS _
    · exact fun h' => h ⟨0, hn, fun j hj => absurd hj (Nat.not_lt_zero j), h'⟩
  have ps1 : (sortS ws).Pairwise (fun a b => leS a b = true) := List.pairwise_mergeSort leS_trans leS_total ws
  have hle : ∀ a b, ¬ LtS b a → leS a b = true := fun a b h => by unfold leS; unfold LtS at h; simpa using h
  rcases hu with rfl | rfl
  · rw [if_pos rfl]
    refine List.Perm.eq_of_pairwise (fun a b _ _ h1 h2 => leS_anti a b h1 h2) (hpw.imp fun {a b} h => hle a b fun h' => h (.inl ⟨rfl, h'⟩)) ps1 (hperm.trans (List.mergeSort_perm ws leS).symm)
  · rw [if_neg (by decide)]
    refine List.Perm.eq_of_pairwise (le := fun a b => leS b a = true) (fun a b _ _ h1 h2 => leS_anti a b h2 h1) (hpw.imp fun {a b} h => hle b a fun h' => h (.inr ⟨rfl, h'⟩)) (List.pairwise_reverse.mpr ps1) (hperm.trans ((List.mergeSort_perm ws leS).symm.trans (List.reverse_perm _).symm))
end
end
end Mine
end SLC
section SLD
open PySem PySem.W PyProof.Rows PySem.Calls
set_option maxRecDepth 100000
namespace Mine
noncomputable section
abbrev lawFor : Stmt := (bodyOf st_law).getD 8 default
abbrev lawFor2 : Stmt := (forBody lawFor).getD 0 default
abbrev inB : List Stmt := forBody lawFor2
abbrev lsc : Scope := scopeOf st_law
abbrev vN : Str := Str.ofString "n"
abbrev vWords : Str := Str.ofString "words"
abbrev vPieces : Str := Str.ofString "pieces"
abbrev vM : Str := Str.ofString "m"
abbrev vUp : Str := Str.ofString "up"
abbrev vTurn : Str := Str.ofString "turn"
abbrev vTurns : Str := Str.ofString "turns"
abbrev vKept : Str := Str.ofString "kept"
abbrev vHeads : Str := Str.ofString "heads"
abbrev vOnward : Str := Str.ofString "onward"
abbrev vFar : Str := Str.ofString "far"
abbrev vK : Str := Str.ofString "k"
structure LEnv (ρ : Ro) (ws ps : List Str) (m : Nat) : Prop where
  n : ρ vN = some (.dat (.int ws.length))
  words : ρ vWords = some (.dat (.list (ws.map .str)))
  pieces : ρ vPieces = some (.dat (.list (ps.map .str)))
  m : ρ vM = some (.dat (.int m))
  rows : ρ sRows = some (.dat (.list ((rowsL ws ps).map .tuple)))
structure Base (ws ps : List Str) : Prop where
  pl : ps.length = ws.length
  n0 : 0 < ws.length
  n8 : ws.length ≤ 8
  pc : ∀ k, k < ws.length → PieceOf (ws.getD k eS) (ps.getD k eS)
  fw : ∀ x ∈ ws, FitS x ∧ x.length ≤ 1000
theorem range_ev {F : Fn} {k : Nat} {sc : Scope} {ρ : Ro} {p q : Pos} {e : Expr} {n : Nat} (hn : n ≤ 1000) (hr : glob sc sRange = true) (h : ev F k sc e ρ = some (.int n)) : its F (k + 2) sc (.Call (.Name sRange q) [e] [] p) ρ = some ((List.range n).map fun i => .int (i : Nat)) := by
  rw [← rangeD0]
  cases k with
  | zero => cases h
  | succ k => exact i_range1 hr (es_cons h es_nil) (by omega) (by omega)
theorem b_keys {ws ps : List Str} {m : Nat} {ρ : Ro} {up turn : Int} (B : Base ws ps) (E : LEnv ρ ws ps m) (hu : ρ vUp = some (.dat (.int up))) (ht : ρ vTurn = some (.dat (.int turn))) (hu1 : up = 1 ∨ up = -1) :
    exS F2 47 lsc (inB.getD 0 default) ρ = some (.next, put ρ sKeys (.dat (.list ((keysL ws.length up turn).map keyD)))) := by
  have h8 := B.n8
  refine s_assign rfl rfl (e_comp rfl (range_ev (by omega) rfl (e_name E.n)) ?_)
  unfold keysL
  refine cmpL_all (k := keyD) fun k hk => ?_
  by_cases e : k % 2 = 0
  · have ek : keyD (k, dfun up turn k) = .tuple [.int k, .int up] := by unfold keyD dfun; rw [if_pos e]
    rw [ek]
    refine c_one ts_nil (e_tuple (es_cons (e_name rfl) (es_cons (e_ift (t_cmp rfl (e_bin (e_name rfl) (e_const rfl) (bin_mod (by decide))) (e_const rfl) ?_) (e_name hu)) es_nil)) (by simp))
    rw [eq_int]
    have : ((k : Int).fmod 2) = 0 := by rw [Int.fmod_eq_emod_of_nonneg _ (by decide)]; omega
    rw [this]; rfl
  · have ek : keyD (k, dfun up turn k) = .tuple [.int k, .int (up * turn)] := by unfold keyD dfun; rw [if_neg e]
    rw [ek]
    refine c_one ts_nil (e_tuple (es_cons (e_name rfl) (es_cons (e_iff (t_cmp rfl (e_bin (e_name rfl) (e_const rfl) (bin_mod (by decide))) (e_const rfl) ?_) (e_bin (e_name hu) (e_name ht) ?_)) es_nil)) (by simp))
    · rw [eq_int]
      have : ((k : Int).fmod 2) = 1 := by rw [Int.fmod_eq_emod_of_nonneg _ (by decide)]; omega
      rw [this]; rfl
    · simp only [binD]
      rw [if_pos (by rcases hu1 with rfl | rfl <;> decide)]
theorem b_turns {ws ps : List Str} {m : Nat} {ρ : Ro} {up turn : Int} (B : Base ws ps) (E : LEnv ρ ws ps m) (hk : ρ sKeys = some (.dat (.list ((keysL ws.length up turn).map keyD)))) :
    exS F2 46 lsc (inB.getD 1 default) ρ = some (.next, put ρ vTurns (.dat (.list (natsD (turnsL ws ps up turn))))) := by
  have h8 := B.n8
  refine s_assign rfl rfl (e_call rfl g_sorted (es_cons (e_lrange rfl rfl (es_cons (e_name E.n) es_nil) (by omega) (by omega)) (es_cons (e_name E.rows) (es_cons (e_name hk) es_nil))) ((f2_sorted _).trans ?_))
  rw [rangeD0]
  exact run_sorted (rows_ok B.n8 up turn) (ps := List.range ws.length) (fun p hp => by rw [rowsL_len]; exact List.mem_range.mp hp) (by simp; omega)
theorem idx_strs {l : List Str} {i : Nat} (h : i < l.length) (hz : l.length ≤ 1000000) : idxD (.list (l.map .str)) (.int i) = some (.str (l.getD i eS)) := by
  rw [idx_list (by simpa using h) (by simpa using hz)]
  simp [List.getD_eq_getElem?_getD, List.getElem?_eq_getElem h]
theorem idx_prev {l : List Str} {p : Nat} (h : p < l.length) (hz : l.length ≤ 1000000) : idxD (.list (l.map .str)) (.int ((p : Int) - 1)) = some (.str (prevS l.length l p)) := by
  unfold prevS
  by_cases h0 : p = 0
  · subst h0
    simp only [idxD]
    rw [if_pos (by omega), List.length_map]
    have e : seqIndex? (((0 : Nat) : Int) - 1) l.length = some (l.length - 1) := by
      unfold seqIndex?
      simp only [show (((0 : Nat) : Int) - 1 < 0) from by omega, if_true]
      rw [if_pos (by simp; omega)]
      congr 1
      omega
    rw [e, Option.bind_some, List.getElem?_map, List.getElem?_eq_getElem (show l.length - 1 < l.length by omega), Nat.zero_add, Nat.mod_eq_of_lt (show l.length - 1 < l.length by omega), List.getD_eq_getElem?_getD, List.getElem?_eq_getElem (show l.length - 1 < l.length by omega)]
    rfl
  · have e : (p : Int) - 1 = ((p - 1 : Nat) : Int) := by omega
    have e2 : (p + (l.length - 1)) % l.length = p - 1 := by
      have : p + (l.length - 1) = (p - 1) + l.length := by omega
      rw [this, Nat.add_mod_right, Nat.mod_eq_of_lt (by omega)]
    rw [e, e2]
    exact idx_strs (by omega) hz
theorem b_first {ws ps : List Str} {m : Nat} {ρ : Ro} {up turn : Int} (B : Base ws ps) (E : LEnv ρ ws ps m) (hu1 : up = 1 ∨ up = -1) (ht1 : turn = 1 ∨ turn = -1) (R : Ring LtS (Wf ws) ws.length m (ws.length / m) (dfun up turn) (decide (turn = 1)))
    (hu : ρ vUp = some (.dat (.int up))) (hT : ρ vTurns = some (.dat (.list (natsD (turnsL ws ps up turn))))) :
    exS F2 45 lsc (inB.getD 2 default) ρ = some (.next, ρ) := by
  have h8 := B.n8
  have hl := tl_len (ps := ps) hu1 ht1 R
  have hsl : (sortS ws).length = ws.length := (List.mergeSort_perm ws leS).length_eq
  refine s_iff (t_cmp rfl (e_comp rfl (i_val rfl (e_name hT) (items_list (by rw [natsD_length]; omega))) (cmpL_all (h := fun p => ws.getD p eS) (k := .str) fun p hp => ?_)) (e_slice (e_call rfl g_srt (es_cons (e_name E.words) es_nil) ((f2_srt _).trans (blt_srt (by omega)))) ep_none ep_none (ep_some (e_name hu)) (by rw [List.length_map]; omega) (by rcases hu1 with rfl | rfl <;> simp)) ?_) l_nil
  · exact c_one ts_nil (e_sub (e_name E.words) (e_name rfl) (idx_strs ((tl_mem hu1 ht1 R).mp hp) (by omega)))
  · rw [first_words hu1 ht1 R]
    have hf : ∀ x ∈ sortS ws, FitS x := fun x hx => (B.fw x ((List.mergeSort_perm ws leS).mem_iff.mp hx)).1
    rcases hu1 with rfl | rfl
    · rw [sliceL_1, if_pos rfl, ne_strs hf hf]; simp
    · rw [sliceL_m1, if_neg (by decide), ← List.map_reverse, ne_strs (fun x hx => hf x (List.mem_reverse.mp hx)) (fun x hx => hf x (List.mem_reverse.mp hx))]; simp
end
end Mine
end SLD
section SLE
open PySem PySem.W PyProof.Rows PySem.Calls
set_option maxRecDepth 100000
namespace Mine
noncomputable section
theorem fm_congr {α β : Type} {f g : α → Option β} : ∀ {l : List α}, (∀ a ∈ l, f a = g a) → l.filterMap f = l.filterMap g
  | [], _ => rfl
  | a :: l, h => by rw [List.filterMap_cons, List.filterMap_cons, h a List.mem_cons_self, fm_congr fun b hb => h b (List.mem_cons_of_mem _ hb)]
theorem filter_one {f : Nat → PyData} {i : Nat} : ∀ {n : Nat}, i < n → ((List.range n).filterMap fun k => if k = i then some (f k) else none) = [f i]
  | 0, h => absurd h (Nat.not_lt_zero i)
  | n + 1, h => by
    rw [List.range_succ, List.filterMap_append]
    by_cases e : i = n
    · subst e
      have : ((List.range i).filterMap fun k => if k = i then some (f k) else none) = [] := by
        rw [List.filterMap_eq_nil_iff]
        intro k hk
        have := List.mem_range.mp hk
        rw [if_neg (by omega)]
      rw [this]; simp
    · rw [filter_one (by omega)]
      simp [Ne.symm e]
theorem filter_idx {T : List Nat} {n : Nat} (hT : T.Nodup) (hl : T.length = n) (h0 : 0 ∈ T) : ((List.range n).filterMap fun k => if T.getD k 1 = 0 then some (PyData.int (k : Nat)) else none) = [.int (T.idxOf 0 : Nat)] := by
  have hi := List.idxOf_lt_length_of_mem h0
  have e : ((List.range n).filterMap fun k => if T.getD k 1 = 0 then some (PyData.int (k : Nat)) else none) = (List.range n).filterMap fun k => if k = T.idxOf 0 then some (PyData.int (k : Nat)) else none := by
    refine fm_congr fun k hk => ?_
    have hk : k < T.length := by rw [hl]; exact List.mem_range.mp hk
    have : T.getD k 1 = 0 ↔ k = T.idxOf 0 := by
      rw [List.getD_eq_getElem?_getD, List.getElem?_eq_getElem hk, Option.getD_some]
      constructor
      · intro h
        have := hT.idxOf_getElem k hk
        rw [h] at this; exact this.symm
      · intro h; subst h; exact List.getElem_idxOf hi
    simp only [this]
  rw [e]
  exact filter_one (by omega)
section
variable {ws ps : List Str} {m : Nat} {up turn : Int} (B : Base ws ps) (hu1 : up = 1 ∨ up = -1) (ht1 : turn = 1 ∨ turn = -1) (R : Ring LtS (Wf ws) ws.length m (ws.length / m) (dfun up turn) (decide (turn = 1)))
include B hu1 ht1 R
theorem b_kept {ρ : Ro} (E : LEnv ρ ws ps m) (hT : ρ vTurns = some (.dat (.list (natsD (turnsL ws ps up turn))))) :
    exS F2 44 lsc (inB.getD 3 default) ρ = some (.next, put ρ vKept (.dat (.list ((keptL ws ps up turn).map .str)))) := by
  have h8 := B.n8
  have hl := tl_len (ps := ps) hu1 ht1 R
  refine s_assign rfl rfl (e_comp rfl (i_val rfl (e_name hT) (items_list (by rw [natsD_length]; omega))) ?_)
  unfold keptL
  refine cmpL_all (k := .str) fun p hp => ?_
  refine c_one ts_nil (e_sub (e_name E.pieces) (e_bin (e_name rfl) (e_const rfl) rfl) ?_)
  have hp := (tl_mem hu1 ht1 R).mp hp
  have := idx_prev (l := ps) (p := p) (by rw [B.pl]; exact hp) (by rw [B.pl]; omega)
  rw [B.pl] at this
  exact this
theorem b_heads {ρ : Ro} (hK : ρ vKept = some (.dat (.list ((keptL ws ps up turn).map .str)))) :
    exS F2 43 lsc (inB.getD 4 default) ρ = some (.next, put ρ vHeads (.dat (.list ((headsL ws ps up turn).map .tuple)))) := by
  have h8 := B.n8
  have hl := tl_len (ps := ps) hu1 ht1 R
  refine s_assign rfl rfl (e_comp rfl (i_val rfl (e_name hK) (items_list (by unfold keptL; rw [List.length_map, List.length_map]; omega))) ?_)
  unfold keptL headsL
  rw [List.map_map]
  refine cmpL_all (k := .tuple) fun p hp => ?_
  have hp := (tl_mem hu1 ht1 R).mp hp
  have hq := Nat.mod_lt (p + (ws.length - 1)) B.n0
  have hw : (prevS ws.length ws p).length ≤ 1000 := by
    unfold prevS
    rw [List.getD_eq_getElem?_getD, List.getElem?_eq_getElem hq]
    exact (B.fw _ (List.getElem_mem _)).2
  have hpc : PieceOf (prevS ws.length ws p) (prevS ws.length ps p) := B.pc _ hq
  exact c_one ts_nil (e_tuple (es_cons (e_call rfl g_prep (es_cons (e_name rfl) es_nil) ((f2_prep _).trans (run_prepared hw hpc))) (es_cons (e_name rfl) es_nil)) (by simp [headOf]))
theorem b_onward {ρ : Ro} (E : LEnv ρ ws ps m) (hu : ρ vUp = some (.dat (.int up))) (ht : ρ vTurn = some (.dat (.int turn))) (hH : ρ vHeads = some (.dat (.list ((headsL ws ps up turn).map .tuple)))) :
    exS F2 42 lsc (inB.getD 5 default) ρ = some (.next, put ρ vOnward (.dat (.list (natsD (onwardL ws ps up turn))))) := by
  have h8 := B.n8
  refine s_assign rfl rfl (e_call rfl g_sorted (es_cons (e_slice (e_lrange rfl rfl (es_cons (e_name E.n) es_nil) (by omega) (by omega)) ep_none ep_none (ep_some (e_name ht)) (by rw [rangeD0]; simp; omega) (by rcases ht1 with rfl | rfl <;> simp)) (es_cons (e_name hH) (es_cons (e_list (es_cons (e_tuple (es_cons (e_const rfl) (es_cons (e_name hu) es_nil)) (by simp)) es_nil) (by simp)) es_nil))) ((f2_sorted _).trans ?_))
  have es : sliceL (rangeD 0 ws.length) none none (some turn) = natsD (startL ws.length turn) := by
    rw [rangeD0]
    unfold startL natsD
    rcases ht1 with rfl | rfl
    · rw [sliceL_1]; rfl
    · rw [sliceL_m1, ← List.map_reverse]; rfl
  rw [es]
  have hst : ∀ p ∈ startL ws.length turn, p < ws.length := fun p hp => by
    unfold startL at hp
    split at hp <;> simpa using hp
  have hsl : (startL ws.length turn).length ≤ 20 := by unfold startL; split <;> simp <;> omega
  exact run_sorted (heads_ok hu1 ht1 R B.n8) (ps := startL ws.length turn) (ks := [(0, up)]) (fun p hp => by rw [heads_len hu1 ht1 R]; exact hst p hp) hsl
theorem b_spot {ρ : Ro} (E : LEnv ρ ws ps m) (hT : ρ vTurns = some (.dat (.list (natsD (turnsL ws ps up turn))))) :
    exS F2 41 lsc (inB.getD 6 default) ρ = some (.next, put ρ sSpot (.dat (.int ((turnsL ws ps up turn).idxOf 0 : Nat)))) := by
  have h8 := B.n8
  have hl := tl_len (ps := ps) hu1 ht1 R
  refine s_assign rfl rfl (e_sub (e_comp rfl (range_ev (by omega) rfl (e_name E.n)) (cmpL_map (h := fun k => if (turnsL ws ps up turn).getD k 1 = 0 then some (PyData.int (k : Nat)) else none) fun k hk => ?_)) (e_const rfl) ?_)
  · have hk := List.mem_range.mp hk
    have hk' : k < (turnsL ws ps up turn).length := by omega
    have e1 : (turnsL ws ps up turn).getD k 1 = (turnsL ws ps up turn).getD k 0 := by simp [List.getD_eq_getElem?_getD, List.getElem?_eq_getElem hk']
    split
    · rename_i h
      rw [e1] at h
      refine c_one (ts_t (t_cmp rfl (e_sub (e_name hT) (e_name rfl) (idx_nats hk' (by omega))) (e_const rfl) ?_) ts_nil) (e_name rfl)
      rw [eq_int, h]; rfl
    · rename_i h
      rw [e1] at h
      refine c_no (ts_f (t_cmp rfl (e_sub (e_name hT) (e_name rfl) (idx_nats hk' (by omega))) (e_const rfl) ?_))
      rw [eq_int]
      simp only [Option.some.injEq, beq_eq_false_iff_ne]
      omega
  · rw [filter_idx (T := turnsL ws ps up turn) (turns_nodup R (hgtL hu1 ht1 R)) hl ((tl_mem hu1 ht1 R).mpr B.n0)]
    rfl
end
end
end Mine
end SLE
section SLF
open PySem PySem.W PyProof.Rows PySem.Calls
set_option maxRecDepth 100000
namespace Mine
noncomputable section
abbrev lastFor : Stmt := inB.getD 7 default
structure LIn (ρ : Ro) (ws ps : List Str) (m : Nat) (up turn : Int) : Prop where
  E : LEnv ρ ws ps m
  hu : ρ vUp = some (.dat (.int up))
  ht : ρ vTurn = some (.dat (.int turn))
  hK : ρ vKept = some (.dat (.list ((keptL ws ps up turn).map .str)))
  hO : ρ vOnward = some (.dat (.list (natsD (onwardL ws ps up turn))))
section
variable {ws ps : List Str} {m : Nat} {up turn : Int} (B : Base ws ps) (hu1 : up = 1 ∨ up = -1) (ht1 : turn = 1 ∨ turn = -1) (R : Ring LtS (Wf ws) ws.length m (ws.length / m) (dfun up turn) (decide (turn = 1)))
include B hu1 ht1 R
theorem m_le : m ≤ ws.length := by
  have := R.nm
  have h : m * 1 ≤ m * (ws.length / m) := Nat.mul_le_mul_left m R.c0
  omega
theorem far_ev {ρ : Ro} (I : LIn ρ ws ps m up turn) {k : Nat} (hk : ρ vK = some (.dat (.int k))) :
    exS F2 37 lsc ((forBody lastFor).getD 1 default) ρ = some (.next, put ρ vFar (.dat (.int ((if decide (turn = 1) = false ∧ k % 2 = 1 then ws.length - m else 0 : Nat) : Int)))) := by
  have hm := m_le B hu1 ht1 R
  have ek : ((k : Int).fmod 2) = (k % 2 : Nat) := by rw [Int.fmod_eq_emod_of_nonneg _ (by decide)]; omega
  have h1 : (if turn = 1 then True else turn = -1) := by rcases ht1 with rfl | rfl <;> simp
  rcases ht1 with rfl | rfl
  · refine s_assign rfl rfl (e_iff (t_andf (t_cmp rfl (e_name I.ht) (e_neg (e_const rfl)) rfl)) (e_const rfl))
  · by_cases h2 : k % 2 = 1
    · have e : ((if decide ((-1 : Int) = 1) = false ∧ k % 2 = 1 then ws.length - m else 0 : Nat) : Int) = (ws.length : Int) - m := by
        rw [if_pos ⟨by decide, h2⟩]; omega
      rw [e]
      refine s_assign rfl rfl (e_ift (t_andt (t_cmp rfl (e_name I.ht) (e_neg (e_const rfl)) rfl) (t_cmp rfl (e_bin (e_name hk) (e_const rfl) (bin_mod (by decide))) (e_const rfl) ?_)) (e_bin (e_name I.E.n) (e_name I.E.m) rfl))
      rw [eq_int, ek, h2]; rfl
    · have e : (if decide ((-1 : Int) = 1) = false ∧ k % 2 = 1 then ws.length - m else 0 : Nat) = 0 := if_neg fun h => h2 h.2
      rw [e]
      refine s_assign rfl rfl (e_iff (t_andt (t_cmp rfl (e_name I.ht) (e_neg (e_const rfl)) rfl) (t_cmp rfl (e_bin (e_name hk) (e_const rfl) (bin_mod (by decide))) (e_const rfl) ?_)) (e_const rfl))
      rw [eq_int, ek]
      simp only [Option.some.injEq, beq_eq_false_iff_ne]
      omega
theorem last_idx (k : Nat) : ((k : Int).fmod m + ((if decide (turn = 1) = false ∧ k % 2 = 1 then ws.length - m else 0 : Nat) : Int) - 1).fmod ws.length = (((kth ws.length m (decide (turn = 1)) k + (ws.length - 1)) % ws.length : Nat) : Int) := by
  have hn := B.n0
  unfold kth
  generalize (if decide (turn = 1) = false ∧ k % 2 = 1 then ws.length - m else 0) = f
  rw [Int.fmod_eq_emod_of_nonneg _ (by omega), Int.fmod_eq_emod_of_nonneg _ (by omega)]
  have e : ((k : Int) % (m : Int) + (f : Int) - 1) + (ws.length : Int) * 1 = ((k % m + f + (ws.length - 1) : Nat) : Int) := by omega
  rw [← Int.add_mul_emod_self_left ((k : Int) % (m : Int) + (f : Int) - 1) (ws.length : Int) 1, e]
  rfl
theorem last_loop : ∀ (c s : Nat) (ρ : Ro), LIn ρ ws ps m up turn → ρ sSpot = some (.dat (.int ((turnsL ws ps up turn).idxOf (kth ws.length m (decide (turn = 1)) s) : Nat))) →
    ∃ ρ', forL (forF F2 39 lsc (forTg lastFor) (forBody lastFor)) ((List.range' (s + 1) c).map fun i => .int (i : Nat)) ρ = some (.next, ρ') ∧ LIn ρ' ws ps m up turn
  | 0, s, ρ, I, _ => ⟨ρ, rfl, I⟩
  | c + 1, s, ρ, I, hs => by
    have h8 := B.n8
    have hlt := kth_lt R s
    have hlt' := kth_lt R (s + 1)
    have hpos : ∀ p, p < ws.length → (turnsL ws ps up turn).idxOf p < ws.length := fun p hp => by
      have := List.idxOf_lt_length_of_mem ((tl_mem (ps := ps) hu1 ht1 R).mpr hp)
      rw [tl_len hu1 ht1 R] at this; exact this
    have hidx : idxD (.list (natsD (onwardL ws ps up turn))) (.int ((turnsL ws ps up turn).idxOf (kth ws.length m (decide (turn = 1)) s) : Nat)) = some (.int ((turnsL ws ps up turn).idxOf (kth ws.length m (decide (turn = 1)) (s + 1)) : Nat)) := by
      rw [idx_nats (by rw [onward_len hu1 ht1 R]; exact hpos _ hlt) (by rw [onward_len hu1 ht1 R]; omega), onward_at hu1 ht1 R hlt, kth_next R]
    let ρ1 := put (put ρ vK (.dat (.int ((s + 1 : Nat) : Int)))) sSpot (.dat (.int ((turnsL ws ps up turn).idxOf (kth ws.length m (decide (turn = 1)) (s + 1)) : Nat)))
    have I1 : LIn ρ1 ws ps m up turn := ⟨⟨I.E.n, I.E.words, I.E.pieces, I.E.m, I.E.rows⟩, I.hu, I.ht, I.hK, I.hO⟩
    let ρ2 := put ρ1 vFar (.dat (.int ((if decide (turn = 1) = false ∧ (s + 1) % 2 = 1 then ws.length - m else 0 : Nat) : Int)))
    have I2 : LIn ρ2 ws ps m up turn := ⟨⟨I.E.n, I.E.words, I.E.pieces, I.E.m, I.E.rows⟩, I.hu, I.ht, I.hK, I.hO⟩
    have hs2 : ρ2 sSpot = some (.dat (.int ((turnsL ws ps up turn).idxOf (kth ws.length m (decide (turn = 1)) (s + 1)) : Nat))) := rfl
    obtain ⟨ρ', f, I'⟩ := last_loop c (s + 1) ρ2 I2 hs2
    refine ⟨ρ', ?_, I'⟩
    rw [List.range'_succ, List.map_cons]
    have hkl : (keptL ws ps up turn).length = ws.length := by unfold keptL; rw [List.length_map, tl_len hu1 ht1 R]
    have hm0 := R.m0
    have hn0 := B.n0
    have hmod := Nat.mod_lt (kth ws.length m (decide (turn = 1)) (s + 1) + (ws.length - 1)) hn0
    have hfit : FitS (prevS ws.length ps (kth ws.length m (decide (turn = 1)) (s + 1))) := fit_of (B.pc _ hmod).fits
    refine f_next (Option.bind_eq_some_iff.mpr ⟨_, rfl, l_next (s_assign rfl rfl (e_sub (e_name (ρ := put ρ vK (.dat (.int ((s + 1 : Nat) : Int)))) I.hO) (e_name (ρ := put ρ vK (.dat (.int ((s + 1 : Nat) : Int)))) hs) hidx)) (l_next (far_ev B hu1 ht1 R I1 (k := s + 1) rfl) (l_next (s_iff (t_cmp (a := .str (prevS ws.length ps (kth ws.length m (decide (turn = 1)) (s + 1)))) (b := .str (prevS ws.length ps (kth ws.length m (decide (turn = 1)) (s + 1)))) rfl (e_sub (e_name I2.hK) (e_name hs2) ?_) (e_sub (e_name I2.E.pieces) (e_bin (e_bin (e_bin (e_bin (e_name (ρ := ρ2) rfl) (e_name I2.E.m) (bin_mod ?_)) (e_name rfl) rfl) (e_const rfl) rfl) (e_name I2.E.n) (bin_mod ?_)) ?_) ?_) l_nil) l_nil))⟩) f
    · rw [idx_strs (by rw [hkl]; exact hpos _ hlt') (by rw [hkl]; omega), kept_at hu1 ht1 R hlt']
    · omega
    · omega
    · rw [last_idx B hu1 ht1 R (s + 1), idx_strs (by rw [B.pl]; exact hmod) (by rw [B.pl]; omega)]
      rfl
    · rw [ne_str hfit hfit]; simp
theorem range1 (n : Nat) : rangeD 1 ((n : Int) + 1) = (List.range' 1 n).map fun i => .int (i : Nat) := by
  unfold rangeD
  have : ((n : Int) + 1 - 1).toNat = n := by omega
  rw [this, List.range'_eq_map_range, List.map_map]
  refine List.map_congr_left fun i _ => ?_
  simp
theorem inner_body {ρ : Ro} (E : LEnv ρ ws ps m) (hu : ρ vUp = some (.dat (.int up))) (ht : ρ vTurn = some (.dat (.int turn))) : ∃ ρ', exL F2 48 lsc inB ρ = some (.next, ρ') ∧ LEnv ρ' ws ps m ∧ ρ' vUp = some (.dat (.int up)) := by
  have h8 := B.n8
  have s0 := b_keys B E hu ht hu1
  have E0 : LEnv (put ρ sKeys (.dat (.list ((keysL ws.length up turn).map keyD)))) ws ps m := ⟨E.n, E.words, E.pieces, E.m, E.rows⟩
  have s1 := b_turns B E0 (up := up) (turn := turn) rfl
  generalize hr1 : put (put ρ sKeys (.dat (.list ((keysL ws.length up turn).map keyD)))) vTurns (.dat (.list (natsD (turnsL ws ps up turn)))) = ρ1 at s1
  have E1 : LEnv ρ1 ws ps m := by subst hr1; exact ⟨E.n, E.words, E.pieces, E.m, E.rows⟩
  have u1 : ρ1 vUp = some (.dat (.int up)) := by subst hr1; exact hu
  have t1 : ρ1 vTurn = some (.dat (.int turn)) := by subst hr1; exact ht
  have T1 : ρ1 vTurns = some (.dat (.list (natsD (turnsL ws ps up turn)))) := by subst hr1; rfl
  have s2 := b_first B E1 hu1 ht1 R u1 T1
  have s3 := b_kept B hu1 ht1 R E1 T1
  generalize hr2 : put ρ1 vKept (.dat (.list ((keptL ws ps up turn).map .str))) = ρ2 at s3
  have K2 : ρ2 vKept = some (.dat (.list ((keptL ws ps up turn).map .str))) := by subst hr2; rfl
  have s4 := b_heads B hu1 ht1 R K2
  generalize hr3 : put ρ2 vHeads (.dat (.list ((headsL ws ps up turn).map .tuple))) = ρ3 at s4
  have E3 : LEnv ρ3 ws ps m := by subst hr3 hr2; exact ⟨E1.n, E1.words, E1.pieces, E1.m, E1.rows⟩
  have u3 : ρ3 vUp = some (.dat (.int up)) := by subst hr3 hr2; exact u1
  have t3 : ρ3 vTurn = some (.dat (.int turn)) := by subst hr3 hr2; exact t1
  have s5 := b_onward B hu1 ht1 R E3 u3 t3 (by subst hr3; rfl)
  generalize hr4 : put ρ3 vOnward (.dat (.list (natsD (onwardL ws ps up turn)))) = ρ4 at s5
  have E4 : LEnv ρ4 ws ps m := by subst hr4; exact ⟨E3.n, E3.words, E3.pieces, E3.m, E3.rows⟩
  have T4 : ρ4 vTurns = some (.dat (.list (natsD (turnsL ws ps up turn)))) := by subst hr4 hr3 hr2; exact T1
  have s6 := b_spot B hu1 ht1 R E4 T4
  generalize hr5 : put ρ4 sSpot (.dat (.int ((turnsL ws ps up turn).idxOf 0 : Nat))) = ρ5 at s6
  have I5 : LIn ρ5 ws ps m up turn := by
    subst hr5 hr4
    refine ⟨⟨E3.n, E3.words, E3.pieces, E3.m, E3.rows⟩, u3, t3, ?_, rfl⟩
    subst hr3; exact K2
  have k0 : kth ws.length m (decide (turn = 1)) 0 = 0 := by unfold kth; simp
  obtain ⟨ρ', f, I'⟩ := last_loop B hu1 ht1 R ws.length 0 ρ5 I5 (by rw [k0]; subst hr5; rfl)
  have s7 : exS F2 40 lsc lastFor ρ5 = some (.next, ρ') := by
    refine s_for (i_range2 rfl (es_cons (e_const rfl) (es_cons (e_bin (e_name I5.E.n) (e_const rfl) rfl) es_nil)) (by omega) (by omega) (by omega) (by omega)) ?_
    rw [range1 B hu1 ht1 R]; exact f
  exact ⟨ρ', l_next s0 (l_next s1 (l_next s2 (l_next s3 (l_next s4 (l_next s5 (l_next s6 (l_next s7 l_nil))))))), I'.E, I'.hu⟩
end
end
end Mine
end SLF
section SLG
open PySem PySem.W PyProof.Rows PySem.Calls
set_option maxRecDepth 100000
namespace Mine
noncomputable section
theorem loops {ws ps : List Str} {m : Nat} (B : Base ws ps) (R : ∀ up turn : Int, (up = 1 ∨ up = -1) → (turn = 1 ∨ turn = -1) → Ring LtS (Wf ws) ws.length m (ws.length / m) (dfun up turn) (decide (turn = 1))) {ρ : Ro} (E : LEnv ρ ws ps m) :
    ∃ ρ', exS F2 51 lsc lawFor ρ = some (.next, ρ') := by
  have inner : ∀ (up turn : Int) (ρ : Ro), (up = 1 ∨ up = -1) → (turn = 1 ∨ turn = -1) → LEnv ρ ws ps m → ρ vUp = some (.dat (.int up)) →
      ∃ ρ', forF F2 48 lsc (forTg lawFor2) (forBody lawFor2) (.int turn) ρ = some (.next, ρ') ∧ LEnv ρ' ws ps m ∧ ρ' vUp = some (.dat (.int up)) := fun up turn ρ hu ht E h => by
    obtain ⟨ρ', h1, h2, h3⟩ := inner_body B hu ht (R up turn hu ht) (ρ := put ρ vTurn (.dat (.int turn))) ⟨E.n, E.words, E.pieces, E.m, E.rows⟩ h rfl
    exact ⟨ρ', Option.bind_eq_some_iff.mpr ⟨_, rfl, h1⟩, h2, h3⟩
  have outer : ∀ (up : Int) (ρ : Ro), (up = 1 ∨ up = -1) → LEnv ρ ws ps m → ∃ ρ', forF F2 50 lsc (forTg lawFor) (forBody lawFor) (.int up) ρ = some (.next, ρ') ∧ LEnv ρ' ws ps m := fun up ρ hu E => by
    obtain ⟨ρ1, h1, E1, u1⟩ := inner up 1 (put ρ vUp (.dat (.int up))) hu (.inl rfl) ⟨E.n, E.words, E.pieces, E.m, E.rows⟩ rfl
    obtain ⟨ρ2, h2, E2, u2⟩ := inner up (-1) ρ1 hu (.inr rfl) E1 u1
    refine ⟨ρ2, Option.bind_eq_some_iff.mpr ⟨_, rfl, l_next (s_for (i_val rfl (e_list (es_cons (e_const rfl) (es_cons (e_neg (e_const rfl)) es_nil)) (by decide)) (items_list (by decide))) ?_) l_nil⟩, E2⟩
    exact f_next h1 (f_next h2 f_nil)
  obtain ⟨ρ1, h1, E1⟩ := outer 1 ρ (.inl rfl) E
  obtain ⟨ρ2, h2, E2⟩ := outer (-1) ρ1 (.inr rfl) E1
  refine ⟨ρ2, s_for (i_val rfl (e_list (es_cons (e_const rfl) (es_cons (e_neg (e_const rfl)) es_nil)) (by decide)) (items_list (by decide))) ?_⟩
  exact f_next h1 (f_next h2 f_nil)
def pcS (which x : Int) : Str := Classical.choose (run_piece which x)
theorem pcS_ok (which x : Int) : PieceOf (wd which) (pcS which x) ∧ runF F1 st_piece pPiece [.int which, .int x] = some (.str (pcS which x)) := Classical.choose_spec (run_piece which x)
def wsOf (ns : List Int) (fw : Nat) : List Str := (List.range ns.length).map fun k => wd (ns.getD (k % fw) 0)
def psOf (ns : List Int) (fw : Nat) : List Str := (List.range ns.length).map fun k => pcS (ns.getD (k % fw) 0) (ns.getD k 0)
theorem base_of {ns : List Int} {fw : Nat} (h0 : 0 < ns.length) (h8 : ns.length ≤ 8) : Base (wsOf ns fw) (psOf ns fw) := by
  have hl : (wsOf ns fw).length = ns.length := by simp [wsOf]
  refine ⟨by simp [wsOf, psOf], by omega, by omega, fun k hk => ?_, fun x hx => ?_⟩
  · rw [hl] at hk
    have e1 : (wsOf ns fw).getD k eS = wd (ns.getD (k % fw) 0) := by
      unfold wsOf
      rw [List.getD_eq_getElem?_getD, List.getElem?_map, List.getElem?_range hk]; rfl
    have e2 : (psOf ns fw).getD k eS = pcS (ns.getD (k % fw) 0) (ns.getD k 0) := by
      unfold psOf
      rw [List.getD_eq_getElem?_getD, List.getElem?_map, List.getElem?_range hk]; rfl
    rw [e1, e2]
    exact (pcS_ok _ _).1
  · unfold wsOf at hx
    obtain ⟨k, _, rfl⟩ := List.mem_map.mp hx
    exact ⟨fit_wd _, by have := (wd_letters (ns.getD (k % fw) 0)).2; omega⟩
theorem idx_ints {l : List Int} {i : Nat} (h : i < l.length) (hz : l.length ≤ 1000000) : idxD (.list (l.map .int)) (.int i) = some (.int (l.getD i 0)) := by
  rw [idx_list (by simpa using h) (by simpa using hz)]
  simp [List.getD_eq_getElem?_getD, List.getElem?_eq_getElem h]
abbrev vNumbers : Str := Str.ofString "numbers"
abbrev vFew : Str := Str.ofString "few"
theorem mod_nn (k fw : Nat) : ((k : Int).fmod fw) = ((k % fw : Nat) : Int) := by rw [Int.fmod_eq_emod_of_nonneg _ (by omega)]; omega
section
variable {ns : List Int} {fw : Nat} (h0 : 0 < ns.length) (h8 : ns.length ≤ 8) (hf0 : 0 < fw) (hf : fw ≤ ns.length)
include h0 h8 hf0 hf
theorem l_words {ρ : Ro} (hn : ρ vN = some (.dat (.int ns.length))) (hns : ρ vNumbers = some (.dat (.list (ns.map .int)))) (hfw : ρ vFew = some (.dat (.int fw))) :
    exS F2 56 lsc ((bodyOf st_law).getD 3 default) ρ = some (.next, put ρ vWords (.dat (.list ((wsOf ns fw).map .str)))) := by
  refine s_assign rfl rfl (e_comp rfl (range_ev (by omega) rfl (e_name hn)) ?_)
  unfold wsOf
  refine cmpL_all (k := .str) fun k hk => ?_
  have hk := List.mem_range.mp hk
  have hm := Nat.mod_lt k hf0
  refine c_one ts_nil (e_call rfl g_word (es_cons (e_sub (e_name hns) (e_bin (e_name rfl) (e_name hfw) (bin_mod (by omega))) ?_) es_nil) ((f2_word _).trans (run_word _)))
  rw [mod_nn]
  exact idx_ints (by omega) (by omega)
theorem l_pieces {ρ : Ro} (hn : ρ vN = some (.dat (.int ns.length))) (hns : ρ vNumbers = some (.dat (.list (ns.map .int)))) (hfw : ρ vFew = some (.dat (.int fw))) :
    exS F2 55 lsc ((bodyOf st_law).getD 4 default) ρ = some (.next, put ρ vPieces (.dat (.list ((psOf ns fw).map .str)))) := by
  refine s_assign rfl rfl (e_comp rfl (range_ev (by omega) rfl (e_name hn)) ?_)
  unfold psOf
  refine cmpL_all (k := .str) fun k hk => ?_
  have hk := List.mem_range.mp hk
  have hm := Nat.mod_lt k hf0
  refine c_one ts_nil (e_call rfl g_piece (es_cons (e_sub (e_name hns) (e_bin (e_name rfl) (e_name hfw) (bin_mod (by omega))) ?_) (es_cons (e_sub (e_name hns) (e_name rfl) (idx_ints hk (by omega))) es_nil)) ((f2_piece _).trans (pcS_ok _ _).2))
  rw [mod_nn]
  exact idx_ints (by omega) (by omega)
end
section
variable {ws ps : List Str} (B : Base ws ps)
include B
theorem l_prep {ρ : Ro} (hw : ρ vWords = some (.dat (.list (ws.map .str)))) (hp : ρ vPieces = some (.dat (.list (ps.map .str)))) :
    exS F2 54 lsc ((bodyOf st_law).getD 5 default) ρ = some (.next, ρ) := by
  have h8 := B.n8
  have hps : ps = (List.range ws.length).map fun k => ps.getD k eS := by
    rw [← B.pl]
    apply List.ext_getElem (by simp)
    intro i h1 h2
    simp [List.getD_eq_getElem?_getD, List.getElem?_eq_getElem h1]
  have hws : ws = (List.range ws.length).map fun k => ws.getD k eS := by
    apply List.ext_getElem (by simp)
    intro i h1 h2
    simp [List.getD_eq_getElem?_getD, List.getElem?_eq_getElem h1]
  have hfw : ∀ k, k < ws.length → (ws.getD k eS).length ≤ 1000 := fun k hk => by
    rw [List.getD_eq_getElem?_getD, List.getElem?_eq_getElem hk]
    exact (B.fw _ (List.getElem_mem _)).2
  refine s_iff (t_cmp (a := .list (ws.map .str)) rfl (e_comp rfl (i_val rfl (e_name hp) (items_list (by rw [List.length_map, B.pl]; omega))) ?_) (e_name hw) ?_) l_nil
  · have key : ∀ f : PyData → Option (Option PyData), (∀ k, k < ws.length → f (.str (ps.getD k eS)) = some (some (.str (ws.getD k eS)))) → cmpL f (ps.map .str) = some (ws.map .str) := fun f H => by
      rw [hps, List.map_map]
      refine (cmpL_all (h := fun k => ws.getD k eS) (k := .str) fun k hk => H k (List.mem_range.mp hk)).trans ?_
      rw [← hws]
    exact key _ fun k hk => c_one ts_nil (e_call rfl g_prep (es_cons (e_name rfl) es_nil) ((f2_prep _).trans (run_prepared (hfw k hk) (B.pc k hk))))
  · rw [ne_strs (fun x hx => (B.fw x hx).1) (fun x hx => (B.fw x hx).1)]; simp
def perL (ws : List Str) : List Int := (List.range ws.length).filterMap fun i => if rot ws (1 + i) = ws then some ((1 + i : Nat) : Int) else none
theorem per_min : ∃ m : Nat, minI (perL ws) = m ∧ perL ws ≠ [] ∧ 0 < m ∧ m ≤ ws.length ∧ rot ws m = ws ∧ ∀ t, 0 < t → t < m → rot ws t ≠ ws := by
  have hmem : ∀ x, x ∈ perL ws ↔ ∃ i, i < ws.length ∧ rot ws (1 + i) = ws ∧ x = ((1 + i : Nat) : Int) := fun x => by
    unfold perL
    rw [List.mem_filterMap]
    constructor
    · rintro ⟨i, h1, h2⟩
      split at h2
      · rename_i h; cases h2; exact ⟨i, List.mem_range.mp h1, h, rfl⟩
      · cases h2
    · rintro ⟨i, h1, h2, rfl⟩
      exact ⟨i, List.mem_range.mpr h1, by rw [if_pos h2]⟩
  have hne : perL ws ≠ [] := by
    have : ((1 + (ws.length - 1) : Nat) : Int) ∈ perL ws := (hmem _).mpr ⟨ws.length - 1, by have := B.n0; omega, by
      have : 1 + (ws.length - 1) = ws.length := by have := B.n0; omega
      rw [this]; unfold rot; simp, rfl⟩
    intro h; rw [h] at this; cases this
  obtain ⟨h1, h2⟩ := minI_mem (perL ws) hne
  obtain ⟨i, hi, hr, e⟩ := (hmem _).mp h1
  refine ⟨1 + i, e, hne, by omega, by omega, hr, fun t t0 t1 ht => ?_⟩
  have := h2 ((1 + (t - 1) : Nat) : Int) ((hmem _).mpr ⟨t - 1, by omega, by rw [show 1 + (t - 1) = t by omega]; exact ht, rfl⟩)
  omega
theorem l_m {ρ : Ro} (hn : ρ vN = some (.dat (.int ws.length))) (hw : ρ vWords = some (.dat (.list (ws.map .str)))) {m : Nat} (hm : minI (perL ws) = m) (hne : perL ws ≠ []) :
    exS F2 53 lsc ((bodyOf st_law).getD 6 default) ρ = some (.next, put ρ vM (.dat (.int m))) := by
  have h8 := B.n8
  refine s_assign rfl rfl (e_call rfl g_min (es_cons (e_comp rfl (i_range2 rfl (es_cons (e_const rfl) (es_cons (e_bin (e_name hn) (e_const rfl) rfl) es_nil)) (by omega) (by omega) (by omega) (by omega)) (ds := (perL ws).map .int) ?_) es_nil) ((f2_min _).trans ((blt_min hne).trans (by rw [hm]))))
  have e1 : rangeD 1 ((ws.length : Int) + 1) = (List.range ws.length).map fun i => .int ((1 + i : Nat) : Int) := by
    unfold rangeD
    have : ((ws.length : Int) + 1 - 1).toNat = ws.length := by omega
    rw [this]
    refine List.map_congr_left fun i _ => ?_
    simp
  rw [e1]
  have e2 : (perL ws).map PyData.int = (List.range ws.length).filterMap fun i => if rot ws (1 + i) = ws then some (.int ((1 + i : Nat) : Int)) else none := by
    unfold perL
    rw [List.map_filterMap]
    refine fm_congr fun i _ => ?_
    split <;> rfl
  rw [e2]
  refine cmpL_map fun i hi => ?_
  have hi := List.mem_range.mp hi
  have hbin : binD .Add (.list (sliceL (ws.map .str) (some ((1 + i : Nat) : Int)) none none)) (.list (sliceL (ws.map .str) none (some ((1 + i : Nat) : Int)) none)) = some (.list ((rot ws (1 + i)).map .str)) := by
    rw [sliceL_from (by rw [List.length_map]; omega), sliceL_upto (by rw [List.length_map]; omega)]
    rw [bin_list (by simp; omega)]
    unfold rot
    rw [List.map_append, List.map_drop, List.map_take]
  have hfr : ∀ x ∈ rot ws (1 + i), FitS x := fun x hx => by
    unfold rot at hx
    rcases List.mem_append.mp hx with h | h
    · exact (B.fw x (List.mem_of_mem_drop h)).1
    · exact (B.fw x (List.mem_of_mem_take h)).1
  have hcmp := eq_strs hfr (fun x hx => (B.fw x hx).1)
  have hz : (ws.map PyData.str).length ≤ 1000000 := by rw [List.length_map]; omega
  split
  · rename_i h
    refine c_one (ts_t (t_cmp rfl (e_bin (e_slice (e_name hw) (ep_some (e_name rfl)) ep_none ep_none hz (by simp)) (e_slice (e_name hw) ep_none (ep_some (e_name rfl)) ep_none hz (by simp)) hbin) (e_name hw) ?_) ts_nil) (e_name rfl)
    rw [hcmp, decide_eq_true h]
  · rename_i h
    refine c_no (ts_f (t_cmp rfl (e_bin (e_slice (e_name hw) (ep_some (e_name rfl)) ep_none ep_none hz (by simp)) (e_slice (e_name hw) ep_none (ep_some (e_name rfl)) ep_none hz (by simp)) hbin) (e_name hw) ?_))
    rw [hcmp, decide_eq_false h]
theorem l_rows {ρ : Ro} (hn : ρ vN = some (.dat (.int ws.length))) (hw : ρ vWords = some (.dat (.list (ws.map .str)))) (hp : ρ vPieces = some (.dat (.list (ps.map .str)))) :
    exS F2 52 lsc ((bodyOf st_law).getD 7 default) ρ = some (.next, put ρ sRows (.dat (.list ((rowsL ws ps).map .tuple)))) := by
  have h8 := B.n8
  refine s_assign rfl rfl (e_comp rfl (range_ev (by omega) rfl (e_name hn)) ?_)
  unfold rowsL
  refine cmpL_all (k := .tuple) fun k hk => ?_
  have hk := List.mem_range.mp hk
  have hz : (ws.map PyData.str).length ≤ 1000000 := by rw [List.length_map]; omega
  refine c_one ts_nil (e_call rfl g_tuple (es_cons (e_bin (e_bin (e_slice (e_name hw) (ep_some (e_name rfl)) ep_none ep_none hz (by simp)) (e_slice (e_name hw) ep_none (ep_some (e_name rfl)) ep_none hz (by simp)) (bin_list ?_)) (e_list (es_cons (e_sub (e_name hp) (e_name rfl) (idx_strs (by rw [B.pl]; exact hk) (by rw [B.pl]; omega))) es_nil) (by simp)) (d := .list (rowOf ws ps k)) ?_) es_nil) ((f2_tuple _).trans (blt_tuple ?_)))
  · rw [sliceL_from (by rw [List.length_map]; omega), sliceL_upto (by rw [List.length_map]; omega)]; simp; omega
  · rw [sliceL_from (by rw [List.length_map]; omega), sliceL_upto (by rw [List.length_map]; omega), bin_list (by simp; omega)]
    unfold rowOf rot
    rw [List.map_append, List.map_append, List.map_drop, List.map_take]
    rfl
  · rw [rowOf_len (by omega)]; omega
end
end
end Mine
end SLG
section SLH
open PySem PySem.W PyProof.Rows PySem.Calls
set_option maxRecDepth 100000
namespace Mine
noncomputable section
def numsOf (xs : List Int) : List Int := if xs.isEmpty = true then [2, 5, 0, 8, 8, 27651] else (xs.take 8).map fun x => x.fmod 774144
theorem nums_len (xs : List Int) : 0 < (numsOf xs).length ∧ (numsOf xs).length ≤ 8 := by
  unfold numsOf
  cases xs with
  | nil => decide
  | cons x r => simp; omega
theorem l_nums {ρ : Ro} {xs : List Int} (hx : xs.length ≤ 63) (h : ρ (Str.ofString "script") = some (.dat (.list (xs.map .int)))) :
    exS F2 59 lsc ((bodyOf st_law).getD 0 default) ρ = some (.next, put ρ vNumbers (.dat (.list ((numsOf xs).map .int)))) := by
  unfold numsOf
  have hne := ne_ints xs
  cases e : xs.isEmpty with
  | true =>
    rw [e] at hne
    rw [if_pos rfl]
    exact s_assign rfl rfl (e_iff (t_cmp rfl (e_name h) (e_list es_nil (by decide)) hne) (e_list (es_cons (e_const rfl) (es_cons (e_const rfl) (es_cons (e_const rfl) (es_cons (e_const rfl) (es_cons (e_const rfl) (es_cons (e_const rfl) es_nil)))))) (by decide)))
  | false =>
    rw [e] at hne
    have hs : sliceL (xs.map PyData.int) none (some 8) none = (xs.take 8).map .int := by
      by_cases h8 : 8 ≤ xs.length
      · have := sliceL_upto (xs := xs.map PyData.int) (b := 8) (by rw [List.length_map]; exact h8)
        rw [List.map_take]; exact this
      · have e1 : sliceL (xs.map PyData.int) none (some 8) none = sliceL (xs.map PyData.int) none (some ((xs.map PyData.int).length : Int)) none := by
          unfold sliceL
          have e2 : sliceBounds none (some (8 : Int)) none (xs.map PyData.int).length = sliceBounds none (some ((xs.map PyData.int).length : Int)) none (xs.map PyData.int).length := by
            unfold sliceBounds
            simp
            omega
          rw [e2]
        rw [e1, sliceL_upto (Nat.le_refl _), List.take_of_length_le (by simp), List.take_of_length_le (by omega)]
    refine s_assign rfl rfl (e_ift (t_cmp rfl (e_name h) (e_list es_nil (by decide)) hne) (e_comp rfl (i_val rfl (e_slice (e_name h) ep_none (ep_some (e_const rfl)) ep_none (by rw [List.length_map]; omega) (by simp)) (items_list ?_)) ?_))
    · rw [hs]; simp; omega
    · rw [hs]
      simp only [Bool.false_eq_true, if_false]
      exact cmpL_all (k := .int) fun x _ => c_one ts_nil (e_bin (e_name rfl) (e_const rfl) (bin_mod (by decide)))
theorem law_plain (xs : List Int) (h : xs.length ≤ 63) : runF F2 st_law [Str.ofString "script"] [.list (xs.map .int)] = some (.bool true) := by
  obtain ⟨h0, h8⟩ := nums_len xs
  let ρ0 : Ro := bindAll [Str.ofString "script"] [.list (xs.map .int)] fun _ => none
  have s0 := l_nums (ρ := ρ0) h rfl
  generalize hns : numsOf xs = ns at h0 h8 s0
  let ρ1 : Ro := put ρ0 vNumbers (.dat (.list (ns.map .int)))
  have s1 : exS F2 58 lsc ((bodyOf st_law).getD 1 default) ρ1 = some (.next, put ρ1 vN (.dat (.int ns.length))) :=
    s_assign rfl rfl (e_call rfl g_len (es_cons (e_name rfl) es_nil) ((f2_len _).trans ((blt_len_list (by rw [List.length_map]; omega)).trans (by rw [List.length_map]))))
  let ρ2 : Ro := put ρ1 vN (.dat (.int ns.length))
  have hfm0 : 0 ≤ ns.sum.fmod ns.length := Int.fmod_nonneg_of_pos _ (by omega)
  have hfm1 : ns.sum.fmod ns.length < ns.length := Int.fmod_lt_of_pos _ (by omega)
  obtain ⟨fw, hfw⟩ : ∃ fw : Nat, 1 + ns.sum.fmod ns.length = fw := ⟨(1 + ns.sum.fmod ns.length).toNat, by omega⟩
  have s2 : exS F2 57 lsc ((bodyOf st_law).getD 2 default) ρ2 = some (.next, put ρ2 vFew (.dat (.int fw))) := by
    rw [← hfw]
    exact s_assign rfl rfl (e_bin (e_const rfl) (e_bin (e_call rfl g_sum (es_cons (e_name rfl) es_nil) ((f2_sum _).trans (blt_sum ns))) (e_name rfl) (bin_mod (by omega))) rfl)
  let ρ3 : Ro := put ρ2 vFew (.dat (.int fw))
  have hf0 : 0 < fw := by omega
  have hf : fw ≤ ns.length := by omega
  have s3 := l_words h0 h8 hf0 hf (ρ := ρ3) rfl rfl rfl
  have B := base_of (fw := fw) h0 h8
  have hl : (wsOf ns fw).length = ns.length := by simp [wsOf]
  have s4 := l_pieces h0 h8 hf0 hf (ρ := put ρ3 vWords (.dat (.list ((wsOf ns fw).map .str)))) rfl rfl rfl
  generalize hr5 : put (put ρ3 vWords (.dat (.list ((wsOf ns fw).map .str)))) vPieces (.dat (.list ((psOf ns fw).map .str))) = ρ5 at s4
  have n5 : ρ5 vN = some (.dat (.int (wsOf ns fw).length)) := by rw [hl]; subst hr5; rfl
  have w5 : ρ5 vWords = some (.dat (.list ((wsOf ns fw).map .str))) := by subst hr5; rfl
  have p5 : ρ5 vPieces = some (.dat (.list ((psOf ns fw).map .str))) := by subst hr5; rfl
  generalize wsOf ns fw = ws at *
  generalize psOf ns fw = ps at *
  have s5 := l_prep B w5 p5
  obtain ⟨m, hm, hne, m0, m1, hrot, hleast⟩ := per_min B
  have s6 := l_m B n5 w5 hm hne
  have s7 := l_rows B (ρ := put ρ5 vM (.dat (.int m))) n5 w5 p5
  have E : LEnv (put (put ρ5 vM (.dat (.int m))) sRows (.dat (.list ((rowsL ws ps).map .tuple)))) ws ps m := ⟨n5, w5, p5, rfl, rfl⟩
  obtain ⟨ρ', s8⟩ := loops B (fun up turn hu ht => ring_of m0 m1 hrot hleast hu ht) E
  exact run_of rfl (l_next s0 (l_next s1 (l_next s2 (l_next s3 (l_next s4 (l_next s5 (l_next s6 (l_next s7 (l_next s8 (l_ret (s_ret (e_const rfl))))))))))))
end
end Mine
end SLH
section SXB
open PySem PySem.W PyProof.Rows PySem.Calls
set_option maxRecDepth 100000
namespace Mine
theorem has_int {R : WRecords} {x : WData} (h : WShape.has R x .int = true) : ∃ i, x = .int i := by
  cases x <;> first
    | exact ⟨_, rfl⟩
    | (simp [WShape.has, WShape.arms] at h)
theorem items_int {R : WRecords} : ∀ {xs : List WData}, WShape.hasItems R xs .int = true → ∃ is : List Int, xs = is.map .int
  | [], _ => ⟨[], rfl⟩
  | x :: xs, h => by
    simp only [WShape.hasItems, Bool.and_eq_true] at h
    obtain ⟨i, rfl⟩ := has_int h.1
    obtain ⟨is, rfl⟩ := items_int h.2
    exact ⟨i :: is, rfl⟩
theorem has_ints {R : WRecords} {x : WData} (h : WShape.has R x (.list .int) = true) : ∃ is : List Int, x = .list (is.map .int) := by
  cases x <;> first
    | (simp [WShape.has, WShape.arms] at h; done)
    | skip
  simp [WShape.has, WShape.arms] at h
  obtain ⟨is, rfl⟩ := items_int h
  exact ⟨is, rfl⟩
theorem len_pre {is : List Int} (h : (OpenLaw.pre PySem.Challenge.rw_mr0250_01).holds [] { args := [.list (is.map .int)] } = true) : is.length ≤ 63 := by
  have e : OpenLaw.pre PySem.Challenge.rw_mr0250_01 = .and (.not (.lt (.lit (.int 63)) (.len (.arg 0)))) (.lit (.bool true)) := rfl
  rw [e] at h
  simp [WTm.holds, WTm.value] at h
  have hl : less? (WData.int 63) (WData.int (is.length : Int)) = some (decide ((63 : Int) < (is.length : Int))) := rfl
  rw [hl] at h
  by_cases hx : (63 : Int) < (is.length : Int)
  · simp [hx] at h
  · omega
theorem pre_args {args : List WData} (h : PySem.Challenge.rw_mr0250_01.row.claim.pre args = true) : ∃ xs : List Int, xs.length ≤ 63 ∧ args = [.list (xs.map .int)] := by
  have h' : (WShape.hasAll [] args [.list .int] && (OpenLaw.pre PySem.Challenge.rw_mr0250_01).holds [] { args := args }) = true := h
  rw [Bool.and_eq_true] at h'
  obtain ⟨h1, h2⟩ := h'
  cases args with
  | nil => cases h1
  | cons x r =>
    simp only [WShape.hasAll, Bool.and_eq_true] at h1
    obtain ⟨is, rfl⟩ := has_ints h1.1
    cases r with
    | cons y r => simp [WShape.hasAll] at h1
    | nil => exact ⟨is, len_pre h2, rfl⟩
end Mine
end SXB
section SXA
open PySem PySem.W PyProof.Rows PySem.Calls
open Mine
set_option maxRecDepth 100000
namespace Mine
theorem said1 : OpenLaw.wellSaid PySem.Challenge.rw_mr0250_01 = true := by kernel_rfl
end Mine
set_option maxRecDepth 100000 in
set_option maxHeartbeats 0 in
theorem PySem.Challenge.cw_mr0250_01_holds : PySem.Challenge.rw_mr0250_01.Holds := by
  refine holds_law said1 fun said => ?_
  refine PySem.W.holds_open (q := qq) (loose := lse) (Xt := Xt0) (XP := fun _ _ => True) (Yf := Yf0) (Ya := Ya0) (YP := says1) (N := 20000) left1 says_of says_keeps (fun _ _ => trivial) (fun _ _ _ _ _ => trivial) (by rfl) (by rfl) (by rfl) (fun _ _ => recFacts_nil rfl) (by rfl) (by first | assumption | decide +kernel) (by decide +kernel) ⟨rfl, rfl, rfl, rfl, rfl, by decide +kernel⟩ ?hw ?hc
  case hw => w_witness2
  case hc =>
    intro w s₀ s₁ mg mb G y fa o pm cd doc dV kV ho hd hcd hD hmg hg args vals as hpre hlay hrd hwl hlo
    have hfa : fa = 149 := by
      have e1 := ns_fun G.T.g (ns_of (y 3 _ rfl) (keys3 w.params)) (Str.ofString "law")
      have e2 : mg (Str.ofString "law") = some (.ref fa) := hmg
      rw [e2] at e1
      have e3 : nsFind (dictEs (oC_3 w.params)) (Str.ofString "law") = some (.ref 149) := by kernel_rfl
      rw [e3] at e1
      cases e1; rfl
    subst hfa
    clear ho hd hcd hD hmg hrd hlo
    have key : ∃ xs : List Int, xs.length ≤ 63 ∧ args = [.list (xs.map .int)] := pre_args hpre
    obtain ⟨xs, hxs, rfl⟩ := key
    cases hwl with
    | cons h1 h2 =>
      cases h2
      cases h1 with
      | list hget hall =>
        rename_i a vs
        have r : Rps (fun _ => False) s₁.heap (xs.map .int) vs := by
          clear hget hpre hlay hxs
          induction xs generalizing vs with
          | nil => cases hall; simp only [List.map_nil, Rps]
          | cons x xs ih =>
            cases hall with
            | cons hx hr =>
              cases hx
              simp only [List.map_cons, Rps]
              exact ⟨_, _, rfl, rp_int, ih hr⟩
        refine wpAny_mono (law_call w (law_plain xs hxs) callerA s₁ (fun _ => False) [.ref a] _ (AOk.caller.mono (by decide)) y (fun _ h => h.elim) ?_) (fun v s' q => ?_) fun _ _ e => e
        · simp only [Rps, Rp]
          exact ⟨_, [], rfl, ⟨a, vs, rfl, fun h => h, ⟨0, hget⟩, r⟩, rfl⟩
        · obtain ⟨q1, h', tk, rfl, kk⟩ := q
          simp only [Rp] at q1
          subst q1
          refine ⟨.inl ⟨.bool true, .bool true, [], rfl, fun _ => rfl, .bool true, by kernel_rfl, fun _ => ⟨List.nodup_nil, fun _ h => nomatch h⟩⟩, ?_, rfl, ?_⟩
          · exact .of_keep kk
          · exact .of_eq hg
end SXA
