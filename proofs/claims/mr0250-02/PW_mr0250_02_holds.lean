import PyProof.Rows.All
import Wide.All
import OpenK.AllK
import Wide.FinOn
import KE.KUnpack
import KE.KSortTup
import PySem.Challenge.RW_mr0250_02
set_option Elab.async false
section SHA
open PySem PySem.W PyProof.Rows
namespace Mine
noncomputable def Run1 (p : Program) (w : World) (n₀ : Nat) (ann : Option Value) (c : Code) (B : List Frame) {α : Type} (n : Nat) (x : Sem α) (s : Shared) (q : Pos) (a : α) (s' : Shared) (q' : Pos) : Prop :=
  ∀ (K : α → Sem Fin) (H : Value → Sem Fin) (gd : Bool → Bool) (lv : List Value → List Value) (N : Nat) (r : Shared),
    topRun treeTable p w n₀ ann N s' ⟨K a, c, q', B⟩ = some r → topRun treeTable p w n₀ ann (n + N) s ⟨x.wrap K H gd lv, c, q, B⟩ = some r
section
variable {p : Program} {w : World} {n₀ : Nat} {ann : Option Value} {b : List Stmt} {env : Env} {B : List Frame} {α β : Type} {s s' s'' : Shared} {q q' q'' : Pos}
theorem r1_pure {c : Code} (a : α) : Run1 p w n₀ ann c B 0 (Pure.pure a : Sem α) s q a s q := fun K H gd lv N r h => by
  rw [Nat.zero_add]; exact h
theorem r1_bind {c : Code} {n m : Nat} {x : Sem α} {f : α → Sem β} {a : α} {b : β} (h1 : Run1 p w n₀ ann c B n x s q a s' q') (h2 : Run1 p w n₀ ann c B m (f a) s' q' b s'' q'') :
    Run1 p w n₀ ann c B (n + m) (x >>= f) s q b s'' q'' := fun K H gd lv N r h => by
  rw [Sem.bind_eq_wrap', Sem.wrap_wrap, Nat.add_assoc]
  exact h1 _ _ _ _ _ _ (h2 K H gd lv N r h)
theorem r1_keep {c : Code} {n : Nat} {x : Sem α} {a : α} (vs : List Value) (h1 : Run1 p w n₀ ann c B n x s q a s' q') : Run1 p w n₀ ann c B n (x.keep vs) s q a s' q' := fun K H gd lv N r h => by
  rw [Sem.keep_eq_wrap, Sem.wrap_wrap]
  exact h1 _ _ _ _ _ _ h
theorem r1_holding {c : Code} {n : Nat} {x : Sem α} {a : α} {vs : List Value} (h1 : Run1 p w n₀ ann c B n x s q a s' q') : Run1 p w n₀ ann c B n (PySem.holding vs x) s q a s' q' := by
  unfold PySem.holding
  split
  · exact h1
  · exact r1_keep _ h1
theorem r1_onRaise {c : Code} {n : Nat} {x : Sem α} {a : α} {g : Value → Sem Unit} (h1 : Run1 p w n₀ ann c B n x s q a s' q') : Run1 p w n₀ ann c B n (x.onRaise g) s q a s' q' := fun K H gd lv N r h => by
  rw [Sem.onRaise_eq_wrap, Sem.wrap_wrap]
  exact h1 _ _ _ _ _ _ h
theorem r1_cast {c : Code} {n n' : Nat} {x : Sem α} {a : α} (h1 : Run1 p w n₀ ann c B n x s q a s' q') (e : n = n') : Run1 p w n₀ ann c B n' x s q a s' q' := e ▸ h1
theorem topRun_step {c : Code} {N : Nat} {r s₂ : Shared} {cur : Sem Fin} {t : Thread} (h0 : through ⟨cur, c, q, B⟩ = false) (h1 : stepOk n₀ ann ⟨cur, c, q, B⟩ = true)
    (h2 : step (denote treeTable) p w s ⟨cur, c, q, B⟩ = .go s₂ t) (h : topRun treeTable p w n₀ ann N s₂ t = some r) : topRun treeTable p w n₀ ann (1 + N) s ⟨cur, c, q, B⟩ = some r := by
  rw [Nat.add_comm]
  unfold topRun
  rw [h0, h1, h2]
  exact h
theorem r1_fresh : Run1 p w n₀ ann (.body b env) B 1 PySem.fresh s q s.toks { s with toks := s.toks + 1 } q := fun K H gd lv N r h => topRun_step (by cases B <;> rfl) rfl rfl h
theorem r1_rule {t : String} : Run1 p w n₀ ann (.body b env) B 1 (PySem.rule t) s q () s q := fun K H gd lv N r h => topRun_step (by cases B <;> rfl) rfl rfl h
theorem r1_standAt {q' : Pos} : Run1 p w n₀ ann (.body b env) B 1 (PySem.standAt q') s q () s q' := fun K H gd lv N r h => topRun_step (by cases B <;> rfl) rfl rfl h
theorem r1_ask : Run1 p w n₀ ann (.body b env) B 1 PySem.ask s q ⟨p, w.params⟩ s q := fun K H gd lv N r h => topRun_step (by cases B <;> rfl) rfl rfl h
theorem r1_loadPart {a : Addr} {pt : Option Value} {o : Obj} (ho : s.heap.get? a = some o) : Run1 p w n₀ ann (.body b env) B 1 (PySem.loadPart a pt) s q o s q := fun K H gd lv N r h => by
  refine topRun_step (s₂ := s) (by cases B <;> rfl) rfl ?_ h
  obtain ⟨heap, gens, drawn, toks, os⟩ := s
  have ho' : heap.get? a = some o := ho
  show (match heap.get? a with | some o => _ | none => _) = _
  rw [ho']; rfl
theorem r1_updatePart {a : Addr} {pt : Option Value} {o : Obj} {f : Obj → Obj} (ho : s.heap.get? a = some o) (hn : n₀ ≤ a) : Run1 p w n₀ ann (.body b env) B 1 (PySem.updatePart a pt f) s q () { s with heap := s.heap.update a f } q := fun K H gd lv N r h => by
  refine topRun_step (s₂ := { s with heap := s.heap.update a f }) (by cases B <;> rfl) ?_ ?_ h
  · show (Nat.ble n₀ a || _ || _ || _) = true
    rw [Nat.ble_eq_true_of_le hn]; rfl
  · obtain ⟨heap, gens, drawn, toks, os⟩ := s
    have ho' : heap.get? a = some o := ho
    show (if (heap.get? a).isSome = true then _ else _) = _
    rw [ho']; rfl
theorem r1_alloc {o : Obj} : Run1 p w n₀ ann (.body b env) B 1 (PySem.alloc o) s q s.heap.objs.size { s with heap := s.heap.push o } q := fun K H gd lv N r h => topRun_step (by cases B <;> rfl) rfl rfl h
end
end Mine
end SHA
section SHB
open PySem PySem.W PyProof.Rows
set_option maxRecDepth 10000
namespace Mine
section
variable {p : Program} {w : World} {n₀ : Nat} {ann : Option Value} {b : List Stmt} {env : Env} {B : List Frame} {α β : Type} {s s' s'' : Shared} {q q' q'' : Pos}
theorem check_hash (k : Int) (t : Tok) : checkBuiltinCall "int.__hash__" ⟨[.int k t], []⟩ = pure () := by kernel_rfl
theorem r1_of_eq {c : Code} {n : Nat} {x y : Sem α} {a : α} (e : x = y) (h1 : Run1 p w n₀ ann c B n y s q a s' q') : Run1 p w n₀ ann c B n x s q a s' q' := e ▸ h1
theorem den_call_hash (k : Int) (t : Tok) : denote treeTable (.call (.builtin "int.__hash__") ⟨[.int k t], []⟩) = .pure (.again (.builtin "int.__hash__" ⟨[.int k t], []⟩)) := by
  show callAny (.builtin "int.__hash__") ⟨[.int k t], []⟩ = _
  unfold callAny
  dsimp only
  rw [check_hash]; rfl
theorem den_hash (k : Int) (t : Tok) : denote treeTable (.builtin "int.__hash__" ⟨[.int k t], []⟩) = (do ret (← mkInt (rawHash k))) := by
  rw [← table_eq_tree]
  unfold denote
  dsimp only
  rw [entry_int_hash]
  rfl
theorem r1_callHash {k : Int} {t : Tok} : Run1 p w n₀ ann (.body b env) B 4 (PySem.call (.builtin "int.__hash__") [.int k t]) s q (.int (rawHash k) s.toks) { s with toks := s.toks + 1 } q := fun K H gd lv N r h => by
  have e1 : (4 + N) = 1 + (1 + (1 + (1 + N))) := by omega
  rw [e1]
  refine topRun_step (by cases B <;> rfl) (by kernel_rfl) rfl ?_
  rw [den_call_hash]
  refine topRun_step rfl (by kernel_rfl) rfl ?_
  rw [den_hash]
  refine topRun_step rfl (by kernel_rfl) rfl ?_
  refine topRun_step rfl (by kernel_rfl) rfl ?_
  exact h
theorem r1_pyHash_int {k : Int} {t : Tok} (h0 : 0 ≤ k) (h1 : k < 2 ^ 32) : Run1 p w n₀ ann (.body b env) B 5 (pyHash (.int k t)) s q k { s with toks := s.toks + 1 } q := by
  have hr : rawHash k = k := by
    unfold rawHash
    have e1 : ((k.natAbs % (2 ^ 61 - 1 : Nat) : Nat) : Int) = k := by omega
    have e2 : ¬ k < 0 := by omega
    show (if (if k < 0 then -((k.natAbs % (2 ^ 61 - 1 : Nat) : Nat) : Int) else ((k.natAbs % (2 ^ 61 - 1 : Nat) : Nat) : Int)) == -1 then (-2 : Int) else (if k < 0 then -((k.natAbs % (2 ^ 61 - 1 : Nat) : Nat) : Int) else ((k.natAbs % (2 ^ 61 - 1 : Nat) : Nat) : Int))) = k
    rw [if_neg e2, e1, if_neg]
    intro h
    have := eq_of_beq h
    omega
  have hl : specialOf (.int k t) "__hash__" = pure (some (.builtin "int.__hash__")) := by
    show (typeLookup (.type "int") "__hash__") = _
    exact slot_int_hash.lookup
  refine r1_of_eq (y := do
    match ← callSpecialIfBoundUnlessNone? (.int k t) "__hash__" (do rule "hash.unhashable"; raiseError "TypeError" s!"unhashable type: '{← typeNameOf (.int k t)}'") with
    | some (.int i _) => pyHashByItsType.reduced i
    | some (.bool b) => pure (if b then 1 else 0)
    | some (.ref a) =>
      match (← load a).data with
      | .prim (.int i _) =>
        rule "hash.int-subclass"
        let h ← pyHashByItsType.reduced i
        point
        pure h
      | _ => raiseError "TypeError" "__hash__ method should return an integer"
    | some r => do notAStandIn r; raiseError "TypeError" "__hash__ method should return an integer"
    | none => raiseError "TypeError" s!"unhashable type: '{← typeNameOf (.int k t)}'") ?_ ?_
  · show pyHashByItsType (.int k t) = _
    unfold pyHashByItsType
    rw [hl]
    rfl
  refine' r1_cast (n := 5 + 0) (r1_bind (a := some (.int k s.toks)) (s' := { s with toks := s.toks + 1 }) (q' := q) ?_ ?_) rfl
  · unfold callSpecialIfBoundUnlessNone?
    refine r1_holding ?_
    refine' r1_cast (n := 1 + (4 + 0)) (r1_bind (a := some (.builtin "int.__hash__", [.int k t])) (s' := s) (q' := q) ?_ ?_) rfl
    · unfold bindSpecialIfBound?
      rw [hl]
      refine' r1_cast (n := 0 + (1 + 0)) (r1_bind (r1_pure _) ?_) rfl
      refine' r1_bind r1_ask ?_
      have e : (do return some (← bindSpecial (.builtin "int.__hash__") (.int k t)) : Sem (Option (Value × List Value))) = pure (some (.builtin "int.__hash__", [.int k t])) := by
        rw [slot_int_hash.bind]; rfl
      dsimp only
      rw [e]
      split
      · exact r1_pure _
      · exact r1_pure _
    · show Run1 p w n₀ ann _ B (4 + 0) (PySem.call (.builtin "int.__hash__") [.int k t] >>= fun v => pure (some v)) _ _ _ _ _
      refine' r1_bind r1_callHash ?_
      rw [hr]
      exact r1_pure _
  · show Run1 p w n₀ ann _ B 0 (pyHashByItsType.reduced k) _ _ _ _ _
    unfold pyHashByItsType.reduced
    rw [if_pos (by simp only [Bool.and_eq_true, decide_eq_true_eq]; omega), if_neg (by intro h; have := eq_of_beq h; omega)]
    exact r1_pure _
end
end Mine
end SHB
section SHC
open PySem PySem.W PyProof.Rows
set_option maxRecDepth 10000
namespace Mine
noncomputable def dobj (es : List DictEntry) (ep : Nat) : Obj := ⟨.type "dict", none, .dict es.toArray ep, #[]⟩
noncomputable def hput (h : Heap) (d : Addr) (o : Obj) : Heap := ⟨h.objs.setIfInBounds d o, h.life⟩
theorem get_lt {h : Heap} {d : Addr} {o : Obj} (ho : h.get? d = some o) : d < h.objs.size := Heap.lt_size ho
theorem objs_of_get {h : Heap} {d : Addr} {o : Obj} (ho : h.get? d = some o) : h.objs[d]? = some o := by
  unfold Heap.get? at ho
  split at ho
  · cases ho
  · exact ho
theorem update_put {h : Heap} {d : Addr} {o : Obj} {f : Obj → Obj} (ho : h.get? d = some o) : h.update d f = hput h d (f o) := by
  have hl := get_lt ho
  have he := objs_of_get ho
  obtain ⟨objs, life⟩ := h
  have he : objs[d]? = some o := he
  have hl : d < objs.size := hl
  show Heap.mk (objs.modify d f) life = Heap.mk (objs.setIfInBounds d (f o)) life
  congr 1
  apply Array.ext_getElem?
  intro i
  rw [Array.getElem?_modify, Array.getElem?_setIfInBounds]
  by_cases e : d = i
  · subst e; rw [he]; simp [hl]
  · simp [e]
theorem update_id {h : Heap} {d : Addr} : h.update d id = h := by
  obtain ⟨objs, life⟩ := h
  show Heap.mk (objs.modify d id) life = Heap.mk objs life
  congr 1
  apply Array.ext_getElem?
  intro i
  rw [Array.getElem?_modify]
  split <;> simp
theorem get_put_self {h : Heap} {d : Addr} {es : List DictEntry} {ep : Nat} (hl : d < h.objs.size) : (hput h d (dobj es ep)).get? d = some (dobj es ep) := by
  unfold Heap.get? hput dobj
  simp [Array.getElem?_setIfInBounds, hl]
theorem get_put_ne {h : Heap} {a d : Addr} {o o' : Obj} (hne : d ≠ a) (ho : h.get? a = some o) : (hput h d o').get? a = some o := by
  have he := objs_of_get ho
  unfold Heap.get? at ho ⊢
  unfold hput
  simp only [Array.getElem?_setIfInBounds, hne, if_false]
  exact ho
theorem put_put {h : Heap} {d : Addr} {o o' : Obj} : hput (hput h d o) d o' = hput h d o' := by
  unfold hput
  simp
theorem size_put {h : Heap} {d : Addr} {o : Obj} : (hput h d o).objs.size = h.objs.size := by
  unfold hput; simp
theorem put_push {h : Heap} {o o' : Obj} : hput (h.push o) h.objs.size o' = h.push o' := by
  obtain ⟨objs, life⟩ := h
  unfold hput Heap.push
  congr 1
  apply Array.ext_getElem?
  intro i
  rw [Array.getElem?_setIfInBounds]
  by_cases e : objs.size = i
  · subst e; simp
  · simp [e, Array.getElem?_push, Ne.symm e]
theorem push_put {h : Heap} {d : Addr} {o o' : Obj} (hl : d < h.objs.size) : hput (h.push o) d o' = (hput h d o').push o := by
  obtain ⟨objs, life⟩ := h
  have hl : d < objs.size := hl
  unfold hput Heap.push
  congr 1
  apply Array.ext_getElem?
  intro i
  simp only [Array.getElem?_setIfInBounds, Array.getElem?_push, Array.size_setIfInBounds, Array.size_push]
  by_cases e : d = i
  · subst e
    have : d ≠ objs.size := Nat.ne_of_lt hl
    simp [hl, this, Nat.lt_succ_of_lt hl]
  · simp [e]
theorem get_push {h : Heap} {a : Addr} {o o' : Obj} (ho : h.get? a = some o) : (h.push o').get? a = some o := Heap.get?_push_of_some _ ho
theorem get_push_self {h : Heap} {es : List DictEntry} {ep : Nat} : (h.push (dobj es ep)).get? h.objs.size = some (dobj es ep) := Heap.get?_push_size _ rfl
theorem places_nil {es : List DictEntry} {k : Int} (hk : ∀ e ∈ es, e.hash ≠ k) : placesWithHash es.toArray.size (fun i => es.toArray[i]?.map (·.hash)) k = [] := by
  unfold placesWithHash
  rw [List.filter_eq_nil_iff]
  intro i hi h
  have hi' : i < es.length := by simpa using hi
  have he : es.toArray[i]? = some es[i] := by simp [hi']
  dsimp only at h
  rw [he] at h
  exact hk _ (List.getElem_mem hi') (by simpa using h)
section
variable {p : Program} {w : World} {n₀ : Nat} {ann : Option Value} {b : List Stmt} {env : Env} {B : List Frame} {α β : Type} {s s' s'' : Shared} {q q' q'' : Pos}
theorem r1_dictEntries {d : Addr} {pt : Option Value} {es : List DictEntry} {ep : Nat} (ho : s.heap.get? d = some (dobj es ep)) : Run1 p w n₀ ann (.body b env) B 1 (dictEntries d pt) s q es.toArray s q := by
  unfold dictEntries
  exact r1_cast (n := 1 + 0) (r1_bind (r1_loadPart ho) (r1_pure _)) rfl
theorem r1_dictEpoch {d : Addr} {pt : Option Value} {es : List DictEntry} {ep : Nat} (ho : s.heap.get? d = some (dobj es ep)) : Run1 p w n₀ ann (.body b env) B 1 (dictEpoch d pt) s q ep s q := by
  unfold dictEpoch
  exact r1_cast (n := 1 + 0) (r1_bind (r1_loadPart ho) (r1_pure _)) rfl
theorem r1_dictFind {d : Addr} {k : Int} {t : Tok} {es : List DictEntry} {ep : Nat} (ho : s.heap.get? d = some (dobj es ep)) (hk : ∀ e ∈ es, e.hash ≠ k) :
    Run1 p w n₀ ann (.body b env) B 1 (dictFind d (.int k t) k) s q none s q := by
  unfold dictFind
  refine r1_holding ?_
  refine r1_cast (n := 1 + 0) (r1_bind (r1_dictEntries ho) ?_) rfl
  dsimp only
  rw [places_nil hk]
  exact r1_pure _
theorem r1_addKey {d : Addr} {pt : Option Value} {e : DictEntry} {es : List DictEntry} {ep : Nat} (ho : s.heap.get? d = some (dobj es ep)) (hn : n₀ ≤ d) (hz : es.length ≤ 100000) :
    Run1 p w n₀ ann (.body b env) B 3 (updateDictKeys d (·.push e) pt) s q () { s with heap := hput s.heap d (dobj (es ++ [e]) (ep + 1)) } q := by
  unfold updateDictKeys
  have e1 : s.heap.update d (Obj.mapDictKeys (·.push e)) = hput s.heap d (dobj (es ++ [e]) (ep + 1)) := by
    rw [update_put ho]
    unfold dobj Obj.mapDictKeys
    simp
  refine r1_cast (n := 1 + (1 + (1 + 0))) (r1_bind (r1_loadPart ho) ?_) rfl
  dsimp only [dobj]
  refine r1_bind (r1_updatePart ho hn) ?_
  rw [e1]
  unfold lookBehind
  refine r1_bind (r1_loadPart (get_put_self (get_lt ho))) ?_
  have e2 : (dobj (es ++ [e]) (ep + 1)).data.pastItsLine = none := by
    show (if (es ++ [e]).toArray.size > sizeLine + 1 then some "dict:memory" else none) = none
    rw [if_neg]
    have : sizeLine = 2 ^ 24 := rfl
    simp only [List.size_toArray, List.length_append, List.length_cons, List.length_nil]
    omega
  rw [e2]
  exact r1_pure _
theorem r1_dictPut {d : Addr} {k : Int} {t : Tok} {v : Value} {es : List DictEntry} {ep : Nat} (ho : s.heap.get? d = some (dobj es ep)) (hn : n₀ ≤ d) (hk : ∀ e ∈ es, e.hash ≠ k) (hz : es.length ≤ 100000) :
    Run1 p w n₀ ann (.body b env) B 4 (dictPut d k (.int k t) v) s q () { s with heap := hput s.heap d (dobj (es ++ [⟨k, .int k t, v⟩]) (ep + 1)) } q := by
  unfold dictPut
  refine r1_cast (n := 1 + 3) (r1_bind (r1_dictFind ho hk) ?_) rfl
  exact r1_addKey ho hn hz
theorem r1_dictSet {d : Addr} {k : Int} {t : Tok} {v : Value} {es : List DictEntry} {ep : Nat} (ho : s.heap.get? d = some (dobj es ep)) (hn : n₀ ≤ d) (hk : ∀ e ∈ es, e.hash ≠ k) (hz : es.length ≤ 100000) (h0 : 0 ≤ k) (h1 : k < 2 ^ 32) :
    Run1 p w n₀ ann (.body b env) B 10 (dictSet d (.int k t) v) s q () { s with heap := hput s.heap d (dobj (es ++ [⟨k, .int k t, v⟩]) (ep + 1)), toks := s.toks + 1 } q := by
  unfold dictSet
  refine r1_holding ?_
  refine r1_cast (n := 5 + 5) (r1_bind (r1_pyHash_int h0 h1) ?_) rfl
  unfold dictSetHashed
  refine r1_holding ?_
  refine r1_cast (n := 1 + (1 + 3)) (r1_bind (r1_dictFind (s := { s with toks := s.toks + 1 }) ho hk) ?_) rfl
  dsimp only
  refine r1_bind r1_rule ?_
  exact r1_addKey (s := { s with toks := s.toks + 1 }) ho hn hz
noncomputable def pairOf (env : Env) (pos : Pos) (x : (Int × Nat × Pos) × (Str × Nat × Pos)) : Sem Value × Sem Value := (eval (.Constant (.int x.1.1) x.1.2.1 x.1.2.2) env, do let v ← eval (.Constant (.str x.2.1) x.2.2.1 x.2.2.2) env; standAt pos; pure v)
noncomputable def ents3 : Nat → List ((Int × Nat × Pos) × (Str × Nat × Pos)) → List DictEntry
  | _, [] => []
  | t, x :: r => ⟨x.1.1, .int x.1.1 t, .str x.2.1 (t + 1)⟩ :: ents3 (t + 3) r
noncomputable def ents2 : Nat → List ((Int × Nat × Pos) × (Str × Nat × Pos)) → List DictEntry
  | _, [] => []
  | t, x :: r => ⟨x.1.1, .int x.1.1 t, .str x.2.1 (t + 1)⟩ :: ents2 (t + 2) r
noncomputable abbrev Pr := (Int × Nat × Pos) × (Str × Nat × Pos)
noncomputable def keyOk (x : Pr) : Prop := 0 ≤ x.1.1 ∧ x.1.1 < 2 ^ 32
theorem ents3_len : ∀ (l : List Pr) (t : Nat), (ents3 t l).length = l.length
  | [], _ => rfl
  | _ :: r, t => by simp [ents3, ents3_len r]
theorem ents2_len : ∀ (l : List Pr) (t : Nat), (ents2 t l).length = l.length
  | [], _ => rfl
  | _ :: r, t => by simp [ents2, ents2_len r]
theorem ents3_hash : ∀ (l : List Pr) (t : Nat), (ents3 t l).map (·.hash) = l.map (·.1.1)
  | [], _ => rfl
  | _ :: r, t => by simp [ents3, ents3_hash r]
theorem ents2_hash : ∀ (l : List Pr) (t : Nat), (ents2 t l).map (·.hash) = l.map (·.1.1)
  | [], _ => rfl
  | _ :: r, t => by simp [ents2, ents2_hash r]
theorem r1_const_int {k : Int} {i : Nat} {po : Pos} : Run1 p w n₀ ann (.body b env) B 1 (eval (.Constant (.int k) i po) env) s q (.int k s.toks) { s with toks := s.toks + 1 } q := by
  show Run1 p w n₀ ann _ B 1 (fresh >>= fun t => pure (Value.int k t)) _ _ _ _ _
  exact r1_cast (n := 1 + 0) (r1_bind r1_fresh (r1_pure _)) rfl
theorem r1_const_str {k : Str} {i : Nat} {po pos : Pos} : Run1 p w n₀ ann (.body b env) B 2 (do let v ← eval (.Constant (.str k) i po) env; standAt pos; pure v) s q (.str k s.toks) { s with toks := s.toks + 1 } pos := by
  show Run1 p w n₀ ann _ B 2 ((fresh >>= fun t => pure (Value.str k t)) >>= fun v => (standAt pos >>= fun _ => pure v)) _ _ _ _ _
  exact r1_cast (n := (1 + 0) + (1 + 0)) (r1_bind (r1_bind r1_fresh (r1_pure _)) (r1_bind r1_standAt (r1_pure _))) rfl
theorem r1_long {pos : Pos} {d : Addr} (hn : n₀ ≤ d) : ∀ (l : List Pr) (es : List DictEntry) (ep : Nat) (s : Shared) (q : Pos), s.heap.get? d = some (dobj es ep) → (∀ x ∈ l, keyOk x) → ((es.map (·.hash)) ++ l.map (·.1.1)).Nodup → es.length + l.length ≤ 100000 →
    Run1 p w n₀ ann (.body b env) B (13 * l.length) (forIn (l.map (pairOf env pos)) PUnit.unit fun x _ => match x with
      | (k, v) => do
        let kv ← k
        let vv ← holding [kv] v
        holding [kv, vv] (dictSet d kv vv)
        pure (ForInStep.yield PUnit.unit)) s q PUnit.unit { s with heap := hput s.heap d (dobj (es ++ ents3 s.toks l) (ep + l.length)), toks := s.toks + 3 * l.length } (if l.isEmpty then q else pos)
  | [], es, ep, s, q, ho, _, _, _ => by
    have e : hput s.heap d (dobj (es ++ ents3 s.toks []) (ep + 0)) = s.heap := by
      have := update_put (f := id) ho
      rw [update_id] at this
      simp only [ents3, List.append_nil, Nat.add_zero, id] at this ⊢
      exact this.symm
    show Run1 p w n₀ ann _ B 0 (pure PUnit.unit) _ _ _ { s with heap := hput s.heap d (dobj (es ++ ents3 s.toks []) (ep + 0)), toks := s.toks + 3 * 0 } q
    rw [e]
    exact r1_pure _
  | x :: r, es, ep, s, q, ho, hkey, hnd, hz => by
    have hx := hkey x (List.mem_cons_self)
    have hnot : ∀ e ∈ es, e.hash ≠ x.1.1 := fun e he h => by
      have := (List.nodup_append.mp hnd).2.2 e.hash (List.mem_map_of_mem he) x.1.1 (by simp)
      exact this h
    rw [List.map_cons, List.forIn_cons]
    have hlen : (x :: r).length = r.length + 1 := rfl
    refine r1_cast (n := (1 + (2 + (10 + 0))) + 13 * r.length) ?_ (by rw [hlen]; omega)
    refine r1_bind (a := ForInStep.yield PUnit.unit) (r1_bind r1_const_int (r1_bind (r1_holding r1_const_str) (r1_bind (r1_holding (r1_dictSet (s := { s with toks := s.toks + 1 + 1 }) ho hn hnot (by simp at hz; omega) hx.1 hx.2)) (r1_pure _)))) ?_
    dsimp only
    have ih := r1_long (pos := pos) hn r (es ++ [⟨x.1.1, .int x.1.1 s.toks, .str x.2.1 (s.toks + 1)⟩]) (ep + 1) { s with heap := hput s.heap d (dobj (es ++ [⟨x.1.1, .int x.1.1 s.toks, .str x.2.1 (s.toks + 1)⟩]) (ep + 1)), toks := s.toks + 1 + 1 + 1 } pos (get_put_self (get_lt ho))
      (fun y hy => hkey y (List.mem_cons_of_mem _ hy)) (by simpa using hnd) (by simp at hz ⊢; omega)
    have e1 : (if r.isEmpty then pos else pos) = pos := by split <;> rfl
    rw [e1] at ih
    have e2 : (if (x :: r).isEmpty then q else pos) = pos := rfl
    rw [e2]
    have e3 : ({ s with heap := hput s.heap d (dobj (es ++ ents3 s.toks (x :: r)) (ep + (x :: r).length)), toks := s.toks + 3 * (x :: r).length } : Shared) =
        { s with heap := hput (hput s.heap d (dobj (es ++ [⟨x.1.1, .int x.1.1 s.toks, .str x.2.1 (s.toks + 1)⟩]) (ep + 1))) d (dobj (es ++ [⟨x.1.1, .int x.1.1 s.toks, .str x.2.1 (s.toks + 1)⟩] ++ ents3 (s.toks + 1 + 1 + 1) r) (ep + 1 + r.length)), toks := s.toks + 1 + 1 + 1 + 3 * r.length } := by
      rw [put_put]
      have a1 : ep + (x :: r).length = ep + 1 + r.length := by rw [hlen]; omega
      have a2 : s.toks + 3 * (x :: r).length = s.toks + 1 + 1 + 1 + 3 * r.length := by rw [hlen]; omega
      rw [a1, a2]
      simp only [ents3, List.append_assoc, List.cons_append, List.nil_append]
    rw [e3]
    exact ih
end
end Mine
end SHC
section SHD
open PySem PySem.W PyProof.Rows
set_option maxRecDepth 10000
namespace Mine
section
variable {p : Program} {w : World} {n₀ : Nat} {ann : Option Value} {b : List Stmt} {env : Env} {B : List Frame} {α β : Type} {s s' s'' : Shared} {q q' q'' : Pos}
theorem r1_sub_long {pos : Pos} {l : List Pr} (hl : 15 < l.length) (hz : l.length ≤ 100000) (hn : n₀ ≤ s.heap.objs.size) (hk : ∀ x ∈ l, keyOk x) (hnd : (l.map (·.1.1)).Nodup) :
    Run1 p w n₀ ann (.body b env) B (2 + 13 * l.length) (subDict (l.map (pairOf env pos))) s q s.heap.objs.size { s with heap := s.heap.push (dobj (ents3 s.toks l) l.length), toks := s.toks + 3 * l.length } pos := by
  unfold subDict
  refine r1_cast (n := 1 + ((1 + (13 * l.length + 0)) + 0)) (r1_bind r1_alloc (r1_bind (a := ()) (r1_holding ?_) (r1_pure _))) (by omega)
  rw [if_neg (by simp; omega)]
  refine r1_bind r1_rule ?_
  have h := r1_long (p := p) (w := w) (ann := ann) (b := b) (env := env) (B := B) (pos := pos) hn l [] 0 { s with heap := s.heap.push (dobj [] 0) } q get_push_self hk (by simpa using hnd) (by simpa using hz)
  have e1 : l.isEmpty = false := by cases l <;> simp_all
  rw [e1] at h
  simp only [List.nil_append, Nat.zero_add] at h
  rw [put_push] at h
  exact r1_bind h (r1_pure _)
noncomputable def vals2 : Nat → List Pr → List (Value × Value)
  | _, [] => []
  | t, x :: r => (.int x.1.1 t, .str x.2.1 (t + 1)) :: vals2 (t + 2) r
theorem r1_evalPairs {pos : Pos} : ∀ (l : List Pr) (s : Shared) (q : Pos),
    Run1 p w n₀ ann (.body b env) B (3 * l.length) (evalPairs (l.map (pairOf env pos))) s q (vals2 s.toks l) { s with toks := s.toks + 2 * l.length } (if l.isEmpty then q else pos)
  | [], s, q => r1_pure _
  | x :: r, s, q => by
    have ih := r1_evalPairs (pos := pos) r { s with toks := s.toks + 1 + 1 } pos
    have e1 : (if r.isEmpty then pos else pos) = pos := by split <;> rfl
    rw [e1] at ih
    have e2 : (if (x :: r).isEmpty then q else pos) = pos := rfl
    rw [e2]
    have hlen : (x :: r).length = r.length + 1 := rfl
    have a2 : s.toks + 2 * (x :: r).length = s.toks + 1 + 1 + 2 * r.length := by rw [hlen]; omega
    rw [a2]
    refine r1_cast (n := 1 + (2 + (3 * r.length + 0))) ?_ (by rw [hlen]; omega)
    exact r1_bind r1_const_int (r1_bind (r1_holding r1_const_str) (r1_bind (r1_holding ih) (r1_pure _)))
theorem r1_short {d : Addr} (hn : n₀ ≤ d) : ∀ (l : List Pr) (t : Nat) (es : List DictEntry) (ep : Nat) (s : Shared) (q : Pos), s.heap.get? d = some (dobj es ep) → (∀ x ∈ l, keyOk x) → ((es.map (·.hash)) ++ l.map (·.1.1)).Nodup → es.length + l.length ≤ 100000 →
    Run1 p w n₀ ann (.body b env) B (10 * l.length) (forIn (vals2 t l) PUnit.unit fun x _ => match x with
      | (k, v) => do
        dictSet d k v
        pure (ForInStep.yield PUnit.unit)) s q PUnit.unit { s with heap := hput s.heap d (dobj (es ++ ents2 t l) (ep + l.length)), toks := s.toks + l.length } q
  | [], t, es, ep, s, q, ho, _, _, _ => by
    have e : hput s.heap d (dobj (es ++ ents2 t []) (ep + 0)) = s.heap := by
      have := update_put (f := id) ho
      rw [update_id] at this
      simp only [ents2, List.append_nil, Nat.add_zero, id] at this ⊢
      exact this.symm
    show Run1 p w n₀ ann _ B 0 (pure PUnit.unit) _ _ _ { s with heap := hput s.heap d (dobj (es ++ ents2 t []) (ep + 0)), toks := s.toks + 0 } q
    rw [e]
    exact r1_pure _
  | x :: r, t, es, ep, s, q, ho, hkey, hnd, hz => by
    have hx := hkey x (List.mem_cons_self)
    have hnot : ∀ e ∈ es, e.hash ≠ x.1.1 := fun e he h => by
      have := (List.nodup_append.mp hnd).2.2 e.hash (List.mem_map_of_mem he) x.1.1 (by simp)
      exact this h
    rw [vals2, List.forIn_cons]
    have hlen : (x :: r).length = r.length + 1 := rfl
    refine r1_cast (n := (10 + 0) + 10 * r.length) ?_ (by rw [hlen]; omega)
    refine r1_bind (a := ForInStep.yield PUnit.unit) (r1_bind (r1_dictSet ho hn hnot (by simp at hz; omega) hx.1 hx.2) (r1_pure _)) ?_
    dsimp only
    have ih := r1_short hn r (t + 2) (es ++ [⟨x.1.1, .int x.1.1 t, .str x.2.1 (t + 1)⟩]) (ep + 1) { s with heap := hput s.heap d (dobj (es ++ [⟨x.1.1, .int x.1.1 t, .str x.2.1 (t + 1)⟩]) (ep + 1)), toks := s.toks + 1 } q (get_put_self (get_lt ho))
      (fun y hy => hkey y (List.mem_cons_of_mem _ hy)) (by simpa using hnd) (by simp at hz ⊢; omega)
    have e3 : ({ s with heap := hput s.heap d (dobj (es ++ ents2 t (x :: r)) (ep + (x :: r).length)), toks := s.toks + (x :: r).length } : Shared) =
        { s with heap := hput (hput s.heap d (dobj (es ++ [⟨x.1.1, .int x.1.1 t, .str x.2.1 (t + 1)⟩]) (ep + 1))) d (dobj (es ++ [⟨x.1.1, .int x.1.1 t, .str x.2.1 (t + 1)⟩] ++ ents2 (t + 2) r) (ep + 1 + r.length)), toks := s.toks + 1 + r.length } := by
      rw [put_put]
      have a1 : ep + (x :: r).length = ep + 1 + r.length := by rw [hlen]; omega
      have a2 : s.toks + (x :: r).length = s.toks + 1 + r.length := by rw [hlen]; omega
      rw [a1, a2]
      simp only [ents2, List.append_assoc, List.cons_append, List.nil_append]
    rw [e3]
    exact ih
theorem r1_sub_short {pos : Pos} {l : List Pr} (hl : l.length ≤ 15) (he : l ≠ []) (hn : n₀ ≤ s.heap.objs.size) (hk : ∀ x ∈ l, keyOk x) (hnd : (l.map (·.1.1)).Nodup) :
    Run1 p w n₀ ann (.body b env) B (1 + 13 * l.length) (subDict (l.map (pairOf env pos))) s q s.heap.objs.size { s with heap := s.heap.push (dobj (ents2 s.toks l) l.length), toks := s.toks + 3 * l.length } pos := by
  unfold subDict
  refine r1_cast (n := 1 + ((3 * l.length + (10 * l.length + 0)) + 0)) (r1_bind r1_alloc (r1_bind (a := ()) (r1_holding ?_) (r1_pure _))) (by omega)
  rw [if_pos (by simpa using hl)]
  have e1 : l.isEmpty = false := by cases l <;> simp_all
  have h0 := r1_evalPairs (p := p) (w := w) (n₀ := n₀) (ann := ann) (b := b) (env := env) (B := B) (pos := pos) l { s with heap := s.heap.push (dobj [] 0) } q
  rw [e1] at h0
  refine r1_bind h0 (r1_holding ?_)
  have h := r1_short (p := p) (w := w) (ann := ann) (b := b) (env := env) (B := B) hn l s.toks [] 0 { s with heap := s.heap.push (dobj [] 0), toks := s.toks + 2 * l.length } pos get_push_self hk (by simpa using hnd) (by simp; omega)
  simp only [List.nil_append, Nat.zero_add] at h
  rw [put_push] at h
  have e2 : s.toks + 3 * l.length = s.toks + 2 * l.length + l.length := by omega
  rw [e2]
  exact r1_bind h (r1_pure _)
noncomputable def IntE (fs : List DictEntry) : Prop := ∀ e ∈ fs, ∃ t, e.key = .int e.hash t
theorem r1_mergeLoop {d a : Addr} (hn : n₀ ≤ d) (hda : d ≠ a) {ef : Nat} : ∀ (fs : List DictEntry) (pre : List DictEntry) (es : List DictEntry) (ep : Nat) (s : Shared) (q : Pos), IntE fs → s.heap.get? d = some (dobj es ep) → s.heap.get? a = some (dobj (pre ++ fs) ef) →
    ((es.map (·.hash)) ++ fs.map (·.hash)).Nodup → es.length + fs.length ≤ 100000 →
    Run1 p w n₀ ann (.body b env) B (6 * fs.length) (forIn (List.range' pre.length fs.length) PUnit.unit fun i _ => do
      let es ← dictEntries a
      match es[i]? with
      | some e => do
        holding [e.key, e.val] (dictPut d e.hash e.key e.val)
        let k ← dictEpoch a
        if (k != ef) = true then do
          unsupported "dict.changed-during-merge"
          pure (ForInStep.yield PUnit.unit)
        else pure (ForInStep.yield PUnit.unit)
      | _ => do
        unsupported "dict.changed-during-merge"
        pure (ForInStep.yield PUnit.unit)) s q PUnit.unit { s with heap := hput s.heap d (dobj (es ++ fs) (ep + fs.length)) } q
  | [], pre, es, ep, s, q, _, ho, _, _, _ => by
    have e : hput s.heap d (dobj (es ++ []) (ep + 0)) = s.heap := by
      have := update_put (f := id) ho
      rw [update_id] at this
      simp only [List.append_nil, Nat.add_zero, id] at this ⊢
      exact this.symm
    show Run1 p w n₀ ann _ B 0 (pure PUnit.unit) _ _ _ { s with heap := hput s.heap d (dobj (es ++ []) (ep + 0)) } q
    rw [e]
    exact r1_pure _
  | f :: r, pre, es, ep, s, q, hi, ho, ha, hnd, hz => by
    obtain ⟨t, hf⟩ := hi f List.mem_cons_self
    have hnot : ∀ e ∈ es, e.hash ≠ f.hash := fun e he h => by
      have := (List.nodup_append.mp hnd).2.2 e.hash (List.mem_map_of_mem he) f.hash (by simp)
      exact this h
    have hlen : (f :: r).length = r.length + 1 := rfl
    have e0 : List.range' pre.length (f :: r).length = pre.length :: List.range' (pre ++ [f]).length r.length := by
      rw [hlen, List.range'_succ]; simp
    rw [e0, List.forIn_cons]
    refine r1_cast (n := (1 + (4 + (1 + 0))) + 6 * r.length) ?_ (by rw [hlen]; omega)
    have e1 : (pre ++ f :: r).toArray[pre.length]? = some f := by simp
    obtain ⟨fh, fk, fv⟩ := f
    obtain rfl : fk = .int fh t := hf
    refine r1_bind (a := ForInStep.yield PUnit.unit) (s' := { s with heap := hput s.heap d (dobj (es ++ [⟨fh, .int fh t, fv⟩]) (ep + 1)) }) (q' := q) (r1_bind (r1_dictEntries ha) ?_) ?_
    · rw [e1]
      dsimp only
      refine r1_bind (r1_holding (r1_dictPut ho hn hnot (by simp at hz; omega))) (r1_bind (r1_dictEpoch (get_put_ne hda ha)) ?_)
      rw [if_neg (by simp)]
      exact r1_pure _
    dsimp only
    have ih := r1_mergeLoop (ef := ef) hn hda r (pre ++ [⟨fh, .int fh t, fv⟩]) (es ++ [⟨fh, .int fh t, fv⟩]) (ep + 1) { s with heap := hput s.heap d (dobj (es ++ [⟨fh, .int fh t, fv⟩]) (ep + 1)) } q (fun e he => hi e (List.mem_cons_of_mem _ he)) (get_put_self (get_lt ho))
      (by rw [get_put_ne hda ha]; simp) (by simpa using hnd) (by simp at hz ⊢; omega)
    have e3 : ({ s with heap := hput s.heap d (dobj (es ++ ⟨fh, .int fh t, fv⟩ :: r) (ep + (⟨fh, .int fh t, fv⟩ :: r : List DictEntry).length)) } : Shared) =
        { s with heap := hput (hput s.heap d (dobj (es ++ [⟨fh, .int fh t, fv⟩]) (ep + 1))) d (dobj (es ++ [⟨fh, .int fh t, fv⟩] ++ r) (ep + 1 + r.length)) } := by
      rw [put_put]
      have a1 : ep + (⟨fh, .int fh t, fv⟩ :: r : List DictEntry).length = ep + 1 + r.length := by simp only [List.length_cons]; omega
      rw [a1]
      simp only [List.append_assoc, List.cons_append, List.nil_append]
    rw [e3]
    exact ih
theorem r1_typeOf {a : Addr} {es : List DictEntry} {ep : Nat} (ha : s.heap.get? a = some (dobj es ep)) : Run1 p w n₀ ann (.body b env) B 1 (typeOf (.ref a)) s q (.type "dict") s q := by
  show Run1 p w n₀ ann _ B 1 (loadPart a (some headPart) >>= fun o => pure o.cls) _ _ _ _ _
  exact r1_cast (n := 1 + 0) (r1_bind (r1_loadPart ha) (r1_pure _)) rfl
theorem r1_merge {d a : Addr} (hn : n₀ ≤ d) (hda : d ≠ a) (has : (a == sysModules) = false) {fs es : List DictEntry} {ep ef : Nat} (hi : IntE fs) (hne : es ≠ []) (ho : s.heap.get? d = some (dobj es ep)) (ha : s.heap.get? a = some (dobj fs ef))
    (hnd : ((es.map (·.hash)) ++ fs.map (·.hash)).Nodup) (hz : es.length + fs.length ≤ 100000) :
    Run1 p w n₀ ann (.body b env) B (5 + 6 * fs.length) (mergeMapping d (.ref a) false) s q () { s with heap := hput s.heap d (dobj (es ++ fs) (ep + fs.length)) } q := by
  unfold mergeMapping
  refine r1_cast (n := (1 + 0) + ((1 + 0) + (0 + (1 + (1 + (1 + (6 * fs.length + 0))))))) (r1_bind (a := true) (s' := s) (q' := q) ?_ ?_) (by omega)
  · unfold isInstance
    refine r1_bind (r1_typeOf ha) ?_
    rw [isSubtype_dict_dict]
    exact r1_pure _
  dsimp only
  rw [if_pos rfl]
  refine r1_bind (a := some (.builtin "dict.__iter__")) (s' := s) (q' := q) ?_ ?_
  · unfold specialOf
    refine r1_bind (r1_typeOf ha) ?_
    rw [PySem.F.slot_dict_iter.lookup]
    exact r1_pure _
  refine r1_bind (a := true) (s' := s) (q' := q) ?_ ?_
  · have : ((some (Value.builtin "dict.__iter__")) == some (.builtin "dict.__iter__")) = true := by decide
    rw [this]; exact r1_pure _
  dsimp only
  rw [has]
  rw [if_neg Bool.false_ne_true]
  refine r1_bind (r1_dictEntries ho) ?_
  have e1 : es.toArray.isEmpty = false := by cases es <;> simp_all
  rw [e1, if_neg Bool.false_ne_true]
  refine r1_bind (r1_dictEntries ha) ?_
  refine r1_bind (r1_dictEpoch ha) ?_
  have h := r1_mergeLoop (p := p) (w := w) (ann := ann) (b := b) (env := env) (B := B) (ef := ef) hn hda fs [] es ep s q hi ho (by simpa using ha) hnd hz
  rw [List.size_toArray, List.range_eq_range']
  exact r1_bind h (r1_pure _)
end
end Mine
end SHD
section SHE
open PySem PySem.W PyProof.Rows
set_option maxRecDepth 10000
namespace Mine
noncomputable abbrev Run := List (Sem Value × Sem Value)
theorem ents3_append : ∀ (a : List Pr) (t : Nat) (c : List Pr), ents3 t (a ++ c) = ents3 t a ++ ents3 (t + 3 * a.length) c
  | [], t, c => by simp [ents3]
  | x :: r, t, c => by
    have e : t + 3 * (x :: r).length = t + 3 + 3 * r.length := by simp only [List.length_cons]; omega
    rw [e]; simp only [List.cons_append, ents3, ents3_append r]
theorem intE3 : ∀ (a : List Pr) (t : Nat), IntE (ents3 t a)
  | [], _, e, he => by simp [ents3] at he
  | x :: r, t, e, he => by
    simp only [ents3, List.mem_cons] at he
    rcases he with rfl | he
    · exact ⟨_, rfl⟩
    · exact intE3 r _ e he
theorem intE2 : ∀ (a : List Pr) (t : Nat), IntE (ents2 t a)
  | [], _, e, he => by simp [ents2] at he
  | x :: r, t, e, he => by
    simp only [ents2, List.mem_cons] at he
    rcases he with rfl | he
    · exact ⟨_, rfl⟩
    · exact intE2 r _ e he
noncomputable def subsOf : Nat → List (List Pr) → List Obj
  | _, [] => []
  | t, c :: r => dobj (ents3 t c) c.length :: subsOf (t + 3 * c.length) r
noncomputable def pushAll (h : Heap) (os : List Obj) : Heap := os.foldl Heap.push h
theorem size_pushAll : ∀ (os : List Obj) (h : Heap), (pushAll h os).objs.size = h.objs.size + os.length
  | [], _ => rfl
  | o :: r, h => by
    show (pushAll (h.push o) r).objs.size = _
    rw [size_pushAll r, Heap.size_push, List.length_cons]; omega
theorem get_pushAll : ∀ (os : List Obj) (h : Heap) {a : Addr} {o : Obj}, h.get? a = some o → (pushAll h os).get? a = some o
  | [], _, _, _, e => e
  | o :: r, h, _, _, e => get_pushAll r (h.push o) (get_push e)
theorem put_pushAll : ∀ (os : List Obj) (h : Heap) {d : Addr} {o : Obj}, d < h.objs.size → hput (pushAll h os) d o = pushAll (hput h d o) os
  | [], _, _, _, _ => rfl
  | o :: r, h, d, o', hl => by
    show hput (pushAll (h.push o) r) d o' = pushAll ((hput h d o').push o) r
    rw [put_pushAll r (h.push o) (by rw [Heap.size_push]; exact Nat.lt_succ_of_lt hl), push_put hl]
theorem pushAll_push (h : Heap) (os : List Obj) (o : Obj) : (pushAll h os).push o = pushAll h (os ++ [o]) := by
  unfold pushAll; rw [List.foldl_append]; rfl
theorem subsOf_length : ∀ (a : List (List Pr)) (t : Nat), (subsOf t a).length = a.length
  | [], _ => rfl
  | x :: r, t => by simp [subsOf, subsOf_length r]
section
variable {p : Program} {w : World} {n₀ : Nat} {ann : Option Value} {b : List Stmt} {env : Env} {B : List Frame} {s : Shared} {q : Pos}
noncomputable def flushR (run : Run) (main : Option Addr) : Sem (Option Addr) :=
  if run.isEmpty = true then pure main
  else match main with
    | none => do
      let a ← subDict run
      pure (some a)
    | some d => do
      let sub ← holding [.ref d] (subDict run)
      (holding [.ref d, .ref sub] (mergeMapping d (.ref sub) false)).onRaise fun x => do
        let _ ← holding [.ref d, x] (runValue (.builtin "proto.let_go" {}))
        pure ()
      pure (some d)
theorem r1_flush_long {pos : Pos} {d : Addr} {es : List DictEntry} {ep : Nat} {l : List Pr} (hn : n₀ ≤ d) (ho : s.heap.get? d = some (dobj es ep)) (hne : es ≠ []) (hs : 1 < s.heap.objs.size) (hn' : n₀ ≤ s.heap.objs.size)
    (hl : 15 < l.length) (hz : es.length + l.length ≤ 100000) (hk : ∀ x ∈ l, keyOk x) (hnd : (es.map (·.hash) ++ l.map (·.1.1)).Nodup) :
    Run1 p w n₀ ann (.body b env) B (7 + 19 * l.length) (flushR (l.map (pairOf env pos)) (some d)) s q (some d)
      { s with heap := (hput s.heap d (dobj (es ++ ents3 s.toks l) (ep + l.length))).push (dobj (ents3 s.toks l) l.length), toks := s.toks + 3 * l.length } pos := by
  unfold flushR
  rw [if_neg (by cases l <;> simp_all)]
  refine r1_cast (n := (2 + 13 * l.length) + ((5 + 6 * (ents3 s.toks l).length) + 0)) (r1_bind (r1_holding (r1_sub_long hl (by omega) hn' hk (List.nodup_append.mp hnd).2.1)) ?_) (by rw [ents3_len]; omega)
  have hd := get_lt ho
  have h := r1_merge (p := p) (w := w) (ann := ann) (b := b) (env := env) (B := B) (s := { s with heap := s.heap.push (dobj (ents3 s.toks l) l.length), toks := s.toks + 3 * l.length }) (q := pos) (d := d) (a := s.heap.objs.size) hn (Nat.ne_of_lt hd)
    (beq_eq_false_iff_ne.mpr (Nat.ne_of_gt hs)) (intE3 l s.toks) hne (get_push ho) get_push_self (by rw [ents3_hash]; exact hnd) (by rw [ents3_len]; exact hz)
  rw [ents3_len, push_put hd] at h
  rw [ents3_len]
  exact r1_bind (r1_onRaise (r1_holding h)) (r1_pure _)
theorem r1_flush_short {pos : Pos} {d : Addr} {es : List DictEntry} {ep : Nat} {l : List Pr} (hn : n₀ ≤ d) (ho : s.heap.get? d = some (dobj es ep)) (hne : es ≠ []) (hs : 1 < s.heap.objs.size) (hn' : n₀ ≤ s.heap.objs.size)
    (hl : l.length ≤ 15) (hl0 : l ≠ []) (hz : es.length + l.length ≤ 100000) (hk : ∀ x ∈ l, keyOk x) (hnd : (es.map (·.hash) ++ l.map (·.1.1)).Nodup) :
    Run1 p w n₀ ann (.body b env) B (6 + 19 * l.length) (flushR (l.map (pairOf env pos)) (some d)) s q (some d)
      { s with heap := (hput s.heap d (dobj (es ++ ents2 s.toks l) (ep + l.length))).push (dobj (ents2 s.toks l) l.length), toks := s.toks + 3 * l.length } pos := by
  unfold flushR
  rw [if_neg (by cases l <;> simp_all)]
  refine r1_cast (n := (1 + 13 * l.length) + ((5 + 6 * (ents2 s.toks l).length) + 0)) (r1_bind (r1_holding (r1_sub_short hl hl0 hn' hk (List.nodup_append.mp hnd).2.1)) ?_) (by rw [ents2_len]; omega)
  have hd := get_lt ho
  have h := r1_merge (p := p) (w := w) (ann := ann) (b := b) (env := env) (B := B) (s := { s with heap := s.heap.push (dobj (ents2 s.toks l) l.length), toks := s.toks + 3 * l.length }) (q := pos) (d := d) (a := s.heap.objs.size) hn (Nat.ne_of_lt hd)
    (beq_eq_false_iff_ne.mpr (Nat.ne_of_gt hs)) (intE2 l s.toks) hne (get_push ho) get_push_self (by rw [ents2_hash]; exact hnd) (by rw [ents2_len]; exact hz)
  rw [ents2_len, push_put hd] at h
  rw [ents2_len]
  exact r1_bind (r1_onRaise (r1_holding h)) (r1_pure _)
noncomputable abbrev itemOf (env : Env) (pos : Pos) (x : Pr) : Option (Sem Value) × Sem Value := (some (pairOf env pos x).1, (pairOf env pos x).2)
noncomputable abbrev Body := Option (Sem Value) × Sem Value → Option Addr × Run → Sem (ForInStep (Option Addr × Run))
noncomputable def BodyOk (body : Body) : Prop := ∀ k v m r, body (some k, v) (m, r) =
  if ((r ++ [(k, v)]).length == 17) = true then do
    let m ← flushR (r ++ [(k, v)]) m
    pure (ForInStep.yield (m, []))
  else pure (ForInStep.yield (m, r ++ [(k, v)]))
theorem loop_chunk {body : Body} (hb : BodyOk body) {pos : Pos} (rest : List (Option (Sem Value) × Sem Value)) (m : Option Addr) : ∀ (c : List Pr) (run : Run), c ≠ [] → run.length + c.length = 17 →
    forIn (c.map (itemOf env pos) ++ rest) (m, run) body = (flushR (run ++ c.map (pairOf env pos)) m >>= fun m => forIn rest (m, []) body)
  | [], _, h, _ => absurd rfl h
  | [x], run, _, hl => by
    rw [List.map_cons, List.map_nil, List.cons_append, List.forIn_cons, hb, if_pos (by simp at hl ⊢; omega)]
    simp only [bind_assoc, pure_bind]
    rfl
  | x :: y :: r, run, _, hl => by
    rw [List.map_cons, List.cons_append, List.forIn_cons, hb, if_neg (by simp at hl ⊢; omega)]
    have ih := loop_chunk (pos := pos) hb rest m (y :: r) (run ++ [((pairOf env pos x).1, (pairOf env pos x).2)]) (by simp) (by simp at hl ⊢; omega)
    simp only [pure_bind]
    rw [ih, List.map_cons (l := y :: r), List.append_assoc]
    rfl
theorem loop_last {body : Body} (hb : BodyOk body) {pos : Pos} (m : Option Addr) : ∀ (c : List Pr) (run : Run), run.length + c.length < 17 →
    forIn (c.map (itemOf env pos)) (m, run) body = (pure (m, run ++ c.map (pairOf env pos)) : Sem _)
  | [], run, _ => by simp
  | x :: r, run, hl => by
    rw [List.map_cons, List.forIn_cons, hb, if_neg (by simp at hl ⊢; omega)]
    have ih := loop_last (pos := pos) hb m r (run ++ [((pairOf env pos x).1, (pairOf env pos x).2)]) (by simp at hl ⊢; omega)
    simp only [pure_bind]
    rw [ih, List.map_cons, List.append_assoc]
    rfl
theorem r1_chunks {body : Body} (hb : BodyOk body) {pos : Pos} {d : Addr} (hn : n₀ ≤ d) (last : List Pr) (hlast : last.length < 17) :
    ∀ (cs : List (List Pr)) (es : List DictEntry) (ep : Nat) (s : Shared) (q : Pos), s.heap.get? d = some (dobj es ep) → es ≠ [] → 1 < s.heap.objs.size → n₀ ≤ s.heap.objs.size → (∀ c ∈ cs, c.length = 17) → es.length + cs.flatten.length ≤ 100000 → (∀ x ∈ cs.flatten, keyOk x) →
    (es.map (·.hash) ++ cs.flatten.map (·.1.1)).Nodup →
    Run1 p w n₀ ann (.body b env) B (330 * cs.length) (forIn (cs.flatten.map (itemOf env pos) ++ last.map (itemOf env pos)) (some d, []) body) s q (some d, last.map (pairOf env pos))
      { s with heap := pushAll (hput s.heap d (dobj (es ++ ents3 s.toks cs.flatten) (ep + cs.flatten.length))) (subsOf s.toks cs), toks := s.toks + 3 * cs.flatten.length } (if cs.isEmpty then q else pos)
  | [], es, ep, s, q, ho, _, _, _, _, _, _, _ => by
    have e : hput s.heap d (dobj (es ++ ents3 s.toks []) (ep + 0)) = s.heap := by
      have := update_put (f := id) ho
      rw [update_id] at this
      simp only [ents3, List.append_nil, Nat.add_zero, id] at this ⊢
      exact this.symm
    have h : forIn (([] : List (List Pr)).flatten.map (itemOf env pos) ++ last.map (itemOf env pos)) (some d, []) body = (pure (some d, last.map (pairOf env pos)) : Sem _) := by
      have := loop_last (env := env) hb (pos := pos) (some d) last [] (by simpa using hlast)
      simpa using this
    rw [h]
    show Run1 p w n₀ ann _ B 0 (pure _) s q _ { s with heap := hput s.heap d (dobj (es ++ ents3 s.toks []) (ep + 0)), toks := s.toks + 3 * 0 } q
    rw [e]
    exact r1_pure _
  | c :: cs, es, ep, s, q, ho, hne, hs, hn', hc, hz, hk, hnd => by
    have h17 := hc c List.mem_cons_self
    have hfl : (c :: cs).flatten = c ++ cs.flatten := rfl
    rw [hfl] at hz hk hnd ⊢
    rw [List.length_append] at hz
    have h1 : forIn ((c ++ cs.flatten).map (itemOf env pos) ++ last.map (itemOf env pos)) (some d, []) body = (flushR (c.map (pairOf env pos)) (some d) >>= fun m => forIn (cs.flatten.map (itemOf env pos) ++ last.map (itemOf env pos)) (m, []) body) := by
      have := loop_chunk (env := env) hb (pos := pos) (cs.flatten.map (itemOf env pos) ++ last.map (itemOf env pos)) (some d) c [] (by intro e; rw [e] at h17; cases h17) (by simpa using h17)
      rw [List.map_append, List.append_assoc]
      simpa using this
    rw [h1]
    have hnd1 : (es.map (·.hash) ++ c.map (·.1.1)).Nodup := by
      rw [List.map_append, ← List.append_assoc] at hnd
      exact (List.nodup_append.mp hnd).1
    have hf := r1_flush_long (p := p) (w := w) (ann := ann) (b := b) (env := env) (B := B) (q := q) (pos := pos) hn ho hne hs hn' (l := c) (by omega) (by omega) (fun x hx => hk x (List.mem_append_left _ hx)) hnd1
    refine r1_cast (n := (7 + 19 * c.length) + 330 * cs.length) (r1_bind hf ?_) (by rw [h17]; simp only [List.length_cons]; omega)
    have hd := get_lt ho
    have ih := r1_chunks hb (pos := pos) hn last hlast cs (es ++ ents3 s.toks c) (ep + c.length) { s with heap := (hput s.heap d (dobj (es ++ ents3 s.toks c) (ep + c.length))).push (dobj (ents3 s.toks c) c.length), toks := s.toks + 3 * c.length } pos
      (get_push (get_put_self hd)) (by simp [hne]) (by simp only [Heap.size_push, size_put]; omega) (by simp only [Heap.size_push, size_put]; omega) (fun x hx => hc x (List.mem_cons_of_mem _ hx)) (by rw [List.length_append, ents3_len]; omega) (fun x hx => hk x (List.mem_append_right _ hx))
      (by rw [List.map_append, ents3_hash, List.append_assoc, ← List.map_append]; exact hnd)
    have e1 : (if cs.isEmpty then pos else pos) = pos := by split <;> rfl
    rw [e1] at ih
    have e2 : (if (c :: cs).isEmpty then q else pos) = pos := rfl
    rw [e2]
    have e3 : ({ s with heap := pushAll (hput s.heap d (dobj (es ++ ents3 s.toks (c ++ cs.flatten)) (ep + (c ++ cs.flatten).length))) (subsOf s.toks (c :: cs)), toks := s.toks + 3 * (c ++ cs.flatten).length } : Shared) =
        { s with heap := pushAll (hput ((hput s.heap d (dobj (es ++ ents3 s.toks c) (ep + c.length))).push (dobj (ents3 s.toks c) c.length)) d (dobj (es ++ ents3 s.toks c ++ ents3 (s.toks + 3 * c.length) cs.flatten) (ep + c.length + cs.flatten.length))) (subsOf (s.toks + 3 * c.length) cs), toks := s.toks + 3 * c.length + 3 * cs.flatten.length } := by
      rw [push_put (by rw [size_put]; exact hd), put_put]
      have a1 : ep + (c ++ cs.flatten).length = ep + c.length + cs.flatten.length := by rw [List.length_append]; omega
      have a2 : s.toks + 3 * (c ++ cs.flatten).length = s.toks + 3 * c.length + 3 * cs.flatten.length := by rw [List.length_append]; omega
      rw [a1, a2, ents3_append, List.append_assoc]
      rfl
    rw [e3]
    exact ih
theorem r1_display {pos : Pos} {c : List Pr} {cs : List (List Pr)} {last : List Pr} (hs : 1 < s.heap.objs.size) (hn : n₀ ≤ s.heap.objs.size) (hc : c.length = 17) (hcs : ∀ c ∈ cs, c.length = 17) (hl : last.length ≤ 15) (hl0 : last ≠ [])
    (hz : c.length + cs.flatten.length + last.length ≤ 100000) (hk : ∀ x ∈ c ++ cs.flatten ++ last, keyOk x) (hnd : ((c ++ cs.flatten ++ last).map (·.1.1)).Nodup) :
    Run1 p w n₀ ann (.body b env) B (229 + 330 * cs.length + 19 * last.length) (dictDisplay (((c ++ cs.flatten) ++ last).map (itemOf env pos))) s q (.ref s.heap.objs.size)
      { s with heap := pushAll (s.heap.push (dobj (ents3 s.toks (c ++ cs.flatten) ++ ents2 (s.toks + 3 * (c ++ cs.flatten).length) last) (c ++ cs.flatten ++ last).length)) (subsOf (s.toks + 3 * c.length) cs ++ [dobj (ents2 (s.toks + 3 * (c ++ cs.flatten).length) last) last.length]),
               toks := s.toks + 3 * (c ++ cs.flatten ++ last).length } pos := by
  have key : ∀ (body : Body), BodyOk body → Run1 p w n₀ ann (.body b env) B (229 + 330 * cs.length + 19 * last.length) (do
      let r ← forIn (((c ++ cs.flatten) ++ last).map (itemOf env pos)) (none, []) body
      let x ← flushR r.2 r.1
      match x with
      | some d => pure (Value.ref d)
      | none => newDict) s q (.ref s.heap.objs.size)
      { s with heap := pushAll (s.heap.push (dobj (ents3 s.toks (c ++ cs.flatten) ++ ents2 (s.toks + 3 * (c ++ cs.flatten).length) last) (c ++ cs.flatten ++ last).length)) (subsOf (s.toks + 3 * c.length) cs ++ [dobj (ents2 (s.toks + 3 * (c ++ cs.flatten).length) last) last.length]),
               toks := s.toks + 3 * (c ++ cs.flatten ++ last).length } pos := by
    intro body hb
    have h0 : forIn (((c ++ cs.flatten) ++ last).map (itemOf env pos)) (none, []) body = (flushR (c.map (pairOf env pos)) none >>= fun m => forIn (cs.flatten.map (itemOf env pos) ++ last.map (itemOf env pos)) (m, []) body) := by
      have := loop_chunk (env := env) hb (pos := pos) (cs.flatten.map (itemOf env pos) ++ last.map (itemOf env pos)) none c [] (by intro e; rw [e] at hc; cases hc) (by simpa using hc)
      rw [List.map_append, List.map_append, List.append_assoc]
      simpa using this
    rw [h0]
    have hnd1 : (c.map (·.1.1)).Nodup := by
      rw [List.map_append, List.map_append, List.append_assoc] at hnd
      exact (List.nodup_append.mp hnd).1
    have f0 : Run1 p w n₀ ann (.body b env) B (2 + 13 * c.length + 0) (flushR (c.map (pairOf env pos)) none) s q (some s.heap.objs.size) { s with heap := s.heap.push (dobj (ents3 s.toks c) c.length), toks := s.toks + 3 * c.length } pos := by
      unfold flushR
      rw [if_neg (by cases c <;> simp_all)]
      exact r1_bind (r1_sub_long (by omega) (by omega) hn (fun x hx => hk x (List.mem_append_left _ (List.mem_append_left _ hx))) hnd1) (r1_pure _)
    have hne : ents3 s.toks c ≠ [] := by
      intro e
      have := congrArg List.length e
      rw [ents3_len, hc] at this
      cases this
    have hch := r1_chunks (p := p) (w := w) (ann := ann) (b := b) (env := env) (B := B) hb (pos := pos) (d := s.heap.objs.size) hn last (by omega) cs (ents3 s.toks c) c.length { s with heap := s.heap.push (dobj (ents3 s.toks c) c.length), toks := s.toks + 3 * c.length } pos
      get_push_self hne (by simp only [Heap.size_push]; omega) (by simp only [Heap.size_push]; omega) hcs (by rw [ents3_len]; omega) (fun x hx => hk x (List.mem_append_left _ (List.mem_append_right _ hx)))
      (by rw [ents3_hash, ← List.map_append]; rw [List.map_append] at hnd; exact (List.nodup_append.mp hnd).1)
    have e1 : (if cs.isEmpty then pos else pos) = pos := by split <;> rfl
    rw [e1, put_push, ← ents3_append] at hch
    refine r1_cast (n := ((2 + 13 * c.length + 0) + 330 * cs.length) + ((6 + 19 * last.length) + 0)) (r1_bind (r1_bind f0 hch) ?_) (by rw [hc]; omega)
    dsimp only
    have hsz : ∀ o, (pushAll (s.heap.push o) (subsOf (s.toks + 3 * c.length) cs)).objs.size = s.heap.objs.size + 1 + cs.length := fun o => by rw [size_pushAll, Heap.size_push, subsOf_length]
    have tk : s.toks + 3 * c.length + 3 * cs.flatten.length = s.toks + 3 * (c ++ cs.flatten).length := by rw [List.length_append]; omega
    rw [tk]
    have hf := r1_flush_short (p := p) (w := w) (ann := ann) (b := b) (env := env) (B := B) (q := pos) (pos := pos) (d := s.heap.objs.size) (es := ents3 s.toks (c ++ cs.flatten)) (ep := c.length + cs.flatten.length) (l := last)
      (s := { s with heap := pushAll (s.heap.push (dobj (ents3 s.toks (c ++ cs.flatten)) (c.length + cs.flatten.length))) (subsOf (s.toks + 3 * c.length) cs), toks := s.toks + 3 * (c ++ cs.flatten).length })
      hn (get_pushAll _ _ get_push_self) (by rw [ents3_append]; simp [hne]) (by rw [hsz]; omega) (by rw [hsz]; omega) hl hl0 (by rw [ents3_len, List.length_append]; omega) (fun x hx => hk x (List.mem_append_right _ hx))
      (by rw [ents3_hash, ← List.map_append]; exact hnd)
    refine r1_bind hf ?_
    dsimp only
    have e4 : s.toks + 3 * (c ++ cs.flatten ++ last).length = s.toks + 3 * (c ++ cs.flatten).length + 3 * last.length := by simp only [List.length_append]; omega
    have e5 : (c ++ cs.flatten ++ last).length = c.length + cs.flatten.length + last.length := by simp only [List.length_append]
    rw [e4, e5, ← pushAll_push, put_pushAll _ _ (by rw [Heap.size_push]; exact Nat.lt_succ_self _), put_push]
    exact r1_pure _
  exact key _ (fun k v m r => rfl)
end
end Mine
end SHE
section SHF2
open PySem PySem.W PyProof.Rows
set_option maxRecDepth 100000
set_option linter.unusedVariables false
namespace Mine
noncomputable section
noncomputable def stAt (l : List Stmt) (i : Nat) : Stmt := l.getD i (.Pass default)
noncomputable def stIn (l : List Stmt) (i j : Nat) : Stmt := match stAt l i with
  | .ClassDef _ _ _ body _ _ _ _ _ _ _ => stAt body j
  | s => s
noncomputable def fnD (st : Stmt) (qual : Str) (g : Addr) (pm cd : Value) (b : Addr) : Data := match st with
  | .FunctionDef name args body _ _ _ scope _ _ _ => .func { name, qualname := qual, params := args, body := .stmts body, scope, globals := g, closure := [], defaults := .none, kwdefaults := .none, pyModule := pm, code := cd, builtins := b }
  | _ => .plain
noncomputable def dictKV (st : Stmt) : List (Option Expr) × List Expr := match st with
  | .Assign _ (.Dict ks vs _) _ => (ks, vs)
  | _ => ([], [])
noncomputable def dictPos (st : Stmt) : Pos := match st with
  | .Assign _ (.Dict _ _ q) _ => q
  | _ => default
noncomputable def asgPos (st : Stmt) : Pos := match st with
  | .Assign _ _ q => q
  | _ => default
noncomputable def asgTo (st : Stmt) : List Expr := match st with
  | .Assign t _ _ => t
  | _ => []
noncomputable def prsOf : List (Option Expr) → List Expr → List Pr
  | some (.Constant (.int k) i p) :: ks, .Constant (.str v) j q :: vs => ((k, i, p), (v, j, q)) :: prsOf ks vs
  | _, _ => []
noncomputable abbrev pp : Program := PySem.Challenge.pw_mr0250_02
noncomputable def bd : List Stmt := behindTheImports pp
noncomputable def env0 : Env := { scope := pp.main.scope, locals := mainNs, globals := mainNs, cells := [], code := (.ref 13), frame := some 14 }
noncomputable abbrev cd0 : Code := .body bd env0
noncomputable abbrev pos0 : Pos := ⟨0, 0, 0, 0⟩
noncomputable abbrev posA : Pos := ⟨18, 0, 19, 30⟩
noncomputable abbrev posB : Pos := ⟨20, 0, 20, 13⟩
noncomputable abbrev posC : Pos := ⟨86, 0, 116, 15⟩
noncomputable abbrev q0 : Pos := ⟨0, 0, 0, 0⟩
noncomputable def oa_11 (P : Params) : Obj := ⟨(.type "tuple"), none, (.seq [].toArray 0), [].toArray⟩
noncomputable def oa_12 (P : Params) : Obj := ⟨.none, none, (.fields [].toArray), [].toArray⟩
noncomputable def oa_13 (P : Params) : Obj := ⟨(.type "code"), none, (.fields [(.str (Str.ofString "<module>") 182), (.str (Str.ofString "<module>") 183), (.str (Str.ofString "/claim/cut.py") 184), (.int 1 0), (.int 0 0), (.int 0 0), (.int 0 0), (.int 0 0), (.ref 11), (.bool false), (.int 181 0), (.ref 12), .none, .none, .none, .none, (.int 185 0), (.int 1 0), (.str (Str.ofString "/claim/cut.py") 186)].toArray), [].toArray⟩
noncomputable def oa_14 (P : Params) : Obj := ⟨(.type "frame"), none, .plain, [(some (.ref 13)), (some (.ref 3)), (some (.ref 3)), none, (some (.str (Str.ofString "__main__") 164)), none, (some (.ref 0))].toArray⟩
noncomputable def objsa (P : Params) : List Obj := [boot_o_0 P, boot_o_1 P, boot_o_2 P, boot_o_3 P, boot_o_4 P, boot_o_5 P, boot_o_6 P, boot_o_7 P, boot_o_8 P, boot_o_9 P, boot_o_10 P, oa_11 P, oa_12 P, oa_13 P, oa_14 P]
noncomputable def oA_3 (P : Params) : Obj := ⟨(.type "dict"), none, (.dict [⟨PyData.keyHash P (Str.ofString "__name__"), .str (Str.ofString "__name__") 165, (.str (Str.ofString "cpy313.stringprep") 231)⟩, ⟨PyData.keyHash P (Str.ofString "__doc__"), .str (Str.ofString "__doc__") 166, .none⟩, ⟨PyData.keyHash P (Str.ofString "__package__"), .str (Str.ofString "__package__") 167, .none⟩, ⟨PyData.keyHash P (Str.ofString "__loader__"), .str (Str.ofString "__loader__") 168, (.builtin "__main__.__loader__#opaque")⟩, ⟨PyData.keyHash P (Str.ofString "__spec__"), .str (Str.ofString "__spec__") 169, .none⟩, ⟨PyData.keyHash P (Str.ofString "__annotations__"), .str (Str.ofString "__annotations__") 170, (.ref 6)⟩, ⟨PyData.keyHash P (Str.ofString "__builtins__"), .str (Str.ofString "__builtins__") 171, (.ref 4)⟩, ⟨PyData.keyHash P (Str.ofString "__file__"), .str (Str.ofString "__file__") 173, (.str (Str.ofString "/claim/cut.py") 172)⟩, ⟨PyData.keyHash P (Str.ofString "__cached__"), .str (Str.ofString "__cached__") 174, .none⟩, ⟨PyData.keyHash P (Str.ofString "TupleComp"), .str (Str.ofString "TupleComp") 230, (.ref 38)⟩, ⟨PyData.keyHash P (Str.ofString "b1_set"), .str (Str.ofString "b1_set") 292, (.ref 50)⟩, ⟨PyData.keyHash P (Str.ofString "in_table_b1"), .str (Str.ofString "in_table_b1") 299, (.ref 60)⟩].toArray 12), [].toArray⟩
noncomputable def oA_12 (P : Params) : Obj := ⟨.none, none, (.fields [(.int 2 0), (.int 0 0), (.ref 20), (.int 18 0), (.int 0 0), (.ref 59)].toArray), [].toArray⟩
noncomputable def oA_15 (P : Params) : Obj := ⟨(.type "tuple"), none, (.seq [].toArray 0), [].toArray⟩
noncomputable def oA_16 (P : Params) : Obj := ⟨(.type "builtin_function_or_method"), none, (.fields [(.builtin "type.__prepare__"), (.type "type")].toArray), [].toArray⟩
noncomputable def oA_17 (P : Params) : Obj := ⟨(.type "dict"), none, (.dict [⟨PyData.keyHash P (Str.ofString "__module__"), .str (Str.ofString "__module__") 196, (.str (Str.ofString "cpy313.pstats") 187)⟩, ⟨PyData.keyHash P (Str.ofString "__qualname__"), .str (Str.ofString "__qualname__") 198, (.str (Str.ofString "TupleComp") 197)⟩, ⟨PyData.keyHash P (Str.ofString "__firstlineno__"), .str (Str.ofString "__firstlineno__") 200, (.int 2 199)⟩, ⟨PyData.keyHash P (Str.ofString "__init__"), .str (Str.ofString "__init__") 208, (.ref 28)⟩, ⟨PyData.keyHash P (Str.ofString "compare"), .str (Str.ofString "compare") 221, (.ref 35)⟩, ⟨PyData.keyHash P (Str.ofString "__static_attributes__"), .str (Str.ofString "__static_attributes__") 223, (.ref 36)⟩].toArray 6), [].toArray⟩
noncomputable def oA_18 (P : Params) : Obj := ⟨(.type "tuple"), none, (.seq [].toArray 0), [].toArray⟩
noncomputable def oA_19 (P : Params) : Obj := ⟨.none, none, (.fields [(.int 4 0), (.int 4 0), (.ref 27), (.int 7 0), (.int 4 0), (.ref 34)].toArray), [].toArray⟩
noncomputable def oA_20 (P : Params) : Obj := ⟨(.type "code"), none, (.fields [(.str (Str.ofString "TupleComp") 191), (.str (Str.ofString "TupleComp") 192), (.str (Str.ofString "/claim/cut.py") 193), (.int 2 0), (.int 0 0), (.int 0 0), (.int 0 0), (.int 0 0), (.ref 18), (.bool false), (.int 181 0), (.ref 19), .none, .none, .none, .none, (.int 194 0), (.int 2 0), (.str (Str.ofString "/claim/cut.py") 195)].toArray), [].toArray⟩
noncomputable def oA_21 (P : Params) : Obj := ⟨(.type "frame"), none, .plain, [(some (.ref 20)), (some (.ref 3)), (some (.ref 17)), none, (some (.str (Str.ofString "cpy313.pstats") 187)), none, (some (.ref 0))].toArray⟩
noncomputable def oA_22 (P : Params) : Obj := ⟨(.type "tuple"), none, (.seq [].toArray 0), [].toArray⟩
noncomputable def oA_23 (P : Params) : Obj := ⟨.none, none, (.fields [].toArray), [].toArray⟩
noncomputable def oA_24 (P : Params) : Obj := ⟨(.type "tuple"), none, (.seq [(.str (Str.ofString "self") 204), (.str (Str.ofString "comp_select_list") 205)].toArray 0), [].toArray⟩
noncomputable def oA_25 (P : Params) : Obj := ⟨(.type "tuple"), none, (.seq [].toArray 0), [].toArray⟩
noncomputable def oA_26 (P : Params) : Obj := ⟨.none, none, (fnD (stIn bd 1 0) (Str.ofString "TupleComp.__init__") 0 .none .none 0), [].toArray⟩
noncomputable def oA_27 (P : Params) : Obj := ⟨(.type "code"), none, (.fields [(.str (Str.ofString "__init__") 201), (.str (Str.ofString "TupleComp.__init__") 202), (.str (Str.ofString "/claim/cut.py") 203), (.int 4 0), (.int 2 0), (.int 0 0), (.int 0 0), (.int 3 0), (.ref 22), (.bool true), (.int 181 0), (.ref 23), .none, (.ref 24), (.ref 25), (.ref 26), (.int 206 0), (.int 4 0), (.str (Str.ofString "/claim/cut.py") 207)].toArray), [].toArray⟩
noncomputable def oA_28 (P : Params) : Obj := ⟨(.type "function"), none, (fnD (stIn bd 1 0) (Str.ofString "TupleComp.__init__") 3 (.str (Str.ofString "cpy313.pstats") 187) (.ref 27) 0), [].toArray⟩
noncomputable def oA_29 (P : Params) : Obj := ⟨(.type "tuple"), none, (.seq [].toArray 0), [].toArray⟩
noncomputable def oA_30 (P : Params) : Obj := ⟨.none, none, (.fields [].toArray), [].toArray⟩
noncomputable def oA_31 (P : Params) : Obj := ⟨(.type "tuple"), none, (.seq [(.str (Str.ofString "self") 212), (.str (Str.ofString "left") 213), (.str (Str.ofString "right") 214), (.str (Str.ofString "index") 215), (.str (Str.ofString "direction") 216), (.str (Str.ofString "l") 217), (.str (Str.ofString "r") 218)].toArray 0), [].toArray⟩
noncomputable def oA_32 (P : Params) : Obj := ⟨(.type "tuple"), none, (.seq [].toArray 0), [].toArray⟩
noncomputable def oA_33 (P : Params) : Obj := ⟨.none, none, (fnD (stIn bd 1 1) (Str.ofString "TupleComp.compare") 0 .none .none 0), [].toArray⟩
noncomputable def oA_34 (P : Params) : Obj := ⟨(.type "code"), none, (.fields [(.str (Str.ofString "compare") 209), (.str (Str.ofString "TupleComp.compare") 210), (.str (Str.ofString "/claim/cut.py") 211), (.int 7 0), (.int 3 0), (.int 0 0), (.int 0 0), (.int 3 0), (.ref 29), (.bool true), (.int 181 0), (.ref 30), .none, (.ref 31), (.ref 32), (.ref 33), (.int 219 0), (.int 7 0), (.str (Str.ofString "/claim/cut.py") 220)].toArray), [].toArray⟩
noncomputable def oA_35 (P : Params) : Obj := ⟨(.type "function"), none, (fnD (stIn bd 1 1) (Str.ofString "TupleComp.compare") 3 (.str (Str.ofString "cpy313.pstats") 187) (.ref 34) 0), [].toArray⟩
noncomputable def oA_36 (P : Params) : Obj := ⟨(.type "tuple"), none, (.seq [(.str (Str.ofString "comp_select_list") 222)].toArray 0), [].toArray⟩
noncomputable def oA_37 (P : Params) : Obj := ⟨(.type "dict"), none, (.dict [⟨PyData.keyHash P (Str.ofString "__module__"), .str (Str.ofString "__module__") 196, (.str (Str.ofString "cpy313.pstats") 187)⟩, ⟨PyData.keyHash P (Str.ofString "__firstlineno__"), .str (Str.ofString "__firstlineno__") 200, (.int 2 199)⟩, ⟨PyData.keyHash P (Str.ofString "__init__"), .str (Str.ofString "__init__") 208, (.ref 28)⟩, ⟨PyData.keyHash P (Str.ofString "compare"), .str (Str.ofString "compare") 221, (.ref 35)⟩, ⟨PyData.keyHash P (Str.ofString "__static_attributes__"), .str (Str.ofString "__static_attributes__") 223, (.ref 36)⟩, ⟨PyData.keyHash P (Str.ofString "__dict__"), .str (Str.ofString "__dict__") 225, (.ref 39)⟩, ⟨PyData.keyHash P (Str.ofString "__weakref__"), .str (Str.ofString "__weakref__") 227, (.ref 40)⟩, ⟨PyData.keyHash P (Str.ofString "__doc__"), .str (Str.ofString "__doc__") 228, .none⟩].toArray 4), [].toArray⟩
noncomputable def oA_38 (P : Params) : Obj := ⟨(.type "type"), none, (.cls ⟨(Str.ofString "TupleComp"), [(.type "object")], [(.ref 38), (.type "object")], 37, (Str.ofString "TupleComp"), true, [], [], false, none, false⟩), [none, none, (some (.str (Str.ofString "TupleComp") 189)), (some (.str (Str.ofString "TupleComp") 197)), (some (.builtin "object.__new__")), (some (.bool true))].toArray⟩
noncomputable def oA_39 (P : Params) : Obj := ⟨(.type "getset_descriptor"), none, (.fields [(.str (Str.ofString "__dict__") 224), (.ref 38), (.builtin "function.__dict__"), (.builtin "function.__dict__#set")].toArray), [].toArray⟩
noncomputable def oA_40 (P : Params) : Obj := ⟨(.type "getset_descriptor"), none, (.fields [(.str (Str.ofString "__weakref__") 226), (.ref 38), (.builtin "ExceptionGroup.__weakref__"), .none].toArray), [].toArray⟩
noncomputable def oA_41 (P : Params) : Obj := ⟨(.type "super"), none, (.fields [(.ref 38), (.ref 38), (.ref 38)].toArray), [].toArray⟩
noncomputable def oA_42 (P : Params) : Obj := ⟨(.type "builtin_function_or_method"), none, (.fields [(.builtin "object.__init_subclass__"), (.ref 38)].toArray), [].toArray⟩
noncomputable def oA_43 (P : Params) : Obj := ⟨(.type "list"), none, (.seq [(.int 173 233), (.int 847 234), (.int 6150 235), (.int 6155 236), (.int 6156 237), (.int 6157 238), (.int 8203 239), (.int 8204 240), (.int 8205 241), (.int 8288 242), (.int 65279 243)].toArray 0), [].toArray⟩
noncomputable def oA_44 (P : Params) : Obj := ⟨(.type "range"), none, (.fields [(.int 65024 244), (.int 65040 245), (.int 1 246)].toArray), [].toArray⟩
noncomputable def oA_45 (P : Params) : Obj := ⟨(.type "list"), none, (.seq [(.int 65024 249), (.int 65025 250), (.int 65026 251), (.int 65027 252), (.int 65028 253), (.int 65029 254), (.int 65030 255), (.int 65031 256), (.int 65032 257), (.int 65033 258), (.int 65034 259), (.int 65035 260), (.int 65036 261), (.int 65037 262), (.int 65038 263), (.int 65039 264)].toArray 18), [].toArray⟩
noncomputable def oA_46 (P : Params) : Obj := ⟨(.type "range_iterator"), none, (.fields [(.int 65040 0), (.int 0 0), (.int 1 0)].toArray), [].toArray⟩
noncomputable def oA_47 (P : Params) : Obj := ⟨(.type "tuple"), none, (.seq [].toArray 0), [].toArray⟩
noncomputable def oA_48 (P : Params) : Obj := ⟨(.type "StopIteration"), none, (.fields [(.ref 47), .none, .none, .none, (.bool false), .none].toArray), [].toArray⟩
noncomputable def oA_49 (P : Params) : Obj := ⟨(.type "list"), none, (.seq [(.int 173 233), (.int 847 234), (.int 6150 235), (.int 6155 236), (.int 6156 237), (.int 6157 238), (.int 8203 239), (.int 8204 240), (.int 8205 241), (.int 8288 242), (.int 65279 243), (.int 65024 249), (.int 65025 250), (.int 65026 251), (.int 65027 252), (.int 65028 253), (.int 65029 254), (.int 65030 255), (.int 65031 256), (.int 65032 257), (.int 65033 258), (.int 65034 259), (.int 65035 260), (.int 65036 261), (.int 65037 262), (.int 65038 263), (.int 65039 264)].toArray 0), [].toArray⟩
noncomputable def oA_50 (P : Params) : Obj := ⟨(.type "set"), none, (.set [(65024, (.int 65024 249)), (65025, (.int 65025 250)), (65026, (.int 65026 251)), (65027, (.int 65027 252)), (65028, (.int 65028 253)), (65029, (.int 65029 254)), (6150, (.int 6150 235)), (65030, (.int 65030 255)), (65031, (.int 65031 256)), (65032, (.int 65032 257)), (65033, (.int 65033 258)), (6155, (.int 6155 236)), (6156, (.int 6156 237)), (6157, (.int 6157 238)), (8203, (.int 8203 239)), (8204, (.int 8204 240)), (8205, (.int 8205 241)), (65034, (.int 65034 259)), (65035, (.int 65035 260)), (65036, (.int 65036 261)), (65037, (.int 65037 262)), (65038, (.int 65038 263)), (65039, (.int 65039 264)), (173, (.int 173 233)), (847, (.int 847 234)), (8288, (.int 8288 242)), (65279, (.int 65279 243))].toArray 29 ⟨127, [0, 1, 2, 3, 4, 5, 6, 7, 8, 9, 10, 11, 12, 13, 14, 15, 16, 17, 18, 19, 20, 21, 22, 45, 79, 96, 127].toArray, [].toArray, 0, !P.followText "set-order", 2, true⟩), [].toArray⟩
noncomputable def oA_51 (P : Params) : Obj := ⟨(.type "list_iterator"), none, (.fields [.none, (.int 27 0)].toArray), [].toArray⟩
noncomputable def oA_52 (P : Params) : Obj := ⟨(.type "tuple"), none, (.seq [].toArray 0), [].toArray⟩
noncomputable def oA_53 (P : Params) : Obj := ⟨(.type "StopIteration"), none, (.fields [(.ref 52), .none, .none, .none, (.bool false), .none].toArray), [].toArray⟩
noncomputable def oA_54 (P : Params) : Obj := ⟨(.type "tuple"), none, (.seq [].toArray 0), [].toArray⟩
noncomputable def oA_55 (P : Params) : Obj := ⟨.none, none, (.fields [].toArray), [].toArray⟩
noncomputable def oA_56 (P : Params) : Obj := ⟨(.type "tuple"), none, (.seq [(.str (Str.ofString "code") 296)].toArray 0), [].toArray⟩
noncomputable def oA_57 (P : Params) : Obj := ⟨(.type "tuple"), none, (.seq [].toArray 0), [].toArray⟩
noncomputable def oA_58 (P : Params) : Obj := ⟨.none, none, (fnD (stAt bd 4) (Str.ofString "in_table_b1") 0 .none .none 0), [].toArray⟩
noncomputable def oA_59 (P : Params) : Obj := ⟨(.type "code"), none, (.fields [(.str (Str.ofString "in_table_b1") 293), (.str (Str.ofString "in_table_b1") 294), (.str (Str.ofString "/claim/cut.py") 295), (.int 18 0), (.int 1 0), (.int 0 0), (.int 0 0), (.int 3 0), (.ref 54), (.bool true), (.int 181 0), (.ref 55), .none, (.ref 56), (.ref 57), (.ref 58), (.int 297 0), (.int 18 0), (.str (Str.ofString "/claim/cut.py") 298)].toArray), [].toArray⟩
noncomputable def oA_60 (P : Params) : Obj := ⟨(.type "function"), none, (fnD (stAt bd 4) (Str.ofString "in_table_b1") 3 (.str (Str.ofString "cpy313.stringprep") 231) (.ref 59) 0), [].toArray⟩
noncomputable def objsA (P : Params) : List Obj := [boot_o_0 P, boot_o_1 P, boot_o_2 P, oA_3 P, boot_o_4 P, boot_o_5 P, boot_o_6 P, boot_o_7 P, boot_o_8 P, boot_o_9 P, boot_o_10 P, oa_11 P, oA_12 P, oa_13 P, oa_14 P, oA_15 P, oA_16 P, oA_17 P, oA_18 P, oA_19 P, oA_20 P, oA_21 P, oA_22 P, oA_23 P, oA_24 P, oA_25 P, oA_26 P, oA_27 P, oA_28 P, oA_29 P, oA_30 P, oA_31 P, oA_32 P, oA_33 P, oA_34 P, oA_35 P, oA_36 P, oA_37 P, oA_38 P, oA_39 P, oA_40 P, oA_41 P, oA_42 P, oA_43 P, oA_44 P, oA_45 P, oA_46 P, oA_47 P, oA_48 P, oA_49 P, oA_50 P, oA_51 P, oA_52 P, oA_53 P, oA_54 P, oA_55 P, oA_56 P, oA_57 P, oA_58 P, oA_59 P, oA_60 P]
noncomputable def oC_3 (P : Params) : Obj := ⟨(.type "dict"), none, (.dict [⟨PyData.keyHash P (Str.ofString "__name__"), .str (Str.ofString "__name__") 165, (.str (Str.ofString "law_mr0250_02") 2259)⟩, ⟨PyData.keyHash P (Str.ofString "__doc__"), .str (Str.ofString "__doc__") 166, .none⟩, ⟨PyData.keyHash P (Str.ofString "__package__"), .str (Str.ofString "__package__") 167, .none⟩, ⟨PyData.keyHash P (Str.ofString "__loader__"), .str (Str.ofString "__loader__") 168, (.builtin "__main__.__loader__#opaque")⟩, ⟨PyData.keyHash P (Str.ofString "__spec__"), .str (Str.ofString "__spec__") 169, .none⟩, ⟨PyData.keyHash P (Str.ofString "__annotations__"), .str (Str.ofString "__annotations__") 170, (.ref 6)⟩, ⟨PyData.keyHash P (Str.ofString "__builtins__"), .str (Str.ofString "__builtins__") 171, (.ref 4)⟩, ⟨PyData.keyHash P (Str.ofString "__file__"), .str (Str.ofString "__file__") 173, (.str (Str.ofString "/claim/cut.py") 172)⟩, ⟨PyData.keyHash P (Str.ofString "__cached__"), .str (Str.ofString "__cached__") 174, .none⟩, ⟨PyData.keyHash P (Str.ofString "TupleComp"), .str (Str.ofString "TupleComp") 230, (.ref 38)⟩, ⟨PyData.keyHash P (Str.ofString "b1_set"), .str (Str.ofString "b1_set") 292, (.ref 50)⟩, ⟨PyData.keyHash P (Str.ofString "in_table_b1"), .str (Str.ofString "in_table_b1") 299, (.ref 60)⟩, ⟨PyData.keyHash P (Str.ofString "b3_exceptions"), .str (Str.ofString "b3_exceptions") 2250, (.ref 61)⟩, ⟨PyData.keyHash P (Str.ofString "map_table_b3"), .str (Str.ofString "map_table_b3") 2258, (.ref 106)⟩, ⟨PyData.keyHash P (Str.ofString "_law_word"), .str (Str.ofString "_law_word") 2267, (.ref 113)⟩, ⟨PyData.keyHash P (Str.ofString "_law_sign"), .str (Str.ofString "_law_sign") 2276, (.ref 120)⟩, ⟨PyData.keyHash P (Str.ofString "_law_unseen"), .str (Str.ofString "_law_unseen") 2283, (.ref 127)⟩, ⟨PyData.keyHash P (Str.ofString "_law_piece"), .str (Str.ofString "_law_piece") 2289, (.ref 132)⟩, ⟨PyData.keyHash P (Str.ofString "_law_prepared"), .str (Str.ofString "_law_prepared") 2295, (.ref 137)⟩, ⟨PyData.keyHash P (Str.ofString "_law_sorted"), .str (Str.ofString "_law_sorted") 2307, (.ref 144)⟩, ⟨PyData.keyHash P (Str.ofString "_law_put_in"), .str (Str.ofString "_law_put_in") 2325, (.ref 151)⟩, ⟨PyData.keyHash P (Str.ofString "_law_longest"), .str (Str.ofString "_law_longest") 2331, (.ref 156)⟩, ⟨PyData.keyHash P (Str.ofString "law"), .str (Str.ofString "law") 2337, (.ref 161)⟩].toArray 23), [].toArray⟩
noncomputable def oC_12 (P : Params) : Obj := ⟨.none, none, (.fields [(.int 2 0), (.int 0 0), (.ref 20), (.int 18 0), (.int 0 0), (.ref 59), (.int 21 0), (.int 0 0), (.ref 105), (.int 27 0), (.int 0 0), (.ref 112), (.int 29 0), (.int 0 0), (.ref 119), (.int 34 0), (.int 0 0), (.ref 126), (.int 36 0), (.int 0 0), (.ref 131), (.int 45 0), (.int 0 0), (.ref 136), (.int 47 0), (.int 0 0), (.ref 143), (.int 56 0), (.int 0 0), (.ref 150), (.int 81 0), (.int 0 0), (.ref 155), (.int 86 0), (.int 0 0), (.ref 160)].toArray), [].toArray⟩
noncomputable def oC_100 (P : Params) : Obj := ⟨(.type "tuple"), none, (.seq [].toArray 0), [].toArray⟩
noncomputable def oC_101 (P : Params) : Obj := ⟨.none, none, (.fields [].toArray), [].toArray⟩
noncomputable def oC_102 (P : Params) : Obj := ⟨(.type "tuple"), none, (.seq [(.str (Str.ofString "code") 2254), (.str (Str.ofString "r") 2255)].toArray 0), [].toArray⟩
noncomputable def oC_103 (P : Params) : Obj := ⟨(.type "tuple"), none, (.seq [].toArray 0), [].toArray⟩
noncomputable def oC_104 (P : Params) : Obj := ⟨.none, none, (fnD (stAt bd 6) (Str.ofString "map_table_b3") 0 .none .none 0), [].toArray⟩
noncomputable def oC_105 (P : Params) : Obj := ⟨(.type "code"), none, (.fields [(.str (Str.ofString "map_table_b3") 2251), (.str (Str.ofString "map_table_b3") 2252), (.str (Str.ofString "/claim/cut.py") 2253), (.int 21 0), (.int 1 0), (.int 0 0), (.int 0 0), (.int 3 0), (.ref 100), (.bool true), (.int 181 0), (.ref 101), .none, (.ref 102), (.ref 103), (.ref 104), (.int 2256 0), (.int 21 0), (.str (Str.ofString "/claim/cut.py") 2257)].toArray), [].toArray⟩
noncomputable def oC_106 (P : Params) : Obj := ⟨(.type "function"), none, (fnD (stAt bd 6) (Str.ofString "map_table_b3") 3 (.str (Str.ofString "cpy313.stringprep") 231) (.ref 105) 0), [].toArray⟩
noncomputable def oC_107 (P : Params) : Obj := ⟨(.type "tuple"), none, (.seq [].toArray 0), [].toArray⟩
noncomputable def oC_108 (P : Params) : Obj := ⟨.none, none, (.fields [].toArray), [].toArray⟩
noncomputable def oC_109 (P : Params) : Obj := ⟨(.type "tuple"), none, (.seq [(.str (Str.ofString "x") 2264)].toArray 0), [].toArray⟩
noncomputable def oC_110 (P : Params) : Obj := ⟨(.type "tuple"), none, (.seq [].toArray 0), [].toArray⟩
noncomputable def oC_111 (P : Params) : Obj := ⟨.none, none, (fnD (stAt bd 8) (Str.ofString "_law_word") 0 .none .none 0), [].toArray⟩
noncomputable def oC_112 (P : Params) : Obj := ⟨(.type "code"), none, (.fields [(.str (Str.ofString "_law_word") 2261), (.str (Str.ofString "_law_word") 2262), (.str (Str.ofString "/claim/cut.py") 2263), (.int 27 0), (.int 1 0), (.int 0 0), (.int 0 0), (.int 3 0), (.ref 107), (.bool true), (.int 181 0), (.ref 108), .none, (.ref 109), (.ref 110), (.ref 111), (.int 2265 0), (.int 27 0), (.str (Str.ofString "/claim/cut.py") 2266)].toArray), [].toArray⟩
noncomputable def oC_113 (P : Params) : Obj := ⟨(.type "function"), none, (fnD (stAt bd 8) (Str.ofString "_law_word") 3 (.str (Str.ofString "law_mr0250_02") 2259) (.ref 112) 0), [].toArray⟩
noncomputable def oC_114 (P : Params) : Obj := ⟨(.type "tuple"), none, (.seq [].toArray 0), [].toArray⟩
noncomputable def oC_115 (P : Params) : Obj := ⟨.none, none, (.fields [].toArray), [].toArray⟩
noncomputable def oC_116 (P : Params) : Obj := ⟨(.type "tuple"), none, (.seq [(.str (Str.ofString "letter") 2271), (.str (Str.ofString "form") 2272), (.str (Str.ofString "alphabet") 2273)].toArray 0), [].toArray⟩
noncomputable def oC_117 (P : Params) : Obj := ⟨(.type "tuple"), none, (.seq [].toArray 0), [].toArray⟩
noncomputable def oC_118 (P : Params) : Obj := ⟨.none, none, (fnD (stAt bd 9) (Str.ofString "_law_sign") 0 .none .none 0), [].toArray⟩
noncomputable def oC_119 (P : Params) : Obj := ⟨(.type "code"), none, (.fields [(.str (Str.ofString "_law_sign") 2268), (.str (Str.ofString "_law_sign") 2269), (.str (Str.ofString "/claim/cut.py") 2270), (.int 29 0), (.int 2 0), (.int 0 0), (.int 0 0), (.int 3 0), (.ref 114), (.bool true), (.int 181 0), (.ref 115), .none, (.ref 116), (.ref 117), (.ref 118), (.int 2274 0), (.int 29 0), (.str (Str.ofString "/claim/cut.py") 2275)].toArray), [].toArray⟩
noncomputable def oC_120 (P : Params) : Obj := ⟨(.type "function"), none, (fnD (stAt bd 9) (Str.ofString "_law_sign") 3 (.str (Str.ofString "law_mr0250_02") 2259) (.ref 119) 0), [].toArray⟩
noncomputable def oC_121 (P : Params) : Obj := ⟨(.type "tuple"), none, (.seq [].toArray 0), [].toArray⟩
noncomputable def oC_122 (P : Params) : Obj := ⟨.none, none, (.fields [].toArray), [].toArray⟩
noncomputable def oC_123 (P : Params) : Obj := ⟨(.type "tuple"), none, (.seq [(.str (Str.ofString "k") 2280)].toArray 0), [].toArray⟩
noncomputable def oC_124 (P : Params) : Obj := ⟨(.type "tuple"), none, (.seq [].toArray 0), [].toArray⟩
noncomputable def oC_125 (P : Params) : Obj := ⟨.none, none, (fnD (stAt bd 10) (Str.ofString "_law_unseen") 0 .none .none 0), [].toArray⟩
noncomputable def oC_126 (P : Params) : Obj := ⟨(.type "code"), none, (.fields [(.str (Str.ofString "_law_unseen") 2277), (.str (Str.ofString "_law_unseen") 2278), (.str (Str.ofString "/claim/cut.py") 2279), (.int 34 0), (.int 1 0), (.int 0 0), (.int 0 0), (.int 3 0), (.ref 121), (.bool true), (.int 181 0), (.ref 122), .none, (.ref 123), (.ref 124), (.ref 125), (.int 2281 0), (.int 34 0), (.str (Str.ofString "/claim/cut.py") 2282)].toArray), [].toArray⟩
noncomputable def oC_127 (P : Params) : Obj := ⟨(.type "function"), none, (fnD (stAt bd 10) (Str.ofString "_law_unseen") 3 (.str (Str.ofString "law_mr0250_02") 2259) (.ref 126) 0), [].toArray⟩
noncomputable def oC_128 (P : Params) : Obj := ⟨(.type "tuple"), none, (.seq [].toArray 0), [].toArray⟩
noncomputable def oC_129 (P : Params) : Obj := ⟨.none, none, (.fields [].toArray), [].toArray⟩
noncomputable def oC_130 (P : Params) : Obj := ⟨.none, none, (fnD (stAt bd 11) (Str.ofString "_law_piece") 0 .none .none 0), [].toArray⟩
noncomputable def oC_131 (P : Params) : Obj := ⟨(.type "code"), none, (.fields [(.str (Str.ofString "_law_piece") 2284), (.str (Str.ofString "_law_piece") 2285), (.str (Str.ofString "/claim/cut.py") 2286), (.int 36 0), (.int 1 0), (.int 0 0), (.int 0 0), (.int 3 0), (.ref 128), (.bool true), (.int 181 0), (.ref 129), .none, .none, .none, (.ref 130), (.int 2287 0), (.int 36 0), (.str (Str.ofString "/claim/cut.py") 2288)].toArray), [].toArray⟩
noncomputable def oC_132 (P : Params) : Obj := ⟨(.type "function"), none, (fnD (stAt bd 11) (Str.ofString "_law_piece") 3 (.str (Str.ofString "law_mr0250_02") 2259) (.ref 131) 0), [].toArray⟩
noncomputable def oC_133 (P : Params) : Obj := ⟨(.type "tuple"), none, (.seq [].toArray 0), [].toArray⟩
noncomputable def oC_134 (P : Params) : Obj := ⟨.none, none, (.fields [].toArray), [].toArray⟩
noncomputable def oC_135 (P : Params) : Obj := ⟨.none, none, (fnD (stAt bd 12) (Str.ofString "_law_prepared") 0 .none .none 0), [].toArray⟩
noncomputable def oC_136 (P : Params) : Obj := ⟨(.type "code"), none, (.fields [(.str (Str.ofString "_law_prepared") 2290), (.str (Str.ofString "_law_prepared") 2291), (.str (Str.ofString "/claim/cut.py") 2292), (.int 45 0), (.int 1 0), (.int 0 0), (.int 0 0), (.int 3 0), (.ref 133), (.bool true), (.int 181 0), (.ref 134), .none, .none, .none, (.ref 135), (.int 2293 0), (.int 45 0), (.str (Str.ofString "/claim/cut.py") 2294)].toArray), [].toArray⟩
noncomputable def oC_137 (P : Params) : Obj := ⟨(.type "function"), none, (fnD (stAt bd 12) (Str.ofString "_law_prepared") 3 (.str (Str.ofString "law_mr0250_02") 2259) (.ref 136) 0), [].toArray⟩
noncomputable def oC_138 (P : Params) : Obj := ⟨(.type "tuple"), none, (.seq [].toArray 0), [].toArray⟩
noncomputable def oC_139 (P : Params) : Obj := ⟨.none, none, (.fields [].toArray), [].toArray⟩
noncomputable def oC_140 (P : Params) : Obj := ⟨(.type "tuple"), none, (.seq [(.str (Str.ofString "rows") 2299), (.str (Str.ofString "keys") 2300), (.str (Str.ofString "order") 2301), (.str (Str.ofString "done") 2302), (.str (Str.ofString "place") 2303), (.str (Str.ofString "spot") 2304)].toArray 0), [].toArray⟩
noncomputable def oC_141 (P : Params) : Obj := ⟨(.type "tuple"), none, (.seq [].toArray 0), [].toArray⟩
noncomputable def oC_142 (P : Params) : Obj := ⟨.none, none, (fnD (stAt bd 13) (Str.ofString "_law_sorted") 0 .none .none 0), [].toArray⟩
noncomputable def oC_143 (P : Params) : Obj := ⟨(.type "code"), none, (.fields [(.str (Str.ofString "_law_sorted") 2296), (.str (Str.ofString "_law_sorted") 2297), (.str (Str.ofString "/claim/cut.py") 2298), (.int 47 0), (.int 2 0), (.int 0 0), (.int 0 0), (.int 3 0), (.ref 138), (.bool true), (.int 181 0), (.ref 139), .none, (.ref 140), (.ref 141), (.ref 142), (.int 2305 0), (.int 47 0), (.str (Str.ofString "/claim/cut.py") 2306)].toArray), [].toArray⟩
noncomputable def oC_144 (P : Params) : Obj := ⟨(.type "function"), none, (fnD (stAt bd 13) (Str.ofString "_law_sorted") 3 (.str (Str.ofString "law_mr0250_02") 2259) (.ref 143) 0), [].toArray⟩
noncomputable def oC_145 (P : Params) : Obj := ⟨(.type "tuple"), none, (.seq [].toArray 0), [].toArray⟩
noncomputable def oC_146 (P : Params) : Obj := ⟨.none, none, (.fields [].toArray), [].toArray⟩
noncomputable def oC_147 (P : Params) : Obj := ⟨(.type "tuple"), none, (.seq [(.str (Str.ofString "places") 2311), (.str (Str.ofString "rows") 2312), (.str (Str.ofString "keys") 2313), (.str (Str.ofString "order") 2314), (.str (Str.ofString "kept") 2315), (.str (Str.ofString "made") 2316), (.str (Str.ofString "place") 2317), (.str (Str.ofString "moved") 2318), (.str (Str.ofString "level") 2319), (.str (Str.ofString "line") 2320), (.str (Str.ofString "spot") 2321), (.str (Str.ofString "pushed") 2322)].toArray 0), [].toArray⟩
noncomputable def oC_148 (P : Params) : Obj := ⟨(.type "tuple"), none, (.seq [].toArray 0), [].toArray⟩
noncomputable def oC_149 (P : Params) : Obj := ⟨.none, none, (fnD (stAt bd 14) (Str.ofString "_law_put_in") 0 .none .none 0), [].toArray⟩
noncomputable def oC_150 (P : Params) : Obj := ⟨(.type "code"), none, (.fields [(.str (Str.ofString "_law_put_in") 2308), (.str (Str.ofString "_law_put_in") 2309), (.str (Str.ofString "/claim/cut.py") 2310), (.int 56 0), (.int 3 0), (.int 0 0), (.int 0 0), (.int 3 0), (.ref 145), (.bool true), (.int 181 0), (.ref 146), .none, (.ref 147), (.ref 148), (.ref 149), (.int 2323 0), (.int 56 0), (.str (Str.ofString "/claim/cut.py") 2324)].toArray), [].toArray⟩
noncomputable def oC_151 (P : Params) : Obj := ⟨(.type "function"), none, (fnD (stAt bd 14) (Str.ofString "_law_put_in") 3 (.str (Str.ofString "law_mr0250_02") 2259) (.ref 150) 0), [].toArray⟩
noncomputable def oC_152 (P : Params) : Obj := ⟨(.type "tuple"), none, (.seq [].toArray 0), [].toArray⟩
noncomputable def oC_153 (P : Params) : Obj := ⟨.none, none, (.fields [].toArray), [].toArray⟩
noncomputable def oC_154 (P : Params) : Obj := ⟨.none, none, (fnD (stAt bd 15) (Str.ofString "_law_longest") 0 .none .none 0), [].toArray⟩
noncomputable def oC_155 (P : Params) : Obj := ⟨(.type "code"), none, (.fields [(.str (Str.ofString "_law_longest") 2326), (.str (Str.ofString "_law_longest") 2327), (.str (Str.ofString "/claim/cut.py") 2328), (.int 81 0), (.int 1 0), (.int 0 0), (.int 0 0), (.int 3 0), (.ref 152), (.bool true), (.int 181 0), (.ref 153), .none, .none, .none, (.ref 154), (.int 2329 0), (.int 81 0), (.str (Str.ofString "/claim/cut.py") 2330)].toArray), [].toArray⟩
noncomputable def oC_156 (P : Params) : Obj := ⟨(.type "function"), none, (fnD (stAt bd 15) (Str.ofString "_law_longest") 3 (.str (Str.ofString "law_mr0250_02") 2259) (.ref 155) 0), [].toArray⟩
noncomputable def oC_157 (P : Params) : Obj := ⟨(.type "tuple"), none, (.seq [].toArray 0), [].toArray⟩
noncomputable def oC_158 (P : Params) : Obj := ⟨.none, none, (.fields [].toArray), [].toArray⟩
noncomputable def oC_159 (P : Params) : Obj := ⟨.none, none, (fnD (stAt bd 16) (Str.ofString "law") 0 .none .none 0), [].toArray⟩
noncomputable def oC_160 (P : Params) : Obj := ⟨(.type "code"), none, (.fields [(.str (Str.ofString "law") 2332), (.str (Str.ofString "law") 2333), (.str (Str.ofString "/claim/cut.py") 2334), (.int 86 0), (.int 1 0), (.int 0 0), (.int 0 0), (.int 3 0), (.ref 157), (.bool true), (.int 181 0), (.ref 158), .none, .none, .none, (.ref 159), (.int 2335 0), (.int 86 0), (.str (Str.ofString "/claim/cut.py") 2336)].toArray), [].toArray⟩
noncomputable def oC_161 (P : Params) : Obj := ⟨(.type "function"), none, (fnD (stAt bd 16) (Str.ofString "law") 3 (.str (Str.ofString "law_mr0250_02") 2259) (.ref 160) 0), [].toArray⟩
noncomputable def b3P : List Pr := prsOf (dictKV (stAt bd 5)).1 (dictKV (stAt bd 5)).2
noncomputable def chunk (i : Nat) : List Pr := (b3P.drop (17 * i)).take 17
noncomputable def chunks : List (List Pr) := (List.range 37).map fun i => chunk (i + 1)
noncomputable def last4 : List Pr := b3P.drop 646
noncomputable def b3Main : Obj := dobj (ents3 300 (b3P.take 646) ++ ents2 2238 last4) 650
noncomputable def b3Sub (i : Nat) : Obj := if i = 37 then dobj (ents2 2238 last4) 4 else dobj (ents3 (300 + 51 * (i + 1)) (chunk (i + 1))) 17
noncomputable def b3Objs : List Obj := b3Main :: (List.range 38).map b3Sub
noncomputable def objsC (P : Params) : List Obj := [boot_o_0 P, boot_o_1 P, boot_o_2 P, oC_3 P, boot_o_4 P, boot_o_5 P, boot_o_6 P, boot_o_7 P, boot_o_8 P, boot_o_9 P, boot_o_10 P, oa_11 P, oC_12 P, oa_13 P, oa_14 P, oA_15 P, oA_16 P, oA_17 P, oA_18 P, oA_19 P, oA_20 P, oA_21 P, oA_22 P, oA_23 P, oA_24 P, oA_25 P, oA_26 P, oA_27 P, oA_28 P, oA_29 P, oA_30 P, oA_31 P, oA_32 P, oA_33 P, oA_34 P, oA_35 P, oA_36 P, oA_37 P, oA_38 P, oA_39 P, oA_40 P, oA_41 P, oA_42 P, oA_43 P, oA_44 P, oA_45 P, oA_46 P, oA_47 P, oA_48 P, oA_49 P, oA_50 P, oA_51 P, oA_52 P, oA_53 P, oA_54 P, oA_55 P, oA_56 P, oA_57 P, oA_58 P, oA_59 P, oA_60 P, b3Main, b3Sub 0, b3Sub 1, b3Sub 2, b3Sub 3, b3Sub 4, b3Sub 5, b3Sub 6, b3Sub 7, b3Sub 8, b3Sub 9, b3Sub 10, b3Sub 11, b3Sub 12, b3Sub 13, b3Sub 14, b3Sub 15, b3Sub 16, b3Sub 17, b3Sub 18, b3Sub 19, b3Sub 20, b3Sub 21, b3Sub 22, b3Sub 23, b3Sub 24, b3Sub 25, b3Sub 26, b3Sub 27, b3Sub 28, b3Sub 29, b3Sub 30, b3Sub 31, b3Sub 32, b3Sub 33, b3Sub 34, b3Sub 35, b3Sub 36, b3Sub 37, oC_100 P, oC_101 P, oC_102 P, oC_103 P, oC_104 P, oC_105 P, oC_106 P, oC_107 P, oC_108 P, oC_109 P, oC_110 P, oC_111 P, oC_112 P, oC_113 P, oC_114 P, oC_115 P, oC_116 P, oC_117 P, oC_118 P, oC_119 P, oC_120 P, oC_121 P, oC_122 P, oC_123 P, oC_124 P, oC_125 P, oC_126 P, oC_127 P, oC_128 P, oC_129 P, oC_130 P, oC_131 P, oC_132 P, oC_133 P, oC_134 P, oC_135 P, oC_136 P, oC_137 P, oC_138 P, oC_139 P, oC_140 P, oC_141 P, oC_142 P, oC_143 P, oC_144 P, oC_145 P, oC_146 P, oC_147 P, oC_148 P, oC_149 P, oC_150 P, oC_151 P, oC_152 P, oC_153 P, oC_154 P, oC_155 P, oC_156 P, oC_157 P, oC_158 P, oC_159 P, oC_160 P, oC_161 P]
end
end Mine
end SHF2
section SHG2
open PySem PySem.W PyProof.Rows
set_option maxRecDepth 100000
namespace Mine
noncomputable section
noncomputable abbrev stt (objs : Params → List Obj) (tk : Nat) (w : World) (os : OsState) : Shared := ⟨⟨(objs w.params).toArray, (boot_heap w.params).life⟩, Array.mk [], boot_drawn, tk, os⟩
noncomputable abbrev ann0 : Option Value := some (.ref 6)
noncomputable abbrev B0 : List Frame := [topFrame q0]
theorem h_pre : (fun (w : World) (os : OsState) => topGo treeTable pp w 11 ann0 12 ⟨boot_heap w.params, Array.mk [], boot_drawn, boot_toks, os⟩ (topStub pp)) =
    fun w os => some (stt objsa 187 w os, ⟨denote treeTable cd0, cd0, pos0, B0⟩) := by
  rw [PySem.W.Fast.te15667345088766844465, PySem.W.Fast.te11892475500146522536]
  kernel_rfl
theorem h_block : (fun (w : World) (os : OsState) => segRun treeTable pp w 11 ann0 1 1 (stt objsa 187 w os) (blockOf bd env0 cd0 pos0 B0)) = fun w os => some (.next, stt objsa 187 w os, cd0, pos0) := by kernel_rfl
theorem b3_len : b3P.length = 650 := by decide +kernel
theorem b3_split : b3P.take 17 ++ chunks.flatten ++ last4 = b3P := by kernel_rfl
theorem b3_keys : b3P.map (fun x => (some (.Constant (.int x.1.1) x.1.2.1 x.1.2.2) : Option Expr)) = (dictKV (stAt bd 5)).1 := by kernel_rfl
theorem b3_vals : b3P.map (fun x => (.Constant (.str x.2.1) x.2.2.1 x.2.2.2 : Expr)) = (dictKV (stAt bd 5)).2 := by kernel_rfl
noncomputable def risingB : List Int → Bool
  | a :: b :: r => decide (a < b) && risingB (b :: r)
  | _ => true
theorem b3_rising : risingB (b3P.map (·.1.1)) = true := by decide +kernel
theorem b3_keyOk : (b3P.all fun x => decide (0 ≤ x.1.1) && decide (x.1.1 < 2 ^ 32)) = true := by decide +kernel
theorem b3_heap (P : Params) : pushAll ((⟨(objsA P).toArray, (boot_heap P).life⟩ : Heap).push (dobj (ents3 300 (b3P.take 17 ++ chunks.flatten) ++ ents2 (300 + 3 * (b3P.take 17 ++ chunks.flatten).length) last4) (b3P.take 17 ++ chunks.flatten ++ last4).length))
    (subsOf (300 + 3 * (b3P.take 17).length) chunks ++ [dobj (ents2 (300 + 3 * (b3P.take 17 ++ chunks.flatten).length) last4) last4.length]) = ⟨(objsA P ++ b3Objs).toArray, (boot_heap P).life⟩ := by kernel_rfl
end
end Mine
end SHG2
section SHH2
open PySem PySem.W PyProof.Rows
set_option maxRecDepth 100000
namespace Mine
noncomputable section
noncomputable def PA (w : World) : Prop := (fun os => segRun treeTable pp w 11 ann0 1 1305 (stt objsa 187 w os) (piecesOf (bd.take 5) env0 cd0 pos0 B0)) = fun os => some (.next, stt objsA 300 w os, cd0, posA)
theorem h_A00 (w : World) : PA ((w.withFollow "special-get-raises" false).withFollow "set-order" false) := by
  unfold PA
  rw [PySem.W.Fast.te14374325043358763698, PySem.W.Fast.te14364793385576792824]
  kernel_rfl
theorem h_A01 (w : World) : PA ((w.withFollow "special-get-raises" true).withFollow "set-order" false) := by
  unfold PA
  rw [PySem.W.Fast.te14374325043358763698, PySem.W.Fast.te14364793385576792824]
  kernel_rfl
theorem h_A10 (w : World) : PA ((w.withFollow "special-get-raises" false).withFollow "set-order" true) := by
  unfold PA
  rw [PySem.W.Fast.te14374325043358763698, PySem.W.Fast.te14364793385576792824]
  kernel_rfl
theorem h_A11 (w : World) : PA ((w.withFollow "special-get-raises" true).withFollow "set-order" true) := by
  unfold PA
  rw [PySem.W.Fast.te14374325043358763698, PySem.W.Fast.te14364793385576792824]
  kernel_rfl
theorem h_A : ∀ w, PA w := byRow2 "set-order" (P := PA) (byRow2 "special-get-raises" (P := fun w => PA (w.withFollow "set-order" false)) h_A00 h_A01) (byRow2 "special-get-raises" (P := fun w => PA (w.withFollow "set-order" true)) h_A10 h_A11)
end
end Mine
end SHH2
section SHI2
open PySem PySem.W PyProof.Rows
set_option maxRecDepth 100000
namespace Mine
noncomputable section
theorem exec_assign_dict (id : Str) (tp : Pos) (ks : List (Option Expr)) (vs : List Expr) (dpos pos : Pos) (env : Env) : exec (.Assign [.Name id tp] (.Dict ks vs dpos) pos) env =
    ((standAt pos >>= fun _ => (standAt dpos >>= fun _ => dictDisplay ((evalEachOpt ks env).zip ((evalEach vs env).map fun v => do let x ← v; standAt dpos; pure x)))) >>= fun v =>
      assignStores env v none ((assignEach [.Name id tp] env).map (·.2))) := by rfl
theorem items_eq (env : Env) (dpos : Pos) : ∀ l : List Pr, (evalEachOpt (l.map (fun x => (some (.Constant (.int x.1.1) x.1.2.1 x.1.2.2) : Option Expr))) env).zip ((evalEach (l.map (fun x => (.Constant (.str x.2.1) x.2.2.1 x.2.2.2 : Expr))) env).map fun v => do let x ← v; standAt dpos; pure x) = l.map (itemOf env dpos)
  | [] => rfl
  | x :: r => by
    have ih := items_eq env dpos r
    simp only [List.map_cons, evalEachOpt, evalEach, evalOpt, List.zip_cons_cons, ih]
    rfl
theorem nodup_of_rising : ∀ l : List Int, risingB l = true → l.Nodup := by
  have key : ∀ (l : List Int) (a : Int), risingB (a :: l) = true → (∀ x ∈ l, a < x) ∧ l.Nodup := by
    intro l
    induction l with
    | nil => intro a _; exact ⟨fun x hx => absurd hx List.not_mem_nil, List.nodup_nil⟩
    | cons b r ih =>
      intro a h
      simp only [risingB, Bool.and_eq_true, decide_eq_true_eq] at h
      obtain ⟨h1, h2⟩ := ih b h.2
      refine ⟨fun x hx => ?_, List.nodup_cons.mpr ⟨fun hb => ?_, h2⟩⟩
      · rcases List.mem_cons.mp hx with rfl | hx
        · exact h.1
        · have := h1 x hx
          have := h.1
          omega
      · have := h1 b hb
        omega
  intro l h
  cases l with
  | nil => exact List.nodup_nil
  | cons a r =>
    obtain ⟨h1, h2⟩ := key r a h
    exact List.nodup_cons.mpr ⟨fun ha => by have := h1 a ha; omega, h2⟩
theorem chunk_len : ∀ c ∈ chunks, c.length = 17 := by
  intro c hc
  obtain ⟨i, hi, rfl⟩ := List.mem_map.mp hc
  have : i < 37 := List.mem_range.mp hi
  unfold chunk
  rw [List.length_take, List.length_drop, b3_len]
  omega
noncomputable def tgt5 : List Expr := asgTo (stAt bd 5)
theorem st5_eq : stAt bd 5 = .Assign [.Name (Str.ofString "b3_exceptions") ⟨20, 0, 20, 13⟩] (.Dict (dictKV (stAt bd 5)).1 (dictKV (stAt bd 5)).2 (dictPos (stAt bd 5))) (asgPos (stAt bd 5)) := by kernel_rfl
theorem bd_split : bd = bd.take 5 ++ (stAt bd 5 :: bd.drop 6) := by kernel_rfl
noncomputable def K5 (v : Value) : Sem Fin := (assignStores env0 v none ((assignEach [.Name (Str.ofString "b3_exceptions") ⟨20, 0, 20, 13⟩] env0).map (·.2))).wrap (fun f => match f with | .next => (execs (bd.drop 6) env0).wrap doneF (leaveH env0) id id | f => doneF f) (leaveH env0) id id
noncomputable def objsB (P : Params) : List Obj := objsA P ++ b3Objs
theorem h_B (w : World) (os : OsState) (N : Nat) (r : Shared) (h : topRun treeTable pp w 11 ann0 N (stt objsB 2250 w os) ⟨K5 (.ref 61), cd0, dictPos (stAt bd 5), B0⟩ = some r) :
    topRun treeTable pp w 11 ann0 (12517 + N) (stt objsA 300 w os) (restOf (stAt bd 5 :: bd.drop 6) env0 cd0 posA B0) = some r := by
  unfold restOf
  rw [execs_cons_wrap]
  have e1 : exec (stAt bd 5) env0 = ((standAt (asgPos (stAt bd 5)) >>= fun _ => (standAt (dictPos (stAt bd 5)) >>= fun _ => dictDisplay (((b3P.take 17 ++ chunks.flatten) ++ last4).map (itemOf env0 (dictPos (stAt bd 5)))))) >>= fun v =>
      assignStores env0 v none ((assignEach [.Name (Str.ofString "b3_exceptions") ⟨20, 0, 20, 13⟩] env0).map (·.2))) := by
    rw [b3_split, ← items_eq, b3_keys, b3_vals]
    exact (congrArg (fun z => exec z env0) st5_eq).trans (exec_assign_dict _ _ _ _ _ _ _)
  rw [e1, Sem.bind_eq_wrap', Sem.wrap_wrap]
  have hall : ∀ x ∈ b3P, keyOk x := fun x hx => by
    have := List.all_eq_true.mp b3_keyOk x hx
    simp only [Bool.and_eq_true, decide_eq_true_eq] at this
    exact this
  have hlast : last4.length = 4 := by unfold last4; rw [List.length_drop, b3_len]
  have hfl : chunks.flatten.length = 629 := by
    have := congrArg List.length b3_split
    rw [List.length_append, List.length_append, hlast, List.length_take, b3_len] at this
    omega
  have h17 : (b3P.take 17).length = 17 := by rw [List.length_take, b3_len]; rfl
  have hc : chunks.length = 37 := by unfold chunks; rw [List.length_map, List.length_range]
  have hsz : (stt objsA 300 w os).heap.objs.size = 61 := rfl
  have hd := r1_display (p := pp) (w := w) (n₀ := 11) (ann := ann0) (b := bd) (env := env0) (B := B0) (s := stt objsA 300 w os) (q := dictPos (stAt bd 5)) (pos := dictPos (stAt bd 5)) (c := b3P.take 17) (cs := chunks) (last := last4)
    (by rw [hsz]; decide) (by rw [hsz]; decide) h17 chunk_len (by rw [hlast]; decide) (by intro e; rw [e] at hlast; cases hlast) (by rw [h17, hfl, hlast]; decide) (by rw [b3_split]; exact hall) (by rw [b3_split]; exact nodup_of_rising _ b3_rising)
  have he := r1_bind (p := pp) (w := w) (n₀ := 11) (ann := ann0) (B := B0) (q := posA) (r1_standAt (b := bd) (env := env0) (q' := asgPos (stAt bd 5))) (f := fun _ => (standAt (dictPos (stAt bd 5)) >>= fun _ => dictDisplay (((b3P.take 17 ++ chunks.flatten) ++ last4).map (itemOf env0 (dictPos (stAt bd 5)))))) (r1_bind r1_standAt hd)
  have hn : 12517 + N = (1 + (1 + (229 + 330 * chunks.length + 19 * last4.length))) + N := by rw [hc, hlast]
  rw [hn]
  refine he _ _ _ _ _ _ ?_
  have e2 : (stt objsA 300 w os).toks + 3 * (b3P.take 17 ++ chunks.flatten ++ last4).length = 2250 := by
    rw [b3_split, b3_len]
  rw [e2]
  have e3 := b3_heap w.params
  show topRun treeTable pp w 11 ann0 N ⟨pushAll ((⟨(objsA w.params).toArray, (boot_heap w.params).life⟩ : Heap).push (dobj (ents3 300 (b3P.take 17 ++ chunks.flatten) ++ ents2 (300 + 3 * (b3P.take 17 ++ chunks.flatten).length) last4) (b3P.take 17 ++ chunks.flatten ++ last4).length))
    (subsOf (300 + 3 * (b3P.take 17).length) chunks ++ [dobj (ents2 (300 + 3 * (b3P.take 17 ++ chunks.flatten).length) last4) last4.length]), _, _, _, _⟩ _ = _
  rw [e3]
  exact h
end
end Mine
end SHI2
section SHJ2
open PySem PySem.W PyProof.Rows
set_option maxRecDepth 100000
namespace Mine
noncomputable section
theorem h_C : (fun (w : World) (os : OsState) => topRun treeTable pp w 11 ann0 350 (stt objsB 2250 w os) ⟨K5 (.ref 61), cd0, dictPos (stAt bd 5), B0⟩) = fun w os => some (stt objsC 2338 w os) := by
  unfold K5
  rw [PySem.W.Fast.te14082659384304107361, PySem.W.Fast.te14364793385576792824]
  kernel_rfl
end
end Mine
end SHJ2
section SHK2
open PySem PySem.W PyProof.Rows
set_option maxRecDepth 100000
namespace Mine
noncomputable section
noncomputable def qq : Program := view pp [1, 3, 4, 5, 6, 8, 9, 10, 11, 12, 13, 14, 15, 16]
noncomputable def lse : List Str := [Str.ofString "b1_set", Str.ofString "b3_exceptions"]
noncomputable abbrev Xt0 : Shared → Bool := fun _ => true
noncomputable def Yf0 (s : Shared) : List (Option Obj) := (List.range 162).map s.heap.get?
noncomputable def Ya0 (w : World) : List (Option Obj) := (objsC w.params).map some
theorem l_size (w : World) : ((boot_heap w.params).isNs mainGlobals && (Array.mk [] : Array GenState).size == 0, (boot_heap w.params).objs.size, (boot_heap w.params).nsMap mainGlobals "__annotations__") = (true, 11, ann0) := by kernel_rfl
theorem l_1 (w : World) : (fun os => (staticsOk (importedModules pp.main.body) (boot_heap w.params) (stt objsC 2338 w os).heap && namesBound pp (stt objsC 2338 w os).heap && gensDone (stt objsC 2338 w os) && laidKept (boot_heap w.params) (stt objsC 2338 w os).heap)) = fun _ => true := by kernel_rfl
theorem l_3 (w : World) : (fun os => Yf0 (stt objsC 2338 w os)) = fun _ => Ya0 w := by kernel_rfl
theorem l_2 (w : World) : (fun os => openSeen qq lse (importedModules pp.main.body) Xt0 true (stt objsC 2338 w os)) = fun _ => openGood qq lse := by
  rw [PySem.W.Fast.te4187177175401517315]
  kernel_rfl
end
end Mine
end SHK2
section SHM2
open PySem PySem.W PyProof.Rows
set_option maxRecDepth 100000
namespace Mine
noncomputable section
theorem open_plain : opening pp = plainProg pp.main.scope.names := by kernel_rfl
theorem fence_plain : ∀ s, fenceModules? pp s = some s := fun s => by kernel_rfl
theorem h_run (w : World) (os : OsState) : topRun treeTable pp w 11 ann0 14185 ⟨boot_heap w.params, Array.mk [], boot_drawn, boot_toks, os⟩ (topStub pp) = some (stt objsC 2338 w os) := by
  have hC := congrFun (congrFun h_C w) os
  have hB := h_B w os 350 _ hC
  have hA := piece_app (rest := stAt bd 5 :: bd.drop 6) (congrFun (h_A w) os) hB
  rw [← bd_split] at hA
  have hb := piece_block (congrFun (congrFun h_block w) os) hA
  exact go_top (congrFun (congrFun h_pre w) os) hb
theorem left1 : LeftO pp qq lse Xt0 Yf0 Ya0 20000 :=
  LeftO.of_pieces (H₀ := boot_heap) (H₁ := fun P => ⟨(objsC P).toArray, (boot_heap P).life⟩) (gs₀ := Array.mk []) (gs₁ := Array.mk []) (d₀ := boot_drawn) (d₁ := boot_drawn) (k₀ := boot_toks) (k₁ := 2338) (m₀ := 11) (ann := ann0) (M := 14185)
    (boot_open open_plain rfl fence_plain) l_size h_run rfl
    (fun w => funext fun os => by
      have a := congrFun (l_1 w) os
      have b := congrFun (l_2 w) os
      have c := congrFun (l_3 w) os
      exact Prod.ext a (Prod.ext b c))
noncomputable def says1 (w : World) (h : Heap) : Prop := ∀ i o, (objsC w.params)[i]? = some o → h.get? i = some o
theorem says_of (w : World) (s : Shared) (e : Yf0 s = Ya0 w) : says1 w s.heap := by
  intro i o hi
  have h1 : (Yf0 s)[i]? = (Ya0 w)[i]? := by rw [e]
  unfold Yf0 Ya0 at h1
  rw [List.getElem?_map, List.getElem?_map, hi] at h1
  have hlt : i < 162 := by
    have := (List.getElem?_eq_some_iff.mp hi).1
    exact this
  rw [List.getElem?_range hlt] at h1
  simpa using h1
theorem says_keeps (w : World) (h h' : Heap) (y : says1 w h) (k : ∀ b o, h.get? b = some o → h'.get? b = some o) : says1 w h' := fun i o hi => k _ _ (y i o hi)
end
end Mine
end SHM2
section SWA
open PySem PySem.W PyProof.Rows
namespace Mine
noncomputable abbrev AS := Addr → Prop
noncomputable def PTup (h : Heap) (a : Addr) (items : Array Value) : Prop := ∃ n, h.get? a = some { cls := .type "tuple", data := .seq items n }
theorem PTup.isTuple {h : Heap} {a : Addr} {items : Array Value} (x : PTup h a items) : h.IsTuple a items := let ⟨n, e⟩ := x; ⟨_, e, rfl, n, rfl⟩
mutual
noncomputable def Rp (X : AS) (h : Heap) : PyData → Value → Prop
  | .none, v => v = .none
  | .bool b, v => v = .bool b
  | .int i, v => ∃ t, v = .int i t
  | .str x, v => ∃ t, v = .str x t
  | .list xs, v => ∃ a vs, v = .ref a ∧ ¬ X a ∧ h.PlainList a vs.toArray ∧ Rps X h xs vs
  | .tuple xs, v => ∃ a vs, v = .ref a ∧ ¬ X a ∧ PTup h a vs.toArray ∧ Rps X h xs vs
  | .dict _, _ => False
noncomputable def Rps (X : AS) (h : Heap) : List PyData → List Value → Prop
  | [], vs => vs = []
  | d :: r, vs => ∃ v vr, vs = v :: vr ∧ Rp X h d v ∧ Rps X h r vr
end
mutual
theorem Rp.keep {X X' : AS} {h h' : Heap} (hk : ∀ b o, ¬ X b → h.get? b = some o → h'.get? b = some o ∧ ¬ X' b) : ∀ {d : PyData} {v : Value}, Rp X h d v → Rp X' h' d v
  | .none, v, r => by simp only [Rp] at r ⊢; exact r
  | .bool b, v, r => by simp only [Rp] at r ⊢; exact r
  | .int b, v, r => by simp only [Rp] at r ⊢; exact r
  | .str b, v, r => by simp only [Rp] at r ⊢; exact r
  | .list xs, v, r => by
    simp only [Rp] at r ⊢
    obtain ⟨a, vs, e, hx, ⟨n, ho⟩, hr⟩ := r
    exact ⟨a, vs, e, (hk a _ hx ho).2, ⟨n, (hk a _ hx ho).1⟩, Rps.keep hk hr⟩
  | .tuple xs, v, r => by
    simp only [Rp] at r ⊢
    obtain ⟨a, vs, e, hx, ⟨n, ho⟩, hr⟩ := r
    exact ⟨a, vs, e, (hk a _ hx ho).2, ⟨n, (hk a _ hx ho).1⟩, Rps.keep hk hr⟩
  | .dict _, v, r => by simp only [Rp] at r
theorem Rps.keep {X X' : AS} {h h' : Heap} (hk : ∀ b o, ¬ X b → h.get? b = some o → h'.get? b = some o ∧ ¬ X' b) : ∀ {d : List PyData} {v : List Value}, Rps X h d v → Rps X' h' d v
  | [], v, r => by simp only [Rps] at r ⊢; exact r
  | d :: ds, v, r => by
    simp only [Rps] at r ⊢
    obtain ⟨v, vr, e, h1, h2⟩ := r
    exact ⟨v, vr, e, Rp.keep hk h1, Rps.keep hk h2⟩
end
mutual
theorem Rp.reads {X : AS} {h : Heap} : ∀ {d : PyData} {v : Value}, Rp X h d v → ∃ as, Reads h v d as
  | .none, v, r => by simp only [Rp] at r; subst r; exact ⟨_, .none⟩
  | .bool b, v, r => by simp only [Rp] at r; subst r; exact ⟨_, .bool b⟩
  | .int b, v, r => by simp only [Rp] at r; obtain ⟨t, rfl⟩ := r; exact ⟨_, .int b t⟩
  | .str b, v, r => by simp only [Rp] at r; obtain ⟨t, rfl⟩ := r; exact ⟨_, .str b t⟩
  | .list xs, v, r => by
    simp only [Rp] at r
    obtain ⟨a, vs, rfl, hx, ⟨n, ho⟩, hr⟩ := r
    obtain ⟨as, h1⟩ := Rps.reads hr
    exact ⟨_, .list ho rfl rfl (by simpa using h1)⟩
  | .tuple xs, v, r => by
    simp only [Rp] at r
    obtain ⟨a, vs, rfl, hx, ⟨n, ho⟩, hr⟩ := r
    obtain ⟨as, h1⟩ := Rps.reads hr
    exact ⟨_, .tuple ho rfl rfl (by simpa using h1)⟩
  | .dict _, v, r => by simp only [Rp] at r
theorem Rps.reads {X : AS} {h : Heap} : ∀ {d : List PyData} {v : List Value}, Rps X h d v → ∃ as, ReadsAll h v d as
  | [], v, r => by simp only [Rps] at r; subst r; exact ⟨_, .nil⟩
  | d :: ds, v, r => by
    simp only [Rps] at r
    obtain ⟨v, vr, rfl, h1, h2⟩ := r
    obtain ⟨as, h1⟩ := Rp.reads h1
    obtain ⟨bs, h2⟩ := Rps.reads h2
    exact ⟨_, .cons h1 h2⟩
end
theorem Rps.length {X : AS} {h : Heap} : ∀ {ds : List PyData} {vs : List Value}, Rps X h ds vs → vs.length = ds.length
  | [], v, r => by simp only [Rps] at r; subst r; rfl
  | d :: ds, v, r => by
    simp only [Rps] at r
    obtain ⟨v, vr, rfl, h1, h2⟩ := r
    simp only [List.length_cons, Rps.length h2]
theorem Rps.get {X : AS} {h : Heap} : ∀ {ds : List PyData} {vs : List Value}, Rps X h ds vs → ∀ {i : Nat} {d : PyData}, ds[i]? = some d → ∃ v, vs[i]? = some v ∧ Rp X h d v
  | [], v, r, i, d, e => by simp at e
  | d :: ds, v, r, i, d', e => by
    simp only [Rps] at r
    obtain ⟨v, vr, rfl, h1, h2⟩ := r
    cases i with
    | zero => simp only [List.getElem?_cons_zero, Option.some.injEq] at e ⊢; subst e; exact ⟨v, rfl, h1⟩
    | succ i => simp only [List.getElem?_cons_succ] at e ⊢; exact Rps.get h2 e
theorem Rps.append {X : AS} {h : Heap} : ∀ {ds es : List PyData} {vs us : List Value}, Rps X h ds vs → Rps X h es us → Rps X h (ds ++ es) (vs ++ us)
  | [], es, v, us, r, q => by simp only [Rps] at r; subst r; exact q
  | d :: ds, es, v, us, r, q => by
    simp only [Rps] at r
    obtain ⟨v, vr, rfl, h1, h2⟩ := r
    exact ⟨v, vr ++ us, rfl, h1, h2.append q⟩
theorem Rps.of_get {X : AS} {h : Heap} : ∀ {ds : List PyData} {vs : List Value}, vs.length = ds.length → (∀ (i : Nat) (d : PyData) (v : Value), ds[i]? = some d → vs[i]? = some v → Rp X h d v) → Rps X h ds vs
  | [], vs, hl, _ => by simp only [Rps]; exact List.length_eq_zero_iff.mp hl
  | d :: ds, [], hl, _ => by cases hl
  | d :: ds, v :: vs, hl, hg => by
    simp only [Rps]
    exact ⟨v, vs, rfl, hg 0 d v rfl rfl, Rps.of_get (by simpa using hl) fun i d' v' e1 e2 => hg (i + 1) d' v' e1 e2⟩
structure AOk (k : Nat) (A : Around) : Prop where
  h : A.handled = none
  d : A.depth + k ≤ 600
  u : A.units + 8 * k ≤ 4000
theorem AOk.mono {k j : Nat} {A : Around} (a : AOk k A) (hj : j ≤ k) : AOk j A := ⟨a.h, by have := a.d; omega, by have := a.u; omega⟩
theorem AOk.deeper {k : Nat} {A : Around} (a : AOk (k + 1) A) (env : Env) : AOk k (A.deeper env) := ⟨a.h, by have := a.d; show A.depth + 1 + k ≤ 600; omega, by have := a.u; show A.units + 3 + 8 * k ≤ 4000; omega⟩
theorem AOk.caller : AOk 20 callerA := ⟨rfl, by decide, by decide⟩
theorem kp_refl (s : Shared) : Keeps s s := ⟨s.heap, s.toks, rfl, fun _ _ e => e⟩
theorem kp_trans {s s' s'' : Shared} (a : Keeps s s') (b : Keeps s' s'') : Keeps s s'' := by
  obtain ⟨h, t, rfl, k⟩ := a
  obtain ⟨h', t', rfl, k'⟩ := b
  exact ⟨h', t', rfl, fun x o e => k' x o (k x o e)⟩
theorem kp_tok (s : Shared) (t : Nat) : Keeps s { s with toks := t } := ⟨s.heap, t, rfl, fun _ _ e => e⟩
theorem kp_get {s s' : Shared} (a : Keeps s s') {b : Addr} {o : Obj} (e : s.heap.get? b = some o) : s'.heap.get? b = some o := by
  obtain ⟨h, t, rfl, k⟩ := a; exact k b o e
theorem kp_push (s : Shared) (o : Obj) : Keeps s { s with heap := s.heap.push o } := ⟨_, s.toks, rfl, fun _ _ e => Heap.get?_push_of_some _ e⟩
noncomputable def Live (X : AS) (h : Heap) : Prop := ∀ a, X a → ∃ o, h.get? a = some o
theorem Live.keeps {X : AS} {s s' : Shared} (l : Live X s.heap) (k : Keeps s s') : Live X s'.heap := fun a ha => let ⟨o, e⟩ := l a ha; ⟨o, kp_get k e⟩
theorem Live.fresh {X : AS} {h : Heap} (l : Live X h) {a : Addr} (e : h.get? a = none) : ¬ X a := fun ha => by
  obtain ⟨o, e'⟩ := l a ha; rw [e] at e'; cases e'
theorem get_size_none (h : Heap) : h.get? h.objs.size = none := by
  cases e : h.get? h.objs.size with
  | none => rfl
  | some o => exact absurd (Heap.lt_size e) (Nat.lt_irrefl _)
theorem Rp.keeps {X : AS} {s s' : Shared} (k : Keeps s s') {d : PyData} {v : Value} (r : Rp X s.heap d v) : Rp X s'.heap d v := Rp.keep (fun _ _ hx e => ⟨kp_get k e, hx⟩) r
theorem Rps.keeps {X : AS} {s s' : Shared} (k : Keeps s s') {d : List PyData} {v : List Value} (r : Rps X s.heap d v) : Rps X s'.heap d v := Rps.keep (fun _ _ hx e => ⟨kp_get k e, hx⟩) r
theorem Rp.newList {X : AS} {s : Shared} (l : Live X s.heap) {ds : List PyData} {vs : List Value} (r : Rps X s.heap ds vs) :
    Rp X (s.heap.push { cls := .type "list", data := .seq vs.toArray }) (.list ds) (.ref s.heap.objs.size) := by
  simp only [Rp]
  exact ⟨_, vs, rfl, l.fresh (get_size_none _), ⟨_, Heap.get?_push_size _ rfl⟩, Rps.keeps (kp_push s _) r⟩
theorem Rp.newTuple {X : AS} {s : Shared} (l : Live X s.heap) {ds : List PyData} {vs : List Value} (r : Rps X s.heap ds vs) :
    Rp X (s.heap.push { cls := .type "tuple", data := .seq vs.toArray }) (.tuple ds) (.ref s.heap.objs.size) := by
  simp only [Rp]
  exact ⟨_, vs, rfl, l.fresh (get_size_none _), ⟨_, Heap.get?_push_size _ rfl⟩, Rps.keeps (kp_push s _) r⟩
end Mine
end SWA
section SWB
open PySem PySem.W PyProof.Rows
namespace Mine
noncomputable abbrev Gv (X : AS) (s : Shared) (d : PyData) : Value → Shared → Prop := fun v s' => Rp X s'.heap d v ∧ Keeps s s'
noncomputable def binD : Operator → PyData → PyData → Option PyData
  | .Add, .int a, .int b => some (.int (a + b))
  | .Sub, .int a, .int b => some (.int (a - b))
  | .Mult, .int a, .int b => if a.natAbs < 2 ^ 60 then some (.int (a * b)) else none
  | .Mod, .int a, .int b => if b = 0 then none else some (.int (a.fmod b))
  | .FloorDiv, .int a, .int b => if b ≠ 0 ∧ b.natAbs < 1073741824 then some (.int (a.fdiv b)) else none
  | .Pow, .int a, .int b => if 0 ≤ b ∧ b ≤ 1000 ∧ a.natAbs < 2 ^ 60 then some (.int (a ^ b.toNat)) else none
  | .Add, .str x, .str y => if x.length + y.length ≤ 1000000 then some (.str (x ++ y)) else none
  | .Add, .list xs, .list ys => if xs.length + ys.length ≤ 1000000 then some (.list (xs ++ ys)) else none
  | _, _, _ => none
section
variable {prog : Program} {w : World} {A : Around} {E : Value → Shared → Prop} {s : Shared} {X : AS}
theorem rp_int {h : Heap} {i : Int} {t : Tok} : Rp X h (.int i) (.int i t) := by simp only [Rp]; exact ⟨t, rfl⟩
theorem rp_str {h : Heap} {i : Str} {t : Tok} : Rp X h (.str i) (.str i t) := by simp only [Rp]; exact ⟨t, rfl⟩
theorem rp_bool {h : Heap} {i : Bool} : Rp X h (.bool i) (.bool i) := by simp only [Rp]
theorem gv_int {i : Int} {t tk : Tok} : Gv X s (.int i) (.int i t) { s with toks := tk } := ⟨rp_int, kp_tok _ _⟩
theorem sizeLine_big : sizeLine = 16777216 := by rfl
theorem bits_small {a : Int} (h : a.natAbs < 2 ^ 60) : Builtin.Int.intBits a ≤ 64 := by
  unfold Builtin.Int.intBits
  split
  · omega
  · rename_i h0
    have h1 : a.natAbs ≠ 0 := by
      intro e
      have : a = 0 := by omega
      subst this
      exact h0 rfl
    have := (Nat.log2_lt h1).mpr h
    omega
theorem bin_ok {op : Operator} {d1 d2 d : PyData} {v1 v2 : Value} (hd : binD op d1 d2 = some d) (r1 : Rp X s.heap d1 v1) (r2 : Rp X s.heap d2 v2) (hl : Live X s.heap) :
    wpAny (model prog w) A (binaryOp op v1 v2) (Gv X s d) E s := by
  unfold binD at hd
  split at hd
  · simp only [Rp] at r1 r2; obtain ⟨t, rfl⟩ := r1; obtain ⟨u, rfl⟩ := r2
    cases hd; exact PyProof.Rows.add_int gv_int
  · simp only [Rp] at r1 r2; obtain ⟨t, rfl⟩ := r1; obtain ⟨u, rfl⟩ := r2
    cases hd; exact PyProof.Rows.sub_int gv_int
  · simp only [Rp] at r1 r2; obtain ⟨t, rfl⟩ := r1; obtain ⟨u, rfl⟩ := r2
    split at hd
    · rename_i h; cases hd; exact PyProof.Rows.mul_int gv_int (IntMulOk.of_left (bits_small h))
    · cases hd
  · simp only [Rp] at r1 r2; obtain ⟨t, rfl⟩ := r1; obtain ⟨u, rfl⟩ := r2
    split at hd
    · cases hd
    · rename_i h; cases hd; exact PyProof.Rows.mod_int h gv_int
  · simp only [Rp] at r1 r2; obtain ⟨t, rfl⟩ := r1; obtain ⟨u, rfl⟩ := r2
    split at hd
    · rename_i h; cases hd; exact PyProof.Rows.floordiv_int h.1 gv_int (Or.inl (PyProof.noPylong_small h.2))
    · cases hd
  · simp only [Rp] at r1 r2; obtain ⟨t, rfl⟩ := r1; obtain ⟨u, rfl⟩ := r2
    split at hd
    · rename_i h; cases hd
      exact PyProof.Rows.pow_int_small h.1 (by omega) (by have := h.2.2; omega) gv_int
    · cases hd
  · simp only [Rp] at r1 r2; obtain ⟨t, rfl⟩ := r1; obtain ⟨u, rfl⟩ := r2
    split at hd
    · rename_i h; cases hd
      exact PyProof.Rows.add_str (fun t' tk => ⟨rp_str, kp_tok _ _⟩) (by rw [sizeLine_big]; omega)
    · cases hd
  · simp only [Rp] at r1 r2
    obtain ⟨a, vs, rfl, _, ⟨n, ho⟩, hr⟩ := r1
    obtain ⟨a', vs', rfl, _, ⟨n', ho'⟩, hr'⟩ := r2
    split at hd
    · rename_i h; cases hd
      refine PySem.P.add_list ho ho' ?_ ?_
      · have e : vs.toArray ++ vs'.toArray = (vs ++ vs').toArray := by simp
        rw [e]
        exact ⟨Rp.newList hl (hr.append hr'), kp_push _ _⟩
      · rw [sizeLine_big, List.size_toArray, List.size_toArray, hr.length, hr'.length]; omega
    · cases hd
  · cases hd
end
end Mine
end SWB
section SUA
open PySem PySem.W PyProof.Rows
set_option maxRecDepth 20000
namespace Mine
noncomputable def ltInts : List Int → List Int → Bool
  | [], [] => false
  | [], _ :: _ => true
  | _ :: _, [] => false
  | x :: xs, y :: ys => if x = y then ltInts xs ys else decide (x < y)
section
variable {prog : Program} {w : World} {A : Around} {E : Value → Shared → Prop} {s : Shared}
theorem lt_tuple_tree {x y : List Int} {a b : Addr} {vs us : List Value} {P : Fin → Shared → Prop} (ha : PTup s.heap a vs.toArray) (hb : PTup s.heap b us.toArray) (hx : IntsAre vs x) (hy : IntsAre us y)
    (h : P (.done (.ret (.bool (ltInts x y)))) s) : wpAny (model prog w) A (Builtin.«tuple.__lt__» ⟨[.ref a, .ref b], []⟩) P E s := by
  obtain ⟨na, hoa⟩ := ha
  obtain ⟨nb, hob⟩ := hb
  have hTb : s.TypeIs (.ref b) "tuple" := ⟨_, hob, rfl⟩
  show wpAny _ _ (isInstance (.ref b) (.type "tuple") >>= _) _ _ s
  refine wpAny_bind (wpAny_isInstance hTb isSubtype_tuple_tuple ?_)
  simp only [Bool.not_true, Bool.false_eq_true, if_false]
  refine wpAny_bind (wpAny_tupleItemsOf hoa rfl ?_)
  refine wpAny_bind (wpAny_tupleItemsOf hob rfl ?_)
  refine wpAny_bind ?_
  refine wpAny_forIn_list _
    (fun rest r s' => r.1 = none ∧ s' = s ∧ ∃ x' y' xs' ys', rest = List.zip xs' ys' ∧ IntsAre xs' x' ∧ IntsAre ys' y' ∧ ltInts x' y' = ltInts x y ∧ (decide (xs'.length < ys'.length)) = (decide (vs.length < us.length)))
    _ ?_ ?_ _ _ ⟨rfl, rfl, x, y, vs, us, rfl, hx, hy, rfl, rfl⟩
  · rintro ⟨u, v⟩ rest r s' ⟨hr, rfl, x', y', xs', ys', hz, hx', hy', hdec, hlen⟩
    cases hx' with
    | nil => simp at hz
    | @cons k1 t1 xs'' x'' hx'' =>
      cases hy' with
      | nil => simp at hz
      | @cons k2 t2 ys'' y'' hy'' =>
        simp only [List.zip_cons_cons, List.cons.injEq, Prod.mk.injEq] at hz
        obtain ⟨⟨rfl, rfl⟩, rfl⟩ := hz
        refine wpAny_bind (MeetsSeq.EqGives.int k1 k2 t1 t2 prog w A E s' _ ?_)
        by_cases hk : k1 = k2
        · subst hk
          simp only [beq_self_eq_true, Bool.not_true, Bool.false_eq_true, if_false]
          refine wpAny_pure ⟨rfl, rfl, x'', y'', xs'', ys'', rfl, hx'', hy'', ?_, by simpa using hlen⟩
          rw [← hdec]
          simp [ltInts]
        · have hb : (k1 == k2) = false := by simpa using hk
          simp only [hb, Bool.not_false, if_true]
          have hr2 : ltInts (k1 :: x'') (k2 :: y'') = decide (k1 < k2) := by simp [ltInts, hk]
          rw [hr2] at hdec
          refine wpAny_bind (wpAny_rule (wpAny_bind ?_))
          show wpAny _ _ (richCompare .Lt (.int k1 t1) (.int k2 t2)) _ _ _
          have hh : wpAny (model prog w) A (compareOp .Lt (.int k1 t1) (.int k2 t2)) (fun v s'' => v = .bool (decide (k1 < k2)) ∧ s'' = s') E s' := PyProof.Rows.lt_int ⟨rfl, rfl⟩
          refine wpAny_mono (show wpAny (model prog w) A (richCompare .Lt (.int k1 t1) (.int k2 t2)) _ E s' from hh) (fun v s'' q => ?_) fun _ _ e => e
          obtain ⟨rfl, rfl⟩ := q
          rw [hdec]
          exact wpAny_bind (wpAny_pure (wpAny_pure (wpAny_pure h)))
  · rintro ⟨r1, r2⟩ s' ⟨hr, rfl, x', y', xs', ys', hz, hx', hy', hdec, hlen⟩
    simp only at hr
    subst hr
    have e2 : ltInts x' y' = decide (vs.length < us.length) := by
      rw [← hlen]
      cases hx' with
      | nil =>
        cases hy' with
        | nil => rfl
        | cons => simp [ltInts]
      | cons =>
        cases hy' with
        | nil => simp [ltInts]
        | cons => simp at hz
    have e3 : Builtin.Tuple.tupleCompareSizes .Lt vs.toArray.size us.toArray.size = .bool (decide (vs.length < us.length)) := by
      simp [Builtin.Tuple.tupleCompareSizes]
    simp only [e3]
    rw [← e2, hdec]
    exact wpAny_pure h
theorem lt_tuples {x y : List Int} {a b : Addr} {vs us : List Value} {Q : Value → Shared → Prop} (hu : A.units < cLine) (ha : PTup s.heap a vs.toArray) (hb : PTup s.heap b us.toArray) (hx : IntsAre vs x) (hy : IntsAre us y)
    (h : Q (.bool (ltInts x y)) s) : wpAny (model prog w) A (compareOp .Lt (.ref a) (.ref b)) Q E s := by
  have hTa : s.TypeIs (.ref a) "tuple" := ha.isTuple.typeIs
  have hTb : s.TypeIs (.ref b) "tuple" := hb.isTuple.typeIs
  show wpAny (model prog w) A (richCompare .Lt (.ref a) (.ref b)) Q E s
  refine wpAny_richCompare_same_room hTa hTb F.slot_tuple_lt (wpAny_call_entry F.slot_tuple_lt hTa F.entry_tuple_lt (lt_tuple_tree ha hb hx hy ?_) (F.args_tuple_lt_2 _ _)) hu
  exact ⟨_, rfl, ⟨(fun e => nomatch e), h⟩⟩
end
end Mine
end SUA
section SVC
open PySem PySem.W PyProof.Rows
namespace Mine
theorem bnd {α β : Type} {x : Option α} {f : α → Option β} {b : β} (h : x.bind f = some b) : ∃ a, x = some a ∧ f a = some b := Option.bind_eq_some_iff.mp h
noncomputable def ltS (x y : Str) : Bool := decide (x.cps.toList < y.cps.toList)
noncomputable def intsD : List PyData → Option (List Int)
  | [] => some []
  | .int i :: r => (intsD r).map (i :: ·)
  | _ => none
theorem intsD_rps {X : AS} {h : Heap} : ∀ {ds : List PyData} {is : List Int} {vs : List Value}, intsD ds = some is → Rps X h ds vs → IntsAre vs is
  | [], is, vs, e, r => by
    simp only [intsD, Option.some.injEq] at e; subst e
    simp only [Rps] at r; subst r; exact .nil
  | d :: ds, is, vs, e, r => by
    simp only [Rps] at r
    obtain ⟨v, vr, rfl, h1, h2⟩ := r
    cases d <;> simp only [intsD, reduceCtorEq, Option.map_eq_some_iff] at e
    obtain ⟨js, e1, rfl⟩ := e
    simp only [Rp] at h1
    obtain ⟨t, rfl⟩ := h1
    exact .cons _ _ (intsD_rps e1 h2)
noncomputable def intOf : PyData → Option Int
  | .int i => some i
  | _ => none
theorem intOf_inv {d : PyData} {i : Int} (h : intOf d = some i) : d = .int i := by
  cases d <;> first
    | (cases h; rfl)
    | (cases h; done)
noncomputable def strOfD : PyData → Option Str
  | .str i => some i
  | _ => none
theorem strOfD_inv {d : PyData} {i : Str} (h : strOfD d = some i) : d = .str i := by
  cases d <;> first
    | (cases h; rfl)
    | (cases h; done)
noncomputable def tupD2 : PyData → Option (List PyData)
  | .tuple xs => some xs
  | _ => none
theorem tupD2_inv {d : PyData} {xs : List PyData} (h : tupD2 d = some xs) : d = .tuple xs := by
  cases d <;> first
    | (cases h; rfl)
    | (cases h; done)
noncomputable def asList : PyData → Option (List PyData)
  | .list i => some i
  | _ => none
theorem asList_inv {d : PyData} {xs : List PyData} (h : asList d = some xs) : d = .list xs := by
  cases d <;> first
    | (cases h; rfl)
    | (cases h; done)
noncomputable def isNone : PyData → Bool
  | .none => true
  | _ => false
theorem isNone_inv {d : PyData} (h : isNone d = true) : d = .none := by
  cases d <;> first
    | rfl
    | (cases h; done)
noncomputable def ltCD (a b : PyData) : Option Bool := match intOf a with
  | some i => (intOf b).bind fun j => some (decide (i < j))
  | none => (match strOfD a with
    | some x => (strOfD b).bind fun y => some (ltS x y)
    | none => (tupD2 a).bind fun xs => (tupD2 b).bind fun ys => (intsD xs).bind fun is => (intsD ys).bind fun js => some (ltInts is js))
noncomputable def gtCD (a b : PyData) : Option Bool := match intOf a with
  | some i => (intOf b).bind fun j => some (decide (j < i))
  | none => (strOfD a).bind fun x => (strOfD b).bind fun y => some (ltS y x)
noncomputable def isCD (a b : PyData) : Option Bool := if isNone b = true then (if isNone a = true then some false else if (intOf a).isSome = true then some true else if (strOfD a).isSome = true then some true else none) else none
noncomputable def cmpD (op : CmpOp) (a b : PyData) : Option Bool := match op with
  | .Eq => if a.canLay0 && b.canLay0 && decide (a.depth ≤ 8) then some (PyData.eqv a b) else none
  | .NotEq => if a.canLay0 && b.canLay0 && decide (a.depth ≤ 8) then some (!PyData.eqv a b) else none
  | .Lt => ltCD a b
  | .LtE => (intOf a).bind fun i => (intOf b).bind fun j => some (decide (i ≤ j))
  | .Gt => gtCD a b
  | .In => (intOf a).bind fun k => (asList b).bind fun xs => (intsD xs).bind fun is => some (is.any (· == k))
  | .IsNot => isCD a b
  | .GtE => none
  | .Is => none
  | .NotIn => none
noncomputable def idxD : PyData → PyData → Option PyData
  | .list xs, .int i => if -(2 ^ 62) ≤ i ∧ i < 2 ^ 62 then (seqIndex? i xs.length).bind (xs[·]?) else none
  | .tuple xs, .int i => if -(2 ^ 62) ≤ i ∧ i < 2 ^ 62 then (seqIndex? i xs.length).bind (xs[·]?) else none
  | .str x, .int i => if -(2 ^ 62) ≤ i ∧ i < 2 ^ 62 then ((seqIndex? i x.length).bind (x.cps[·]?)).map fun c => .str ⟨#[c]⟩ else none
  | _, _ => none
noncomputable def sliceL {α : Type} (xs : List α) (lo hi st : Option Int) : List α :=
  (sliceRange (sliceBounds lo hi st xs.length).1 (sliceBounds lo hi st xs.length).2.1 (sliceBounds lo hi st xs.length).2.2).filterMap (xs[·]?)
section
variable {prog : Program} {w : World} {A : Around} {E : Value → Shared → Prop} {s : Shared} {X : AS}
theorem cmp_ok {k : Nat} (hA : AOk k A) {op : CmpOp} {d1 d2 : PyData} {b : Bool} {v1 v2 : Value} (hd : cmpD op d1 d2 = some b) (r1 : Rp X s.heap d1 v1) (r2 : Rp X s.heap d2 v2) :
    wpAny (model prog w) A (compareOp op v1 v2) (fun v s' => v = .bool b ∧ s' = s) E s := by
  have hu : A.units ≤ 4000 := by have := hA.u; omega
  have hc : cLine = 9900 := rfl
  cases op with
  | GtE => cases hd
  | Is => cases hd
  | NotIn => cases hd
  | Eq =>
    replace hd : (if (d1.canLay0 && d2.canLay0 && decide (d1.depth ≤ 8)) = true then some (PyData.eqv d1 d2) else none) = some b := hd
    split at hd
    · rename_i h
      simp only [Bool.and_eq_true, decide_eq_true_eq] at h
      cases hd
      obtain ⟨as, q1⟩ := r1.reads
      obtain ⟨bs, q2⟩ := r2.reads
      exact PySem.SeqAt.compareEq_reads q1 q2 h.1.1 h.1.2 (by omega) ⟨rfl, rfl⟩
    · cases hd
  | NotEq =>
    replace hd : (if (d1.canLay0 && d2.canLay0 && decide (d1.depth ≤ 8)) = true then some (!PyData.eqv d1 d2) else none) = some b := hd
    split at hd
    · rename_i h
      simp only [Bool.and_eq_true, decide_eq_true_eq] at h
      cases hd
      obtain ⟨as, q1⟩ := r1.reads
      obtain ⟨bs, q2⟩ := r2.reads
      exact PySem.SeqAt.compareNe_reads q1 q2 h.1.1 h.1.2 (by omega) ⟨rfl, rfl⟩
    · cases hd
  | Lt =>
    replace hd : ltCD d1 d2 = some b := hd
    unfold ltCD at hd
    split at hd
    · rename_i i e1
      obtain ⟨j, e2, e3⟩ := bnd hd
      cases e3
      rw [intOf_inv e1, Rp] at r1; rw [intOf_inv e2, Rp] at r2; obtain ⟨t, rfl⟩ := r1; obtain ⟨u, rfl⟩ := r2
      exact PyProof.Rows.lt_int ⟨rfl, rfl⟩
    · split at hd
      · rename_i x e1
        obtain ⟨y, e2, e3⟩ := bnd hd
        cases e3
        rw [strOfD_inv e1, Rp] at r1; rw [strOfD_inv e2, Rp] at r2; obtain ⟨t, rfl⟩ := r1; obtain ⟨u, rfl⟩ := r2
        exact PyProof.Rows.lt_str ⟨rfl, rfl⟩
      · obtain ⟨xs, e1, hd⟩ := bnd hd
        obtain ⟨ys, e2, hd⟩ := bnd hd
        obtain ⟨is, e3, hd⟩ := bnd hd
        obtain ⟨js, e4, e5⟩ := bnd hd
        cases e5
        rw [tupD2_inv e1, Rp] at r1; rw [tupD2_inv e2, Rp] at r2
        obtain ⟨a, vs, rfl, _, hl, hr⟩ := r1
        obtain ⟨a', vs', rfl, _, hl', hr'⟩ := r2
        exact lt_tuples (by omega) hl hl' (intsD_rps e3 hr) (intsD_rps e4 hr') ⟨rfl, rfl⟩
  | LtE =>
    replace hd : ((intOf d1).bind fun i => (intOf d2).bind fun j => some (decide (i ≤ j))) = some b := hd
    obtain ⟨i, e1, hd⟩ := bnd hd
    obtain ⟨j, e2, e3⟩ := bnd hd
    cases e3
    rw [intOf_inv e1, Rp] at r1; rw [intOf_inv e2, Rp] at r2; obtain ⟨t, rfl⟩ := r1; obtain ⟨u, rfl⟩ := r2
    exact PyProof.Rows.le_int ⟨rfl, rfl⟩
  | Gt =>
    replace hd : gtCD d1 d2 = some b := hd
    unfold gtCD at hd
    split at hd
    · rename_i i e1
      obtain ⟨j, e2, e3⟩ := bnd hd
      cases e3
      rw [intOf_inv e1, Rp] at r1; rw [intOf_inv e2, Rp] at r2; obtain ⟨t, rfl⟩ := r1; obtain ⟨u, rfl⟩ := r2
      exact PyProof.Rows.gt_int ⟨rfl, rfl⟩
    · obtain ⟨x, e1, hd⟩ := bnd hd
      obtain ⟨y, e2, e3⟩ := bnd hd
      cases e3
      rw [strOfD_inv e1, Rp] at r1; rw [strOfD_inv e2, Rp] at r2; obtain ⟨t, rfl⟩ := r1; obtain ⟨u, rfl⟩ := r2
      exact PySem.P.gt_str ⟨rfl, rfl⟩
  | In =>
    replace hd : ((intOf d1).bind fun k => (asList d2).bind fun xs => (intsD xs).bind fun is => some (is.any (· == k))) = some b := hd
    obtain ⟨k', e1, hd⟩ := bnd hd
    obtain ⟨xs, e2, hd⟩ := bnd hd
    obtain ⟨is, e3, e4⟩ := bnd hd
    cases e4
    rw [intOf_inv e1, Rp] at r1; rw [asList_inv e2, Rp] at r2; obtain ⟨t, rfl⟩ := r1
    obtain ⟨a, vs, rfl, _, hl, hr⟩ := r2
    exact PyProof.Rows.in_list_ints hl.isList (intsD_rps e3 hr) ⟨rfl, rfl⟩
  | IsNot =>
    replace hd : isCD d1 d2 = some b := hd
    unfold isCD at hd
    split at hd
    · rename_i e2
      rw [isNone_inv e2, Rp] at r2
      subst r2
      split at hd
      · rename_i e1
        rw [isNone_inv e1, Rp] at r1
        subst r1
        cases hd; exact PySem.isNot_none ⟨rfl, rfl⟩
      · split at hd
        · rename_i e1
          obtain ⟨i, e1⟩ := Option.isSome_iff_exists.mp e1
          rw [intOf_inv e1, Rp] at r1; obtain ⟨t, rfl⟩ := r1
          cases hd; exact PySem.isNot_none ⟨rfl, rfl⟩
        · split at hd
          · rename_i e1
            obtain ⟨i, e1⟩ := Option.isSome_iff_exists.mp e1
            rw [strOfD_inv e1, Rp] at r1; obtain ⟨t, rfl⟩ := r1
            cases hd; exact PySem.isNot_none ⟨rfl, rfl⟩
          · cases hd
    · cases hd
theorem neg_ok {i : Int} {v : Value} (r : Rp X s.heap (.int i) v) : wpAny (model prog w) A (unaryOp .USub v) (Gv X s (.int (-i))) E s := by
  simp only [Rp] at r; obtain ⟨t, rfl⟩ := r
  exact PyProof.Rows.neg_int gv_int
theorem subs_ops (slice : Expr) (o i : Value) : ∃ ops, subscripted slice false o i = operate ops (getItem o i) := by
  unfold subscripted
  split
  · exact ⟨_, rfl⟩
  · cases ‹false = true›
  · exact ⟨_, rfl⟩
theorem getItem_ok {d i r : PyData} {v iv : Value} (hd : idxD d i = some r) (r1 : Rp X s.heap d v) (r2 : Rp X s.heap i iv) :
    wpAny (model prog w) A (getItem v iv) (Gv X s r) E s := by
  unfold idxD at hd
  split at hd
  · rename_i xs i
    split at hd
    · rename_i hi
      simp only [Rp] at r1 r2
      obtain ⟨a, vs, rfl, _, hl, hr⟩ := r1
      obtain ⟨t, rfl⟩ := r2
      obtain ⟨j, hj, hx⟩ := Option.bind_eq_some_iff.mp hd
      obtain ⟨y, hy, hry⟩ := hr.get hx
      have hlen := hr.length
      unfold seqIndex? at hj
      by_cases h0 : i < 0
      · rw [if_pos h0] at hj
        dsimp only at hj
        split at hj
        · rename_i hb
          simp only [Bool.and_eq_true, decide_eq_true_eq] at hb
          cases hj
          exact wpAny_getItem_list_neg hl.isList h0 (by simp only [List.size_toArray]; omega) (by omega) (by simp only [List.size_toArray, hlen]; simpa using hy) ⟨hry, kp_refl _⟩
        · cases hj
      · rw [if_neg h0] at hj
        dsimp only at hj
        split at hj
        · rename_i hb
          simp only [Bool.and_eq_true, decide_eq_true_eq] at hb
          cases hj
          exact wpAny_getItem_list hl.isList (by omega) (by omega) (by simpa using hy) ⟨hry, kp_refl _⟩
        · cases hj
    · cases hd
  · rename_i xs i
    split at hd
    · rename_i hi
      simp only [Rp] at r1 r2
      obtain ⟨a, vs, rfl, _, ⟨n, hl⟩, hr⟩ := r1
      obtain ⟨t, rfl⟩ := r2
      obtain ⟨j, hj, hx⟩ := Option.bind_eq_some_iff.mp hd
      obtain ⟨y, hy, hry⟩ := hr.get hx
      refine PySem.P.getItem_tuple hl (by omega) (by omega) (k := j) ?_ (by simpa using hy) ⟨hry, kp_refl _⟩
      simpa [hr.length] using hj
    · cases hd
  · rename_i x i
    split at hd
    · rename_i hi
      simp only [Rp] at r1 r2
      obtain ⟨u, rfl⟩ := r1
      obtain ⟨t, rfl⟩ := r2
      obtain ⟨c, hc, rfl⟩ := Option.map_eq_some_iff.mp hd
      exact PySem.P.getItem_str (by simp only [Bool.or_eq_false_iff, decide_eq_false_iff_not]; omega) hc ⟨rp_str, kp_tok _ _⟩
    · cases hd
  · cases hd
theorem Rps.slice {h : Heap} {ds : List PyData} {vs : List Value} (r : Rps X h ds vs) (lo hi st : Option Int) : Rps X h (sliceL ds lo hi st) (slicePick vs.toArray lo hi st).toList := by
  have e : (slicePick vs.toArray lo hi st).toList = sliceL vs lo hi st := by
    unfold slicePick sliceL
    simp
  rw [e]
  unfold sliceL
  rw [r.length]
  generalize sliceRange _ _ _ = idx
  induction idx with
  | nil => simp [Rps]
  | cons i rest ih =>
    rw [List.filterMap_cons, List.filterMap_cons]
    cases hd : ds[i]? with
    | none =>
      have : vs[i]? = none := by
        rw [List.getElem?_eq_none_iff] at hd ⊢
        rw [r.length]; exact hd
      rw [this]; exact ih
    | some d =>
      obtain ⟨v, hv, hr⟩ := r.get hd
      rw [hv]
      simp only [Rps]
      exact ⟨v, _, rfl, hr, ih⟩
noncomputable def PartIs (h : Heap) (v : Value) : Option Int → Prop
  | none => v = .none
  | some i => ∃ t, v = .int i t
theorem PartIs.part {h : Heap} {v : Value} : ∀ {p : Option Int}, PartIs h v p → IsPart v p
  | none, e => by cases e; exact .none
  | some i, ⟨t, e⟩ => by cases e; exact .int i t
theorem slice_ok {ds : List PyData} {l sl : Addr} {vs : List Value} {vl vu vst : Value} {lo hi st : Option Int} (hlv : Live X s.heap) (hl : s.heap.PlainList l vs.toArray) (hr : Rps X s.heap ds vs) (hz : ds.length ≤ 1000000)
    (hs : s.heap.IsSliceOf sl vl vu vst) (pl : IsPart vl lo) (pu : IsPart vu hi) (ps : IsPart vst st) (h0 : st ≠ some 0) :
    wpAny (model prog w) A (getItem (.ref l) (.ref sl)) (Gv X s (.list (sliceL ds lo hi st))) E s := by
  refine wpAny_getItem_list_slice hl.isList hs pl pu ps h0 ?_ (by rw [sizeLine_big, List.size_toArray, hr.length]; omega)
  have := Rp.newList hlv (hr.slice lo hi st)
  exact ⟨by simpa using this, kp_push _ _⟩
end
end Mine
end SVC
section SVD
open PySem PySem.W PyProof.Rows
namespace Mine
inductive V where
  | dat (d : PyData)
  | inst (k : PyData)
  | raw (v : Value)
noncomputable abbrev Ro := Str → Option V
noncomputable abbrev Fn := Str → List PyData → Option PyData
noncomputable def put (ρ : Ro) (x : Str) (v : V) : Ro := fun y => if y = x then some v else ρ y
noncomputable def cap (sc : Scope) (ρ : Ro) : Ro := fun y => if sc.names.lookup y = some .free then ρ y else none
noncomputable def constD : Const → Option PyData
  | .int i => some (.int i)
  | .str x => some (.str x)
  | .none => some .none
  | .bool b => some (.bool b)
  | _ => none
noncomputable def rangeD (lo hi : Int) : List PyData := (List.range (hi - lo).toNat).map fun (i : Nat) => .int (lo + i)
noncomputable def itemsD : PyData → Option (List PyData)
  | .list xs => if xs.length ≤ 1000000 then some xs else none
  | .str x => if x.length ≤ 1000000 then some (x.cps.toList.map fun c => .str ⟨#[c]⟩) else none
  | _ => none
noncomputable def strsD : List PyData → Option (List Str)
  | [] => some []
  | .str x :: r => (strsD r).map (x :: ·)
  | _ => none
noncomputable def asInt : PyData → Option Int
  | .int i => some i
  | _ => none
noncomputable def asBool : PyData → Option Bool
  | .bool i => some i
  | _ => none
noncomputable abbrev sRange : Str := Str.ofString "range"
noncomputable abbrev sList : Str := Str.ofString "list"
noncomputable abbrev sJoin : Str := Str.ofString "join"
noncomputable abbrev sLower : Str := Str.ofString "lower"
noncomputable abbrev sCompare : Str := Str.ofString "compare"
noncomputable abbrev sTC : Str := Str.ofString "TupleComp.compare"
noncomputable abbrev sIn : Str := Str.ofString "in b1_set"
noncomputable abbrev sGetB3 : Str := Str.ofString "b3_exceptions.get"
noncomputable abbrev sB1 : Str := Str.ofString "b1_set"
noncomputable abbrev sB3 : Str := Str.ofString "b3_exceptions"
noncomputable abbrev sGet : Str := Str.ofString "get"
noncomputable abbrev sCSL : Str := Str.ofString "comp_select_list"
noncomputable def glob (sc : Scope) (f : Str) : Bool := decide (sc.names.lookup f = some .globalImplicit)
noncomputable def nameOf : Expr → Option Str
  | .Name x _ => some x
  | _ => none
theorem nameOf_inv {e : Expr} {x : Str} (h : nameOf e = some x) : ∃ p, e = .Name x p := by
  cases e <;> first
    | (cases h; exact ⟨_, rfl⟩)
    | (cases h; done)
noncomputable def tupOf : Expr → Option (List Expr)
  | .Tuple es _ _ => some es
  | _ => none
theorem tupOf_inv {e : Expr} {es : List Expr} (h : tupOf e = some es) : ∃ k p, e = .Tuple es k p := by
  cases e <;> first
    | (cases h; exact ⟨_, _, rfl⟩)
    | (cases h; done)
noncomputable def two {α : Type} : List α → Option (α × α)
  | [a, b] => some (a, b)
  | _ => none
theorem two_inv {α : Type} {l : List α} {q : α × α} (h : two l = some q) : l = [q.1, q.2] := by
  rcases l with _ | ⟨a, _ | ⟨b, _ | ⟨c, l⟩⟩⟩ <;> first
    | (cases h; rfl)
    | (cases h; done)
noncomputable def three {α : Type} : List α → Option (α × α × α)
  | [a, b, c] => some (a, b, c)
  | _ => none
theorem three_inv {α : Type} {l : List α} {q : α × α × α} (h : three l = some q) : l = [q.1, q.2.1, q.2.2] := by
  rcases l with _ | ⟨a, _ | ⟨b, _ | ⟨c, _ | ⟨d, l⟩⟩⟩⟩ <;> first
    | (cases h; rfl)
    | (cases h; done)
noncomputable def callOf : Expr → Option (Str × List Expr)
  | .Call f es kws _ => (match kws with
    | [] => (nameOf f).map fun x => (x, es)
    | _ :: _ => none)
  | _ => none
theorem callOf_inv {e : Expr} {q : Str × List Expr} (h : callOf e = some q) : ∃ p' p, e = .Call (.Name q.1 p') q.2 [] p := by
  cases e <;> first
    | (cases h; done)
    | skip
  rename_i f es kws p
  cases kws with
  | nil =>
    obtain ⟨x, hx, rfl⟩ := Option.map_eq_some_iff.mp (show (nameOf f).map (fun x => (x, es)) = some q from h)
    obtain ⟨p', rfl⟩ := nameOf_inv hx
    exact ⟨p', p, rfl⟩
  | cons _ _ => cases h
noncomputable def rangeArgs (sc : Scope) (e : Expr) : Option (List Expr) := (callOf e).bind fun q => if q.1 = sRange ∧ glob sc q.1 = true then some q.2 else none
theorem rangeArgs_inv {sc : Scope} {e : Expr} {es : List Expr} (h : rangeArgs sc e = some es) : ∃ p' p, e = .Call (.Name sRange p') es [] p ∧ glob sc sRange = true := by
  obtain ⟨q, h1, h2⟩ := Option.bind_eq_some_iff.mp h
  obtain ⟨p', p, rfl⟩ := callOf_inv h1
  split at h2
  · rename_i hq
    cases h2
    exact ⟨p', p, by rw [← hq.1], hq.1 ▸ hq.2⟩
  · cases h2
noncomputable def plainB (x : Str) : Bool := !(x == ("__debug__" : Str)) && !(x == ("__classdict__" : Str))
noncomputable def stFit (sc : Scope) (x : Str) : Bool := (decide (sc.names.lookup x = some .local) || decide (sc.names.lookup x = some .cell)) && plainB x
noncomputable def bindTwo (sc : Scope) (ρ : Ro) (tg : Expr) (d : PyData) : Option Ro :=
  (tupOf tg).bind fun es => (two es).bind fun e => (nameOf e.1).bind fun x => (nameOf e.2).bind fun y => (tupD2 d).bind fun ds => (two ds).bind fun q => if stFit sc x = true ∧ stFit sc y = true then some (put (put ρ x (.dat q.1)) y (.dat q.2)) else none
noncomputable def bindT (sc : Scope) (ρ : Ro) (tg : Expr) (d : PyData) : Option Ro := match nameOf tg with
  | some x => if stFit sc x = true then some (put ρ x (.dat d)) else none
  | none => bindTwo sc ρ tg d
theorem bindT_inv {sc : Scope} {ρ ρ' : Ro} {tg : Expr} {d : PyData} (h : bindT sc ρ tg d = some ρ') : (∃ x p, tg = .Name x p ∧ stFit sc x = true ∧ ρ' = put ρ x (.dat d)) ∨
    ∃ x px y py k p a b, tg = .Tuple [.Name x px, .Name y py] k p ∧ d = .tuple [a, b] ∧ (stFit sc x = true ∧ stFit sc y = true) ∧ ρ' = put (put ρ x (.dat a)) y (.dat b) := by
  unfold bindT at h
  split at h
  · rename_i x hx
    obtain ⟨p, rfl⟩ := nameOf_inv hx
    split at h
    · rename_i hf; cases h; exact .inl ⟨x, p, rfl, hf, rfl⟩
    · cases h
  · unfold bindTwo at h
    obtain ⟨es, h1, h⟩ := bnd h
    obtain ⟨e, h2, h⟩ := bnd h
    obtain ⟨x, h3, h⟩ := bnd h
    obtain ⟨y, h4, h⟩ := bnd h
    obtain ⟨ds, h5, h⟩ := bnd h
    obtain ⟨q, h6, h7⟩ := bnd h
    clear h
    split at h7
    · rename_i hf
      cases h7
      obtain ⟨px, ex⟩ := nameOf_inv h3
      obtain ⟨py, ey⟩ := nameOf_inv h4
      obtain ⟨k, p, rfl⟩ := tupOf_inv h1
      exact .inr ⟨x, px, y, py, k, p, q.1, q.2, by rw [two_inv h2, ex, ey], by rw [tupD2_inv h5, two_inv h6], hf, rfl⟩
    · cases h7
noncomputable def compFit (sc isc : Scope) : Bool :=
  decide (isc.kind = .function) && isc.names.all fun y =>
    (decide (y.2 ≠ .local) || decide (isc.names.lookup y.1 = some .local)) && (decide (y.2 ≠ .cell) || decide (isc.names.lookup y.1 = some .cell)) && (decide (y.2 ≠ .free) || (decide (isc.names.lookup y.1 = some .free) && (decide (sc.names.lookup y.1 = some .cell) || decide (sc.names.lookup y.1 = some .free)))) && plainB y.1
noncomputable def catL (f : PyData → Option (List PyData)) : List PyData → Option (List PyData)
  | [] => some []
  | x :: xs => do
    let y ← f x
    let ys ← catL f xs
    some (y ++ ys)
noncomputable def freshT (ρ : Ro) : Expr → Bool
  | .Name x _ => (ρ x).isNone
  | .Tuple [.Name x _, .Name y _] _ _ => (ρ x).isNone && (ρ y).isNone && decide (x ≠ y)
  | _ => false
noncomputable def bindN (sc : Scope) (ρ : Ro) (tg : Expr) (d : PyData) : Option Ro := if freshT ρ tg = true then bindT sc ρ tg d else none
noncomputable def syncG (gens : List Comprehension) : Bool := gens.all fun g => g.is_async == 0
inductive EC where
  | const (c : Const)
  | name (x : Str)
  | bin (l : Expr) (op : Operator) (r : Expr)
  | neg (x : Expr)
  | attr (o m : Str)
  | inB (l : Expr) (g : Str)
  | cmp (l : Expr) (op : CmpOp) (r : Expr)
  | ifx (t b o : Expr)
  | list (es : List Expr)
  | tup (es : List Expr)
  | slice (v : Expr) (lo hi st : Option Expr)
  | sub (v i : Expr)
  | call (f : Str) (args : List Expr)
  | join (x m : Str) (e : Expr) (ln : Bool)
  | meth (o m : Str) (args : List Expr) (ln : Bool)
  | comp (elt : Expr) (gens : List Comprehension) (isc : Scope)
  | other
noncomputable def clsCmp (l : Expr) (op : CmpOp) (r : Expr) : EC := match op with
  | .In => (match nameOf r with
    | some g => .inB l g
    | none => .cmp l .In r)
  | .Eq => .cmp l .Eq r
  | .NotEq => .cmp l .NotEq r
  | .Lt => .cmp l .Lt r
  | .LtE => .cmp l .LtE r
  | .Gt => .cmp l .Gt r
  | .GtE => .cmp l .GtE r
  | .Is => .cmp l .Is r
  | .IsNot => .cmp l .IsNot r
  | .NotIn => .cmp l .NotIn r
noncomputable def clsSub (v i : Expr) : EC := match i with
  | .Slice lo hi st _ => .slice v lo hi st
  | i => .sub v i
noncomputable def strOf : Expr → Option Str
  | .Constant (.str x) _ _ => some x
  | _ => none
theorem strOf_inv {e : Expr} {x : Str} (h : strOf e = some x) : ∃ k p, e = .Constant (.str x) k p := by
  cases e <;> first
    | (cases h; done)
    | skip
  rename_i c k p
  cases c <;> first
    | (cases h; exact ⟨_, _, rfl⟩)
    | (cases h; done)
noncomputable def attrOf : Expr → Option (Expr × Str × Pos)
  | .Attribute b m p => some (b, m, p)
  | _ => none
theorem attrOf_inv {e : Expr} {q : Expr × Str × Pos} (h : attrOf e = some q) : e = .Attribute q.1 q.2.1 q.2.2 := by
  cases e <;> first
    | (cases h; rfl)
    | (cases h; done)
noncomputable def one {α : Type} : List α → Option α
  | [a] => some a
  | _ => none
theorem one_inv {α : Type} {l : List α} {a : α} (h : one l = some a) : l = [a] := by
  rcases l with _ | ⟨b, _ | ⟨c, l⟩⟩ <;> first
    | (cases h; rfl)
    | (cases h; done)
noncomputable def clsMeth (q : Expr × Str × Pos) (args : List Expr) (p : Pos) : EC := match strOf q.1 with
  | some x => (match one args with
    | some e => .join x q.2.1 e (q.2.2.endLine == p.line)
    | none => .other)
  | none => (match nameOf q.1 with
    | some o => .meth o q.2.1 args (q.2.2.endLine == p.line)
    | none => .other)
noncomputable def clsCall (f : Expr) (args : List Expr) (p : Pos) : EC := match nameOf f with
  | some x => .call x args
  | none => (match attrOf f with
    | some q => clsMeth q args p
    | none => .other)
noncomputable def clsE : Expr → EC
  | .Constant c _ _ => .const c
  | .Name x _ => .name x
  | .BinOp l op r _ => .bin l op r
  | .UnaryOp op x _ => (match op with
    | .USub => .neg x
    | .Not => .other
    | .Invert => .other
    | .UAdd => .other)
  | .Attribute o m _ => (match nameOf o with
    | some o => .attr o m
    | none => .other)
  | .Compare l ops rs _ => (match one ops, one rs with
    | some op, some r => clsCmp l op r
    | _, _ => .other)
  | .IfExp t b o _ => .ifx t b o
  | .List es _ => .list es
  | .Tuple es _ _ => .tup es
  | .Subscript v i _ => clsSub v i
  | .Call f args kws p => (match kws with
    | [] => clsCall f args p
    | _ :: _ => .other)
  | .ListComp elt gens isc _ => .comp elt gens isc
  | _ => .other
noncomputable def EC.Of : EC → Expr → Prop
  | .const c, e => ∃ k p, e = .Constant c k p
  | .name x, e => ∃ p, e = .Name x p
  | .bin l op r, e => ∃ p, e = .BinOp l op r p
  | .neg x, e => ∃ p, e = .UnaryOp .USub x p
  | .attr o m, e => ∃ q p, e = .Attribute (.Name o q) m p
  | .inB l g, e => ∃ q p, e = .Compare l [.In] [.Name g q] p
  | .cmp l op r, e => ∃ p, e = .Compare l [op] [r] p
  | .ifx t b o, e => ∃ p, e = .IfExp t b o p
  | .list es, e => ∃ p, e = .List es p
  | .tup es, e => ∃ k p, e = .Tuple es k p
  | .slice v lo hi st, e => ∃ q p, e = .Subscript v (.Slice lo hi st q) p
  | .sub v i, e => ∃ p, e = .Subscript v i p
  | .call f args, e => ∃ q p, e = .Call (.Name f q) args [] p
  | .join x m e' ln, e => ∃ k q ap p, e = .Call (.Attribute (.Constant (.str x) k q) m ap) [e'] [] p ∧ ln = (ap.endLine == p.line)
  | .meth o m args ln, e => ∃ q ap p, e = .Call (.Attribute (.Name o q) m ap) args [] p ∧ ln = (ap.endLine == p.line)
  | .comp elt gens isc, e => ∃ p, e = .ListComp elt gens isc p
  | .other, _ => True
theorem clsCmp_of (l : Expr) (op : CmpOp) (r : Expr) (p : Pos) : (clsCmp l op r).Of (.Compare l [op] [r] p) := by
  cases op <;> first
    | exact ⟨p, rfl⟩
    | skip
  show EC.Of (match nameOf r with | some g => .inB l g | none => .cmp l .In r) _
  cases h : nameOf r with
  | none => exact ⟨p, rfl⟩
  | some g =>
    obtain ⟨q, rfl⟩ := nameOf_inv h
    exact ⟨q, p, rfl⟩
theorem clsSub_of (v i : Expr) (p : Pos) : (clsSub v i).Of (.Subscript v i p) := by
  cases i <;> first
    | exact ⟨p, rfl⟩
    | exact ⟨_, p, rfl⟩
theorem clsCall_of (f : Expr) (args : List Expr) (p : Pos) : (clsCall f args p).Of (.Call f args [] p) := by
  unfold clsCall
  cases h : nameOf f with
  | some x => obtain ⟨q, rfl⟩ := nameOf_inv h; exact ⟨q, p, rfl⟩
  | none =>
    cases h2 : attrOf f with
    | none => trivial
    | some q =>
      obtain ⟨b, m, ap⟩ := q
      have e := attrOf_inv h2
      subst e
      show EC.Of (clsMeth (b, m, ap) args p) _
      unfold clsMeth
      cases h3 : strOf b with
      | some x =>
        obtain ⟨k, q, rfl⟩ := strOf_inv h3
        cases h4 : one args with
        | none => trivial
        | some e => rw [one_inv h4]; exact ⟨k, q, ap, p, rfl, rfl⟩
      | none =>
        cases h4 : nameOf b with
        | none => trivial
        | some o => obtain ⟨q, rfl⟩ := nameOf_inv h4; exact ⟨q, ap, p, rfl, rfl⟩
theorem cls_of (e : Expr) : (clsE e).Of e := by
  cases e <;> first
    | trivial
    | exact ⟨_, rfl⟩
    | exact ⟨_, _, rfl⟩
    | exact clsSub_of _ _ _
    | skip
  · rename_i op x p
    cases op <;> first
      | exact ⟨p, rfl⟩
      | trivial
  · rename_i l ops rs p
    show EC.Of (match one ops, one rs with | some op, some r => clsCmp l op r | _, _ => .other) _
    cases h1 : one ops with
    | none => trivial
    | some op =>
      cases h2 : one rs with
      | none => trivial
      | some r => rw [one_inv h1, one_inv h2]; exact clsCmp_of l op r p
  · rename_i f args kws p
    cases kws with
    | nil => exact clsCall_of f args p
    | cons _ _ => trivial
  · rename_i o m p
    show EC.Of (match nameOf o with | some o => .attr o m | none => .other) _
    cases h : nameOf o with
    | none => trivial
    | some x => obtain ⟨q, rfl⟩ := nameOf_inv h; exact ⟨q, p, rfl⟩
noncomputable def evC (F : Fn) (ev1 : Scope → Expr → Ro → Option PyData) (evs1 : Scope → List Expr → Ro → Option (List PyData)) (evp1 : Scope → Option Expr → Ro → Option (Option Int)) (tst1 : Scope → Expr → Ro → Option Bool) (gen1 : Scope → Expr → List Comprehension → Ro → List PyData → Option (List PyData)) (its1 : Scope → Expr → Ro → Option (List PyData)) (sc : Scope) (ρ : Ro) : EC → Option PyData
  | .const c => constD c
  | .name x => (match ρ x with
    | some (.dat d) => some d
    | _ => none)
  | .bin l op r => do
    let a ← ev1 sc l ρ
    let b ← ev1 sc r ρ
    binD op a b
  | .neg x => do
    let a ← ev1 sc x ρ
    let i ← asInt a
    some (.int (-i))
  | .attr o m =>
    if m = sCSL then
      match ρ o with
      | some (.inst k) => some k
      | _ => none
    else none
  | .inB l g =>
    if g = sB1 ∧ glob sc g = true then do
      let a ← ev1 sc l ρ
      F sIn [a]
    else none
  | .cmp l op r =>
    if behindInMarks op r = true then none else do
    let a ← ev1 sc l ρ
    let b ← ev1 sc r ρ
    let c ← cmpD op a b
    some (.bool c)
  | .ifx t b o => do
    let c ← tst1 sc t ρ
    if c then ev1 sc b ρ else ev1 sc o ρ
  | .list es => do
    let xs ← evs1 sc es ρ
    if xs.length ≤ 1000000 then some (.list xs) else none
  | .tup es => do
    let xs ← evs1 sc es ρ
    if xs.length ≤ 1000000 then some (.tuple xs) else none
  | .slice v lo hi st => do
    let a ← ev1 sc v ρ
    let xs ← asList a
    let l ← evp1 sc lo ρ
    let u ← evp1 sc hi ρ
    let t ← evp1 sc st ρ
    if xs.length ≤ 1000000 ∧ t ≠ some 0 then some (.list (sliceL xs l u t)) else none
  | .sub v i => do
    let a ← ev1 sc v ρ
    let b ← ev1 sc i ρ
    idxD a b
  | .call f args =>
    if glob sc f = true then
      if f = sTC ∨ f = sLower ∨ f = sIn ∨ f = sGetB3 ∨ f = sList then none
      else do
        let xs ← evs1 sc args ρ
        F f xs
    else none
  | .join x m e ln =>
    if m = sJoin ∧ ln = true then do
      let a ← ev1 sc e ρ
      let xs ← asList a
      let ys ← strsD xs
      if JoinOk x ys = true then some (.str (Txt.join x ys)) else none
    else none
  | .meth o m args ln =>
    if ln = true then
      match ρ o with
      | some (.inst k) => if m = sCompare ∧ args.length = 2 then do
          let xs ← evs1 sc args ρ
          F sTC (k :: xs)
        else none
      | some (.dat d) => if m = sLower ∧ args = [] then F sLower [d] else none
      | some (.raw _) => none
      | none => if m = sGet ∧ o = sB3 ∧ glob sc o = true ∧ args.length = 1 then do
          let xs ← evs1 sc args ρ
          F sGetB3 xs
        else none
    else none
  | .comp elt gens isc => (match gens with
    | [] => none
    | g :: gs => if compFit sc isc = true ∧ syncG (g :: gs) = true then do
      let xs ← its1 sc g.iter ρ
      let ys ← gen1 isc elt (g :: gs) (cap isc ρ) xs
      if ys.length ≤ 1000000 then some (.list ys) else none
    else none)
  | .other => none
inductive TC where
  | no (x : Expr)
  | and (x y : Expr)
  | cmp (l : Expr) (op : CmpOp) (r : Expr)
  | call
  | other
noncomputable def clsT : Expr → TC
  | .UnaryOp op x _ => (match op with
    | .Not => .no x
    | .USub => .other
    | .Invert => .other
    | .UAdd => .other)
  | .BoolOp op es _ => (match op with
    | .And => (match two es with
      | some q => .and q.1 q.2
      | none => .other)
    | .Or => .other)
  | .Compare l ops rs _ => (match one ops, one rs with
    | some op, some r => .cmp l op r
    | _, _ => .other)
  | .Call _ _ _ _ => .call
  | _ => .other
noncomputable def TC.Of : TC → Expr → Prop
  | .no x, e => ∃ p, e = .UnaryOp .Not x p
  | .and x y, e => ∃ p, e = .BoolOp .And [x, y] p
  | .cmp l op r, e => ∃ p, e = .Compare l [op] [r] p
  | .call, e => ∃ f a k p, e = .Call f a k p
  | .other, _ => True
theorem clsT_of (e : Expr) : (clsT e).Of e := by
  cases e <;> first
    | trivial
    | exact ⟨_, _, _, _, rfl⟩
    | skip
  · rename_i op es p
    cases op with
    | Or => trivial
    | And =>
      show TC.Of (match two es with | some q => .and q.1 q.2 | none => .other) _
      cases h : two es with
      | none => trivial
      | some q => rw [two_inv h]; exact ⟨p, rfl⟩
  · rename_i op x p
    cases op <;> first
      | exact ⟨p, rfl⟩
      | trivial
  · rename_i l ops rs p
    show TC.Of (match one ops, one rs with | some op, some r => .cmp l op r | _, _ => .other) _
    cases h1 : one ops with
    | none => trivial
    | some op =>
      cases h2 : one rs with
      | none => trivial
      | some r => rw [one_inv h1, one_inv h2]; exact ⟨p, rfl⟩
noncomputable def tstC (ev1 : Scope → Expr → Ro → Option PyData) (tst1 : Scope → Expr → Ro → Option Bool) (sc : Scope) (e : Expr) (ρ : Ro) : TC → Option Bool
  | .no x => do
    let b ← tst1 sc x ρ
    some (!b)
  | .and x y => do
    let b ← tst1 sc x ρ
    if b then tst1 sc y ρ else some false
  | .cmp l op r =>
    if behindInMarks op r = true then none else do
    let a ← ev1 sc l ρ
    let b ← ev1 sc r ρ
    cmpD op a b
  | .call => do
    let a ← ev1 sc e ρ
    asBool a
  | .other => none
noncomputable def itsC (ev1 : Scope → Expr → Ro → Option PyData) (evs1 : Scope → List Expr → Ro → Option (List PyData)) (sc : Scope) (e : Expr) (ρ : Ro) : Option (List PyData) := match rangeArgs sc e with
    | some es => do
      let xs ← evs1 sc es ρ
      let is ← intsD xs
      match is with
      | [k] => if -1000000 ≤ k ∧ k ≤ 1000000 then some (rangeD 0 k) else none
      | [l, k] => if -1000000 ≤ l ∧ l ≤ 1000000 ∧ -1000000 ≤ k ∧ k ≤ 1000000 then some (rangeD l k) else none
      | _ => none
    | none => do
      let a ← ev1 sc e ρ
      itemsD a
mutual
noncomputable def ev (F : Fn) : Nat → Scope → Expr → Ro → Option PyData
  | 0, _, _, _ => none
  | n + 1, sc, e, ρ => evC F (ev F n) (evs F n) (evp F n) (tst F n) (gen F n) (its F n) sc ρ (clsE e)
noncomputable def evs (F : Fn) : Nat → Scope → List Expr → Ro → Option (List PyData)
  | 0, _, _, _ => none
  | _ + 1, _, [], _ => some []
  | n + 1, sc, e :: r, ρ => do
    let x ← ev F n sc e ρ
    let xs ← evs F n sc r ρ
    some (x :: xs)
noncomputable def evp (F : Fn) : Nat → Scope → Option Expr → Ro → Option (Option Int)
  | 0, _, _, _ => none
  | _ + 1, _, none, _ => some none
  | n + 1, sc, some e, ρ => do
    let a ← ev F n sc e ρ
    let i ← asInt a
    some (some i)
noncomputable def tst (F : Fn) : Nat → Scope → Expr → Ro → Option Bool
  | 0, _, _, _ => none
  | n + 1, sc, e, ρ => tstC (ev F n) (tst F n) sc e ρ (clsT e)
noncomputable def gen (F : Fn) : Nat → Scope → Expr → List Comprehension → Ro → List PyData → Option (List PyData)
  | 0, _, _, _, _, _ => none
  | _ + 1, _, _, [], _, _ => none
  | n + 1, isc, elt, g :: gs, ρ, xs => catL (fun v => do
      let ρ' ← bindN isc ρ g.target v
      let b ← tsts F n isc g.ifs ρ'
      if b then
        match gs with
        | [] => do
          let y ← ev F n isc elt ρ'
          some [y]
        | g' :: _ => do
          let xs' ← its F n isc g'.iter ρ'
          gen F n isc elt gs ρ' xs'
      else some []) xs
noncomputable def its (F : Fn) : Nat → Scope → Expr → Ro → Option (List PyData)
  | 0, _, _, _ => none
  | n + 1, sc, e, ρ => itsC (ev F n) (evs F n) sc e ρ
noncomputable def tsts (F : Fn) : Nat → Scope → List Expr → Ro → Option Bool
  | 0, _, _, _ => none
  | _ + 1, _, [], _ => some true
  | n + 1, sc, e :: r, ρ => do
    let b ← tst F n sc e ρ
    if b then tsts F n sc r ρ else some false
end
end Mine
end SVD
section SVE
open PySem PySem.W PyProof.Rows PySem.Calls
namespace Mine
structure Wd (prog : Program) (w : World) where
  G : Heap → Prop
  keep : ∀ {h h' : Heap}, G h → (∀ b o, h.get? b = some o → h'.get? b = some o) → G h'
  nm : Str → Option Value
  look : ∀ {h : Heap}, G h → ∀ {x : Str} {v : Value}, nm x = some v → ∃ mg mb, h.Ns mainGlobals mg ∧ h.Ns builtinsNs mb ∧ (mg x = some v ∨ (mg x = none ∧ mb x = some v))
  Inst : AS → Heap → PyData → Value → Prop
  instKeep : ∀ {X X' : AS} {h h' : Heap} {k : PyData} {v : Value}, (∀ b o, ¬ X b → h.get? b = some o → h'.get? b = some o ∧ ¬ X' b) → Inst X h k v → Inst X' h' k v
  fc : Addr
  meth : ∀ {X : AS} {s : Shared} {k : PyData} {ov : Value}, G s.heap → Inst X s.heap k ov → ∀ (A : Around) (E : Value → Shared → Prop) (imp : Sem Bool) (Q : Value × List Value → Shared → Prop), Q (.ref fc, [ov]) s →
    wpAny (model prog w) A (getMethod ov sCompare imp) Q E s
  attr : ∀ {X : AS} {s : Shared} {k : PyData} {ov : Value}, G s.heap → Inst X s.heap k ov → ∀ (A : Around) (E : Value → Shared → Prop) (Q : Value → Shared → Prop), (∀ v, Rp X s.heap k v → Q v { s with toks := s.toks + 1 }) →
    wpAny (model prog w) A (getAttr ov sCSL true) Q E s
  K : Frag
  inK : ∀ {h : Heap}, G h → K.In h
  mka : Addr
  mkNm : nm (Str.ofString "TupleComp") = some (.ref mka)
  mkKeep : keepIn K (.ref mka) = true
  fcAt : ∃ o fd, (∀ h, G h → h.get? fc = some o) ∧ o.data = .func fd
variable {prog : Program} {w : World}
noncomputable def Rv (W : Wd prog w) (X : AS) (h : Heap) : V → Value → Prop
  | .dat d, v => Rp X h d v
  | .inst k, v => W.Inst X h k v
  | .raw u, v => v = u
theorem Rv.keep {W : Wd prog w} {X X' : AS} {h h' : Heap} (hk : ∀ b o, ¬ X b → h.get? b = some o → h'.get? b = some o ∧ ¬ X' b) : ∀ {r : V} {v : Value}, Rv W X h r v → Rv W X' h' r v
  | .dat _, _, r => Rp.keep hk r
  | .inst _, _, r => W.instKeep hk r
  | .raw _, _, r => r
noncomputable def NameAt (env : Env) (h : Heap) (x : Str) (v : Value) : Prop :=
  (env.kindOf x = some .local ∧ ∃ m, h.Ns env.locals m ∧ m x = some v) ∨ ((env.kindOf x = some .cell ∨ env.kindOf x = some .free) ∧ ∃ c, env.cells.lookup x = some c ∧ h.IsCell c (some v))
theorem NameAt.keeps {env : Env} {h h' : Heap} {x : Str} {v : Value} (n : NameAt env h x v) (hk : ∀ b o, h.get? b = some o → h'.get? b = some o) : NameAt env h' x v := by
  rcases n with ⟨k, m, hn, hm⟩ | ⟨k, c, hc, hv⟩
  · exact .inl ⟨k, m, hn.keeps hk, hm⟩
  · exact .inr ⟨k, c, hc, hv.keeps hk⟩
noncomputable def plainName (x : Str) : Prop := (x == ("__debug__" : Str)) = false ∧ (x == ("__classdict__" : Str)) = false
noncomputable def Sees1 (W : Wd prog w) (X : AS) (env : Env) (h : Heap) (ρ : Ro) : Prop := ∀ x r, ρ x = some r → plainName x ∧ ∃ v, NameAt env h x v ∧ Rv W X h r v
theorem Sees1.keeps {W : Wd prog w} {X : AS} {env : Env} {s s' : Shared} {ρ : Ro} (S : Sees1 W X env s.heap ρ) (k : Keeps s s') : Sees1 W X env s'.heap ρ := fun x r e => by
  obtain ⟨p, v, n, r⟩ := S x r e
  exact ⟨p, v, n.keeps fun _ _ e => kp_get k e, r.keep fun _ _ hx e => ⟨kp_get k e, hx⟩⟩
noncomputable def Sees (W : Wd prog w) (X : AS) (env : Env) (h : Heap) (ρ : Ro) : Prop := Sees1 W X env h ρ ∧ ∀ n c, env.cells.lookup n = some c → ∃ o, h.get? c = some o
theorem Sees.keeps {W : Wd prog w} {X : AS} {env : Env} {s s' : Shared} {ρ : Ro} (S : Sees W X env s.heap ρ) (k : Keeps s s') : Sees W X env s'.heap ρ :=
  ⟨S.1.keeps k, fun n c h => let ⟨o, e⟩ := S.2 n c h; ⟨o, kp_get k e⟩⟩
structure EnvOk (env : Env) (sc : Scope) : Prop where
  kind : env.scope.kind = .function
  g : env.globals = mainGlobals
  b : env.builtins = builtinsNs
  names : ∀ x, glob sc x = true → env.kindOf x = some .globalImplicit ∧ plainName x
  cells : ∀ x, sc.names.lookup x = some .cell ∨ sc.names.lookup x = some .free → (env.kindOf x = some .cell ∨ env.kindOf x = some .free) ∧ ∃ c, env.cells.lookup x = some c
theorem ld_var {env : Env} {x : Str} {v : Value} {A : Around} {E : Value → Shared → Prop} {s : Shared} {pos : Pos} {Q : Value → Shared → Prop} (hk : env.scope.kind = .function) (hp : plainName x) (n : NameAt env s.heap x v) (h : Q v s) :
    wpAny (model prog w) A (eval (.Name x pos) env) Q E s := by
  refine wpAny_Name ?_ hp.1
  rcases n with ⟨k, m, hn, hm⟩ | ⟨k | k, c, hc, hv⟩
  · exact wpAny_loadName_local hk k hn hm h
  · exact wpAny_loadName_cell hk k hc hv h
  · exact wpAny_loadName_free hk k hc hv h hp.2
theorem ld_glob (W : Wd prog w) {env : Env} {sc : Scope} (eo : EnvOk env sc) {x : Str} {v : Value} {A : Around} {E : Value → Shared → Prop} {s : Shared} {pos : Pos} {Q : Value → Shared → Prop} (hx : glob sc x = true) (hG : W.G s.heap) (hn : W.nm x = some v) (h : Q v s) :
    wpAny (model prog w) A (eval (.Name x pos) env) Q E s := by
  obtain ⟨hk, hp⟩ := eo.names x hx
  refine wpAny_Name ?_ hp.1
  obtain ⟨mg, mb, h1, h2, h3⟩ := W.look hG hn
  unfold loadName
  have e1 : env.scope.kind.isAnnotationScope = false := by rw [eo.kind]; rfl
  have e2 : env.blockKind = .function := by unfold Env.blockKind; rw [eo.kind]; rfl
  rw [e1, e2, hk]
  simp only [Bool.false_and, Bool.false_eq_true, if_false]
  unfold loadGlobal
  rw [eo.g, eo.b]
  refine wpAny_bind (wpAny_nsGet h1 ?_)
  rcases h3 with h3 | ⟨h3, h4⟩
  · rw [h3]; exact wpAny_pure h
  · rw [h3]
    refine wpAny_bind (wpAny_nsGet h2 ?_)
    rw [h4]; exact wpAny_pure h
noncomputable def Cal (W : Wd prog w) (fv : Value) : Prop := (∃ id, fv = .builtin id) ∨ (∃ T, fv = .type T) ∨ ∃ a o fd, fv = .ref a ∧ (∀ h, W.G h → h.get? a = some o) ∧ o.data = .func fd
noncomputable def CallOk (W : Wd prog w) (k : Nat) (fv : Value) (args : List PyData) (d : PyData) : Prop :=
  ∀ (A : Around) (s : Shared) (X : AS) (vs : List Value) (E : Value → Shared → Prop), AOk k A → W.G s.heap → Live X s.heap → Rps X s.heap args vs → wpAny (model prog w) A (call fv vs) (Gv X s d) E s
structure FnOk (W : Wd prog w) (k : Nat) (F : Fn) : Prop where
  ne : ∀ f, F f [] = none
  fn : ∀ f args d, F f args = some d → f ≠ sTC → f ≠ sLower → f ≠ sIn → f ≠ sGetB3 → ∃ fv, W.nm f = some fv ∧ Cal W fv ∧ CallOk W k fv args d
  cmp : ∀ ks args d, F sTC (ks :: args) = some d → ∀ (A : Around) (s : Shared) (X : AS) (ov : Value) (vs : List Value) (E : Value → Shared → Prop), AOk k A → W.G s.heap → Live X s.heap → W.Inst X s.heap ks ov → Rps X s.heap args vs →
    wpAny (model prog w) A (call (.ref W.fc) (ov :: vs)) (Gv X s d) E s
  low : ∀ a d, F sLower [a] = some d → ∃ x, a = .str x ∧ ∀ (A : Around) (s : Shared) (X : AS) (t : Tok) (E : Value → Shared → Prop), AOk k A → wpAny (model prog w) A (call (.builtin "str.lower") [.str x t]) (Gv X s d) E s
  inset : ∀ a d, F sIn [a] = some d → ∃ v, W.nm sB1 = some v ∧ ∀ (A : Around) (s : Shared) (X : AS) (av : Value) (E : Value → Shared → Prop), AOk k A → W.G s.heap → Rp X s.heap a av → wpAny (model prog w) A (compareOp .In av v) (Gv X s d) E s
  get : ∀ xs d, F sGetB3 xs = some d → ∃ r o, W.nm sB3 = some (.ref r) ∧ (∀ h, W.G h → h.get? r = some o) ∧ o.cls = .type "dict" ∧ o.dict = none ∧ ∀ (A : Around) (s : Shared) (X : AS) (vs : List Value) (E : Value → Shared → Prop), AOk k A → W.G s.heap → Rps X s.heap xs vs →
    wpAny (model prog w) A (call (.builtin "dict.get") (.ref r :: vs)) (Gv X s d) E s
  make : ∀ (ks : List PyData) (A : Around) (s : Shared) (X : AS) (v : Value) (E : Value → Shared → Prop), AOk k A → W.G s.heap → Live X s.heap → Rp X s.heap (.list ks) v →
    wpAny (model prog w) A (call (.ref W.mka) [v]) (fun ov s' => W.Inst X s'.heap (.list ks) ov ∧ Keeps s s') E s
theorem starEach_plain {e : Expr} {r : List Expr} {env : Env} (h : ∀ v p, e ≠ .Starred v p) : starEach (e :: r) env = (false, eval e env) :: starEach r env := by
  cases e <;> first | rfl | (exact absurd rfl (h _ _))
theorem any_plain {pos : Pos} {env : Env} : ∀ {es : List Expr}, (∀ e ∈ es, ∀ v p, e ≠ .Starred v p) → (backTo pos (starEach es env)).any (·.1) = false
  | [], _ => rfl
  | e :: r, h => by
    rw [starEach_plain (h e List.mem_cons_self)]
    have := any_plain (pos := pos) (env := env) (es := r) fun e he => h e (List.mem_cons_of_mem _ he)
    show (false || (backTo pos (starEach r env)).any (·.1)) = false
    rw [this]; rfl
end Mine
end SVE
section SVM
open PySem PySem.W PyProof.Rows PySem.Calls
namespace Mine
variable {prog : Program} {w : World}
structure FEnv (env : Env) (sc : Scope) (Ow : AS) : Prop where
  kl : ∀ x, sc.names.lookup x = some .local → env.kindOf x = some .local
  kc : ∀ x, sc.names.lookup x = some .cell → env.kindOf x = some .cell ∧ ∃ c, env.cells.lookup x = some c ∧ Ow c
  eo : EnvOk env sc
  apart : ∀ x y c, Ow c → env.cells.lookup x = some c → env.cells.lookup y = some c → x = y
  off : ∀ n c, env.cells.lookup n = some c → c ≠ env.locals
  ol : Ow env.locals
structure Fm (W : Wd prog w) (Y : AS) (h₀ : Heap) (env : Env) (Ow : AS) (ρ : Ro) (s : Shared) : Prop where
  own : ∀ b, Ow b → Y b
  new : ∀ b, Ow b → h₀.get? b = none
  ns : ∃ m, s.heap.Ns env.locals m
  cell : ∀ n c, env.cells.lookup n = some c → (Ow c ∧ ∃ v, s.heap.IsCell c v) ∨ ∃ o, h₀.get? c = some o
  sees : Sees1 W Y env s.heap ρ
  live : Live Y s.heap
  g : W.G h₀
  base : ∀ b o, h₀.get? b = some o → s.heap.get? b = some o
noncomputable def SK (Ow : AS) (s s' : Shared) : Prop := (∃ h tk, s' = { s with heap := h, toks := tk }) ∧ ∀ b o, ¬ Ow b → s.heap.get? b = some o → s'.heap.get? b = some o
theorem sk_of {Ow : AS} {s s' : Shared} (k : Keeps s s') : SK Ow s s' := by
  obtain ⟨h, tk, rfl, kk⟩ := k
  exact ⟨⟨h, tk, rfl⟩, fun b o _ e => kk b o e⟩
theorem sk_trans {Ow : AS} {s s' s'' : Shared} (a : SK Ow s s') (b : SK Ow s' s'') : SK Ow s s'' := by
  obtain ⟨⟨h, tk, rfl⟩, k⟩ := a
  obtain ⟨⟨h', tk', rfl⟩, k'⟩ := b
  exact ⟨⟨h', tk', rfl⟩, fun b o hb e => k' b o hb (k b o hb e)⟩
theorem sk_mono {Ow Ow' : AS} {s s' : Shared} (a : SK Ow s s') (h : ∀ b, Ow b → Ow' b) : SK Ow' s s' := ⟨a.1, fun b o hb e => a.2 b o (fun q => hb (h b q)) e⟩
theorem Fm.see {W : Wd prog w} {Y : AS} {h₀ : Heap} {env : Env} {Ow : AS} {ρ : Ro} {s : Shared} (f : Fm W Y h₀ env Ow ρ s) : Sees W Y env s.heap ρ := ⟨f.sees, fun n c h => by
  rcases f.cell n c h with ⟨_, v, o, e, _⟩ | ⟨o, e⟩
  · exact ⟨o, e⟩
  · exact ⟨o, f.base c o e⟩⟩
theorem Fm.G {W : Wd prog w} {Y : AS} {h₀ : Heap} {env : Env} {Ow : AS} {ρ : Ro} {s : Shared} (f : Fm W Y h₀ env Ow ρ s) : W.G s.heap := W.keep f.g f.base
theorem ns_fun {h : Heap} {a : Addr} {m m' : Str → Option Value} (x : h.Ns a m) (y : h.Ns a m') (z : Str) : m z = m' z := by
  obtain ⟨o, es, ep, ho, hd, _, hm⟩ := x
  obtain ⟨o', es', ep', ho', hd', _, hm'⟩ := y
  rw [ho] at ho'; cases ho'
  rw [hd] at hd'; cases hd'
  rw [← hm, ← hm']
theorem Fm.keeps {W : Wd prog w} {Y : AS} {h₀ : Heap} {env : Env} {Ow : AS} {ρ : Ro} {s s' : Shared} (f : Fm W Y h₀ env Ow ρ s) (k : Keeps s s') : Fm W Y h₀ env Ow ρ s' :=
  ⟨f.own, f.new, let ⟨m, h⟩ := f.ns; ⟨m, h.keeps fun _ _ e => kp_get k e⟩, fun n c h => (f.cell n c h).imp_left fun ⟨y, v, x⟩ => ⟨y, v, x.keeps fun _ _ e => kp_get k e⟩, f.sees.keeps k, f.live.keeps k, f.g, fun b o e => kp_get k (f.base b o e)⟩
theorem Fm.cellAt {W : Wd prog w} {Y : AS} {h₀ : Heap} {env : Env} {Ow : AS} {ρ : Ro} {s s' : Shared} (f : Fm W Y h₀ env Ow ρ s) (hk : ∀ b o, (Ow b ∨ h₀.get? b = some o) → s.heap.get? b = some o → s'.heap.get? b = some o) {n : Str} {c : Addr} (hc : env.cells.lookup n = some c) {o : Obj} (e : s.heap.get? c = some o) : s'.heap.get? c = some o := by
  rcases f.cell n c hc with ⟨h, _⟩ | ⟨o', h⟩
  · exact hk c o (.inl h) e
  · have := f.base c o' h
    rw [e] at this; cases this
    exact hk c o (.inr h) e
theorem Fm.move {W : Wd prog w} {Y Y' : AS} {h₀ : Heap} {env : Env} {Ow : AS} {ρ : Ro} {s s' : Shared} (f : Fm W Y h₀ env Ow ρ s) (hk : ∀ b o, (¬ Y b ∨ Ow b ∨ h₀.get? b = some o) → s.heap.get? b = some o → s'.heap.get? b = some o)
    (ol : Ow env.locals) (hy : ∀ b o, ¬ Y b → s.heap.get? b = some o → ¬ Y' b) (ho : ∀ b, Ow b → Y' b) (hl : Live Y' s'.heap) : Fm W Y' h₀ env Ow ρ s' where
  own := ho
  new := f.new
  ns := let ⟨m, h⟩ := f.ns; ⟨m, h.at' fun o e => hk _ o (.inr (.inl ol)) e⟩
  cell := fun n c h => by
    exact (f.cell n c h).imp_left fun ⟨y, v, o, e, d⟩ => ⟨y, v, o, f.cellAt (fun b o hb => hk b o (.inr hb)) h e, d⟩
  sees := fun x r hx => by
    obtain ⟨p, v, nv, rv⟩ := f.sees x r hx
    refine ⟨p, v, ?_, rv.keep fun b o hb e => ⟨hk b o (.inl hb) e, hy b o hb e⟩⟩
    rcases nv with ⟨k, m, h, e⟩ | ⟨k, c, hc, o, e, d⟩
    · exact .inl ⟨k, m, h.at' fun o e => hk _ o (.inr (.inl ol)) e, e⟩
    · exact .inr ⟨k, c, hc, o, f.cellAt (fun b o hb => hk b o (.inr hb)) hc e, d⟩
  live := hl
  g := f.g
  base := fun b o e => hk b o (.inr (.inr e)) (f.base b o e)
theorem plainB_iff {x : Str} : plainB x = true ↔ plainName x := by
  unfold plainB plainName
  simp only [Bool.and_eq_true, Bool.not_eq_true']
theorem stFit_iff {sc : Scope} {x : Str} (h : stFit sc x = true) : (sc.names.lookup x = some .local ∨ sc.names.lookup x = some .cell) ∧ plainName x := by
  unfold stFit at h
  simp only [Bool.and_eq_true, Bool.or_eq_true, decide_eq_true_eq, plainB_iff] at h
  exact h
theorem fm_store {W : Wd prog w} {Y : AS} {h₀ : Heap} {env : Env} {sc : Scope} {Ow : AS} {ρ : Ro} {s : Shared} {x : Str} {rv : V} {v : Value} {A : Around} {E : Value → Shared → Prop} {Q : Unit → Shared → Prop} (fe : FEnv env sc Ow) (f : Fm W Y h₀ env Ow ρ s) (hx : stFit sc x = true)
    (r : Rv W Y s.heap rv v) (h : ∀ s', Fm W Y h₀ env Ow (put ρ x rv) s' → SK Ow s s' → (∀ b o, b ≠ env.locals → (∀ n, env.cells.lookup n ≠ some b) → s.heap.get? b = some o → s'.heap.get? b = some o) → Q () s') : wpAny (model prog w) A (storeName env x v) Q E s := by
  obtain ⟨hk, hp⟩ := stFit_iff hx
  obtain ⟨m, hn⟩ := f.ns
  rcases hk with hk | hk
  · have hk' : env.kindOf x = some .local := fe.kl x hk
    refine wpAny_storeName_local hk' hn (fun h' hn' hs' => ?_) (by rw [fe.eo.kind]; rfl)
    have keep : ∀ b o, b ≠ env.locals → s.heap.get? b = some o → h'.get? b = some o := fun b o hb e => hs'.extBut b o hb e
    have hY : ∀ b o, ¬ Y b → s.heap.get? b = some o → h'.get? b = some o ∧ ¬ Y b := fun b o hb e => ⟨keep b o (by rintro rfl; exact hb (f.own _ fe.ol)) e, hb⟩
    refine h _ ⟨f.own, f.new, ⟨_, hn'⟩, fun n c hc => ?_, fun y r' hy => ?_, fun a ha => ?_, f.g, fun b o e => ?_⟩ ⟨⟨_, _, rfl⟩, fun b o hb e => keep b o (by rintro rfl; exact hb fe.ol) e⟩ (fun b o hb _ e => keep b o hb e)
    · exact (f.cell n c hc).imp_left fun ⟨y, v', hv'⟩ => ⟨y, v', hv'.sameBut hs' (fe.off n c hc)⟩
    · unfold put at hy
      split at hy
      · rename_i e
        cases hy
        refine ⟨e ▸ hp, v, .inl ⟨e ▸ hk', _, hn', by simp [e]⟩, r.keep hY⟩
      · rename_i e
        obtain ⟨p', v', nv, rv'⟩ := f.sees y r' hy
        refine ⟨p', v', ?_, rv'.keep hY⟩
        rcases nv with ⟨k, m', hm, e'⟩ | ⟨k, c, hc, hv⟩
        · refine .inl ⟨k, _, hn', ?_⟩
          simp only [e, if_false]
          rw [ns_fun hn hm]; exact e'
        · exact .inr ⟨k, c, hc, hv.sameBut hs' (fe.off y c hc)⟩
    · obtain ⟨o, e⟩ := f.live a ha
      by_cases hb : a = env.locals
      · subst hb; obtain ⟨o', _, _, e', _⟩ := hn'; exact ⟨o', e'⟩
      · exact ⟨o, keep a o hb e⟩
    · exact keep b o (by rintro rfl; rw [f.new _ fe.ol] at e; cases e) (f.base b o e)
  · obtain ⟨hk', c, hc, hOc⟩ := fe.kc x hk
    obtain ⟨v₀, hv₀⟩ : ∃ v, s.heap.IsCell c v := by
      rcases f.cell x c hc with ⟨_, h⟩ | ⟨o, h⟩
      · exact h
      · rw [f.new c hOc] at h; cases h
    refine wpAny_storeName_cell fe.eo.kind hk' hc hv₀ fun h' hc' hs' => ?_
    have keep : ∀ b o, b ≠ c → s.heap.get? b = some o → h'.get? b = some o := fun b o hb e => hs'.extBut b o hb e
    have hY : ∀ b o, ¬ Y b → s.heap.get? b = some o → h'.get? b = some o ∧ ¬ Y b := fun b o hb e => ⟨keep b o (by rintro rfl; exact hb (f.own _ hOc)) e, hb⟩
    have other : ∀ y c', env.cells.lookup y = some c' → y ≠ x → c' ≠ c := fun y c' hy hne e => hne (fe.apart y x c hOc (e ▸ hy) hc)
    refine h _ ⟨f.own, f.new, ⟨m, hn.sameBut hs' (fe.off x c hc).symm⟩, fun n c' hc'' => ?_, fun y r' hy => ?_, fun a ha => ?_, f.g, fun b o e => ?_⟩ ⟨⟨_, _, rfl⟩, fun b o hb e => keep b o (by rintro rfl; exact hb hOc) e⟩ (fun b o _ hb e => keep b o (by rintro rfl; exact hb x hc) e)
    · refine (f.cell n c' hc'').imp_left fun ⟨y, v', hv'⟩ => ⟨y, ?_⟩
      by_cases e : c' = c
      · subst e; exact ⟨_, hc'⟩
      · exact ⟨v', hv'.sameBut hs' e⟩
    · unfold put at hy
      split at hy
      · rename_i e
        cases hy
        subst e
        exact ⟨hp, v, .inr ⟨.inl hk', c, hc, hc'⟩, r.keep hY⟩
      · rename_i e
        obtain ⟨p', v', nv, rv'⟩ := f.sees y r' hy
        refine ⟨p', v', ?_, rv'.keep hY⟩
        rcases nv with ⟨k, m', hm, e'⟩ | ⟨k, c', hc'', hv⟩
        · exact .inl ⟨k, m', hm.sameBut hs' (fe.off x c hc).symm, e'⟩
        · exact .inr ⟨k, c', hc'', hv.sameBut hs' (other y c' hc'' e)⟩
    · obtain ⟨o, e⟩ := f.live a ha
      by_cases hb : a = c
      · subst hb; obtain ⟨o', e', _⟩ := hc'; exact ⟨o', e'⟩
      · exact ⟨o, keep a o hb e⟩
    · exact keep b o (by rintro rfl; rw [f.new _ hOc] at e; cases e) (f.base b o e)
noncomputable def Off (env : Env) (s s' : Shared) : Prop := ∀ b o, b ≠ env.locals → (∀ n, env.cells.lookup n ≠ some b) → s.heap.get? b = some o → s'.heap.get? b = some o
theorem bind_target {W : Wd prog w} {sc : Scope} {ρ ρ' : Ro} {tg : Expr} {d : PyData} {v : Value} {Y : AS} {h₀ : Heap} {env : Env} {Ow : AS} {A : Around} {s : Shared} {E : Value → Shared → Prop} (hh : A.handled = none) (h : bindT sc ρ tg d = some ρ') (fe : FEnv env sc Ow) (f : Fm W Y h₀ env Ow ρ s) (r : Rp Y s.heap d v) :
    wpAny (model prog w) A (assign tg env v) (fun _ s' => Fm W Y h₀ env Ow ρ' s' ∧ SK Ow s s' ∧ Off env s s') E s := by
  rcases bindT_inv h with ⟨x, p, rfl, hx, rfl⟩ | ⟨x, px, y, py, x1, pt, a, b, rfl, rfl, hx, rfl⟩
  · exact wpAny_assign_Name (fm_store fe f hx (rv := .dat d) r fun s' a b c => ⟨a, b, c⟩)
  · simp only [Rp] at r
    obtain ⟨T, vs, rfl, hX, ht, hr⟩ := r
    simp only [Rps] at hr
    obtain ⟨va, vr, rfl, ra, vb, vr', rfl, rb, rfl⟩ := hr
    refine wpAny_assign_Tuple hh ht.isTuple rfl rfl fun h' hx' => ?_
    have kk : Keeps s { s with heap := h' } := ⟨h', s.toks, rfl, fun b o e => hx' b o (Nat.ne_of_lt (Heap.lt_size e)) e⟩
    show wpAny _ A (do holding [vb] (assign (.Name x px) env va); do holding [] (assign (.Name y py) env vb); pure ()) _ _ _
    have kY : ∀ (s' : Shared), SK Ow { s with heap := h' } s' → Rp Y s'.heap b vb := fun s' sk => Rp.keep (fun b o hb e => ⟨sk.2 b o (fun q => hb (f.own b q)) (kp_get kk e), hb⟩) rb
    refine wpAny_bind (wpAny_holding (wpAny_assign_Name (fm_store fe (f.keeps kk) hx.1 (rv := .dat a) (Rp.keeps kk ra) fun s' f' sk off => ?_)))
    refine wpAny_bind (wpAny_holding (wpAny_assign_Name (fm_store fe f' hx.2 (rv := .dat b) (kY s' sk) fun s'' f'' sk' off' => wpAny_pure ⟨f'', sk_trans (sk_of kk) (sk_trans sk sk'), fun b o h1 h2 e => off' b o h1 h2 (off b o h1 h2 (kp_get kk e))⟩)))
end Mine
end SVM
section SUD
open PySem PySem.W PyProof.Rows
namespace Mine
variable {prog : Program} {w : World} {A : Around} {R : Result → Shared → Prop} {s : Shared}
noncomputable def emitG (e elt : Expr) (gens : List Comprehension) (j : Nat) (acc : Value) (env : Env) : Sem Unit :=
  match gens[j + 1]? with
  | some g' => do
    let x ← eval g'.iter env
    standAt g'.iter.pos
    let x ← foldedSetIterable g'.iter env x
    let _ ← runOwn (.compStart e (j + 1) (← holding [x] (pyIter x)) acc env) env
  | none => do let _ ← call (.builtin "list.append") [acc, ← eval elt env]
theorem compTurn_gen {elt : Expr} {gens : List Comprehension} {isc : Scope} {pos : Pos} {j : Nat} {it acc : Value} {env : Env} {g : Comprehension} (hg : gens[j]? = some g) (ha : ∀ g ∈ gens, g.is_async = 0) :
    compTurn (.ListComp elt gens isc pos) j it acc env = (standAt g.iter.pos >>= fun _ => pyNext it >>= fun r => match r with
      | none => pure (.done .next)
      | some v => letOwnedTupleGo g.target it v >>= fun _ => assign g.target env v >>= fun _ =>
        (forIn g.ifs true fun c r => if r = true then do let ok ← isTrue c env (eval c env); pure (ForInStep.yield ok) else pure (ForInStep.yield r)) >>= fun ok =>
          if ok = true then emitG (.ListComp elt gens isc pos) elt gens j acc env >>= fun _ => again (.compLoop (.ListComp elt gens isc pos) j it acc env) else again (.compLoop (.ListComp elt gens isc pos) j it acc env)) := by
  have ha0 := ha g (List.mem_of_getElem? hg)
  obtain ⟨tg, iter, ifs, as⟩ := g
  simp only at ha0
  subst ha0
  unfold compTurn emitG
  simp only [hg]
  cases hg' : gens[j + 1]? with
  | none => rfl
  | some g' =>
    have ha1 := ha g' (List.mem_of_getElem? hg')
    obtain ⟨tg', iter', ifs', as'⟩ := g'
    simp only at ha1
    subst ha1
    simp only [bind_assoc]
    rfl
theorem compLoop_rule {elt : Expr} {gens : List Comprehension} {isc : Scope} {pos : Pos} {j : Nat} {it acc : Value} {env : Env} {g : Comprehension} (hg : gens[j]? = some g) (ha : ∀ g ∈ gens, g.is_async = 0) (I : Nat → Shared → Prop)
    (turn : ∀ n s, I n s → wpAny (model prog w) A (pyNext it) (fun r s₁ => match r with
      | none => R (.ok .next) s₁
      | some v => wpAny (model prog w) A (letOwnedTupleGo g.target it v) (fun _ s₁' => wpAny (model prog w) A (assign g.target env v) (fun _ s₂ =>
          wpAny (model prog w) A (forIn g.ifs true fun c r => if r = true then do let ok ← isTrue c env (eval c env); pure (ForInStep.yield ok) else pure (ForInStep.yield r)) (fun ok s₃ =>
            if ok = true then wpAny (model prog w) A (emitG (.ListComp elt gens isc pos) elt gens j acc env) (fun _ s₅ => ∃ m, m < n ∧ I m s₅) (notedBy (model prog w) A env fun e s' => R (.error e) s') s₃
            else ∃ m, m < n ∧ I m s₃) (notedBy (model prog w) A env fun e s' => R (.error e) s') s₂) (notedBy (model prog w) A env fun e s' => R (.error e) s') s₁') (notedBy (model prog w) A env fun e s' => R (.error e) s') s₁) (notedBy (model prog w) A env fun e s' => R (.error e) s') s)
    (n : Nat) (h : I n s) : codeAny (model prog w) A (.compLoop (.ListComp elt gens isc pos) j it acc env) R s := by
  refine codeAny_loop rfl I (fun n s hI => ?_) n h
  show wpAny _ A ((compTurn (.ListComp elt gens isc pos) j it acc env).onRaise (fun x => do noteFrame x env; theTreesLotGoes x)) _ _ s
  refine wpAny_noted ?_
  rw [compTurn_gen hg ha]
  refine wpAny_bind (wpAny_standAt (wpAny_bind (wpAny_mono (turn n s hI) (fun r s₁ h₁ => ?_) fun _ _ h' => h')))
  cases r with
  | none => exact wpAny_pure h₁
  | some v =>
    refine wpAny_bind (wpAny_mono h₁ (fun _ s₁' h₁' => ?_) fun _ _ h' => h')
    refine wpAny_bind (wpAny_mono h₁' (fun _ s₂ h₂ => wpAny_bind (wpAny_mono h₂ (fun ok s₃ h₃ => ?_) fun _ _ h' => h')) fun _ _ h' => h')
    cases ok with
    | false => exact wpAny_pure ⟨rfl, h₃⟩
    | true => exact wpAny_bind (wpAny_mono h₃ (fun _ s₅ h₅ => wpAny_pure ⟨rfl, h₅⟩) fun _ _ h' => h')
theorem compStart_rule {elt : Expr} {gens : List Comprehension} {isc : Scope} {pos : Pos} {j : Nat} {it acc : Value} {env : Env} {g : Comprehension} (hg : gens[j]? = some g) (ha : g.is_async = 0)
    (h0 : codeAny (model prog w) A (.compLoop (.ListComp elt gens isc pos) j it acc env) R s)
    (h : wpAny (model prog w) A (pyIter it) (fun it' s' => codeAny (model prog w) A (.compLoop (.ListComp elt gens isc pos) j it' acc env) R s')
      (notedBy (model prog w) A env fun x s' => R (.error x) s') s) :
    codeAny (model prog w) A (.compStart (.ListComp elt gens isc pos) j it acc env) R s := by
  refine codeAny_of_tree ?_
  show wpAny _ _ ((compStart (.ListComp elt gens isc pos) j it acc env).onRaise (fun x => do noteFrame x env; standAt theWindowsPlace)) _ _ s
  refine wpAny_notedAt ?_
  unfold compStart
  have hc : clausesOf (.ListComp elt gens isc pos) = gens := rfl
  simp only [hc, hg, Option.elim_some, ha, bne_self_eq_false, Bool.false_eq_true, if_false, pure_bind]
  refine wpAny_bind (wpAny_askSetting (wpAny_ite ?_))
  split
  · first
      | exact wpAny_bind (wpAny_pure (wpAny_pure (And.intro rfl h0)))
      | exact wpAny_pure (And.intro rfl h0)
  · first
      | exact wpAny_bind (wpAny_rule (wpAny_bind (wpAny_standAt (wpAny_bind (wpAny_mono h (fun it' s' h' => wpAny_pure (And.intro rfl h')) fun _ _ x => x)))))
      | (refine wpAny_bind (wpAny_rule ?_); show wpAny _ _ (standAt _ >>= _) _ _ s; exact wpAny_bind (wpAny_standAt (wpAny_bind (wpAny_mono h (fun it' s' h' => wpAny_pure (And.intro rfl h')) fun _ _ x => x))))
end Mine
end SUD
section SUE
open PySem PySem.W PyProof.Rows
namespace Mine
variable {M : Model} {A : Around} {E : Value → Shared → Prop} {s : Shared}
theorem pushCells_size : ∀ (names : List (Str × NameKind)) (h : Heap), h.objs.size ≤ (pushCells h names).objs.size
  | [], _ => Nat.le_refl _
  | (_, kind) :: r, h => by
    unfold pushCells
    split
    · have := pushCells_size r (h.push { cls := .type "cell", data := .cell none })
      rw [Heap.size_push] at this
      omega
    · exact pushCells_size r h
structure NewCells (h : Heap) (lo : Nat) (cl cs : List (Str × Addr)) : Prop where
  from_ : ∀ n c, (n, c) ∈ cs → (n, c) ∈ cl ∨ (lo ≤ c ∧ h.IsCell c none)
  apart : ∀ x y c, (x, c) ∈ cs → (y, c) ∈ cs → lo ≤ c → x = y
theorem newCells_ok : ∀ (names : List (Str × NameKind)) (h : Heap) (lo : Nat) (cl acc : List (Str × Addr)), NewCells h lo cl acc → (∀ n c, (n, c) ∈ acc → c < h.objs.size) → lo ≤ h.objs.size →
    NewCells (pushCells h names) lo cl (cellsFrom h.objs.size names acc)
  | [], _, _, _, _, x, _, _ => x
  | (name, kind) :: r, h, lo, cl, acc, x, hb, hlo => by
    unfold pushCells cellsFrom
    split
    · have := newCells_ok r (h.push { cls := .type "cell", data := .cell none }) lo cl ((name, h.objs.size) :: acc)
        ⟨fun n c hm => by
            rcases List.mem_cons.mp hm with e | hm
            · cases e; exact .inr ⟨hlo, ⟨_, Heap.get?_push_size _ rfl, rfl⟩⟩
            · rcases x.from_ n c hm with h1 | ⟨h1, h2⟩
              · exact .inl h1
              · exact .inr ⟨h1, h2.keeps fun b o e => Heap.get?_push_of_some _ e⟩,
          fun a b c ha hb' hc => by
            rcases List.mem_cons.mp ha with e | ha <;> rcases List.mem_cons.mp hb' with e' | hb'
            · cases e; cases e'; rfl
            · cases e; exact absurd (hb _ _ hb') (Nat.lt_irrefl _)
            · cases e'; exact absurd (hb _ _ ha) (Nat.lt_irrefl _)
            · exact x.apart a b c ha hb' hc⟩ (fun n c hm => by
            rw [Heap.size_push]
            rcases List.mem_cons.mp hm with e | hm
            · cases e; exact Nat.lt_succ_self _
            · exact Nat.lt_succ_of_lt (hb n c hm)) (by rw [Heap.size_push]; omega)
      rwa [Heap.size_push] at this
    · exact newCells_ok r h lo cl acc x hb hlo
theorem cells_more : ∀ (l : List (Str × NameKind)) (n : Nat) (acc : List (Str × Addr)) (x : Str × Addr), x ∈ acc → x ∈ cellsFrom n l acc
  | [], _, _, _, h => h
  | (m, k) :: r, n, acc, x, h => by
    unfold cellsFrom
    split
    · exact cells_more r _ _ x (List.mem_cons_of_mem _ h)
    · exact cells_more r _ _ x h
theorem cells_has : ∀ (l : List (Str × NameKind)) (n : Nat) (acc : List (Str × Addr)) (x : Str), (x, NameKind.cell) ∈ l → ∃ c, n ≤ c ∧ (x, c) ∈ cellsFrom n l acc
  | (m, k) :: r, n, acc, x, h => by
    unfold cellsFrom
    rcases List.mem_cons.mp h with h | h
    · cases h
      rw [if_pos (by decide)]
      exact ⟨n, Nat.le_refl _, cells_more _ _ _ _ List.mem_cons_self⟩
    · split
      · obtain ⟨c, h1, h2⟩ := cells_has r (n + 1) ((m, n) :: acc) x h
        exact ⟨c, by omega, h2⟩
      · exact cells_has r n acc x h
theorem cells_name : ∀ (l : List (Str × NameKind)) (n : Nat) (acc : List (Str × Addr)) (x : Str) (c : Addr), (x, c) ∈ cellsFrom n l acc → (x, c) ∈ acc ∨ ((x, NameKind.cell) ∈ l ∧ n ≤ c)
  | [], _, _, _, _, h => .inl h
  | (m, k) :: r, n, acc, x, c, h => by
    unfold cellsFrom at h
    split at h
    · rename_i hk
      rcases cells_name r (n + 1) _ x c h with h | ⟨h, h'⟩
      · rcases List.mem_cons.mp h with e | h
        · cases e
          have : k = .cell := by simpa using hk
          subst this
          exact .inr ⟨List.mem_cons_self, Nat.le_refl _⟩
        · exact .inl h
      · exact .inr ⟨List.mem_cons_of_mem _ h, by omega⟩
    · rcases cells_name r n _ x c h with h | ⟨h, h'⟩
      · exact .inl h
      · exact .inr ⟨List.mem_cons_of_mem _ h, h'⟩
theorem newEnv_comp {isc : Scope} {cl : List (Str × Addr)} {env : Env} {Q : Env → Shared → Prop}
    (hQ : ∀ h', h'.Ns s.heap.objs.size (fun _ => none) → (∀ b o, s.heap.get? b = some o → h'.get? b = some o) → h' = pushCells (s.heap.push { cls := .type "dict", data := .dict #[] }) isc.names →
      Q (newEnv isc s.heap.objs.size env.globals (cellsFrom (s.heap.objs.size + 1) isc.names cl) env.qual none .none (some env) builtinsNs) { s with heap := h' }) :
    wpAny M A (newFunctionEnv isc env.globals cl [] env.qual none .none (some env)) Q E s := by
  simp only [newFunctionEnv, Option.isSome_some, if_true]
  refine wpAny_bind (wpAny_alloc ?_)
  refine wpAny_bind (wpAny_layCells _ (fun name kind cells => by cases hkc : kind == NameKind.cell <;> simp [hkc]) _ _ _ _ ?_)
  rw [show ({ s with heap := s.heap.push { cls := .type "dict", data := .dict #[] } } : Shared).heap.objs.size = s.heap.objs.size + 1 from Heap.size_push ..]
  refine wpAny_bind (wpAny_pure (wpAny_pure (hQ _ ?_ ?_ rfl)))
  · exact (Heap.Ns.new s.heap (.type "dict")).keeps (pushCells_keeps _ _)
  · exact fun b o e => pushCells_keeps _ _ b o (Heap.get?_push_of_some _ e)
end Mine
end SUE
section SVF
open PySem PySem.W PyProof.Rows PySem.Calls
namespace Mine
variable {prog : Program} {w : World}
structure IterOk (prog : Program) (w : World) (A : Around) (X : AS) (xs : List PyData) (s₀ : Shared) (I : Addr) (fp wr : List Addr) (P : Nat → Value → Prop) (St : Nat → Heap → Prop) (s : Shared) : Prop where
  W : Walks prog w A I fp wr xs.length P St
  st : St 0 s.heap
  low : ∀ b ∈ fp, ∃ o, s.heap.get? b = some o
  new : ∀ b ∈ wr, s₀.heap.get? b = none
  lives : ∀ i h, St i h → ∀ b ∈ wr, ∃ o, h.get? b = some o
  item : ∀ i v d, P i v → xs[i]? = some d → Rp (fun b => X b ∨ b ∈ wr) s.heap d v
  size : xs.length ≤ 2000000
  off : ∀ b ∈ fp, ¬ X b
  go : ∀ (i j : Nat) (ds : List PyData) (s : Shared) elts x1 pos T (Q : Unit → Shared → Prop) (E : Value → Shared → Prop), xs[i]? = some (PyData.tuple ds) → St j s.heap → Q () s → wpAny (model prog w) A (letOwnedTupleGo (.Tuple elts x1 pos) (.ref I) (.ref T)) Q E s
  k : Keeps s₀ s
noncomputable def IterEnd (prog : Program) (w : World) (A : Around) (X : AS) (xs : List PyData) (s₀ : Shared) (it : Value) (s : Shared) : Prop := ∃ I fp wr P St, it = .ref I ∧ IterOk prog w A X xs s₀ I fp wr P St s
structure ItOk (prog : Program) (w : World) (A : Around) (Y : AS) (h₀ : Heap) (xs : List PyData) (I : Addr) (fp wr : List Addr) (P : Nat → Value → Prop) (St : Nat → Heap → Prop) (s : Shared) : Prop where
  W : Walks prog w A I fp wr xs.length P St
  st : St 0 s.heap
  nY : ∀ b ∈ wr, ¬ Y b
  n0 : ∀ b ∈ wr, h₀.get? b = none
  lives : ∀ i h, St i h → ∀ b ∈ wr, ∃ o, h.get? b = some o
  item : ∀ i v d, P i v → xs[i]? = some d → Rp (fun b => Y b ∨ b ∈ wr) s.heap d v
  off : ∀ b ∈ fp, ¬ Y b
  go : ∀ (i j : Nat) (ds : List PyData) (s : Shared) elts x1 pos T (Q : Unit → Shared → Prop) (E : Value → Shared → Prop), xs[i]? = some (PyData.tuple ds) → St j s.heap → Q () s → wpAny (model prog w) A (letOwnedTupleGo (.Tuple elts x1 pos) (.ref I) (.ref T)) Q E s
noncomputable def GenOk (W : Wd prog w) (k : Nat) (F : Fn) (n : Nat) : Prop :=
  ∀ {isc : Scope} {elt : Expr} {gens : List Comprehension} {pos : Pos} {j : Nat} {g : Comprehension} {ρ : Ro} {xs ds : List PyData} {cenv : Env} {Ow : AS} {A : Around} {Y : AS} {h₀ : Heap} {s : Shared} {D : Addr} {es : List PyData} {ys : List Value} {I : Addr} {fp wr : List Addr} {P : Nat → Value → Prop} {St : Nat → Heap → Prop} {R : Result → Shared → Prop},
    gens[j]? = some g → (∀ g ∈ gens, g.is_async = 0) → gen F n isc elt (gens.drop j) ρ xs = some ds → AOk (k + 1) A → FEnv cenv isc Ow → Fm W (fun b => Y b ∨ b ∈ wr) h₀ cenv Ow ρ s → (∀ b, Ow b → Y b) → Y D → ¬ Ow D → h₀.get? D = none → s.heap.PlainList D (List.toArray ys) → Rps (fun b => Y b ∨ b ∈ wr) s.heap es ys →
    es.length + ds.length ≤ 1000000 → ItOk prog w A Y h₀ xs I fp wr P St s →
    (∀ s' ys', Fm W Y h₀ cenv Ow ρ s' → s'.heap.PlainList D (List.toArray ys') → Rps Y s'.heap (es ++ ds) ys' → (∃ h tk, s' = { s with heap := h, toks := tk }) →
      (∀ b o, ¬ Ow b → b ≠ D → b ∉ wr → s.heap.get? b = some o → s'.heap.get? b = some o) → R (.ok .next) s') →
    codeAny (model prog w) A (.compLoop (.ListComp elt gens isc pos) j (.ref I) (.ref D) cenv) R s
structure EvAll (W : Wd prog w) (k : Nat) (F : Fn) (n : Nat) : Prop where
  ev : ∀ {sc e ρ d env A s X E}, ev F n sc e ρ = some d → AOk (k + 1) A → EnvOk env sc → W.G s.heap → Live X s.heap → Sees W X env s.heap ρ → wpAny (model prog w) A (eval e env) (Gv X s d) E s
  evs : ∀ {sc es ρ ds env A s X E pos}, evs F n sc es ρ = some ds → AOk (k + 1) A → EnvOk env sc → W.G s.heap → Live X s.heap → Sees W X env s.heap ρ →
    wpAny (model prog w) A (spliced (backTo pos (starEach es env))) (fun vs s' => Rps X s'.heap ds vs ∧ Keeps s s') E s
  evp : ∀ {sc e ρ p env A s X E}, evp F n sc e ρ = some p → AOk (k + 1) A → EnvOk env sc → W.G s.heap → Live X s.heap → Sees W X env s.heap ρ → wpAny (model prog w) A (evalPart e env) (fun v s' => IsPart v p ∧ Keeps s s') E s
  tst : ∀ {sc e ρ b env A s X E}, tst F n sc e ρ = some b → AOk (k + 1) A → EnvOk env sc → W.G s.heap → Live X s.heap → Sees W X env s.heap ρ → wpAny (model prog w) A (isTrue e env (eval e env)) (fun c s' => c = b ∧ Keeps s s') E s
  its : ∀ {sc e ρ xs env A s X E}, its F n sc e ρ = some xs → AOk (k + 1) A → EnvOk env sc → W.G s.heap → Live X s.heap → Sees W X env s.heap ρ →
    wpAny (model prog w) A (eval e env) (fun v s₁ => wpAny (model prog w) A (pyIter v) (IterEnd prog w A X xs s) E s₁) E s
  tsts : ∀ {sc es ρ b env A s X E}, tsts F n sc es ρ = some b → AOk (k + 1) A → EnvOk env sc → W.G s.heap → Live X s.heap → Sees W X env s.heap ρ →
    wpAny (model prog w) A (forIn es true fun c r => if r = true then do let ok ← isTrue c env (eval c env); pure (ForInStep.yield ok) else pure (ForInStep.yield r)) (fun c s' => c = b ∧ Keeps s s') E s
  gen : GenOk W k F n
noncomputable def CompOk (W : Wd prog w) (k : Nat) (F : Fn) (n : Nat) : Prop :=
  EvAll W k F n → ∀ {sc elt g gs isc pos ρ d env A s X E}, Mine.ev F (n + 1) sc (.ListComp elt (g :: gs) isc pos) ρ = some d → AOk (k + 1) A → EnvOk env sc → W.G s.heap → Live X s.heap → Sees W X env s.heap ρ →
    wpAny (model prog w) A (eval (.ListComp elt (g :: gs) isc pos) env) (Gv X s d) E s
theorem wpk {α : Type} {A : Around} {E : Value → Shared → Prop} {m : Sem α} {s : Shared} {Q Q' : α → Shared → Prop} (h : wpAny (model prog w) A m Q E s) (hQ : ∀ a s', Q a s' → Q' a s') : wpAny (model prog w) A m Q' E s :=
  wpAny_mono h hQ fun _ _ e => e
theorem args_cal {fv : Value} {A : Around} {E : Value → Shared → Prop} {s : Shared} {pos : Pos} {env : Env} {args : List Expr} {Q : List Value → Shared → Prop} (hne : args ≠ [])
    (hn : ∀ e ∈ args, ∀ v p, e ≠ .Starred v p) (h : wpAny (model prog w) A (spliced (backTo pos (starEach args env))) Q E s) :
    wpAny (model prog w) A (evalArgs fv true (backTo pos (starEach args env)) []) (fun a s₁ => a.kw = [] ∧ Q a.pos s₁) E s := by
  cases args with
  | nil => exact absurd rfl hne
  | cons e r =>
    rw [starEach_plain (hn e List.mem_cons_self)] at h ⊢
    exact evalArgs_plain (wpk h fun vs s' q => ⟨rfl, q⟩)
theorem callW_cal (W : Wd prog w) {fv : Value} (hc : Cal W fv) {A : Around} {E : Value → Shared → Prop} {s : Shared} {pos : Pos} {env : Env} {args : List Expr} {Q : Value → Shared → Prop} (hG : W.G s.heap) (hne : args ≠ [])
    (hn : ∀ e ∈ args, ∀ v p, e ≠ .Starred v p)
    (h : wpAny (model prog w) A (spliced (backTo pos (starEach args env))) (fun vs s₁ => Keeps s s₁ ∧ wpAny (model prog w) A (call fv vs) Q E s₁) E s) :
    wpAny (model prog w) A (callWith pos fv [] (backTo pos (starEach args env)) []) Q E s := by
  have key := args_cal (fv := fv) hne hn h
  have hp := any_plain (pos := pos) (env := env) hn
  rcases hc with ⟨id, rfl⟩ | ⟨T, rfl⟩ | ⟨a, o, fd, rfl, ho, hfd⟩
  · exact callWith_builtin hp (wpk key fun a s' q => by rw [q.1]; exact q.2.2)
  · exact PySem.callWith_type hp (wpk key fun a s' q => by rw [q.1]; exact q.2.2)
  · exact callWith_function (o := o) (fd := fd) (wpk key fun a s' q => ⟨⟨ho _ (W.keep hG fun _ _ e => kp_get q.2.1 e), hfd⟩, by rw [q.1]; exact q.2.2⟩)
theorem ev_nostar {F : Fn} {n : Nat} {sc : Scope} {e : Expr} {ρ : Ro} {d : PyData} (h : ev F n sc e ρ = some d) : ∀ v p, e ≠ .Starred v p := by
  rintro v p rfl
  cases n <;> cases h
theorem evs_cons {F : Fn} {n : Nat} {sc : Scope} {e : Expr} {r : List Expr} {ρ : Ro} {ds : List PyData} (h : evs F (n + 1) sc (e :: r) ρ = some ds) : ∃ x, ev F n sc e ρ = some x ∧ ∃ xs, evs F n sc r ρ = some xs ∧ ds = x :: xs := by
  replace h : ((ev F n sc e ρ).bind fun x => (evs F n sc r ρ).bind fun xs => some (x :: xs)) = some ds := h
  obtain ⟨x, h1, h⟩ := bnd h
  obtain ⟨xs, h2, h⟩ := bnd h
  obtain rfl := Option.some.inj h
  exact ⟨x, h1, xs, h2, rfl⟩
theorem evs_nostar {F : Fn} : ∀ {n : Nat} {sc : Scope} {es : List Expr} {ρ : Ro} {ds : List PyData}, evs F n sc es ρ = some ds → ∀ e ∈ es, ∀ v p, e ≠ .Starred v p
  | 0, _, _, _, _, h => by cases h
  | n + 1, _, [], _, _, _ => fun e he => by cases he
  | n + 1, sc, e :: r, ρ, ds, h => by
    obtain ⟨x, h1, xs, h2, _⟩ := evs_cons h
    intro e' he
    rcases List.mem_cons.mp he with rfl | he
    · exact ev_nostar h1
    · exact evs_nostar h2 e' he
theorem evs_ok {W : Wd prog w} {k : Nat} {F : Fn} {n : Nat} (ih : EvAll W k F n) {sc es ρ ds env A s X E pos} (h : evs F (n + 1) sc es ρ = some ds) (hA : AOk (k + 1) A) (eo : EnvOk env sc) (hG : W.G s.heap) (hl : Live X s.heap) (S : Sees W X env s.heap ρ) :
    wpAny (model prog w) A (spliced (backTo pos (starEach es env))) (fun vs s' => Rps X s'.heap ds vs ∧ Keeps s s') E s := by
  cases es with
  | nil =>
    cases h
    exact wpAny_items_nil ⟨by simp only [Rps], kp_refl _⟩
  | cons e r =>
    obtain ⟨x, h1, xs, h2, rfl⟩ := evs_cons h
    refine wpAny_items_cons (wpk (ih.ev h1 hA eo hG hl S) fun v s₁ q => ?_) (starEach_plain (ev_nostar h1))
    refine wpk (ih.evs h2 hA eo (W.keep hG fun _ _ e => kp_get q.2 e) (hl.keeps q.2) (S.keeps q.2)) fun vs s₂ q₂ => ?_
    exact ⟨by simp only [Rps]; exact ⟨v, vs, rfl, Rp.keeps q₂.2 q.1, q₂.1⟩, kp_trans q.2 q₂.2⟩
end Mine
end SVF
section SVG
open PySem PySem.W PyProof.Rows PySem.Calls
namespace Mine
variable {prog : Program} {w : World}
theorem iter_list {A : Around} {X : AS} {xs : List PyData} {s₀ s : Shared} {v : Value} {E : Value → Shared → Prop} (hh : A.handled = none) (r : Rp X s.heap (.list xs) v) (k : Keeps s₀ s) (hL : Live X s.heap) (hsz : xs.length ≤ 1000000) :
    wpAny (model prog w) A (pyIter v) (IterEnd prog w A X xs s₀) E s := by
  simp only [Rp] at r
  obtain ⟨a, vs, rfl, hX, hl, hr⟩ := r
  refine wpAny_pyIter_list hl.isList ?_
  have hla : a < s.heap.objs.size := by obtain ⟨n, e⟩ := hl; exact Heap.lt_size e
  have hne : a ≠ s.heap.objs.size := Nat.ne_of_lt hla
  have W0 := Walks.list (prog := prog) (w := w) (A := A) hh s.heap.objs.size a hne vs.toArray
  have eL : vs.toArray.size = xs.length := by rw [List.size_toArray, hr.length]
  rw [eL] at W0
  refine ⟨_, _, _, _, _, rfl, W0, ⟨⟨_, Heap.get?_push_size _ rfl, rfl, rfl⟩, hl.isList.push _⟩, ?_, ?_, ?_, ?_, by omega, ?_, (fun i j ds s' elts x1 pos T Q E _ st hQ => wpAny_letOwnedTupleGo_listiter st.1 hQ), kp_trans k (kp_push _ _)⟩
  · intro b hb
    simp only [List.mem_cons, List.not_mem_nil, or_false] at hb
    rcases hb with rfl | rfl
    · exact ⟨_, Heap.get?_push_size _ rfl⟩
    · obtain ⟨n, e⟩ := hl; exact ⟨_, Heap.get?_push_of_some _ e⟩
  · intro b hb
    simp only [List.mem_cons, List.not_mem_nil, or_false] at hb
    subst hb
    cases e : s₀.heap.get? s.heap.objs.size with
    | none => rfl
    | some o => exact absurd (kp_get k e) (by rw [get_size_none]; simp)
  · intro i h st b hb
    simp only [List.mem_cons, List.not_mem_nil, or_false] at hb
    subst hb
    obtain ⟨o, ho, _⟩ := st.1
    exact ⟨o, ho⟩
  · intro i v d e1 e2
    obtain ⟨v', e3, hr'⟩ := hr.get e2
    have : vs[i]? = some v := by simpa using e1
    rw [this] at e3; cases e3
    refine Rp.keep (fun b o hb e => ⟨Heap.get?_push_of_some _ e, ?_⟩) hr'
    rintro (h | h)
    · exact hb h
    · simp only [List.mem_cons, List.not_mem_nil, or_false] at h
      subst h
      rw [get_size_none] at e; cases e
  · intro b hb
    simp only [List.mem_cons, List.not_mem_nil, or_false] at hb
    rcases hb with rfl | rfl
    · exact hL.fresh (get_size_none _)
    · exact hX
theorem new_of_size {s₀ s : Shared} (k : Keeps s₀ s) : s₀.heap.get? s.heap.objs.size = none := by
  cases e : s₀.heap.get? s.heap.objs.size with
  | none => rfl
  | some o => exact absurd (kp_get k e) (by rw [get_size_none]; simp)
theorem iter_str {A : Around} {X : AS} {x : Str} {s₀ s : Shared} {v : Value} {E : Value → Shared → Prop} (hh : A.handled = none) (r : Rp X s.heap (.str x) v) (k : Keeps s₀ s) (hL : Live X s.heap) (hsz : x.length ≤ 1000000) :
    wpAny (model prog w) A (pyIter v) (IterEnd prog w A X (x.cps.toList.map fun c => .str ⟨#[c]⟩) s₀) E s := by
  simp only [Rp] at r
  obtain ⟨t, rfl⟩ := r
  have e : x.cps.size = (x.cps.toList.map fun c => (PyData.str ⟨#[c]⟩)).length := by simp
  have hlen : (x.cps.toList.map fun c => (PyData.str ⟨#[c]⟩)).length ≤ 2000000 := by
    rw [← e]
    have : x.cps.size ≤ 1000000 := hsz
    omega
  have hitem : ∀ (X : AS) (h : Heap) (i : Nat) (v : Value) (d : PyData), SignAt x i v → (x.cps.toList.map fun c => (PyData.str ⟨#[c]⟩))[i]? = some d → Rp X h d v := by
    intro X h i v d ⟨c, u, hc, hv⟩ hd
    rw [List.getElem?_map] at hd
    have : x.cps.toList[i]? = some c := by simpa using hc
    rw [this] at hd
    cases hd; subst hv
    exact rp_str
  cases ha : x.cps.all (· < 128)
  · refine wpAny_pyIter_wide ha ?_
    have W0 := Walks.strWide (prog := prog) (w := w) (A := A) hh s.heap.objs.size x t
    have eL := e
    rw [eL] at W0
    refine ⟨_, _, _, _, _, rfl, W0, ⟨_, Heap.get?_push_size _ rfl, rfl, rfl⟩, ?_, ?_, ?_, fun i v d => hitem _ _ i v d, hlen, (by intro b hb; rw [List.mem_singleton] at hb; subst hb; exact hL.fresh (get_size_none _)), (fun i j ds s' elts x1 pos T Q E hd => by rw [List.getElem?_map] at hd; obtain ⟨_, _, hd⟩ := Option.map_eq_some_iff.mp hd; cases hd), kp_trans k (kp_push _ _)⟩
    · intro b hb; rw [List.mem_singleton] at hb; subst hb; exact ⟨_, Heap.get?_push_size _ rfl⟩
    · intro b hb; rw [List.mem_singleton] at hb; subst hb; exact new_of_size k
    · intro i h st b hb; rw [List.mem_singleton] at hb; subst hb; obtain ⟨o, ho, _⟩ := st; exact ⟨o, ho⟩
  · refine wpAny_pyIter_ascii ha ?_
    have W0 := Walks.strAscii (prog := prog) (w := w) (A := A) hh s.heap.objs.size x t
    have eL := e
    rw [eL] at W0
    refine ⟨_, _, _, _, _, rfl, W0, ⟨_, Heap.get?_push_size _ rfl, rfl, rfl⟩, ?_, ?_, ?_, fun i v d => hitem _ _ i v d, hlen, (by intro b hb; rw [List.mem_singleton] at hb; subst hb; exact hL.fresh (get_size_none _)), (fun i j ds s' elts x1 pos T Q E hd => by rw [List.getElem?_map] at hd; obtain ⟨_, _, hd⟩ := Option.map_eq_some_iff.mp hd; cases hd), kp_trans k (kp_push _ _)⟩
    · intro b hb; rw [List.mem_singleton] at hb; subst hb; exact ⟨_, Heap.get?_push_size _ rfl⟩
    · intro b hb; rw [List.mem_singleton] at hb; subst hb; exact new_of_size k
    · intro i h st b hb; rw [List.mem_singleton] at hb; subst hb; obtain ⟨o, ho, _⟩ := st; exact ⟨o, ho⟩
theorem iter_range {A : Around} {X : AS} {l b : Int} {s₀ s : Shared} {r : Addr} {t u v : Tok} {E : Value → Shared → Prop} (hh : A.handled = none) (hr : IsRange s.heap r l b 1 t u v) (k : Keeps s₀ s) (hL : Live X s.heap)
    (h1 : -1000000 ≤ l) (h2 : l ≤ 1000000) (h3 : -1000000 ≤ b) (h4 : b ≤ 1000000) :
    wpAny (model prog w) A (pyIter (.ref r)) (IterEnd prog w A X (rangeD l b) s₀) E s := by
  refine wpAny_pyIter_range hr (small_one (by omega) (by omega) (by omega) (by omega)) ?_
  have e : Builtin.Range.rangeSize l b 1 = ((b - l).toNat : Int) := by
    rw [rangeSize_one]; split <;> omega
  rw [e]
  have W0 := Walks.range (prog := prog) (w := w) (A := A) hh s.heap.objs.size l 1 (b - l).toNat
  have eL : (b - l).toNat = (rangeD l b).length := by unfold rangeD; simp
  rw [eL] at W0
  refine ⟨_, _, _, _, _, rfl, W0, ?_, ?_, ?_, ?_, ?_, (by rw [← eL]; omega), (by intro b hb; rw [List.mem_singleton] at hb; subst hb; exact hL.fresh (get_size_none _)), (fun i j ds s' elts x1 pos T Q E hd => by unfold rangeD at hd; rw [List.getElem?_map] at hd; obtain ⟨_, _, hd⟩ := Option.map_eq_some_iff.mp hd; cases hd), kp_trans k (kp_push _ _)⟩
  · rw [← eL]
    have a1 : l + ((0 : Nat) : Int) * 1 = l := by simp
    have a2 : (((b - l).toNat : Nat) : Int) - ((0 : Nat) : Int) = ((b - l).toNat : Int) := by simp
    rw [a1, a2]
    exact Heap.get?_push_size _ rfl
  · intro b hb; rw [List.mem_singleton] at hb; subst hb; exact ⟨_, Heap.get?_push_size _ rfl⟩
  · intro b hb; rw [List.mem_singleton] at hb; subst hb; exact new_of_size k
  · intro i h st b hb; rw [List.mem_singleton] at hb; subst hb; exact ⟨_, st⟩
  · intro i v d ⟨t, hv⟩ hd
    unfold rangeD at hd
    rw [List.getElem?_map] at hd
    obtain ⟨j, hj, rfl⟩ := Option.map_eq_some_iff.mp hd
    have hij : j = i := by
      have := (List.getElem?_eq_some_iff.mp hj)
      obtain ⟨h1, h2⟩ := this
      simpa using h2.symm
    subst hij hv
    rw [Int.mul_one]
    exact rp_int
end Mine
end SVG
section SVH
open PySem PySem.W PyProof.Rows PySem.Calls
namespace Mine
variable {prog : Program} {w : World}
section
variable {W : Wd prog w} {k : Nat} {F : Fn} {n : Nat}
theorem evp_ok (ih : EvAll W k F n) {sc e ρ p env A s X E} (h : evp F (n + 1) sc e ρ = some p) (hA : AOk (k + 1) A) (eo : EnvOk env sc) (hG : W.G s.heap) (hl : Live X s.heap) (S : Sees W X env s.heap ρ) :
    wpAny (model prog w) A (evalPart e env) (fun v s' => IsPart v p ∧ Keeps s s') E s := by
  cases e with
  | none =>
    cases h
    exact wpAny_evalPart_none ⟨.none, kp_refl _⟩
  | some e =>
    replace h : ((ev F n sc e ρ).bind fun a => (asInt a).bind fun i => some (some i)) = some p := h
    obtain ⟨a, h1, h⟩ := bnd h
    obtain ⟨i, h2, h⟩ := bnd h
    obtain rfl := Option.some.inj h
    refine wpAny_evalPart_some (wpk (ih.ev h1 hA eo hG hl S) fun v s₁ q => ?_)
    cases a <;> simp only [asInt, Option.some.injEq, reduceCtorEq] at h2
    subst h2
    have q1 := q.1
    simp only [Rp] at q1
    obtain ⟨t, rfl⟩ := q1
    exact ⟨.int _ t, q.2⟩
theorem tst_ok (ih : EvAll W k F n) {sc e ρ b env A s X E} (h : tst F (n + 1) sc e ρ = some b) (hA : AOk (k + 1) A) (eo : EnvOk env sc) (hG : W.G s.heap) (hl : Live X s.heap) (S : Sees W X env s.heap ρ) :
    wpAny (model prog w) A (isTrue e env (eval e env)) (fun c s' => c = b ∧ Keeps s s') E s := by
  have hc := clsT_of e
  replace h : tstC (ev F n) (tst F n) sc e ρ (clsT e) = some b := h
  generalize clsT e = c at h hc
  cases c with
  | no x =>
    obtain ⟨p, rfl⟩ := hc
    replace h : ((tst F n sc x ρ).bind fun b => some (!b)) = some b := h
    obtain ⟨c, h1, h⟩ := bnd h
    obtain rfl := Option.some.inj h
    exact wpAny_isTrue_Not (wpk (ih.tst h1 hA eo hG hl S) fun c' s' q => ⟨by rw [q.1], q.2⟩)
  | and x y =>
    obtain ⟨p, rfl⟩ := hc
    replace h : ((tst F n sc x ρ).bind fun b => if b then tst F n sc y ρ else some false) = some b := h
    obtain ⟨c, h1, h⟩ := bnd h
    refine wpAny_isTrue_BoolOp (wpAny_allTrue_And_cons (wpk (ih.tst h1 hA eo hG hl S) fun c' s' q => ?_))
    obtain ⟨rfl, q⟩ := q
    cases c'
    · simp only [Bool.false_eq_true, if_false, Option.some.injEq] at h ⊢
      exact ⟨h, q⟩
    · simp only [if_true] at h ⊢
      refine wpAny_allTrue_And_cons (wpk (ih.tst h hA eo (W.keep hG fun _ _ e => kp_get q e) (hl.keeps q) (S.keeps q)) fun c'' s'' q' => ?_)
      obtain ⟨rfl, q'⟩ := q'
      cases c''
      · rw [if_neg Bool.false_ne_true]; exact ⟨rfl, kp_trans q q'⟩
      · rw [if_pos rfl]; exact wpAny_allTrue_And_nil ⟨rfl, kp_trans q q'⟩
  | cmp l op r =>
    obtain ⟨p, rfl⟩ := hc
    replace h : (if behindInMarks op r = true then none else (ev F n sc l ρ).bind fun a => (ev F n sc r ρ).bind fun b => cmpD op a b) = some b := h
    split at h
    · cases h
    · rename_i hm
      obtain ⟨a, h1, h⟩ := bnd h
      obtain ⟨c, h2, h3⟩ := bnd h
      clear h
      refine wpAny_isTrue_Compare1 (wpk (ih.ev h1 hA eo hG hl S) fun v s₁ q => ?_) (by simpa using hm)
      refine wpk (ih.ev h2 hA eo (W.keep hG fun _ _ e => kp_get q.2 e) (hl.keeps q.2) (S.keeps q.2)) fun v' s₂ q' => ?_
      refine wpk (cmp_ok hA h3 (Rp.keeps q'.2 q.1) q'.1) fun c s₃ q'' => ?_
      obtain ⟨rfl, rfl⟩ := q''
      exact wpAny_truthy_bool ⟨rfl, kp_trans q.2 q'.2⟩
  | call =>
    obtain ⟨f, a, kw, p, rfl⟩ := hc
    replace h : ((ev F n sc (.Call f a kw p) ρ).bind fun a => asBool a) = some b := h
    obtain ⟨d, h1, h2⟩ := bnd h
    clear h
    refine wpAny_isTrue_value (wpk (ih.ev h1 hA eo hG hl S) fun v s₁ q => ?_)
    cases d <;> simp only [asBool, Option.some.injEq, reduceCtorEq] at h2
    subst h2
    have q1 := q.1
    simp only [Rp] at q1
    subst q1
    exact wpAny_truthy_bool ⟨rfl, q.2⟩
  | other => cases h
theorem tsts_ok (ih : EvAll W k F n) {sc es ρ b env A s X E} (h : tsts F (n + 1) sc es ρ = some b) (hA : AOk (k + 1) A) (eo : EnvOk env sc) (hG : W.G s.heap) (hl : Live X s.heap) (S : Sees W X env s.heap ρ) :
    wpAny (model prog w) A (forIn es true fun c r => if r = true then do let ok ← isTrue c env (eval c env); pure (ForInStep.yield ok) else pure (ForInStep.yield r)) (fun c s' => c = b ∧ Keeps s s') E s := by
  cases es with
  | nil =>
    cases h
    rw [List.forIn_nil]
    exact wpAny_pure ⟨rfl, kp_refl _⟩
  | cons e r =>
    replace h : ((tst F n sc e ρ).bind fun b => if b then tsts F n sc r ρ else some false) = some b := h
    obtain ⟨c, h1, h⟩ := bnd h
    rw [List.forIn_cons]
    rw [if_pos rfl]
    refine wpAny_bind (wpAny_bind (wpk (ih.tst h1 hA eo hG hl S) fun c' s₁ q => wpAny_pure ?_))
    obtain ⟨rfl, q⟩ := q
    dsimp only
    cases c'
    · simp only [Bool.false_eq_true, if_false, Option.some.injEq] at h
      subst h
      have key : ∀ l : List PySem.Expr, wpAny (model prog w) A (forIn l false fun c r => if r = true then do let ok ← isTrue c env (eval c env); pure (ForInStep.yield ok) else pure (ForInStep.yield r)) (fun c s' => c = false ∧ Keeps s s') E s₁ := by
        intro l
        induction l with
        | nil => rw [List.forIn_nil]; exact wpAny_pure ⟨rfl, q⟩
        | cons x l ihl =>
          rw [List.forIn_cons]
          rw [if_neg Bool.false_ne_true]
          exact wpAny_bind (wpAny_pure ihl)
      exact key r
    · simp only [if_true] at h
      exact wpk (ih.tsts h hA eo (W.keep hG fun _ _ e => kp_get q e) (hl.keeps q) (S.keeps q)) fun c s' q' => ⟨q'.1, kp_trans q q'.2⟩
end
end Mine
end SVH
section SVI
open PySem PySem.W PyProof.Rows PySem.Calls
namespace Mine
variable {prog : Program} {w : World}
section
variable {W : Wd prog w} {k : Nat} {F : Fn} {n : Nat}
structure NmOk (W : Wd prog w) : Prop where
  range : W.nm sRange = some (.type "range")
  list : W.nm sList = some (.type "list")
theorem strsD_vals {X : AS} {h : Heap} : ∀ {ds : List PyData} {xs : List Str} {vs : List Value}, strsD ds = some xs → Rps X h ds vs → ∃ l : List (Str × Tok), strValues l = vs ∧ l.map (·.1) = xs
  | [], is, vs, e, r => by
    simp only [strsD, Option.some.injEq] at e; subst e
    simp only [Rps] at r; subst r; exact ⟨[], rfl, rfl⟩
  | d :: ds, is, vs, e, r => by
    simp only [Rps] at r
    obtain ⟨v, vr, rfl, h1, h2⟩ := r
    cases d <;> simp only [strsD, reduceCtorEq, Option.map_eq_some_iff] at e
    rename_i x
    obtain ⟨js, e1, rfl⟩ := e
    simp only [Rp] at h1
    obtain ⟨t, rfl⟩ := h1
    obtain ⟨l, e2, e3⟩ := strsD_vals e1 h2
    exact ⟨(x, t) :: l, by rw [← e2]; rfl, by simp [e3]⟩
theorem range_ok (N : NmOk W) (ih : EvAll W k F n) {sc es ρ ds env A s X E pos np} {is : List Int} (hg : glob sc sRange = true) (h : evs F n sc es ρ = some ds) (hi : intsD ds = some is) (hlen : is.length = 1 ∨ is.length = 2)
    (hA : AOk (k + 1) A) (eo : EnvOk env sc) (hG : W.G s.heap) (hl : Live X s.heap) (S : Sees W X env s.heap ρ) :
    wpAny (model prog w) A (eval (.Call (.Name sRange np) es [] pos) env) (fun v s' => Keeps s s' ∧ ∃ r l b t u z, v = .ref r ∧ (is = [b] ∧ l = 0 ∨ is = [l, b]) ∧ IsRange s'.heap r l b 1 t u z ∧ s.heap.get? r = none) E s := by
  have hne : es ≠ [] := by
    rintro rfl
    cases n with
    | zero => cases h
    | succ n =>
      cases h
      simp only [intsD, Option.some.injEq] at hi; subst hi
      simp at hlen
  refine wpAny_Call_NameR (ld_glob W eo hg hG N.range ?_)
  refine callW_cal W (.inr (.inl ⟨_, rfl⟩)) hG hne (evs_nostar h) (wpk (ih.evs h hA eo hG hl S) fun vs s₁ q => ⟨q.2, ?_⟩)
  have hI := intsD_rps hi q.1
  have hnew := new_of_size q.2
  rcases hlen with h1 | h1
  · obtain ⟨b, rfl⟩ := List.length_eq_one_iff.mp h1
    cases hI with
    | cons _ t hI =>
      cases hI
      exact PySem.call_range_1 ⟨kp_trans q.2 ⟨_, _, rfl, fun _ _ e => Heap.get?_push_of_some _ e⟩, _, 0, b, _, _, _, rfl, .inl ⟨rfl, rfl⟩, Heap.get?_push_size _ rfl, hnew⟩
  · obtain ⟨l, b, rfl⟩ : ∃ l b, is = [l, b] := by
      match is, h1 with
      | [l, b], _ => exact ⟨l, b, rfl⟩
    cases hI with
    | cons _ t hI =>
      cases hI with
      | cons _ u hI =>
        cases hI
        exact PySem.call_range_2 ⟨kp_trans q.2 ⟨_, _, rfl, fun _ _ e => Heap.get?_push_of_some _ e⟩, _, l, b, _, _, _, rfl, .inr rfl, Heap.get?_push_size _ rfl, hnew⟩
theorem its_ok (N : NmOk W) (ih : EvAll W k F n) {sc e ρ xs env A s X E} (h : its F (n + 1) sc e ρ = some xs) (hA : AOk (k + 1) A) (eo : EnvOk env sc) (hG : W.G s.heap) (hl : Live X s.heap) (S : Sees W X env s.heap ρ) :
    wpAny (model prog w) A (eval e env) (fun v s₁ => wpAny (model prog w) A (pyIter v) (IterEnd prog w A X xs s) E s₁) E s := by
  replace h : itsC (ev F n) (evs F n) sc e ρ = some xs := h
  unfold itsC at h
  split at h
  · rename_i es hr
    obtain ⟨np, p, rfl, hg⟩ := rangeArgs_inv hr
    · ·
        obtain ⟨ds, h1, h⟩ := bnd h
        obtain ⟨is, h2, h⟩ := bnd h
        split at h
        · rename_i b
          split at h
          · rename_i hb
            cases h
            refine wpk (range_ok N ih hg h1 h2 (.inl rfl) hA eo hG hl S) fun v s₁ q => ?_
            obtain ⟨kk, r, l, b', t, u, z, rfl, hc, hr, _⟩ := q
            rcases hc with ⟨hc, rfl⟩ | hc
            · cases hc
              exact iter_range hA.h hr kk (hl.keeps kk) (by omega) (by omega) hb.1 hb.2
            · cases hc
          · cases h
        · rename_i l b
          split at h
          · rename_i hb
            cases h
            refine wpk (range_ok N ih hg h1 h2 (.inr rfl) hA eo hG hl S) fun v s₁ q => ?_
            obtain ⟨kk, r, l', b', t, u, z, rfl, hc, hr, _⟩ := q
            rcases hc with ⟨hc, _⟩ | hc
            · cases hc
            · cases hc
              exact iter_range hA.h hr kk (hl.keeps kk) hb.1 hb.2.1 hb.2.2.1 hb.2.2.2
          · cases h
        · cases h
  · obtain ⟨d, h1, h2⟩ := bnd h
    clear h
    refine wpk (ih.ev h1 hA eo hG hl S) fun v s₁ q => ?_
    unfold itemsD at h2
    split at h2
    · split at h2
      · cases h2
        rename_i hsz; exact iter_list hA.h q.1 q.2 (hl.keeps q.2) hsz
      · cases h2
    · split at h2
      · cases h2
        rename_i hsz; exact iter_str hA.h q.1 q.2 (hl.keeps q.2) hsz
      · cases h2
    · cases h2
end
end Mine
end SVI
section SVJ
open PySem PySem.W PyProof.Rows PySem.Calls
set_option maxRecDepth 20000
namespace Mine
variable {prog : Program} {w : World}
section
variable {W : Wd prog w} {k : Nat} {F : Fn} {n : Nat}
theorem const_ok {c : Const} {d : PyData} {kd : Nat} {p : Pos} {env : Env} {A : Around} {s : Shared} {X : AS} {E : Value → Shared → Prop} (h : constD c = some d) : wpAny (model prog w) A (eval (.Constant c kd p) env) (Gv X s d) E s := by
  unfold constD at h
  split at h
  · cases h; exact wpAny_Constant_int gv_int
  · cases h; exact wpAny_Constant_str ⟨rp_str, kp_tok _ _⟩
  · cases h; exact wpAny_Constant_none ⟨by simp only [Rp], kp_refl _⟩
  · cases h; exact wpAny_Constant_bool ⟨rp_bool, kp_refl _⟩
  · cases h
theorem sub_tail {value slice : Expr} {o i : Value} {T id : String} {A : Around} {s : Shared} {E : Value → Shared → Prop} {Q : Value → Shared → Prop} (hT : s.TypeIs o T) (hl : typeLookup (.type T) "__getitem__" = pure (some (.builtin id)))
    (hg : wpAny (model prog w) A (getItem o i) Q E s) : wpAny (model prog w) A (subscriptTail value slice o i) Q E s := by
  obtain ⟨ops, e⟩ := subs_ops slice o i
  exact tail_any hT hl hg e
theorem idx_type {X : AS} {s : Shared} {a b r : PyData} {v : Value} (h : idxD a b = some r) (ra : Rp X s.heap a v) : ∃ T id, s.TypeIs v T ∧ typeLookup (.type T) "__getitem__" = pure (some (.builtin id)) := by
  unfold idxD at h
  split at h
  · simp only [Rp] at ra
    obtain ⟨x, vs, rfl, _, hl, _⟩ := ra
    exact ⟨"list", _, hl.isList.typeIs, slot_list_getitem.lookup⟩
  · simp only [Rp] at ra
    obtain ⟨x, vs, rfl, _, hl, _⟩ := ra
    exact ⟨"tuple", _, ⟨_, hl.choose_spec, rfl⟩, PySem.F.slot_tuple_getitem.lookup⟩
  · simp only [Rp] at ra
    obtain ⟨t, rfl⟩ := ra
    exact ⟨"str", _, typeIs_str _ _ _, PySem.F.slot_str_getitem.lookup⟩
  · cases h
theorem list_range_ok {A : Around} {X : AS} {s₀ s : Shared} {r : Addr} {b : Int} {t u v : Tok} {E : Value → Shared → Prop} (hh : A.handled = none) (hr : IsRange s.heap r 0 b 1 t u v) (kk : Keeps s₀ s) (hl : Live X s.heap) (h3 : -1000000 ≤ b) (h4 : b ≤ 1000000) :
    wpAny (model prog w) A (call (.type "list") [.ref r]) (Gv X s₀ (.list (rangeD 0 b))) E s := by
  have e : Builtin.Range.rangeSize 0 b 1 = ((b - 0).toNat : Int) := by
    rw [rangeSize_one]; split <;> omega
  refine call_list_range hh hr (small_one (by omega) (by omega) (by omega) (by omega)) e (by omega) fun h' tk acc' c' hk hS hit => ?_
  refine ⟨?_, kp_trans kk ⟨h', tk, rfl, hk⟩⟩
  simp only [Rp]
  refine ⟨_, acc'.toList, rfl, hl.fresh (get_size_none _), ⟨c', by simpa using hS⟩, ?_⟩
  have hlen : acc'.toList.length = (rangeD 0 b).length := by
    unfold rangeD
    simp only [List.length_map, List.length_range]
    simpa using hit.1
  refine Rps.of_get hlen fun i d v e1 e2 => ?_
  unfold rangeD at e1
  rw [List.getElem?_map] at e1
  obtain ⟨j, hj, rfl⟩ := Option.map_eq_some_iff.mp e1
  have hij : j = i := by
    obtain ⟨h1, h2⟩ := List.getElem?_eq_some_iff.mp hj
    simpa using h2.symm
  subst hij
  obtain ⟨t, rfl⟩ := hit.2 j v (by simpa using e2)
  rw [Int.mul_one]
  exact rp_int
theorem callW_builtin {id : String} {first : List Value} {A : Around} {E : Value → Shared → Prop} {s : Shared} {pos : Pos} {env : Env} {args : List Expr} {Q : Value → Shared → Prop} (hne : args ≠ [])
    (hn : ∀ e ∈ args, ∀ v p, e ≠ .Starred v p) (h : wpAny (model prog w) A (spliced (backTo pos (starEach args env))) (fun vs s₁ => wpAny (model prog w) A (call (.builtin id) (first ++ vs)) Q E s₁) E s) :
    wpAny (model prog w) A (callWith pos (.builtin id) first (backTo pos (starEach args env)) []) Q E s :=
  callWith_builtin (any_plain hn) (wpk (args_cal hne hn h) fun a s' q => by rw [q.1]; exact q.2)
theorem len_starEach {env : Env} : ∀ {es : List Expr}, (∀ e ∈ es, ∀ v p, e ≠ .Starred v p) → ∀ pos, (backTo pos (starEach es env)).all (fun x => !x.1) = true
  | [], _, _ => rfl
  | e :: r, h, pos => by
    rw [starEach_plain (h e List.mem_cons_self)]
    exact len_starEach (es := r) (fun e he => h e (List.mem_cons_of_mem _ he)) pos
theorem call_meth {o : Expr} {name : Str} {apos pos : Pos} {args : List Expr} {env : Env} {A : Around} {E : Value → Shared → Prop} {s : Shared} {Q : Value → Shared → Prop} (hbase : attributeBase o name env (eval o env) = eval o env)
    (hn : ∀ e ∈ args, ∀ v p, e ≠ .Starred v p) (hfew : args.length < 30) (hline : (apos.endLine == pos.line) = true)
    (h : wpAny (model prog w) A (eval o env) (fun ov s₁ => ∀ imp : Sem Bool, wpAny (model prog w) A (getMethod ov name imp) (fun r s₂ => wpAny (model prog w) A (callWith pos r.1 r.2 (backTo pos (starEach args env)) []) Q E s₂) E s₁) E s) :
    wpAny (model prog w) A (eval (.Call (.Attribute o name apos) args [] pos) env) Q E s := by
  rw [arm_eval_Call, hbase]
  refine wpAny_bind (wpk h fun ov s₁ h₁ => wpAny_bind (wpAny_standAt ?_))
  have hform : methodCallForm (args.length + ([] : List Keyword).length) (backTo pos (starEach args env)) (backToKw pos (keywordEach [] env)) = true := by
    unfold methodCallForm
    rw [len_starEach hn]
    show (true && true && decide (args.length + 0 + 0 < 30)) = true
    simpa using hfew
  have hpos : methodCallPos true o env apos pos = pure pos := by unfold methodCallPos; simp [hline]
  unfold methodCall
  rw [hform]
  refine wpAny_bind (wpAny_holding ?_)
  unfold calleeOf
  rw [if_pos rfl]
  refine wpk (h₁ _) fun r s₂ h₂ => ?_
  exact wpAny_bind (wpAny_of_eq hpos h₂)
theorem join_ok (ih : EvAll W k F n) {sc x kx px ap e p ρ env A s X E} {xs : List PyData} {ys : List Str} (h1 : ev F n sc e ρ = some (.list xs)) (h3 : strsD xs = some ys) (hj : JoinOk x ys = true) (hline : (ap.endLine == p.line) = true)
    (hA : AOk (k + 1) A) (eo : EnvOk env sc) (hG : W.G s.heap) (hl : Live X s.heap) (S : Sees W X env s.heap ρ) :
    wpAny (model prog w) A (eval (.Call (.Attribute (.Constant (.str x) kx px) sJoin ap) [e] [] p) env) (Gv X s (.str (Txt.join x ys))) E s := by
  have hn1 : ∀ e' ∈ [e], ∀ v p, e' ≠ .Starred v p := fun e' he => by rw [List.mem_singleton] at he; subst he; exact ev_nostar h1
  refine call_meth rfl hn1 (by simp) hline (wpAny_Constant_str fun imp => ?_)
  refine PySem.GM.join ?_
  refine callW_builtin (by simp) hn1 ?_
  have k0 : Keeps s { s with toks := s.toks + 1 } := kp_tok _ _
  refine wpAny_items_cons (wpk (ih.ev h1 hA eo (W.keep hG fun _ _ e => kp_get k0 e) (hl.keeps k0) (S.keeps k0)) fun v s₁ q => wpAny_items_nil ?_) (starEach_plain (ev_nostar h1))
  have q1 := q.1
  simp only [Rp] at q1
  obtain ⟨a, vs, rfl, _, hpl, hr⟩ := q1
  obtain ⟨l, e2, e3⟩ := strsD_vals h3 hr
  refine PySem.SC.join (l := l) (texts := ys) ?_ e3 hj fun t' tk => ⟨rp_str, kp_trans (kp_trans k0 q.2) (kp_tok _ _)⟩
  rw [e2]; exact hpl.isList
theorem meth_cmp_ok (hF : FnOk W k F) (ih : EvAll W k F n) {sc o po ap args p ρ env A s X E} {ks : PyData} {xs : List PyData} {d : PyData} (ho : ρ o = some (.inst ks)) (hlen : args.length = 2) (h1 : evs F n sc args ρ = some xs) (h2 : F sTC (ks :: xs) = some d)
    (hline : (ap.endLine == p.line) = true) (hA : AOk (k + 1) A) (eo : EnvOk env sc) (hG : W.G s.heap) (hl : Live X s.heap) (S : Sees W X env s.heap ρ) :
    wpAny (model prog w) A (eval (.Call (.Attribute (.Name o po) sCompare ap) args [] p) env) (Gv X s d) E s := by
  obtain ⟨hp, v, nv, r⟩ := S.1 _ _ ho
  refine call_meth rfl (evs_nostar h1) (by omega) hline (ld_var eo.kind hp nv fun imp => ?_)
  refine W.meth hG r A E imp _ ?_
  obtain ⟨fo, fd, hfo, hfd⟩ := W.fcAt
  refine callWith_function (o := fo) (fd := fd) (wpk (args_cal (by rintro rfl; simp at hlen) (evs_nostar h1) (ih.evs h1 hA eo hG hl S)) fun a s₁ q => ?_)
  obtain ⟨hk, q1, q2⟩ := q
  refine ⟨⟨hfo _ (W.keep hG fun _ _ e => kp_get q2 e), hfd⟩, ?_⟩
  rw [hk]
  exact wpk (hF.cmp ks xs d h2 A s₁ X v a.pos E (hA.mono (Nat.le_succ _)) (W.keep hG fun _ _ e => kp_get q2 e) (hl.keeps q2) (W.instKeep (fun _ _ hx e => ⟨kp_get q2 e, hx⟩) r) q1) fun v s₂ q' => ⟨q'.1, kp_trans q2 q'.2⟩
theorem meth_low_ok (hF : FnOk W k F) {sc o po ap p ρ env A s X E} {a d : PyData} (ho : ρ o = some (.dat a)) (h2 : F sLower [a] = some d)
    (hline : (ap.endLine == p.line) = true) (hA : AOk (k + 1) A) (eo : EnvOk env sc) (S : Sees W X env s.heap ρ) :
    wpAny (model prog w) A (eval (.Call (.Attribute (.Name o po) sLower ap) [] [] p) env) (Gv X s d) E s := by
  obtain ⟨hp, v, nv, r⟩ := S.1 _ _ ho
  obtain ⟨x, rfl, hok⟩ := hF.low a d h2
  have r' : Rp X s.heap (.str x) v := r
  simp only [Rp] at r'
  obtain ⟨t, rfl⟩ := r'
  refine call_meth rfl (fun e he => by cases he) (by simp) hline (ld_var eo.kind hp nv fun imp => ?_)
  refine PySem.GM.of (.str x t) (typeIs_str _ _ _) PySem.F.slot_str_lower PySem.F.type_str_lower PySem.GM.noRef ?_
  refine callWith_builtin rfl (evalArgs_nil3 ?_)
  exact hok A s X t E (hA.mono (Nat.le_succ _))
theorem meth_get_ok (hF : FnOk W k F) (ih : EvAll W k F n) {sc po ap args p ρ env A s X E} {xs : List PyData} {d : PyData} (hg : glob sc sB3 = true) (hlen : args.length = 1) (h1 : evs F n sc args ρ = some xs) (h2 : F sGetB3 xs = some d)
    (hline : (ap.endLine == p.line) = true) (hA : AOk (k + 1) A) (eo : EnvOk env sc) (hG : W.G s.heap) (hl : Live X s.heap) (S : Sees W X env s.heap ρ) :
    wpAny (model prog w) A (eval (.Call (.Attribute (.Name sB3 po) sGet ap) args [] p) env) (Gv X s d) E s := by
  obtain ⟨r, o, hn, ho, hc, hd, hok⟩ := hF.get xs d h2
  refine call_meth rfl (evs_nostar h1) (by omega) hline (ld_glob W eo hg hG hn fun imp => ?_)
  refine getMethod_builtin (id := "dict.get") ⟨o, ho _ hG, hc⟩ PySem.F.plainAttrs_dict PySem.F.slot_dict_get PySem.F.type_dict_get (fun a e => by cases e; exact ⟨o, ho _ hG, hd⟩) ?_
  refine callW_builtin (by rintro rfl; simp at hlen) (evs_nostar h1) (wpk (ih.evs h1 hA eo hG hl S) fun vs s₁ q => ?_)
  exact wpk (hok A s₁ X vs E (hA.mono (Nat.le_succ _)) (W.keep hG fun _ _ e => kp_get q.2 e) q.1) fun v s₂ q' => ⟨q'.1, kp_trans q.2 q'.2⟩
theorem ev_ok (N : NmOk W) (hF : FnOk W k F) (hC : CompOk W k F n) (ih : EvAll W k F n) {sc e ρ d env A s X E} (h : ev F (n + 1) sc e ρ = some d) (hA : AOk (k + 1) A) (eo : EnvOk env sc) (hG : W.G s.heap) (hl : Live X s.heap) (S : Sees W X env s.heap ρ) :
    wpAny (model prog w) A (eval e env) (Gv X s d) E s := by
  have hA' : AOk k A := hA.mono (Nat.le_succ _)
  have h₀ := h
  have hc := cls_of e
  replace h : evC F (ev F n) (evs F n) (evp F n) (tst F n) (gen F n) (its F n) sc ρ (clsE e) = some d := h
  generalize clsE e = c at h hc
  cases c with
  | const c =>
    obtain ⟨kd, p, rfl⟩ := hc
    exact const_ok h
  | name x =>
    obtain ⟨p, rfl⟩ := hc
    unfold evC at h
    dsimp only at h
    split at h
    · rename_i d' hx
      cases h
      obtain ⟨p, v, nv, r⟩ := S.1 _ _ hx
      exact ld_var eo.kind p nv ⟨r, kp_refl _⟩
    · cases h
  | bin l op r =>
    obtain ⟨p, rfl⟩ := hc
    unfold evC at h
    dsimp only at h
    obtain ⟨a, h1, h⟩ := bnd h
    obtain ⟨b, h2, h3⟩ := bnd h
    clear h
    refine wpAny_BinOp (wpk (ih.ev h1 hA eo hG hl S) fun v s₁ q => ?_)
    refine wpk (ih.ev h2 hA eo (W.keep hG fun _ _ e => kp_get q.2 e) (hl.keeps q.2) (S.keeps q.2)) fun v' s₂ q' => ?_
    exact wpk (bin_ok h3 (Rp.keeps q'.2 q.1) q'.1 ((hl.keeps q.2).keeps q'.2)) fun v s₃ q'' => ⟨q''.1, kp_trans (kp_trans q.2 q'.2) q''.2⟩
  | neg x =>
    obtain ⟨p, rfl⟩ := hc
    unfold evC at h
    dsimp only at h
    obtain ⟨a, h1, h⟩ := bnd h
    obtain ⟨i, h2, h⟩ := bnd h
    obtain rfl := Option.some.inj h
    refine wpAny_UnaryOp (wpk (ih.ev h1 hA eo hG hl S) fun v s₁ q => ?_)
    cases a <;> simp only [asInt, Option.some.injEq, reduceCtorEq] at h2
    subst h2
    exact wpk (neg_ok q.1) fun v s₃ q'' => ⟨q''.1, kp_trans q.2 q''.2⟩
  | attr o m =>
    obtain ⟨q, p, rfl⟩ := hc
    unfold evC at h
    dsimp only at h
    split at h
    · rename_i hm
      subst hm
      split at h
      · rename_i ks ho
        cases h
        obtain ⟨hp, v, nv, r⟩ := S.1 _ _ ho
        refine Attribute_name (ld_var eo.kind hp nv ?_)
        exact W.attr hG r A E _ fun v' r' => ⟨r', kp_tok _ _⟩
      · cases h
    · cases h
  | inB l g =>
    obtain ⟨q, p, rfl⟩ := hc
    unfold evC at h
    dsimp only at h
    split at h
    · rename_i hg
      obtain ⟨rfl, hg⟩ := hg
      obtain ⟨a, h1, h2⟩ := bnd h
      clear h
      obtain ⟨v', hnm, hok⟩ := hF.inset a d h2
      refine wpAny_Compare1 (wpk (ih.ev h1 hA eo hG hl S) fun v s₁ q => ?_) rfl
      have hG' := W.keep hG fun _ _ e => kp_get q.2 e
      refine ld_glob W eo hg hG' hnm ?_
      exact wpk (hok A s₁ X v E hA' hG' q.1) fun v s₂ q' => ⟨q'.1, kp_trans q.2 q'.2⟩
    · cases h
  | cmp l op r =>
    obtain ⟨p, rfl⟩ := hc
    unfold evC at h
    dsimp only at h
    split at h
    · cases h
    · rename_i hm
      obtain ⟨a, h1, h⟩ := bnd h
      obtain ⟨b, h2, h⟩ := bnd h
      obtain ⟨c, h3, h⟩ := bnd h
      obtain rfl := Option.some.inj h
      refine wpAny_Compare1 (wpk (ih.ev h1 hA eo hG hl S) fun v s₁ q => ?_) (by simpa using hm)
      refine wpk (ih.ev h2 hA eo (W.keep hG fun _ _ e => kp_get q.2 e) (hl.keeps q.2) (S.keeps q.2)) fun v' s₂ q' => ?_
      refine wpk (cmp_ok hA h3 (Rp.keeps q'.2 q.1) q'.1) fun v s₃ q'' => ?_
      obtain ⟨rfl, rfl⟩ := q''
      exact ⟨rp_bool, kp_trans q.2 q'.2⟩
  | ifx t b o =>
    obtain ⟨p, rfl⟩ := hc
    unfold evC at h
    dsimp only at h
    obtain ⟨c, h1, h2⟩ := bnd h
    clear h
    refine wpAny_IfExp (wpk (ih.tst h1 hA eo hG hl S) fun c' s₁ q => ?_)
    obtain ⟨rfl, q⟩ := q
    cases c'
    · rw [if_neg Bool.false_ne_true] at h2 ⊢
      exact wpk (ih.ev h2 hA eo (W.keep hG fun _ _ e => kp_get q e) (hl.keeps q) (S.keeps q)) fun v s₂ q' => ⟨q'.1, kp_trans q q'.2⟩
    · rw [if_pos rfl] at h2 ⊢
      exact wpk (ih.ev h2 hA eo (W.keep hG fun _ _ e => kp_get q e) (hl.keeps q) (S.keeps q)) fun v s₂ q' => ⟨q'.1, kp_trans q q'.2⟩
  | list es =>
    obtain ⟨p, rfl⟩ := hc
    unfold evC at h
    dsimp only at h
    obtain ⟨xs, h1, h2⟩ := bnd h
    clear h
    split at h2
    · rename_i hz
      cases h2
      refine wpAny_List (wpk (ih.evs h1 hA eo hG hl S) fun vs s₁ q => ⟨by rw [sizeLine_big, q.1.length]; omega, ?_⟩)
      exact ⟨Rp.newList (hl.keeps q.2) q.1, kp_trans q.2 (kp_push _ _)⟩
    · cases h2
  | tup es =>
    obtain ⟨kd, p, rfl⟩ := hc
    unfold evC at h
    dsimp only at h
    obtain ⟨xs, h1, h2⟩ := bnd h
    clear h
    split at h2
    · rename_i hz
      cases h2
      refine PyProof.Rows.Tuple_ (wpk (ih.evs h1 hA eo hG hl S) fun vs s₁ q => ?_)
      refine wpAny_newObj_type ⟨Rp.newTuple (hl.keeps q.2) q.1, kp_trans q.2 (kp_push _ _)⟩ ?_
      show vs.toArray.size ≤ sizeLine
      rw [List.size_toArray, sizeLine_big, q.1.length]; omega
    · cases h2
  | slice v lo hi st =>
    obtain ⟨q, p, rfl⟩ := hc
    unfold evC at h
    dsimp only at h
    obtain ⟨a, h1, h⟩ := bnd h
    obtain ⟨xs, h2, h⟩ := bnd h
    obtain ⟨lo, h3, h⟩ := bnd h
    obtain ⟨hi, h4, h⟩ := bnd h
    obtain ⟨st, h5, h6⟩ := bnd h
    clear h
    split at h6
    · rename_i hz
      cases h6
      cases a <;> simp only [asList, Option.some.injEq, reduceCtorEq] at h2
      subst h2
      refine PyProof.Rows.Subscript_ (wpk (ih.ev h1 hA eo hG hl S) fun v s₁ q => wpAny_Slice ?_)
      refine wpk (ih.evp h3 hA eo (W.keep hG fun _ _ e => kp_get q.2 e) (hl.keeps q.2) (S.keeps q.2)) fun vl s₂ q2 => ?_
      have k2 := kp_trans q.2 q2.2
      refine wpk (ih.evp h4 hA eo (W.keep hG fun _ _ e => kp_get k2 e) (hl.keeps k2) (S.keeps k2)) fun vu s₃ q3 => ?_
      have k3 := kp_trans k2 q3.2
      refine wpk (ih.evp h5 hA eo (W.keep hG fun _ _ e => kp_get k3 e) (hl.keeps k3) (S.keeps k3)) fun vt s₄ q4 => ?_
      have k4 := kp_trans k3 q4.2
      have kk : Keeps s₁ s₄ := kp_trans (kp_trans q2.2 q3.2) q4.2
      have rl := Rp.keeps (kp_push s₄ ({ cls := .type "slice", data := .fields #[vl, vu, vt] } : Obj)) (Rp.keeps kk q.1)
      simp only [Rp] at rl
      obtain ⟨al, vs, rfl, hx, hpl, hrs⟩ := rl
      refine sub_tail (T := "list") hpl.isList.typeIs slot_list_getitem.lookup ?_
      refine wpk (slice_ok (s := { s₄ with heap := s₄.heap.push ({ cls := .type "slice", data := .fields #[vl, vu, vt] } : Obj) }) ((hl.keeps k4).keeps (kp_push _ _)) hpl hrs hz.1 (Heap.IsSliceOf.new ..) q2.1 q3.1 q4.1 hz.2) fun v s₅ q5 => ?_
      exact ⟨q5.1, kp_trans k4 (kp_trans (kp_push _ _) q5.2)⟩
    · cases h6
  | sub v i =>
    obtain ⟨p, rfl⟩ := hc
    unfold evC at h
    dsimp only at h
    obtain ⟨a, h1, h⟩ := bnd h
    obtain ⟨b, h2, h3⟩ := bnd h
    clear h
    refine PyProof.Rows.Subscript_ (wpk (ih.ev h1 hA eo hG hl S) fun v s₁ q => ?_)
    refine wpk (ih.ev h2 hA eo (W.keep hG fun _ _ e => kp_get q.2 e) (hl.keeps q.2) (S.keeps q.2)) fun v' s₂ q' => ?_
    obtain ⟨T, id, hT, hlk⟩ := idx_type h3 (Rp.keeps q'.2 q.1)
    refine sub_tail hT hlk ?_
    exact wpk (getItem_ok h3 (Rp.keeps q'.2 q.1) q'.1) fun v s₃ q'' => ⟨q''.1, kp_trans (kp_trans q.2 q'.2) q''.2⟩
  | call f args =>
    obtain ⟨q, p, rfl⟩ := hc
    unfold evC at h
    dsimp only at h
    split at h
    · rename_i hg
      split at h
      · cases h
      · rename_i hff
        obtain ⟨xs, h1, h2⟩ := bnd h
        clear h
        obtain ⟨fv, hn, hcal, hok⟩ := hF.fn f xs d h2 (fun e => hff (.inl e)) (fun e => hff (.inr (.inl e))) (fun e => hff (.inr (.inr (.inl e)))) (fun e => hff (.inr (.inr (.inr (.inl e)))))
        have hne : args ≠ [] := by
          rintro rfl
          cases n with
          | zero => cases h1
          | succ n =>
            cases h1
            rw [hF.ne] at h2; cases h2
        refine wpAny_Call_NameR (ld_glob W eo hg hG hn ?_)
        refine callW_cal W hcal hG hne (evs_nostar h1) (wpk (ih.evs h1 hA eo hG hl S) fun vs s₁ q => ⟨q.2, ?_⟩)
        exact wpk (hok A s₁ X vs E hA' (W.keep hG fun _ _ e => kp_get q.2 e) (hl.keeps q.2) q.1) fun v s₂ q' => ⟨q'.1, kp_trans q.2 q'.2⟩
    · cases h
  | join x m e ln =>
    obtain ⟨kd, q, ap, p, rfl, rfl⟩ := hc
    unfold evC at h
    dsimp only at h
    split at h
    · rename_i hm
      obtain ⟨rfl, hline⟩ := hm
      obtain ⟨a, h1, h⟩ := bnd h
      obtain ⟨xs, h2, h⟩ := bnd h
      obtain ⟨ys, h3, h4⟩ := bnd h
      clear h
      split at h4
      · rename_i hj
        cases h4
        cases a <;> simp only [asList, Option.some.injEq, reduceCtorEq] at h2
        subst h2
        exact join_ok ih h1 h3 hj hline hA eo hG hl S
      · cases h4
    · cases h
  | meth o m args ln =>
    obtain ⟨q, ap, p, rfl, rfl⟩ := hc
    unfold evC at h
    dsimp only at h
    split at h
    · rename_i hline
      split at h
      · rename_i ks ho
        split at h
        · rename_i hm
          obtain ⟨rfl, hlen⟩ := hm
          obtain ⟨xs, h1, h2⟩ := bnd h
          clear h
          exact meth_cmp_ok hF ih ho hlen h1 h2 hline hA eo hG hl S
        · cases h
      · rename_i a ho
        split at h
        · rename_i hm
          obtain ⟨rfl, rfl⟩ := hm
          exact meth_low_ok hF ho h hline hA eo S
        · cases h
      · cases h
      · split at h
        · rename_i hm
          obtain ⟨rfl, rfl, hg, hlen⟩ := hm
          obtain ⟨xs, h1, h2⟩ := bnd h
          clear h
          exact meth_get_ok hF ih hg hlen h1 h2 hline hA eo hG hl S
        · cases h
    · cases h
  | comp elt gens isc =>
    obtain ⟨p, rfl⟩ := hc
    cases gens with
    | nil => cases h
    | cons g gs => exact hC ih h₀ hA eo hG hl S
  | other => cases h
end
end Mine
end SVJ
section SVK
open PySem PySem.W PyProof.Rows PySem.Calls
namespace Mine
variable {prog : Program} {w : World}
theorem Fm.sub {W : Wd prog w} {Y : AS} {h₀ : Heap} {env : Env} {Ow : AS} {ρ ρ' : Ro} {s : Shared} (f : Fm W Y h₀ env Ow ρ' s) (h : ∀ x r, ρ x = some r → ρ' x = some r) : Fm W Y h₀ env Ow ρ s :=
  ⟨f.own, f.new, f.ns, f.cell, fun x r hx => f.sees x r (h x r hx), f.live, f.g, f.base⟩
theorem bindN_bindT {sc : Scope} {ρ ρ' : Ro} {tg : Expr} {d : PyData} (h : bindN sc ρ tg d = some ρ') : bindT sc ρ tg d = some ρ' := by
  unfold bindN at h
  split at h
  · exact h
  · cases h
theorem bindN_sub {sc : Scope} {ρ ρ' : Ro} {tg : Expr} {d : PyData} (h : bindN sc ρ tg d = some ρ') : ∀ x r, ρ x = some r → ρ' x = some r := by
  unfold bindN at h
  split at h
  · rename_i hf
    intro z r hz
    rcases bindT_inv h with ⟨x, p, rfl, _, rfl⟩ | ⟨x, px, y, py, x1, pt, a, b, rfl, rfl, _, rfl⟩
    · replace hf : (ρ x).isNone = true := hf
      unfold put
      split
      · rename_i e
        subst e
        rw [hz] at hf; cases hf
      · exact hz
    · replace hf : ((ρ x).isNone && (ρ y).isNone && decide (x ≠ y)) = true := hf
      simp only [Bool.and_eq_true] at hf
      unfold put
      split
      · rename_i e
        subst e
        rw [hz] at hf; cases hf.1.2
      · split
        · rename_i e
          subst e
          rw [hz] at hf; cases hf.1.1
        · exact hz
  · cases h
theorem go_target {sc : Scope} {ρ ρ' : Ro} {tg : Expr} {d : PyData} {v : Value} {A : Around} {Y X : AS} {h h₀ : Heap} {xs : List PyData} {i : Nat} {s₂ s : Shared} {I : Addr} {fp wr : List Addr} {P : Nat → Value → Prop} {St : Nat → Heap → Prop} {E : Value → Shared → Prop} {Q : Unit → Shared → Prop}
    (io : ItOk prog w A Y h₀ xs I fp wr P St s₂) (hb : bindT sc ρ tg d = some ρ') (hd : xs[i]? = some d) (r : Rp X h d v) {j : Nat} (st : St j s.heap) (hQ : Q () s) : wpAny (model prog w) A (letOwnedTupleGo tg (.ref I) v) Q E s := by
  rcases bindT_inv hb with ⟨x, p, rfl, _, rfl⟩ | ⟨x, px, y, py, x1, pt, a, b, rfl, rfl, _, rfl⟩
  · exact wpAny_of_eq (a := ()) rfl hQ
  · simp only [Rp] at r
    obtain ⟨T, vs, rfl, _⟩ := r
    exact io.go _ _ _ _ _ _ _ _ _ _ hd st hQ
theorem ItOk.of {A : Around} {Y : AS} {h₀ : Heap} {xs : List PyData} {s₀ s : Shared} {I : Addr} {fp wr : List Addr} {P : Nat → Value → Prop} {St : Nat → Heap → Prop} (io : IterOk prog w A Y xs s₀ I fp wr P St s) (hl : Live Y s₀.heap) (hb : ∀ b o, h₀.get? b = some o → s₀.heap.get? b = some o) : ItOk prog w A Y h₀ xs I fp wr P St s where
  W := io.W
  st := io.st
  nY := fun b hb hy => by
    obtain ⟨o, e⟩ := hl b hy
    rw [io.new b hb] at e; cases e
  n0 := fun b hw => by
    cases e : h₀.get? b with
    | none => rfl
    | some o => have := hb b o e; rw [io.new b hw] at this; cases this
  lives := io.lives
  item := io.item
  off := io.off
  go := io.go
theorem its_noset {F : Fn} {n : Nat} {sc : Scope} {e : Expr} {ρ : Ro} {xs : List PyData} (h : its F n sc e ρ = some xs) (env : Env) (x : Value) : foldedSetIterable e env x = pure x := by
  cases e <;> first
    | rfl
    | (exfalso
       cases n with
       | zero => cases h
       | succ n => cases n <;> cases h)
end Mine
end SVK
section SVL
open PySem PySem.W PyProof.Rows PySem.Calls
namespace Mine
variable {prog : Program} {w : World}
noncomputable def turnG (F : Fn) (n : Nat) (isc : Scope) (elt : Expr) (g : Comprehension) (gs : List Comprehension) (ρ : Ro) (v : PyData) : Option (List PyData) := do
  let ρ' ← bindN isc ρ g.target v
  let b ← tsts F n isc g.ifs ρ'
  if b then
    match gs with
    | [] => do
      let y ← ev F n isc elt ρ'
      some [y]
    | g' :: _ => do
      let xs' ← its F n isc g'.iter ρ'
      gen F n isc elt gs ρ' xs'
  else some []
theorem gen_eq {F : Fn} {n : Nat} {isc : Scope} {elt : Expr} {g : Comprehension} {gs : List Comprehension} {ρ : Ro} {xs : List PyData} : gen F (n + 1) isc elt (g :: gs) ρ xs = catL (turnG F n isc elt g gs ρ) xs := by
  rfl
theorem gen_ok {W : Wd prog w} {k : Nat} {F : Fn} {n : Nat} (ih : EvAll W k F n) : GenOk W k F (n + 1) := by
  intro isc elt gens pos j g ρ xs ds cenv Ow A Y h₀ s D es ys I fp wr P St R hg ha hgen hA fe fmZ fmo hYD hOD h0D hacc hes hlen it hR
  have hjl : j < gens.length := (List.getElem?_eq_some_iff.mp hg).1
  have hdrop : gens.drop j = g :: gens.drop (j + 1) := by
    rw [List.drop_eq_getElem_cons hjl]
    congr 1
    rw [List.getElem?_eq_getElem hjl] at hg; cases hg; rfl
  rw [hdrop, gen_eq] at hgen
  have wrOwn : ∀ b ∈ wr, ¬ Ow b := fun b hb hO => it.nY b hb (fmo b hO)
  let Z : AS := fun b => Y b ∨ b ∈ wr
  have weak : ∀ {ρ' : Ro} {s' : Shared}, Fm W Z h₀ cenv Ow ρ' s' → Fm W Y h₀ cenv Ow ρ' s' := fun f' =>
    f'.move (fun b o _ e => e) fe.ol (fun b o hb _ hy => hb (.inl hy)) fmo fun a ha => f'.live a (.inl ha)
  refine compLoop_rule hg ha (fun q s' => ∃ i done rest ys', i ≤ xs.length ∧ q = xs.length + 1 - i ∧ St i s'.heap ∧ ds = done ++ rest ∧ catL (turnG F n isc elt g (gens.drop (j + 1)) ρ) (xs.drop i) = some rest ∧ Fm W Z h₀ cenv Ow ρ s' ∧ s'.heap.PlainList D (List.toArray ys') ∧ Rps Z s'.heap (es ++ done) ys' ∧
      (∃ h tk, s' = { s with heap := h, toks := tk }) ∧ (∀ b o, ¬ Ow b → b ≠ D → b ∉ wr → s.heap.get? b = some o → s'.heap.get? b = some o)) ?_ (xs.length + 1)
    ⟨0, [], ds, ys, Nat.zero_le _, rfl, it.st, rfl, by simpa using hgen, ?_, hacc, ?_, ⟨_, _, rfl⟩, fun b o _ _ _ e => e⟩
  · rintro q s' ⟨i, done, rest, ys', hi, rfl, hst, hds, hcat, fi, hD', hr', ⟨H, tk, rfl⟩, hk⟩
    by_cases hlt : i < xs.length
    · obtain ⟨d, hd⟩ : ∃ d, xs[i]? = some d := ⟨_, List.getElem?_eq_getElem hlt⟩
      have hxd : xs.drop i = d :: xs.drop (i + 1) := by
        rw [List.drop_eq_getElem_cons hlt]
        congr 1
        rw [List.getElem?_eq_getElem hlt] at hd; cases hd; rfl
      rw [hxd] at hcat
      simp only [catL, Option.bind_eq_bind, Option.bind_eq_some_iff, Option.some.injEq] at hcat
      obtain ⟨y, hy, rest', hcat', rfl⟩ := hcat
      refine it.W.item i _ _ _ hlt hst fun v h₁ tk₁ hPv hst₁ hk₁ => ?_
      have f1 : Fm W Z h₀ cenv Ow ρ { s with heap := h₁, toks := tk₁ } := fi.move (fun b o hc e => hk₁ b o (fun hb => by
          rcases hc with hc | hc | hc
          · exact hc (.inr hb)
          · exact wrOwn b hb hc
          · rw [it.n0 b hb] at hc; cases hc) e) fe.ol (fun b o hb _ => hb) fi.own (fun a ha => by
          by_cases hw : a ∈ wr
          · exact it.lives _ _ hst₁ a hw
          · obtain ⟨o, e⟩ := fi.live a ha
            exact ⟨o, hk₁ a o hw e⟩)
      have rv : Rp Z h₁ d v := Rp.keep (fun b o hb e => ⟨hk₁ b o (fun h => hb (.inr h)) (hk b o (fun h => hb (.inl (fmo b h))) (fun h => hb (.inl (h ▸ hYD))) (fun h => hb (.inr h)) e), hb⟩) (it.item i v d hPv hd)
      have hD₁ : h₁.PlainList D (List.toArray ys') := hD'.at fun o e => hk₁ D o (fun h => it.nY D h hYD) e
      have hr₁ : Rps Z h₁ (es ++ done) ys' := Rps.keep (fun b o hb e => ⟨hk₁ b o (fun h => hb (.inr h)) e, hb⟩) hr'
      unfold turnG at hy
      obtain ⟨ρ', hbn, hy⟩ := bnd hy
      obtain ⟨b, htst, hy⟩ := bnd hy
      have hbt := bindN_bindT hbn
      have hsub := bindN_sub hbn
      refine go_target it hbt hd rv hst₁ ?_
      refine wpk (bind_target (W := W) hA.h hbt fe f1 rv) fun _ s₃ q₃ => ?_
      obtain ⟨f3, sk3, off3⟩ := q₃
      refine wpk (ih.tsts htst hA fe.eo f3.G f3.live f3.see) fun ok s₄ q₄ => ?_
      obtain ⟨rfl, k₄⟩ := q₄
      have sk4 := sk_trans sk3 (sk_of k₄)
      have f4 := f3.keeps k₄
      have hD₄ : s₄.heap.PlainList D (List.toArray ys') := hD₁.at fun o e => sk4.2 D o hOD e
      have hr₄ : Rps Z s₄.heap (es ++ done) ys' := Rps.keep (fun b o hb e => ⟨sk4.2 b o (fun h => hb (.inl (fmo b h))) e, hb⟩) hr₁
      have hst₄ : St (i + 1) s₄.heap := it.W.frame _ _ _ hst₁ fun b hb o e => sk4.2 b o (fun h => it.off b hb (fmo b h)) e
      have hk4 : ∀ b o, ¬ Ow b → b ≠ D → b ∉ wr → s.heap.get? b = some o → s₄.heap.get? b = some o := fun b o hO hD hw e => sk4.2 b o hO (hk₁ b o hw (hk b o hO hD hw e))
      obtain ⟨⟨h₄, t₄, rfl⟩, kk4⟩ := sk4
      cases ok with
      | false =>
        simp only [Bool.false_eq_true, if_false, Option.some.injEq] at hy ⊢
        subst hy
        exact ⟨xs.length + 1 - (i + 1), by omega, i + 1, done, rest', ys', hlt, rfl, hst₄, by simpa using hds, hcat', f4.sub hsub, hD₄, hr₄, ⟨_, _, rfl⟩, hk4⟩
      | true =>
        simp only [if_true] at hy ⊢
        unfold emitG
        cases hgs : gens[j + 1]? with
        | none =>
          have hd1 : gens.drop (j + 1) = [] := List.drop_eq_nil_of_le (by
            rcases Nat.lt_or_ge (j + 1) gens.length with h | h
            · rw [List.getElem?_eq_getElem h] at hgs; cases hgs
            · exact h)
          rw [hd1] at hy
          obtain ⟨y', hev, hy⟩ := bnd hy
          obtain rfl := Option.some.inj hy
          refine wpAny_bind (wpk (ih.ev hev hA fe.eo f4.G f4.live f4.see) fun yv s₅ q₅ => ?_)
          obtain ⟨ry, k₅⟩ := q₅
          have f5 := f4.keeps k₅
          have hr₅ := Rps.keeps k₅ hr₄
          have hst₅ : St (i + 1) s₅.heap := it.W.frame _ _ _ hst₄ fun b hb o e => kp_get k₅ e
          have hD₅ : s₅.heap.PlainList D (List.toArray ys') := hD₄.at fun o e => kp_get k₅ e
          have hk5 : ∀ b o, ¬ Ow b → b ≠ D → b ∉ wr → s.heap.get? b = some o → s₅.heap.get? b = some o := fun b o h1 h2 h3 e => kp_get k₅ (hk4 b o h1 h2 h3 e)
          have hsz : (List.toArray ys').size ≤ sizeLine := by
            rw [List.size_toArray, hr₅.length, sizeLine_big, List.length_append]
            have := congrArg List.length hds
            rw [List.length_append] at this
            omega
          obtain ⟨h₅, t₅, rfl, kk₅⟩ := k₅
          refine wpAny_bind (wpAny_list_append_plain (hsz := hsz) hD₅ fun h₆ hl₆ hs₆ => wpAny_pure ?_)
          have keep6 : ∀ b o, b ≠ D → h₅.get? b = some o → h₆.get? b = some o := fun b o hb e => hs₆.extBut b o hb e
          refine ⟨xs.length + 1 - (i + 1), by omega, i + 1, done ++ [y'], rest', ys' ++ [yv], hlt, rfl, it.W.frame _ _ _ hst₅ fun b hb o e => keep6 b o (fun h => it.off b hb (h ▸ hYD)) e, by rw [hds]; simp, hcat', ?_, by simpa using hl₆, ?_, ⟨_, _, rfl⟩, fun b o h1 h2 h3 e => keep6 b o h2 (hk5 b o h1 h2 h3 e)⟩
          · refine (f5.sub hsub).move (fun b o hc e => keep6 b o (fun h => ?_) e) fe.ol (fun b o hb _ => hb) (f5.own) (fun a ha => ?_)
            · subst h
              rcases hc with hc | hc | hc
              · exact hc (.inl hYD)
              · exact hOD hc
              · rw [h0D] at hc; cases hc
            · by_cases hb : a = D
              · subst hb; obtain ⟨_, e⟩ := hl₆; exact ⟨_, e⟩
              · obtain ⟨o, e⟩ := f5.live a ha
                exact ⟨o, keep6 a o hb e⟩
          · rw [← List.append_assoc]
            have r6 : Rps Z h₅ (es ++ done ++ [y']) (ys' ++ [yv]) := hr₅.append (by simp only [Rps]; exact ⟨yv, [], rfl, ry, rfl⟩)
            exact Rps.keep (fun b o hb e => ⟨keep6 b o (fun h => hb (.inl (h ▸ hYD))) e, hb⟩) r6
        | some g' =>
          have hjl' : j + 1 < gens.length := (List.getElem?_eq_some_iff.mp hgs).1
          have hdrop' : gens.drop (j + 1) = g' :: gens.drop (j + 1 + 1) := by
            rw [List.drop_eq_getElem_cons hjl']
            congr 1
            rw [List.getElem?_eq_getElem hjl'] at hgs; cases hgs; rfl
          have hy2 : (its F n isc g'.iter ρ').bind (fun xs' => gen F n isc elt (gens.drop (j + 1)) ρ' xs') = some y := by
            rw [hdrop'] at hy ⊢
            exact hy
          obtain ⟨xs', hits, hgen'⟩ := Option.bind_eq_some_iff.mp hy2
          refine wpAny_bind (wpk (ih.its hits hA fe.eo f4.G f4.live f4.see) fun xv s₅ h₅ => wpAny_bind (wpAny_standAt (wpAny_bind (wpAny_of_eq (its_noset hits cenv xv) (wpAny_bind (wpAny_holding (wpk h₅ fun itv s₆ h₆ => ?_)))))))
          obtain ⟨I', fp', wr', P', St', rfl, io⟩ := h₆
          have k6 := io.k
          have new' : ∀ b o, h₄.get? b = some o → b ∉ wr' := fun b o e hb => by
            have := io.new b hb
            rw [show ({ s with heap := h₄, toks := t₄ } : Shared).heap = h₄ from rfl, e] at this; cases this
          have f6 : Fm W (fun b => Z b ∨ b ∈ wr') h₀ cenv Ow ρ' s₆ := f4.move (fun b o _ e => kp_get k6 e) fe.ol (fun b o hb e h => by
              rcases h with h | h
              · exact hb h
              · exact new' b o e h) (fun b hb => .inl (f4.own b hb)) (fun a ha => by
              rcases ha with ha | ha
              · exact f4.live.keeps k6 a ha
              · exact io.lives _ _ io.st a ha)
          have hr6 : Rps (fun b => Z b ∨ b ∈ wr') s₆.heap (es ++ done) ys' := Rps.keep (fun b o hb e => ⟨kp_get k6 e, fun h => by
              rcases h with h | h
              · exact hb h
              · exact new' b o e h⟩) hr₄
          have hlen' : (es ++ done).length + y.length ≤ 1000000 := by
            have := congrArg List.length hds
            rw [List.length_append, List.length_append] at this
            rw [List.length_append]; omega
          have loop : ∀ (Q' : Flow → Shared → Prop) (E' : Value → Shared → Prop), (∀ s' ys'', Fm W Z h₀ cenv Ow ρ' s' → s'.heap.PlainList D (List.toArray ys'') → Rps Z s'.heap (es ++ done ++ y) ys'' → (∃ h tk, s' = { s₆ with heap := h, toks := tk }) →
              (∀ b o, ¬ Ow b → b ≠ D → b ∉ wr' → s₆.heap.get? b = some o → s'.heap.get? b = some o) → Q' .next s') →
              codeAny (model prog w) A (.compLoop (.ListComp elt gens isc pos) (j + 1) (.ref I') (.ref D) cenv) (fun r s' => match r with | .ok f => Q' f s' | .error e => E' e s') s₆ := fun Q' E' hq =>
            ih.gen hgs ha hgen' hA fe f6 (fun b hb => .inl (fmo b hb)) (.inl hYD) hOD h0D (hD₄.at fun o e => kp_get k6 e) hr6 hlen' (ItOk.of io f4.live f4.base) hq
          refine wpAny_bind (wpAny_runOwn (h := none) ?_)
          have fin : ∀ s' ys'', Fm W Z h₀ cenv Ow ρ' s' → s'.heap.PlainList D (List.toArray ys'') → Rps Z s'.heap (es ++ done ++ y) ys'' → (∃ h tk, s' = { s₆ with heap := h, toks := tk }) →
              (∀ b o, ¬ Ow b → b ≠ D → b ∉ wr' → s₆.heap.get? b = some o → s'.heap.get? b = some o) → ∃ m, m < xs.length + 1 - i ∧ ∃ i done rest ys', i ≤ xs.length ∧ m = xs.length + 1 - i ∧ St i s'.heap ∧ ds = done ++ rest ∧ catL (turnG F n isc elt g (gens.drop (j + 1)) ρ) (xs.drop i) = some rest ∧ Fm W Z h₀ cenv Ow ρ s' ∧ s'.heap.PlainList D (List.toArray ys') ∧ Rps Z s'.heap (es ++ done) ys' ∧
                (∃ h tk, s' = { s with heap := h, toks := tk }) ∧ (∀ b o, ¬ Ow b → b ≠ D → b ∉ wr → s.heap.get? b = some o → s'.heap.get? b = some o) := fun s' ys'' g1 g2 g3 g4 g5 => by
            have kp : ∀ b o, ¬ Ow b → b ≠ D → h₄.get? b = some o → s'.heap.get? b = some o := fun b o h1 h2 e => g5 b o h1 h2 (new' b o e) (kp_get k6 e)
            refine ⟨xs.length + 1 - (i + 1), by omega, i + 1, done ++ y, rest', ys'', hlt, rfl, it.W.frame _ _ _ hst₄ fun b hb o e => kp b o (fun h => it.off b hb (fmo b h)) (fun h => it.off b hb (h ▸ hYD)) e, by rw [hds]; simp, hcat', g1.sub hsub, g2, by rw [← List.append_assoc]; exact g3, ?_, fun b o h1 h2 h3 e => kp b o h1 h2 (hk4 b o h1 h2 h3 e)⟩
            obtain ⟨h7, t7, rfl⟩ := g4
            obtain ⟨h6, t6, e6, _⟩ := id k6
            exact ⟨h7, t7, by rw [e6]⟩
          have hloop := loop (fun f s' => wpAny (model prog w) A (pure ()) (fun _ s₅ => ∃ m, m < xs.length + 1 - i ∧ ∃ i done rest ys', i ≤ xs.length ∧ m = xs.length + 1 - i ∧ St i s₅.heap ∧ ds = done ++ rest ∧ catL (turnG F n isc elt g (gens.drop (j + 1)) ρ) (xs.drop i) = some rest ∧ Fm W Z h₀ cenv Ow ρ s₅ ∧ s₅.heap.PlainList D (List.toArray ys') ∧ Rps Z s₅.heap (es ++ done) ys' ∧
                (∃ h tk, s₅ = { s with heap := h, toks := tk }) ∧ (∀ b o, ¬ Ow b → b ≠ D → b ∉ wr → s.heap.get? b = some o → s₅.heap.get? b = some o)) (notedBy (model prog w) A cenv fun e s' => R (.error e) s') s')
            (fun e s' => cameBackBy (model prog w) A cenv (notedBy (model prog w) A cenv fun e s' => R (.error e) s') e s') (fun s' ys'' g1 g2 g3 g4 g5 => wpAny_pure (fin s' ys'' g1 g2 g3 g4 g5))
          exact compStart_rule hgs (ha g' (List.mem_of_getElem? hgs)) hloop (io.W.self 0 _ _ _ io.st hloop)
    · have hin : i = xs.length := by omega
      subst hin
      rw [List.drop_of_length_le (Nat.le_refl _)] at hcat
      simp only [catL, Option.some.injEq] at hcat
      subst hcat
      rw [List.append_nil] at hds
      subst hds
      refine it.W.done _ _ _ hst fun h₁ tk₁ hk₁ => ?_
      refine hR _ ys' (fi.move (fun b o hc e => hk₁ b o (fun hb => by
          rcases hc with hc | hc | hc
          · exact hc (.inr hb)
          · exact wrOwn b hb hc
          · rw [it.n0 b hb] at hc; cases hc) e) fe.ol (fun b o hb _ hy => hb (.inl hy)) fmo (fun a ha => ?_)) (hD'.at fun o e => hk₁ D o (fun h => it.nY D h hYD) e) (Rps.keep (fun b o hb e => ⟨hk₁ b o (fun h => hb (.inr h)) e, fun hy => hb (.inl hy)⟩) hr') ⟨_, _, rfl⟩ fun b o hO hD hw e => hk₁ b o hw (hk b o hO hD hw e)
      obtain ⟨o, e⟩ := fi.live a (.inl ha)
      exact ⟨o, hk₁ a o (fun hb => it.nY a hb ha) e⟩
  · exact fmZ
  · simpa using hes
end Mine
end SVL
section SVN
open PySem PySem.W PyProof.Rows PySem.Calls
namespace Mine
variable {prog : Program} {w : World}
theorem lookup_mem {β : Type} : ∀ {l : List (Str × β)} {a : Str} {b : β}, l.lookup a = some b → (a, b) ∈ l := PySem.mem_of_lookup_some
theorem lookup_some {β : Type} : ∀ {l : List (Str × β)} {a : Str} {b : β}, (a, b) ∈ l → ∃ c, l.lookup a = some c
  | (k, v) :: l, a, b, h => by
    rw [List.lookup_cons]
    split
    · exact ⟨_, rfl⟩
    · rename_i hk
      rcases List.mem_cons.mp h with h | h
      · cases h; simp at hk
      · exact lookup_some h
structure Fit (sc isc : Scope) : Prop where
  kind : isc.kind = .function
  loc : ∀ y ∈ isc.names, y.2 = .local → isc.names.lookup y.1 = some .local
  cel : ∀ y ∈ isc.names, y.2 = .cell → isc.names.lookup y.1 = some .cell
  fre : ∀ y ∈ isc.names, y.2 = .free → isc.names.lookup y.1 = some .free
  free : ∀ y ∈ isc.names, y.2 = .free → sc.names.lookup y.1 = some .cell ∨ sc.names.lookup y.1 = some .free
  plain : ∀ y ∈ isc.names, plainName y.1
theorem Fit.of {sc isc : Scope} (h : compFit sc isc = true) : Fit sc isc := by
  unfold compFit at h
  simp only [Bool.and_eq_true, List.all_eq_true, decide_eq_true_eq, Bool.or_eq_true, plainB_iff] at h
  obtain ⟨h1, h4⟩ := h
  exact ⟨h1, fun y hy e => ((h4 y hy).1.1.1).resolve_left fun h => h e, fun y hy e => ((h4 y hy).1.1.2).resolve_left fun h => h e, fun y hy e => (((h4 y hy).1.2).resolve_left fun h => h e).1, fun y hy e => (((h4 y hy).1.2).resolve_left fun h => h e).2, fun y hy => (h4 y hy).2⟩
noncomputable def cloAll (env : Env) : List (Str × NameKind) → List (Str × Addr) → List (Str × Addr)
  | [], cs => cs
  | (n, k) :: r, cs => if k = .free then (match env.cells.lookup n with | some c => cloAll env r ((n, c) :: cs) | none => cloAll env r cs) else cloAll env r cs
theorem clo_eq {env : Env} : ∀ (l : List (Str × NameKind)) (cs : List (Str × Addr)), (∀ y ∈ l, y.2 = .free → ∃ c, env.cells.lookup y.1 = some c) →
    (forIn l cs fun x cs => (match x with | (name, kind) => if (kind == .free) = true then do let c ← cellOf env name; pure (ForInStep.yield ((name, c) :: cs)) else pure (ForInStep.yield cs) : Sem (ForInStep (List (Str × Addr))))) = pure (cloAll env l cs)
  | [], cs, _ => rfl
  | (n, k) :: r, cs, h => by
    rw [List.forIn_cons]
    have hr : ∀ y ∈ r, y.2 = .free → ∃ c, env.cells.lookup y.1 = some c := fun y hy => h y (List.mem_cons_of_mem _ hy)
    by_cases hk : k = .free
    · subst hk
      obtain ⟨c, hc⟩ := h (n, .free) List.mem_cons_self rfl
      have e : cellOf env n = pure c := by unfold cellOf; simp only at hc; rw [hc]
      simp only [beq_self_eq_true, if_true, e, pure_bind]
      rw [clo_eq r _ hr]
      simp only at hc
      conv => rhs; unfold cloAll
      simp only [if_true, hc]
    · have hb : (k == NameKind.free) = false := by simpa using hk
      simp only [hb, Bool.false_eq_true, if_false, pure_bind]
      rw [clo_eq r _ hr]
      conv => rhs; unfold cloAll
      simp only [hk, if_false]
theorem closure_eq {env : Env} {isc : Scope} (h : ∀ y ∈ isc.names, y.2 = .free → ∃ c, env.cells.lookup y.1 = some c) : closureFor isc env = pure (cloAll env isc.names []) := by
  unfold closureFor
  rw [← clo_eq isc.names [] h]
  simp only [bind_pure]
theorem cloAll_sound {env : Env} : ∀ (l : List (Str × NameKind)) (cs : List (Str × Addr)), (∀ n c, (n, c) ∈ cs → env.cells.lookup n = some c) → ∀ n c, (n, c) ∈ cloAll env l cs → env.cells.lookup n = some c
  | [], cs, h => h
  | (n, k) :: r, cs, h => by
    unfold cloAll
    split
    · split
      · rename_i c hc
        refine cloAll_sound r _ fun n' c' hm => ?_
        rcases List.mem_cons.mp hm with hm | hm
        · cases hm; exact hc
        · exact h _ _ hm
      · exact cloAll_sound r _ h
    · exact cloAll_sound r _ h
theorem cloAll_more {env : Env} : ∀ (l : List (Str × NameKind)) (cs : List (Str × Addr)) (x : Str × Addr), x ∈ cs → x ∈ cloAll env l cs
  | [], cs, x, h => h
  | (n, k) :: r, cs, x, h => by
    unfold cloAll
    split
    · split
      · exact cloAll_more r _ x (List.mem_cons_of_mem _ h)
      · exact cloAll_more r _ x h
    · exact cloAll_more r _ x h
theorem cloAll_has {env : Env} : ∀ (l : List (Str × NameKind)) (cs : List (Str × Addr)) (n : Str) (c : Addr), (n, NameKind.free) ∈ l → env.cells.lookup n = some c → (n, c) ∈ cloAll env l cs
  | (n', k) :: r, cs, n, c, h, hc => by
    unfold cloAll
    rcases List.mem_cons.mp h with h | h
    · cases h
      simp only [if_true, hc]
      exact cloAll_more _ _ _ List.mem_cons_self
    · split
      · split <;> exact cloAll_has r _ n c h hc
      · exact cloAll_has r _ n c h hc
theorem relabel_look {env : Env} : ∀ {names : List (Str × NameKind)} {x : Str} {k : NameKind}, names.lookup x = some k →
    ∃ k', (names.map fun (n, k) => if (k == NameKind.free && env.scope.kind == .function && env.kindOf n == some .cell) then (n, NameKind.cell) else (n, k)).lookup x = some k' ∧ (k' = k ∨ (k = .free ∧ k' = .cell))
  | [], _, _, h => by simp at h
  | (n, k) :: r, x, k₀, h => by
    have ih := @relabel_look env r x k₀
    show ∃ k', List.lookup x ((if (k == NameKind.free && env.scope.kind == .function && env.kindOf n == some .cell) = true then (n, NameKind.cell) else (n, k)) :: _) = some k' ∧ _
    cases hx : x == n with
    | true =>
      simp only [List.lookup_cons, hx] at h
      obtain rfl : k = k₀ := by simpa using h
      by_cases hc : (k == NameKind.free && env.scope.kind == .function && env.kindOf n == some .cell) = true
      · rw [if_pos hc]
        refine ⟨_, by simp [List.lookup_cons, hx], .inr ⟨?_, rfl⟩⟩
        simp only [Bool.and_eq_true] at hc
        simpa using hc.1.1
      · rw [if_neg hc]
        exact ⟨_, by simp [List.lookup_cons, hx], .inl rfl⟩
    | false =>
      simp only [List.lookup_cons, hx] at h
      by_cases hc : (k == NameKind.free && env.scope.kind == .function && env.kindOf n == some .cell) = true
      · rw [if_pos hc]; simp only [List.lookup_cons, hx]; exact ih h
      · rw [if_neg hc]; simp only [List.lookup_cons, hx]; exact ih h
theorem comp_kind {isc : Scope} {cl : List (Str × Addr)} {C : Addr} {env : Env} {x : Str} {k : NameKind} (h : isc.names.lookup x = some k) : ∃ k', (compEnvC isc cl C env).kindOf x = some k' ∧ (k' = k ∨ (k = .free ∧ k' = .cell)) :=
  relabel_look h
theorem cloAll_free {env : Env} : ∀ (l : List (Str × NameKind)) (cs : List (Str × Addr)) (n : Str) (c : Addr), (n, c) ∈ cloAll env l cs → (n, c) ∈ cs ∨ (n, NameKind.free) ∈ l
  | [], cs, n, c, h => .inl h
  | (m, k) :: r, cs, n, c, h => by
    unfold cloAll at h
    split at h
    · rename_i hk
      subst hk
      split at h
      · rcases cloAll_free r _ n c h with h | h
        · rcases List.mem_cons.mp h with e | h
          · cases e; exact .inr List.mem_cons_self
          · exact .inl h
        · exact .inr (List.mem_cons_of_mem _ h)
      · rcases cloAll_free r _ n c h with h | h
        · exact .inl h
        · exact .inr (List.mem_cons_of_mem _ h)
    · rcases cloAll_free r _ n c h with h | h
      · exact .inl h
      · exact .inr (List.mem_cons_of_mem _ h)
noncomputable abbrev clo (env : Env) (isc : Scope) : List (Str × Addr) := cloAll env isc.names []
noncomputable abbrev ccells (env : Env) (isc : Scope) (C : Addr) : List (Str × Addr) := cellsFrom (C + 1) isc.names (clo env isc)
noncomputable abbrev cenvOf (env : Env) (isc : Scope) (C : Addr) : Env := compEnvC isc (ccells env isc C) C env
noncomputable def cOwn (env : Env) (isc : Scope) (C : Addr) : AS := fun b => b = C ∨ (C + 1 ≤ b ∧ ∃ n, (ccells env isc C).lookup n = some b)
section
variable {sc isc : Scope} {env : Env} {C : Addr} (fit : Fit sc isc)
include fit
theorem cc_free {x : Str} (hx : isc.names.lookup x = some .free) {c : Addr} (hc : env.cells.lookup x = some c) : (ccells env isc C).lookup x = some c := by
  have h1 : (x, c) ∈ ccells env isc C := cells_more _ _ _ _ (cloAll_has isc.names [] x c (lookup_mem hx) hc)
  obtain ⟨c', h'⟩ := lookup_some h1
  rw [h']
  rcases cells_name isc.names _ _ x c' (lookup_mem h') with h | ⟨h, _⟩
  · have := cloAll_sound isc.names [] (fun _ _ h => nomatch h) x c' h
    rw [hc] at this; exact this.symm
  · rw [fit.cel _ h rfl] at hx; cases hx
theorem cc_cell {x : Str} (hx : isc.names.lookup x = some .cell) : ∃ c, (ccells env isc C).lookup x = some c ∧ C + 1 ≤ c := by
  obtain ⟨c, _, h1⟩ := cells_has isc.names (C + 1) (clo env isc) x (lookup_mem hx)
  obtain ⟨c', h'⟩ := lookup_some h1
  refine ⟨c', h', ?_⟩
  rcases cells_name isc.names _ _ x c' (lookup_mem h') with h | ⟨_, h⟩
  · rcases cloAll_free isc.names [] x c' h with h | h
    · cases h
    · rw [fit.fre _ h rfl] at hx; cases hx
  · exact h
theorem comp_env (eo : EnvOk env sc) : EnvOk (cenvOf env isc C) isc where
  kind := fit.kind
  g := eo.g
  b := eo.b
  names := fun y hy => by
    have hy' : isc.names.lookup y = some .globalImplicit := by simpa [glob] using hy
    obtain ⟨k', h1, h2 | ⟨h2, _⟩⟩ := comp_kind (cl := ccells env isc C) (C := C) (env := env) hy'
    · subst h2; exact ⟨h1, fit.plain _ (lookup_mem hy')⟩
    · cases h2
  cells := fun y hy => by
    rcases hy with hy | hy
    · obtain ⟨c, hc, _⟩ := cc_cell (env := env) (C := C) fit hy
      obtain ⟨k', h1, h2 | ⟨h2, _⟩⟩ := comp_kind (cl := ccells env isc C) (C := C) (env := env) hy
      · subst h2; exact ⟨.inl h1, c, hc⟩
      · cases h2
    · obtain ⟨_, c, hc⟩ := eo.cells y (fit.free _ (lookup_mem hy) rfl)
      refine ⟨?_, c, cc_free fit hy hc⟩
      obtain ⟨k', h1, h2 | ⟨_, h2⟩⟩ := comp_kind (cl := ccells env isc C) (C := C) (env := env) hy
      · subst h2; exact .inr h1
      · subst h2; exact .inl h1
theorem cc_split {n : Str} {c : Addr} (h : (ccells env isc C).lookup n = some c) : env.cells.lookup n = some c ∨ C + 1 ≤ c := by
  rcases cells_name isc.names _ _ n c (lookup_mem h) with h | ⟨_, h⟩
  · exact .inl (cloAll_sound isc.names [] (fun _ _ h => nomatch h) n c h)
  · exact .inr h
theorem comp_fenv (eo : EnvOk env sc) (hlt : ∀ n c, env.cells.lookup n = some c → c < C) (nc : ∀ x y c, (x, c) ∈ ccells env isc C → (y, c) ∈ ccells env isc C → C + 1 ≤ c → x = y) : FEnv (cenvOf env isc C) isc (cOwn env isc C) where
  kl := fun x hx => lookup_relabel_local hx
  kc := fun x hx => by
    obtain ⟨c, hc, hge⟩ := cc_cell (env := env) (C := C) fit hx
    obtain ⟨k', h1, h2 | ⟨h2, _⟩⟩ := comp_kind (cl := ccells env isc C) (C := C) (env := env) hx
    · subst h2; exact ⟨h1, c, hc, .inr ⟨hge, x, hc⟩⟩
    · cases h2
  eo := comp_env fit eo
  apart := fun x y c hO hx hy => by
    rcases hO with rfl | ⟨hge, _⟩
    · exfalso
      rcases cc_split fit hx with h1 | h1
      · exact absurd (hlt x _ h1) (Nat.lt_irrefl _)
      · exact absurd h1 (Nat.not_succ_le_self _)
    · exact nc x y c (lookup_mem hx) (lookup_mem hy) hge
  off := fun n c hn => by
    rcases cc_split fit hn with h1 | h1
    · exact Nat.ne_of_lt (hlt n c h1)
    · exact Nat.ne_of_gt h1
  ol := .inl rfl
end
theorem ev_comp {F : Fn} {n : Nat} {sc isc : Scope} {elt : Expr} {g : Comprehension} {gs : List Comprehension} {pos : Pos} {ρ : Ro} {d : PyData} (h : ev F (n + 1) sc (.ListComp elt (g :: gs) isc pos) ρ = some d) :
    Fit sc isc ∧ (∀ x ∈ g :: gs, x.is_async = 0) ∧ ∃ xs ds, its F n sc g.iter ρ = some xs ∧ gen F n isc elt (g :: gs) (cap isc ρ) xs = some ds ∧ ds.length ≤ 1000000 ∧ d = .list ds := by
  replace h : (if compFit sc isc = true ∧ syncG (g :: gs) = true then (its F n sc g.iter ρ).bind fun xs => (gen F n isc elt (g :: gs) (cap isc ρ) xs).bind fun ys => if ys.length ≤ 1000000 then some (.list ys) else none else none) = some d := h
  split at h
  · rename_i hf
    obtain ⟨xs, h1, h⟩ := bnd h
    obtain ⟨ds, h2, h3⟩ := bnd h
    clear h
    split at h3
    · rename_i hl
      cases h3
      refine ⟨Fit.of hf.1, fun x hx => ?_, xs, ds, h1, h2, hl, rfl⟩
      have := List.all_eq_true.mp hf.2 x hx
      simpa using this
    · cases h3
  · cases h
theorem fit_clo {sc isc : Scope} {env : Env} (fit : Fit sc isc) (eo : EnvOk env sc) : closureFor isc env = pure (clo env isc) :=
  closure_eq fun y hy e => (eo.cells y.1 (fit.free y hy e)).2
theorem comp_block {W : Wd prog w} {k : Nat} {F : Fn} {n : Nat} (ih : EvAll W k F n) {sc isc : Scope} {elt : Expr} {g : Comprehension} {gs : List Comprehension} {pos : Pos} {ρ : Ro} {env : Env} {A : Around} {X : AS} {xs ds : List PyData} {s s₂ : Shared}
    {I : Addr} {fp wr : List Addr} {P : Nat → Value → Prop} {St : Nat → Heap → Prop} {RR : Value → Addr → Result → Shared → Prop} {E : Value → Shared → Prop}
    (fit : Fit sc isc) (ha : ∀ x ∈ g :: gs, x.is_async = 0) (eo : EnvOk env sc) (hA : AOk (k + 1) A) (hG : W.G s.heap) (hl : Live X s.heap) (S : Sees W X env s.heap ρ) (it : IterOk prog w A X xs s I fp wr P St s₂) (hgen : gen F n isc elt (g :: gs) (cap isc ρ) xs = some ds) (hlen : ds.length ≤ 1000000)
    (hRR : ∀ D C h' tk m' ys, s₂.heap.get? D = none → s₂.heap.get? C = none → D ≠ C → h'.Ns C m' → h'.PlainList D (List.toArray ys) → Rps (fun b => X b ∨ b = C ∨ b = D) h' ds ys → (∀ b o, s.heap.get? b = some o → h'.get? b = some o) →
      RR (.ref D) C (.ok .next) { s₂ with heap := h', toks := tk }) :
    wpAny (model prog w) A (newList []) (fun acc s₃ => wpAny (model prog w) A (newFunctionEnv isc env.globals (clo env isc) [] env.qual none .none (some env)) (fun cenv s₄ =>
      codeAny (model prog w) A (.compStart (.ListComp elt (g :: gs) isc pos) 0 (.ref I) acc { cenv with scope := relabel isc env }) (RR acc cenv.locals) s₄) E s₃) E s₂ := by
  refine wpAny_newObj_type (newEnv_comp fun h₁ hns₁ hold₁ hh₁ => ?_)
  dsimp only at hns₁ hold₁ hh₁ ⊢
  generalize hH2 : s₂.heap.push { cls := .type "list", dict := none, data := .seq ([] : List Value).toArray } = H2 at hns₁ hold₁ hh₁ ⊢
  have hC : H2.objs.size = s₂.heap.objs.size + 1 := by rw [← hH2, Heap.size_push]
  generalize hCe : H2.objs.size = C at hns₁ hh₁ ⊢
  generalize hDe : s₂.heap.objs.size = D at hC ⊢
  have hCD : C = D + 1 := by rw [← hCe, hC]
  have lt2 : ∀ (b : Nat) o, s₂.heap.get? b = some o → b < D := fun b o e => hDe ▸ Heap.lt_size e
  have lt0 : ∀ (b : Nat) o, s.heap.get? b = some o → b < D := fun b o e => lt2 b o (kp_get it.k e)
  have old2 : ∀ b o, s₂.heap.get? b = some o → h₁.get? b = some o := fun b o e => hold₁ b o (hH2 ▸ Heap.get?_push_of_some _ e)
  have old : ∀ b o, s.heap.get? b = some o → h₁.get? b = some o := fun b o e => old2 b o (kp_get it.k e)
  have cellLt : ∀ n (c : Nat), env.cells.lookup n = some c → c < D := fun n c h => let ⟨o, e⟩ := S.2 n c h; lt0 c o e
  have cloLt : ∀ n (c : Nat), (n, c) ∈ clo env isc → c < D := fun n c h => cellLt n c (cloAll_sound isc.names [] (fun _ _ h => nomatch h) n c h)
  have hD1 : h₁.get? D = some { cls := .type "list", dict := none, data := .seq ([] : List Value).toArray } := hold₁ D _ (by rw [← hH2, ← hDe]; exact Heap.get?_push_size _ rfl)
  have nc := newCells_ok isc.names (H2.push { cls := .type "dict", data := .dict #[] }) (C + 1) (clo env isc) (clo env isc) ⟨fun n c h => .inl h, fun x y c hx _ hc => absurd (cloLt x c hx) (by have hc' : @LE.le Nat _ (C + 1) c := hc; rw [hCD] at hc'; omega)⟩ (fun n c h => by rw [Heap.size_push, hCe, hCD]; have := cloLt n c h; show @LT.lt Nat _ c (D + 1 + 1); omega) (by rw [Heap.size_push, hCe]; exact Nat.le_refl _)
  rw [← hh₁, Heap.size_push, hCe] at nc
  have fe : FEnv (cenvOf env isc C) isc (cOwn env isc C) := comp_fenv fit eo (fun n c h => by have := cellLt n c h; show @LT.lt Nat _ c C; omega) fun x y c h1 h2 h3 => nc.apart x y c h1 h2 h3
  have ownGe : ∀ (b : Nat), cOwn env isc C b → D + 1 ≤ b := by
    rintro b (h | ⟨h, _⟩)
    · have h' : @Eq Nat b C := h
      omega
    · have h' : @LE.le Nat _ (C + 1) b := h
      omega
  let Y : AS := fun b => X b ∨ b = D ∨ cOwn env isc C b
  have wrLt : ∀ (b : Nat), b ∈ wr → b < D := fun b hb => by
    obtain ⟨o, e⟩ := it.lives _ _ it.st b hb
    exact lt2 b o e
  have hst₁ : St 0 h₁ := it.W.frame _ _ _ it.st fun b _ o e => old2 b o e
  have off0 : ∀ b o, ¬ X b → s.heap.get? b = some o → ¬ (Y b ∨ b ∈ wr) := fun b o hb e h => by
    have := lt0 b o e
    rcases h with (h | h | h) | h
    · exact hb h
    · have h' : @Eq Nat b D := h
      omega
    · have := ownGe b h; omega
    · rw [it.new b h] at e; cases e
  have fm : Fm W (fun b => Y b ∨ b ∈ wr) s.heap (cenvOf env isc C) (cOwn env isc C) (cap isc ρ) { s₂ with heap := h₁ } := {
    own := fun b hb => .inl (.inr (.inr hb))
    new := fun b hb => by
      cases e : s.heap.get? b with
      | none => rfl
      | some o => have := lt0 b o e; have := ownGe b hb; omega
    ns := ⟨_, hns₁⟩
    cell := fun n c h => by
      rcases nc.from_ n c (lookup_mem h) with h1 | ⟨h1, h2⟩
      · exact .inr (S.2 n c (cloAll_sound isc.names [] (fun _ _ h => nomatch h) n c h1))
      · exact .inl ⟨.inr ⟨h1, n, h⟩, _, h2⟩
    sees := fun y r hy => by
      unfold cap at hy
      split at hy
      · rename_i hf
        obtain ⟨p, v', nv, rv'⟩ := S.1 _ _ hy
        refine ⟨p, v', .inr ?_, rv'.keep fun b o hx e => ⟨old b o e, off0 b o hx e⟩⟩
        obtain ⟨h1, c, hc⟩ := eo.cells y (fit.free _ (lookup_mem hf) rfl)
        refine ⟨?_, c, cc_free fit hf hc, ?_⟩
        · obtain ⟨k', h1, h2 | ⟨_, h2⟩⟩ := comp_kind (cl := ccells env isc C) (C := C) (env := env) hf
          · subst h2; exact .inr h1
          · subst h2; exact .inl h1
        · rcases nv with ⟨k, _⟩ | ⟨_, c', hc', hv⟩
          · rcases h1 with h1 | h1 <;> rw [k] at h1 <;> cases h1
          · rw [hc] at hc'; cases hc'
            exact hv.keeps fun b o e => old b o e
      · cases hy
    live := by
      rintro b ((hb | rfl | (rfl | ⟨hb, n, hn⟩)) | hb)
      · obtain ⟨o, e⟩ := hl b hb; exact ⟨o, old b o e⟩
      · exact ⟨_, hD1⟩
      · obtain ⟨o, _, _, e, _⟩ := hns₁; exact ⟨o, e⟩
      · rcases nc.from_ n b (lookup_mem hn) with h1 | ⟨_, o, e, _⟩
        · have := cloLt n b h1; have hb' : @LE.le Nat _ (C + 1) b := hb; omega
        · exact ⟨o, e⟩
      · exact it.lives _ _ hst₁ b hb
    g := hG
    base := old }
  have io : ItOk prog w A Y s.heap xs I fp wr P St { s₂ with heap := h₁ } := {
    W := it.W
    st := hst₁
    nY := fun b hb hy => by
      have := wrLt b hb
      rcases hy with h | h | h
      · obtain ⟨o, e⟩ := hl b h
        rw [it.new b hb] at e; cases e
      · have h' : @Eq Nat b D := h
        omega
      · have := ownGe b h; omega
    n0 := it.new
    lives := it.lives
    item := fun i v d hP hd => Rp.keep (fun b o hb e => ⟨old2 b o e, fun h => by
      have := lt2 b o e
      rcases h with (h | h | h) | h
      · exact hb (.inl h)
      · have h' : @Eq Nat b D := h
        omega
      · have := ownGe b h; omega
      · exact hb (.inr h)⟩) (it.item i v d hP hd)
    off := fun b hb hy => by
      have hlow : @LT.lt Nat _ b D := hDe ▸ (let ⟨_, e⟩ := it.low b hb; Heap.lt_size e)
      rcases hy with h | h | h
      · exact it.off b hb h
      · have h' : @Eq Nat b D := h
        omega
      · have := ownGe b h; omega
    go := it.go }
  have hOD : ¬ cOwn env isc C D := fun h => by have := ownGe D h; omega
  have h0D : s.heap.get? D = none := by
    cases e : s.heap.get? D with
    | none => rfl
    | some o => have := lt0 D o e; omega
  have loop : codeAny (model prog w) A (.compLoop (.ListComp elt (g :: gs) isc pos) 0 (.ref I) (.ref D) (cenvOf env isc C)) (RR (.ref D) C) { s₂ with heap := h₁ } := by
    refine ih.gen (gens := g :: gs) (j := 0) (g := g) (es := []) (ys := []) rfl ha hgen hA fe fm (fun b hb => .inr (.inr hb)) (.inr (.inl rfl)) hOD h0D ⟨_, hD1⟩ (by simp only [Rps]) (by simpa using hlen) io fun s' ys' g1 g2 g3 g4 g5 => ?_
    obtain ⟨h', tk, rfl⟩ := g4
    obtain ⟨m', hm'⟩ := g1.ns
    have hDn : s₂.heap.get? D = none := by
      cases e : s₂.heap.get? D with
      | none => rfl
      | some o => have := lt2 D o e; omega
    have hCn : s₂.heap.get? C = none := by
      cases e : s₂.heap.get? C with
      | none => rfl
      | some o => have := lt2 C o e; omega
    refine hRR D C h' tk m' ys' hDn hCn (by show ¬ @Eq Nat D C; omega) hm' g2 (Rps.keep (fun b o hb e => ⟨e, fun h => hb ?_⟩) g3) g1.base
    rcases h with h | rfl | rfl
    · exact .inl h
    · exact .inr (.inr (.inl rfl))
    · exact .inr (.inl rfl)
  exact compStart_rule rfl (ha g List.mem_cons_self) loop (it.W.self 0 _ _ _ hst₁ loop)
end Mine
end SVN
section SVO
open PySem PySem.W PyProof.Rows PySem.Calls
namespace Mine
variable {prog : Program} {w : World}
theorem comp_end {X : AS} {wr : List Addr} {C D : Addr} {xs ds : List PyData} {ys : List Value} {s₀ s₂ : Shared} {A : Around} {I : Addr} {fp : List Addr} {P : Nat → Value → Prop} {St : Nat → Heap → Prop} (it : IterOk prog w A X xs s₀ I fp wr P St s₂)
    (hl : Live X s₀.heap) (hD : s₂.heap.get? D = none) (hDC : D ≠ C) {h' h'' : Heap} (hp : h'.PlainList D (List.toArray ys)) (hr : Rps (fun b => X b ∨ b = C ∨ b = D) h' ds ys) (hs : Heap.SameBut C h' h'') : Rp X h'' (.list ds) (.ref D) := by
  simp only [Rp]
  refine ⟨D, ys, rfl, (hl.keeps it.k).fresh hD, hp.extBut hs.extBut hDC, Rps.keep (fun b o hb e => ⟨hs.extBut b o (fun h => hb (.inr (.inl h))) e, fun h => hb (.inl h)⟩) hr⟩
theorem comp_ok {W : Wd prog w} {k : Nat} {F : Fn} {n : Nat} : CompOk W k F n := by
  intro ih sc elt g gs isc pos ρ d env A s X E h hA eo hG hl S
  obtain ⟨fit, ha, xs, ds, h1, h2, hlen, rfl⟩ := ev_comp h
  rw [eval_ListComp]
  have hfa : firstAsync (g :: gs) = false := by
    have := ha g List.mem_cons_self
    obtain ⟨tg, it, ifs, as⟩ := g
    simp only at this
    subst this
    rfl
  have hfi : firstIter (g :: gs) env = eval g.iter env := by
    obtain ⟨tg, it, ifs, as⟩ := g
    rfl
  rw [hfa, hfi]
  refine wpAny_comprehension_free (g := g) (gs := gs) (use := none) rfl (its_noset h1 env) (fit_clo fit eo) fit.kind fit.loc (wpk (ih.its h1 hA eo hG hl S) fun xv s₁ h₁ => wpk h₁ fun itv s₂ h₂ => ?_)
  obtain ⟨I, fp, wr, P, St, rfl, io⟩ := h₂
  refine comp_block (RR := fun acc C => compPost (model prog w) A E none (Gv X s (.list ds)) acc C) ih fit ha eo hA hG hl S io h2 hlen ?_
  intro D C h' tk m' ys hD hC hDC hn hp hr hk
  refine ⟨m', hn, fun h'' hs'' => ⟨comp_end io hl hD hDC hp hr hs'', ?_⟩⟩
  obtain ⟨h₂, t₂, rfl, kk⟩ := id io.k
  exact ⟨h'', tk, rfl, fun b o e => hs''.extBut b o (by rintro rfl; rw [kk _ _ e] at hC; cases hC) (hk b o e)⟩
theorem gen_zero {W : Wd prog w} {k : Nat} {F : Fn} : GenOk W k F 0 := by
  intro isc elt gens pos j g ρ xs ds cenv Ow A Y h₀ s D es ys I fp wr P St R hg ha hgen
  cases hgen
theorem ev_all {W : Wd prog w} {k : Nat} {F : Fn} (N : NmOk W) (hF : FnOk W k F) : ∀ n, EvAll W k F n
  | 0 => ⟨fun h => (by cases h), fun h => (by cases h), fun h => (by cases h), fun h => (by cases h), fun h => (by cases h), fun h => (by cases h), gen_zero⟩
  | n + 1 => by
    have ih := ev_all N hF n
    exact ⟨ev_ok N hF comp_ok ih, evs_ok ih, evp_ok ih, tst_ok ih, its_ok N ih, tsts_ok ih, gen_ok ih⟩
end Mine
end SVO
section SVP
open PySem PySem.W PyProof.Rows PySem.Calls
namespace Mine
inductive It where
  | d (x : PyData)
  | p (q : Nat)
noncomputable abbrev Sg := List (List It)
inductive V2 where
  | dat (d : PyData)
  | inst (k : PyData)
  | ptr (p : Nat)
noncomputable abbrev Ro2 := Str → Option V2
noncomputable def put2 (ρ : Ro2) (x : Str) (v : V2) : Ro2 := fun y => if y = x then some v else ρ y
noncomputable def noPtr (ρ : Ro2) : Ro := fun x => match ρ x with
  | some (.dat d) => some (.dat d)
  | some (.inst k) => some (.inst k)
  | _ => none
noncomputable def flatIt : It → Option PyData
  | .d x => some x
  | .p _ => none
noncomputable def viewIt (σ : Sg) : It → Option PyData
  | .d x => some x
  | .p q => ((σ[q]?).bind (·.mapM flatIt)).map .list
noncomputable def viewP (σ : Sg) (p : Nat) : Option PyData := ((σ[p]?).bind (·.mapM (viewIt σ))).map .list
noncomputable def view (ρ : Ro2) (σ : Sg) : Ro := fun x => match ρ x with
  | some (.dat d) => some (.dat d)
  | some (.inst k) => some (.inst k)
  | some (.ptr p) => (viewP σ p).map .dat
  | none => none
noncomputable def isAtom : PyData → Bool
  | .none | .bool _ | .int _ | .str _ => true
  | _ => false
noncomputable def hint : Expr → Bool
  | .Subscript (.Name x _) (.Name _ _) _ => x == Str.ofString "line"
  | .Call (.Name f _) _ _ _ => f == Str.ofString "max"
  | .BinOp (.Constant _ _ _) _ (.Call _ _ _ _) _ => true
  | _ => false
noncomputable def evS (F : Fn) (n : Nat) (sc : Scope) (e : Expr) (ρ : Ro2) (σ : Sg) : Option PyData :=
  if hint e = true then (ev F n sc e (view ρ σ)).bind fun d => if isAtom d = true then some d else none
  else ev F n sc e (noPtr ρ)
noncomputable def forFit (tg : Expr) (xs : List PyData) : Bool := match tg with
  | .Name _ _ => true
  | _ => xs.all fun d => match d with
    | .list _ => false
    | _ => true
noncomputable def isTup : Expr → Bool
  | .Tuple _ _ _ => true
  | _ => false
inductive Fl where
  | next
  | ret (d : PyData)
noncomputable abbrev St2 := Ro2 × Sg
noncomputable def bindTwo2 (sc : Scope) (ρ : Ro2) (es : List Expr) (d : PyData) : Option Ro2 :=
  (two es).bind fun e => (nameOf e.1).bind fun x => (nameOf e.2).bind fun y => (tupD2 d).bind fun ds => (two ds).bind fun q => if stFit sc x = true ∧ stFit sc y = true then some (put2 (put2 ρ x (.dat q.1)) y (.dat q.2)) else none
noncomputable def bindThree2 (sc : Scope) (ρ : Ro2) (es : List Expr) (d : PyData) : Option Ro2 :=
  (three es).bind fun e => (nameOf e.1).bind fun x => (nameOf e.2.1).bind fun y => (nameOf e.2.2).bind fun z => (asList d).bind fun ds => (three ds).bind fun q =>
    if stFit sc x = true ∧ stFit sc y = true ∧ stFit sc z = true then some (put2 (put2 (put2 ρ x (.dat q.1)) y (.dat q.2.1)) z (.dat q.2.2)) else none
noncomputable def bindT2 (sc : Scope) (ρ : Ro2) (tg : Expr) (d : PyData) : Option Ro2 := match nameOf tg with
  | some x => if stFit sc x = true then some (put2 ρ x (.dat d)) else none
  | none => (tupOf tg).bind fun es => match bindTwo2 sc ρ es d with
    | some r => some r
    | none => bindThree2 sc ρ es d
theorem bindT2_inv {sc : Scope} {ρ ρ' : Ro2} {tg : Expr} {d : PyData} (h : bindT2 sc ρ tg d = some ρ') : (∃ x p, tg = .Name x p ∧ stFit sc x = true ∧ ρ' = put2 ρ x (.dat d)) ∨
    (∃ x px y py k p a b, tg = .Tuple [.Name x px, .Name y py] k p ∧ d = .tuple [a, b] ∧ (stFit sc x = true ∧ stFit sc y = true) ∧ ρ' = put2 (put2 ρ x (.dat a)) y (.dat b)) ∨
    ∃ x px y py z pz k p a b c, tg = .Tuple [.Name x px, .Name y py, .Name z pz] k p ∧ d = .list [a, b, c] ∧ (stFit sc x = true ∧ stFit sc y = true ∧ stFit sc z = true) ∧ ρ' = put2 (put2 (put2 ρ x (.dat a)) y (.dat b)) z (.dat c) := by
  unfold bindT2 at h
  split at h
  · rename_i x hx
    obtain ⟨p, rfl⟩ := nameOf_inv hx
    split at h
    · rename_i hf; cases h; exact .inl ⟨x, p, rfl, hf, rfl⟩
    · cases h
  · obtain ⟨es, h1, h9⟩ := Option.bind_eq_some_iff.mp h
    clear h
    obtain ⟨k, p, rfl⟩ := tupOf_inv h1
    split at h9
    · rename_i r hr
      cases h9
      unfold bindTwo2 at hr
      obtain ⟨e, h2, hr⟩ := bnd hr
      obtain ⟨x, h3, hr⟩ := bnd hr
      obtain ⟨y, h4, hr⟩ := bnd hr
      obtain ⟨ds, h5, hr⟩ := bnd hr
      obtain ⟨q, h6, h7⟩ := bnd hr
      clear hr
      split at h7
      · rename_i hf
        cases h7
        obtain ⟨px, ex⟩ := nameOf_inv h3
        obtain ⟨py, ey⟩ := nameOf_inv h4
        exact .inr (.inl ⟨x, px, y, py, k, p, q.1, q.2, by rw [two_inv h2, ex, ey], by rw [tupD2_inv h5, two_inv h6], hf, rfl⟩)
      · cases h7
    · unfold bindThree2 at h9
      obtain ⟨e, h2, h9⟩ := bnd h9
      obtain ⟨x, h3, h9⟩ := bnd h9
      obtain ⟨y, h4, h9⟩ := bnd h9
      obtain ⟨z, h8, h9⟩ := bnd h9
      obtain ⟨ds, h5, h9⟩ := bnd h9
      obtain ⟨q, h6, h7⟩ := bnd h9
      clear h9
      split at h7
      · rename_i hf
        cases h7
        obtain ⟨px, ex⟩ := nameOf_inv h3
        obtain ⟨py, ey⟩ := nameOf_inv h4
        obtain ⟨pz, ez⟩ := nameOf_inv h8
        exact .inr (.inr ⟨x, px, y, py, z, pz, k, p, q.1, q.2.1, q.2.2, by rw [three_inv h2, ex, ey, ez], by rw [asList_inv h5, three_inv h6], hf, rfl⟩)
      · cases h7
noncomputable def forL (f : PyData → St2 → Option (Fl × St2)) : List PyData → St2 → Option (Fl × St2)
  | [], ρ => some (.next, ρ)
  | x :: xs, ρ => do
    let r ← f x ρ
    match r.1 with
    | .ret d => some (.ret d, r.2)
    | .next => forL f xs r.2
noncomputable def whL (c : St2 → Option Bool) (f : St2 → Option (Fl × St2)) : Nat → St2 → Option (Fl × St2)
  | 0, _ => none
  | n + 1, ρ => do
    let b ← c ρ
    if b then do
      let r ← f ρ
      match r.1 with
      | .ret d => some (.ret d, r.2)
      | .next => whL c f n r.2
    else some (.next, ρ)
noncomputable abbrev sTup : Str := Str.ofString "TupleComp"
noncomputable abbrev sAppend : Str := Str.ofString "append"
noncomputable def makeArg (sc : Scope) (e : Expr) : Option (List Expr) := (callOf e).bind fun q => if q.1 = sTup ∧ glob sc q.1 = true ∧ q.2.length = 1 then some q.2 else none
theorem makeArg_inv {sc : Scope} {e : Expr} {es : List Expr} (h : makeArg sc e = some es) : ∃ p' p, e = .Call (.Name sTup p') es [] p ∧ glob sc sTup = true ∧ es.length = 1 := by
  obtain ⟨q, h1, h2⟩ := Option.bind_eq_some_iff.mp h
  obtain ⟨p', p, rfl⟩ := callOf_inv h1
  split at h2
  · rename_i hq
    cases h2
    exact ⟨p', p, by rw [← hq.1], hq.1 ▸ hq.2.1, hq.2.2⟩
  · cases h2
noncomputable def subNameOf : Expr → Option (Str × Expr)
  | .Subscript v i _ => (nameOf v).map fun y => (y, i)
  | _ => none
theorem subNameOf_inv {e : Expr} {q : Str × Expr} (h : subNameOf e = some q) : ∃ py p, e = .Subscript (.Name q.1 py) q.2 p := by
  cases e <;> first
    | (cases h; done)
    | skip
  rename_i v i p
  obtain ⟨y, hy, rfl⟩ := Option.map_eq_some_iff.mp (show (nameOf v).map (fun y => (y, i)) = some q from h)
  obtain ⟨py, rfl⟩ := nameOf_inv hy
  exact ⟨py, p, rfl⟩
noncomputable def ownNames : List Str := [Str.ofString "kept", Str.ofString "made", Str.ofString "sizes", Str.ofString "choices"]
noncomputable def isEmptyList : Expr → Bool
  | .List [] _ => true
  | _ => false
noncomputable def asNat (d : PyData) : Option Nat := match d with
  | .int i => if 0 ≤ i ∧ i < 1000000 then some i.toNat else none
  | _ => none
noncomputable def ptrOf (ρ : Ro2) (x : Str) : Option Nat := match ρ x with
  | some (.ptr p) => some p
  | _ => none
noncomputable def ptrAt (F : Fn) (n : Nat) (sc : Scope) (ρ : Ro2) (σ : Sg) (y : Str) (i : Expr) : Option Nat := do
  let p ← ptrOf ρ y
  let d ← ev F n sc i (view ρ σ)
  let k ← asNat d
  let its ← σ[p]?
  match its[k]? with
  | some (.p q) => some q
  | _ => none
noncomputable def pushIt (F : Fn) (n : Nat) (sc : Scope) (ρ : Ro2) (σ : Sg) (p : Nat) (e : Expr) : Option Sg := do
  let its ← σ[p]?
  if its.length ≤ 1000000 then
    if isEmptyList e = true then some ((σ.set p (its ++ [.p σ.length])) ++ [[]])
    else do
      let d ← evS F n sc e ρ σ
      some (σ.set p (its ++ [.d d]))
  else none
inductive SC where
  | asgN (x : Str) (e : Expr)
  | asgT (t e : Expr)
  | asgS (x : Str) (i e : Expr)
  | appN (x m : Str) (e : Expr) (ln : Bool)
  | appS (y : Str) (i : Expr) (m : Str) (e : Expr) (ln : Bool)
  | ifs (t : Expr) (b o : List Stmt)
  | forS (tg it : Expr) (body : List Stmt)
  | whl (t : Expr) (body : List Stmt)
  | ret (e : Expr)
  | other
noncomputable def SC.Of : SC → Stmt → Prop
  | .asgN x e, st => ∃ q p, st = .Assign [.Name x q] e p
  | .asgT t e, st => ∃ ts k q p, t = .Tuple ts k q ∧ st = .Assign [.Tuple ts k q] e p
  | .asgS x i e, st => ∃ px q p, st = .Assign [.Subscript (.Name x px) i q] e p
  | .appN x m e ln, st => ∃ px ap q p, st = .Expr (.Call (.Attribute (.Name x px) m ap) [e] [] q) p ∧ ln = (ap.endLine == q.line)
  | .appS y i m e ln, st => ∃ py sq ap q p, st = .Expr (.Call (.Attribute (.Subscript (.Name y py) i sq) m ap) [e] [] q) p ∧ ln = (ap.endLine == q.line)
  | .ifs t b o, st => ∃ p, st = .If t b o p
  | .forS tg it body, st => ∃ p, st = .For tg it body [] p
  | .whl t body, st => ∃ p, st = .While t body [] p
  | .ret e, st => ∃ p, st = .Return (some e) p
  | .other, _ => True
noncomputable def clsAsg (t e : Expr) : SC := match nameOf t with
  | some x => .asgN x e
  | none => (match tupOf t with
    | some _ => .asgT t e
    | none => (match subNameOf t with
      | some q => .asgS q.1 q.2 e
      | none => .other))
theorem clsAsg_of (t e : Expr) (p : Pos) : (clsAsg t e).Of (.Assign [t] e p) := by
  unfold clsAsg
  cases h : nameOf t with
  | some x => obtain ⟨q, rfl⟩ := nameOf_inv h; exact ⟨q, p, rfl⟩
  | none =>
    cases h2 : tupOf t with
    | some ts => obtain ⟨k, q, rfl⟩ := tupOf_inv h2; exact ⟨ts, k, q, p, rfl, rfl⟩
    | none =>
      cases h3 : subNameOf t with
      | none => trivial
      | some q => obtain ⟨py, q', rfl⟩ := subNameOf_inv h3; exact ⟨py, q', p, rfl⟩
noncomputable def clsApp (q : Expr × Str × Pos) (args : List Expr) (p : Pos) : SC := match one args with
  | none => .other
  | some e => (match nameOf q.1 with
    | some x => .appN x q.2.1 e (q.2.2.endLine == p.line)
    | none => (match subNameOf q.1 with
      | some s => .appS s.1 s.2 q.2.1 e (q.2.2.endLine == p.line)
      | none => .other))
noncomputable def clsX (e : Expr) : SC := match e with
  | .Call f args kws p => (match kws with
    | [] => (match attrOf f with
      | some q => clsApp q args p
      | none => .other)
    | _ :: _ => .other)
  | _ => .other
theorem clsX_of (e : Expr) (sp : Pos) : (clsX e).Of (.Expr e sp) := by
  cases e <;> first
    | trivial
    | skip
  rename_i f args kws p
  cases kws with
  | cons _ _ => trivial
  | nil =>
    show SC.Of (match attrOf f with | some q => clsApp q args p | none => .other) _
    cases h : attrOf f with
    | none => trivial
    | some q =>
      obtain ⟨b, m, ap⟩ := q
      have e := attrOf_inv h
      subst e
      show SC.Of (clsApp (b, m, ap) args p) _
      unfold clsApp
      cases h1 : one args with
      | none => trivial
      | some e =>
        rw [one_inv h1]
        show SC.Of (match nameOf b with | some x => .appN x m e (ap.endLine == p.line) | none => (match subNameOf b with | some s => .appS s.1 s.2 m e (ap.endLine == p.line) | none => .other)) _
        cases h2 : nameOf b with
        | some x => obtain ⟨px, rfl⟩ := nameOf_inv h2; exact ⟨px, ap, p, sp, rfl, rfl⟩
        | none =>
          cases h3 : subNameOf b with
          | none => trivial
          | some s => obtain ⟨py, sq, rfl⟩ := subNameOf_inv h3; exact ⟨py, sq, ap, p, sp, rfl, rfl⟩
noncomputable def clsS : Stmt → SC
  | .Assign ts e _ => (match one ts with
    | some t => clsAsg t e
    | none => .other)
  | .Expr e _ => clsX e
  | .If t b o _ => .ifs t b o
  | .For tg it body els _ => (match els with
    | [] => .forS tg it body
    | _ :: _ => .other)
  | .While t body els _ => (match els with
    | [] => .whl t body
    | _ :: _ => .other)
  | .Return e _ => (match e with
    | some e => .ret e
    | none => .other)
  | _ => .other
theorem clsS_of (st : Stmt) : (clsS st).Of st := by
  cases st <;> first
    | trivial
    | exact ⟨_, rfl⟩
    | exact clsX_of _ _
    | skip
  · rename_i e p
    cases e with
    | none => trivial
    | some e => exact ⟨p, rfl⟩
  · rename_i ts e p
    show SC.Of (match one ts with | some t => clsAsg t e | none => .other) _
    cases h : one ts with
    | none => trivial
    | some t => rw [one_inv h]; exact clsAsg_of t e p
  · rename_i tg it body els p
    cases els with
    | nil => exact ⟨p, rfl⟩
    | cons _ _ => trivial
  · rename_i t body els p
    cases els with
    | nil => exact ⟨p, rfl⟩
    | cons _ _ => trivial
noncomputable def asgC (F : Fn) (n : Nat) (sc : Scope) (ρ : Ro2) (σ : Sg) (x : Str) (e : Expr) : Option (Fl × St2) :=
  if stFit sc x = true then
    if isEmptyList e = true ∧ ownNames.contains x = true then some (.next, put2 ρ x (.ptr σ.length), σ ++ [[]])
    else match makeArg sc e with
    | some es => (evs F n sc es (noPtr ρ)).bind fun xs => (one xs).bind fun d => (asList d).bind fun ks => some (.next, put2 ρ x (.inst (.list ks)), σ)
    | none => match (subNameOf e).bind fun q => ptrAt F n sc ρ σ q.1 q.2 with
      | some q => some (.next, put2 ρ x (.ptr q), σ)
      | none => (evS F n sc e ρ σ).map fun d => (.next, put2 ρ x (.dat d), σ)
  else none
noncomputable def exC (F : Fn) (n : Nat) (ex1 : Scope → List Stmt → St2 → Option (Fl × St2)) (sc : Scope) (ρ : Ro2) (σ : Sg) : SC → Option (Fl × St2)
  | .asgN x e => asgC F n sc ρ σ x e
  | .asgT t e => if isTup e = true then none else do
    let d ← ev F n sc e (noPtr ρ)
    let ρ' ← bindT2 sc ρ t d
    some (.next, ρ', σ)
  | .asgS x i e => do
    let d ← evS F n sc e ρ σ
    let p ← ptrOf ρ x
    let j ← ev F n sc i (view ρ σ)
    let k ← asNat j
    let its ← σ[p]?
    if k < its.length then some (.next, ρ, σ.set p (its.set k (.d d))) else none
  | .appN x m e ln =>
    if m = sAppend ∧ ln = true then do
      let q ← ptrOf ρ x
      let σ' ← pushIt F n sc ρ σ q e
      some (.next, ρ, σ')
    else none
  | .appS y i m e ln =>
    if m = sAppend ∧ ln = true then do
      let q ← ptrAt F n sc ρ σ y i
      let σ' ← pushIt F n sc ρ σ q e
      some (.next, ρ, σ')
    else none
  | .ifs t b o => do
    let c ← tst F n sc t (view ρ σ)
    if c then ex1 sc b (ρ, σ) else ex1 sc o (ρ, σ)
  | .forS tg it body => (its F n sc it (noPtr ρ)).bind fun xs => if forFit tg xs = true then forL (fun v r => (bindT2 sc r.1 tg v).bind fun ρ' => ex1 sc body (ρ', r.2)) xs (ρ, σ) else none
  | .whl t body => whL (fun r => tst F n sc t (view r.1 r.2)) (ex1 sc body) n (ρ, σ)
  | .ret e => do
    let d ← ev F n sc e (view ρ σ)
    some (.ret d, ρ, σ)
  | .other => none
mutual
noncomputable def exS (F : Fn) : Nat → Scope → Stmt → St2 → Option (Fl × St2)
  | 0, _, _, _ => none
  | n + 1, sc, st, r => exC F n (exL F n) sc r.1 r.2 (clsS st)
noncomputable def exL (F : Fn) : Nat → Scope → List Stmt → St2 → Option (Fl × St2)
  | 0, _, _, _ => none
  | _ + 1, _, [], ρ => some (.next, ρ)
  | n + 1, sc, st :: r, ρ => do
    let q ← exS F n sc st ρ
    match q.1 with
    | .ret d => some (.ret d, q.2)
    | .next => exL F n sc r q.2
end
end Mine
end SVP
section SVQ
open PySem PySem.W PyProof.Rows PySem.Calls
namespace Mine
variable {prog : Program} {w : World}
noncomputable def rawR (ρ : Ro2) (as : List Addr) : Ro := fun x => match ρ x with
  | some (.dat d) => some (.dat d)
  | some (.inst k) => some (.inst k)
  | some (.ptr p) => (as[p]?).map fun a => .raw (.ref a)
  | none => none
noncomputable def ItR (Y : AS) (h : Heap) (as : List Addr) : It → Value → Prop
  | .d x, v => Rp Y h x v
  | .p q, v => ∃ a, as[q]? = some a ∧ v = .ref a
noncomputable def ItsR (Y : AS) (h : Heap) (as : List Addr) : List It → List Value → Prop
  | [], vs => vs = []
  | i :: r, vs => ∃ v vr, vs = v :: vr ∧ ItR Y h as i v ∧ ItsR Y h as r vr
theorem ItR.keep {Y Y' : AS} {h h' : Heap} {as as' : List Addr} (hk : ∀ b o, ¬ Y b → h.get? b = some o → h'.get? b = some o ∧ ¬ Y' b) (ha : ∀ (q : Nat) a, as[q]? = some a → as'[q]? = some a) : ∀ {i : It} {v : Value}, ItR Y h as i v → ItR Y' h' as' i v
  | .d _, _, r => Rp.keep hk r
  | .p _, _, ⟨a, e, r⟩ => ⟨a, ha _ _ e, r⟩
theorem ItsR.keep {Y Y' : AS} {h h' : Heap} {as as' : List Addr} (hk : ∀ b o, ¬ Y b → h.get? b = some o → h'.get? b = some o ∧ ¬ Y' b) (ha : ∀ (q : Nat) a, as[q]? = some a → as'[q]? = some a) : ∀ {l : List It} {vs : List Value}, ItsR Y h as l vs → ItsR Y' h' as' l vs
  | [], _, r => r
  | _ :: _, _, ⟨v, vr, e, r1, r2⟩ => ⟨v, vr, e, ItR.keep hk ha r1, ItsR.keep hk ha r2⟩
theorem ItsR.length {Y : AS} {h : Heap} {as : List Addr} : ∀ {l : List It} {vs : List Value}, ItsR Y h as l vs → vs.length = l.length
  | [], vs, r => by rw [show vs = [] from r]; rfl
  | _ :: _, _, ⟨v, vr, e, _, r2⟩ => by rw [e]; simp [ItsR.length r2]
theorem ItsR.get {Y : AS} {h : Heap} {as : List Addr} : ∀ {l : List It} {vs : List Value}, ItsR Y h as l vs → ∀ {k : Nat} {i : It}, l[k]? = some i → ∃ v, vs[k]? = some v ∧ ItR Y h as i v
  | [], _, _, k, i, e => by simp at e
  | _ :: _, _, ⟨v, vr, e, r1, r2⟩, k, i, e' => by
    subst e
    cases k with
    | zero => simp only [List.getElem?_cons_zero, Option.some.injEq] at e' ⊢; subst e'; exact ⟨v, rfl, r1⟩
    | succ k => simp only [List.getElem?_cons_succ] at e' ⊢; exact ItsR.get r2 e'
theorem ItsR.append {Y : AS} {h : Heap} {as : List Addr} : ∀ {l m : List It} {vs us : List Value}, ItsR Y h as l vs → ItsR Y h as m us → ItsR Y h as (l ++ m) (vs ++ us)
  | [], _, vs, _, r, q => by rw [show vs = [] from r]; exact q
  | _ :: _, _, _, _, ⟨v, vr, e, r1, r2⟩, q => by subst e; exact ⟨v, vr ++ _, rfl, r1, ItsR.append r2 q⟩
theorem ItsR.set {Y : AS} {h : Heap} {as : List Addr} : ∀ {l : List It} {vs : List Value}, ItsR Y h as l vs → ∀ {k : Nat} {i : It} {v : Value}, ItR Y h as i v → ItsR Y h as (l.set k i) (vs.set k v)
  | [], vs, r, k, i, v, _ => by rw [show vs = [] from r]; exact rfl
  | _ :: _, _, ⟨u, vr, e, r1, r2⟩, k, i, v, q => by
    subst e
    cases k with
    | zero => exact ⟨v, vr, rfl, q, r2⟩
    | succ k => exact ⟨u, vr.set k v, rfl, r1, ItsR.set r2 q⟩
structure Fm2 (W : Wd prog w) (X Y : AS) (h₀ : Heap) (env : Env) (Ow : AS) (ρ : Ro2) (σ : Sg) (as : List Addr) (s : Shared) : Prop where
  f : Fm W Y h₀ env Ow (rawR ρ as) s
  ok : ∀ x p, ρ x = some (.ptr p) → p < as.length
  len : as.length = σ.length
  nd : as.Nodup
  inY : ∀ a ∈ as, Y a
  off : ∀ a ∈ as, ¬ Ow a
  new : ∀ a ∈ as, h₀.get? a = none
  base : ∀ b, X b → Y b ∧ b ∉ as
  ls : ∀ (p : Nat) its a, σ[p]? = some its → as[p]? = some a → ∃ vs, s.heap.PlainList a (List.toArray vs) ∧ ItsR Y s.heap as its vs
noncomputable def offAs (Y : AS) (as : List Addr) : AS := fun b => Y b ∧ b ∉ as
section
variable {W : Wd prog w} {X Y : AS} {h₀ : Heap} {env : Env} {Ow : AS} {ρ : Ro2} {σ : Sg} {as : List Addr} {s : Shared}
theorem Fm2.keeps {s' : Shared} (m : Fm2 W X Y h₀ env Ow ρ σ as s) (k : Keeps s s') : Fm2 W X Y h₀ env Ow ρ σ as s' :=
  ⟨m.f.keeps k, m.ok, m.len, m.nd, m.inY, m.off, m.new, m.base, fun p its a h1 h2 => by
    obtain ⟨vs, h3, h4⟩ := m.ls p its a h1 h2
    exact ⟨vs, h3.at fun o e => kp_get k e, h4.keep (fun b o hb e => ⟨kp_get k e, hb⟩) fun _ _ e => e⟩⟩
theorem Fm2.liveV (m : Fm2 W X Y h₀ env Ow ρ σ as s) : Live (offAs Y as) s.heap := fun a ha => m.f.live a ha.1
theorem Fm2.seeN (m : Fm2 W X Y h₀ env Ow ρ σ as s) : Sees W Y env s.heap (noPtr ρ) := by
  refine ⟨fun x r hx => m.f.sees x r ?_, m.f.see.2⟩
  unfold noPtr at hx
  unfold rawR
  split at hx
  · rename_i d e; rw [e]; exact hx
  · rename_i d e; rw [e]; exact hx
  · cases hx
theorem flat_all {l : List It} {ds : List PyData} {vs : List Value} (h : l.mapM flatIt = some ds) (r : ItsR Y s.heap as l vs) : Rps (offAs Y as) s.heap ds vs := by
  induction l generalizing ds vs with
  | nil =>
    simp only [List.mapM_nil, Option.pure_def, Option.some.injEq] at h
    subst h
    rw [show vs = [] from r]
    simp only [Rps]
  | cons i l ih =>
    obtain ⟨v, vr, rfl, r1, r2⟩ := r
    simp only [List.mapM_cons, Option.bind_eq_bind, Option.bind_eq_some_iff, Option.pure_def, Option.some.injEq] at h
    obtain ⟨d, h1, ds', h2, rfl⟩ := h
    simp only [Rps]
    refine ⟨v, vr, rfl, ?_, ih h2 r2⟩
    cases i with
    | d x =>
      simp only [flatIt, Option.some.injEq] at h1
      subst h1
      exact Rp.keep (fun b o hb e => ⟨e, fun h => hb h.1⟩) (show Rp Y s.heap x v from r1)
    | p q => simp [flatIt] at h1
theorem view_all (m : Fm2 W X Y h₀ env Ow ρ σ as s) {l : List It} {ds : List PyData} {vs : List Value} (h : l.mapM (viewIt σ) = some ds) (r : ItsR Y s.heap as l vs) : Rps (offAs Y as) s.heap ds vs := by
  induction l generalizing ds vs with
  | nil =>
    simp only [List.mapM_nil, Option.pure_def, Option.some.injEq] at h
    subst h
    rw [show vs = [] from r]
    simp only [Rps]
  | cons i l ih =>
    obtain ⟨v, vr, rfl, r1, r2⟩ := r
    simp only [List.mapM_cons, Option.bind_eq_bind, Option.bind_eq_some_iff, Option.pure_def, Option.some.injEq] at h
    obtain ⟨d, h1, ds', h2, rfl⟩ := h
    simp only [Rps]
    refine ⟨v, vr, rfl, ?_, ih h2 r2⟩
    cases i with
    | d x =>
      simp only [viewIt, Option.some.injEq] at h1
      subst h1
      exact Rp.keep (fun b o hb e => ⟨e, fun h => hb h.1⟩) (show Rp Y s.heap x v from r1)
    | p q =>
      simp only [viewIt, Option.map_eq_some_iff, Option.bind_eq_some_iff] at h1
      obtain ⟨es, ⟨its, h3, h4⟩, rfl⟩ := h1
      obtain ⟨a, ha, rfl⟩ := r1
      obtain ⟨us, h5, h6⟩ := m.ls q its a h3 ha
      simp only [Rp]
      exact ⟨a, us, rfl, fun h => h.2 (List.mem_of_getElem? ha), h5, flat_all h4 h6⟩
theorem Fm2.seeV (m : Fm2 W X Y h₀ env Ow ρ σ as s) : Sees W (offAs Y as) env s.heap (view ρ σ) := by
  refine ⟨fun x r hx => ?_, m.f.see.2⟩
  unfold view at hx
  have weak : ∀ b o, ¬ Y b → s.heap.get? b = some o → s.heap.get? b = some o ∧ ¬ offAs Y as b := fun b o hb e => ⟨e, fun h => hb h.1⟩
  split at hx
  · rename_i d e
    cases hx
    obtain ⟨p, v, nv, rv⟩ := m.f.sees x (.dat d) (by unfold rawR; rw [e])
    exact ⟨p, v, nv, rv.keep weak⟩
  · rename_i d e
    cases hx
    obtain ⟨p, v, nv, rv⟩ := m.f.sees x (.inst d) (by unfold rawR; rw [e])
    exact ⟨p, v, nv, rv.keep weak⟩
  · rename_i q e
    obtain ⟨d, h1, rfl⟩ := Option.map_eq_some_iff.mp hx
    have hq := m.ok x q e
    have ha : as[q]? = some as[q] := List.getElem?_eq_getElem hq
    obtain ⟨p, v, nv, rv⟩ := m.f.sees x (.raw (.ref as[q])) (by unfold rawR; rw [e]; simp [ha])
    have rv' : v = .ref as[q] := rv
    subst rv'
    refine ⟨p, _, nv, ?_⟩
    unfold viewP at h1
    simp only [Option.map_eq_some_iff, Option.bind_eq_some_iff] at h1
    obtain ⟨ds, ⟨its, h3, h4⟩, rfl⟩ := h1
    obtain ⟨us, h5, h6⟩ := m.ls q its _ h3 ha
    show Rp (offAs Y as) s.heap (.list ds) _
    simp only [Rp]
    exact ⟨_, us, rfl, fun h => h.2 (List.getElem_mem _), h5, view_all m h4 h6⟩
  · cases hx
theorem atom_rp {Y' : AS} {h : Heap} {d : PyData} {v : Value} (ha : isAtom d = true) (r : Rp Y' h d v) : Rp Y h d v := by
  cases d <;> simp [isAtom] at ha <;> simp only [Rp] at r ⊢ <;> exact r
theorem evS_ok {k : Nat} {F : Fn} {n : Nat} (eva : EvAll W k F n) {sc : Scope} {e : Expr} {d : PyData} {A : Around} {E : Value → Shared → Prop} (h : evS F n sc e ρ σ = some d) (hA : AOk (k + 1) A) (eo : EnvOk env sc) (m : Fm2 W X Y h₀ env Ow ρ σ as s) :
    wpAny (model prog w) A (eval e env) (Gv Y s d) E s := by
  unfold evS at h
  split at h
  · obtain ⟨d', h1, h2⟩ := Option.bind_eq_some_iff.mp h
    split at h2
    · rename_i ha
      cases h2
      exact wpk (eva.ev h1 hA eo m.f.G m.liveV m.seeV) fun v s' q => ⟨atom_rp ha q.1, q.2⟩
    · cases h2
  · exact eva.ev h hA eo m.f.G m.f.live m.seeN
end
end Mine
end SVQ
section SVR
open PySem PySem.W PyProof.Rows PySem.Calls
namespace Mine
variable {prog : Program} {w : World}
noncomputable def SK2 (Ow : AS) (as : List Addr) (s s' : Shared) : Prop := (∃ h tk, s' = { s with heap := h, toks := tk }) ∧ ∀ b o, ¬ Ow b → b ∉ as → s.heap.get? b = some o → s'.heap.get? b = some o
theorem sk2_refl {Ow : AS} {as : List Addr} (s : Shared) : SK2 Ow as s s := ⟨⟨s.heap, s.toks, rfl⟩, fun _ _ _ _ e => e⟩
theorem sk2_of {Ow : AS} {as : List Addr} {s s' : Shared} (k : SK Ow s s') : SK2 Ow as s s' := ⟨k.1, fun b o h _ e => k.2 b o h e⟩
structure Grow (s : Shared) (Y : AS) (as : List Addr) (Y' : AS) (as' : List Addr) : Prop where
  sub : ∀ b, Y b → Y' b
  old : ∀ b, Y' b → Y b ∨ s.heap.get? b = none
  as1 : ∀ (q : Nat) a, as[q]? = some a → as'[q]? = some a
  as2 : ∀ a ∈ as', a ∈ as ∨ s.heap.get? a = none
theorem Grow.refl (s : Shared) (Y : AS) (as : List Addr) : Grow s Y as Y as := ⟨fun _ h => h, fun _ h => .inl h, fun _ _ h => h, fun _ h => .inl h⟩
theorem sk2_trans {Ow : AS} {as as' : List Addr} {Y Y' : AS} {s s' s'' : Shared} (a : SK2 Ow as s s') (g : Grow s Y as Y' as') (b : SK2 Ow as' s' s'') : SK2 Ow as s s'' := by
  obtain ⟨⟨h, tk, rfl⟩, k⟩ := a
  obtain ⟨⟨h', tk', rfl⟩, k'⟩ := b
  refine ⟨⟨h', tk', rfl⟩, fun b o hb hn e => k' b o hb (fun hm => ?_) (k b o hb hn e)⟩
  rcases g.as2 b hm with h | h
  · exact hn h
  · rw [e] at h; cases h
theorem Grow.trans {Ow : AS} {s s' : Shared} {Y Y' Y'' : AS} {as as' as'' : List Addr} (a : Grow s Y as Y' as') (k : SK2 Ow as s s') (hO : ∀ b, Ow b → Y b) (hA : ∀ x ∈ as, Y x) (hA' : ∀ x, Ow x → x ∉ as'') (b : Grow s' Y' as' Y'' as'') : Grow s Y as Y'' as'' where
  sub := fun x h => b.sub x (a.sub x h)
  old := fun x h => by
    rcases b.old x h with h1 | h1
    · exact a.old x h1
    · by_cases hx : Y x
      · exact .inl hx
      · refine .inr ?_
        cases e : s.heap.get? x with
        | none => rfl
        | some o => rw [k.2 x o (fun q => hx (hO x q)) (fun q => hx (hA x q)) e] at h1; cases h1
  as1 := fun q x h => b.as1 q x (a.as1 q x h)
  as2 := fun x h => by
    rcases b.as2 x h with h1 | h1
    · exact a.as2 x h1
    · by_cases hx : x ∈ as
      · exact .inl hx
      · refine .inr ?_
        cases e : s.heap.get? x with
        | none => rfl
        | some o => rw [k.2 x o (fun q => hA' x q h) hx e] at h1; cases h1
section
variable {W : Wd prog w} {X Y : AS} {h₀ : Heap} {env : Env} {Ow : AS} {ρ : Ro2} {σ : Sg} {as : List Addr} {s : Shared} {A : Around} {E : Value → Shared → Prop}
noncomputable def Rv2 (W : Wd prog w) (Y : AS) (h : Heap) (as : List Addr) : V2 → Value → Prop
  | .dat d, v => Rp Y h d v
  | .inst k, v => W.Inst Y h k v
  | .ptr p, v => ∃ a, as[p]? = some a ∧ v = .ref a
noncomputable def rawV (as : List Addr) : V2 → V
  | .dat d => .dat d
  | .inst k => .inst k
  | .ptr p => .raw (.ref (as.getD p 0))
theorem raw_put {x : Str} {v : V2} (h : ∀ p, v = .ptr p → p < as.length) : rawR (put2 ρ x v) as = put (rawR ρ as) x (rawV as v) := by
  funext y
  unfold rawR put2 put
  by_cases e : y = x
  · simp only [e, if_true]
    cases v with
    | dat d => rfl
    | inst k => rfl
    | ptr p =>
      have hp := h p rfl
      simp [rawV, List.getElem?_eq_getElem hp, List.getD_eq_getElem?_getD]
  · simp only [e, if_false]
theorem fm2_store {sc : Scope} {x : Str} {v2 : V2} {v : Value} {Q : Unit → Shared → Prop} (fe : FEnv env sc Ow) (m : Fm2 W X Y h₀ env Ow ρ σ as s) (hx : stFit sc x = true) (r : Rv2 W Y s.heap as v2 v)
    (h : ∀ s', Fm2 W X Y h₀ env Ow (put2 ρ x v2) σ as s' → SK Ow s s' → Q () s') : wpAny (model prog w) A (storeName env x v) Q E s := by
  have hp : ∀ p, v2 = .ptr p → p < as.length := fun p e => by
    subst e
    obtain ⟨a, ha, _⟩ := r
    exact (List.getElem?_eq_some_iff.mp ha).1
  have r' : Rv W Y s.heap (rawV as v2) v := by
    cases v2 with
    | dat d => exact r
    | inst k => exact r
    | ptr p =>
      obtain ⟨a, ha, rfl⟩ := r
      show Value.ref a = .ref (as.getD p 0)
      rw [List.getD_eq_getElem?_getD, ha]; rfl
  refine fm_store fe m.f hx r' fun s' f' sk _ => h s' ⟨raw_put hp ▸ f', fun y p hy => ?_, m.len, m.nd, m.inY, m.off, m.new, m.base, fun p its a h1 h2 => ?_⟩ sk
  · unfold put2 at hy
    split at hy
    · cases hy; exact hp p rfl
    · exact m.ok y p hy
  · obtain ⟨vs, h3, h4⟩ := m.ls p its a h1 h2
    exact ⟨vs, h3.at fun o e => sk.2 a o (m.off a (List.mem_of_getElem? h2)) e, h4.keep (fun b o hb e => ⟨sk.2 b o (fun q => hb (m.f.own b q)) e, hb⟩) fun _ _ e => e⟩
end
end Mine
end SVR
section SVS
open PySem PySem.W PyProof.Rows PySem.Calls
namespace Mine
variable {prog : Program} {w : World}
section
variable {W : Wd prog w} {X Y : AS} {h₀ : Heap} {env : Env} {Ow : AS} {ρ : Ro2} {σ : Sg} {as : List Addr} {s : Shared} {A : Around} {E : Value → Shared → Prop}
theorem rawR_more {as' : List Addr} (hok : ∀ x p, ρ x = some (.ptr p) → p < as.length) (h1 : ∀ (q : Nat) a, as[q]? = some a → as'[q]? = some a) : rawR ρ as' = rawR ρ as := by
  funext x
  unfold rawR
  cases e : ρ x with
  | none => rfl
  | some v =>
    cases v with
    | dat d => rfl
    | inst k => rfl
    | ptr p =>
      have hp := hok x p e
      have := h1 p _ (List.getElem?_eq_getElem hp)
      simp [this, List.getElem?_eq_getElem hp]
theorem Fm2.grow (m : Fm2 W X Y h₀ env Ow ρ σ as s) (fe : Ow env.locals) {s' : Shared} {a : Addr} (k : Keeps s s') (ha : s.heap.get? a = none) (hl : s'.heap.PlainList a (List.toArray [])) :
    Fm2 W X (fun b => Y b ∨ b = a) h₀ env Ow ρ (σ ++ [[]]) (as ++ [a]) s' := by
  have hnY : ¬ Y a := m.f.live.fresh ha
  have pre : ∀ (q : Nat) x, as[q]? = some x → (as ++ [a])[q]? = some x := fun q x h => by
    rw [List.getElem?_append_left ((List.getElem?_eq_some_iff.mp h).1)]; exact h
  have hkeep : ∀ b o, ¬ Y b → s.heap.get? b = some o → s'.heap.get? b = some o ∧ ¬ (Y b ∨ b = a) := fun b o hb e => ⟨kp_get k e, by
    rintro (h | rfl)
    · exact hb h
    · rw [ha] at e; cases e⟩
  refine ⟨?_, fun x p h => by rw [List.length_append]; have := m.ok x p h; simp; omega, by simp [m.len], ?_, ?_, ?_, ?_, fun b hb => ⟨.inl (m.base b hb).1, ?_⟩, fun p its x h1 h2 => ?_⟩
  · rw [rawR_more m.ok pre]
    exact m.f.move (fun b o _ e => kp_get k e) fe (fun b o hb e => (hkeep b o hb e).2) (fun b hb => .inl (m.f.own b hb)) (fun x hx => by
      rcases hx with hx | rfl
      · exact m.f.live.keeps k x hx
      · obtain ⟨_, e⟩ := hl; exact ⟨_, e⟩)
  · refine List.nodup_append.mpr ⟨m.nd, by simp, fun x hx y hy => ?_⟩
    rw [List.mem_singleton.mp hy]
    rintro rfl
    exact hnY (m.inY _ hx)
  · intro x hx
    rcases List.mem_append.mp hx with h | h
    · exact .inl (m.inY x h)
    · exact .inr (List.mem_singleton.mp h)
  · intro x hx hO
    rcases List.mem_append.mp hx with h | h
    · exact m.off x h hO
    · rw [List.mem_singleton.mp h] at hO; exact hnY (m.f.own _ hO)
  · intro x hx
    rcases List.mem_append.mp hx with h | h
    · exact m.new x h
    · rw [List.mem_singleton.mp h]
      cases e : h₀.get? a with
      | none => rfl
      | some o => have := m.f.base a o e; rw [ha] at this; cases this
  · intro h
    rcases List.mem_append.mp h with h | h
    · exact (m.base b hb).2 h
    · rw [List.mem_singleton.mp h] at hb; exact hnY (m.base _ hb).1
  · by_cases hp : p < σ.length
    · rw [List.getElem?_append_left hp] at h1
      rw [List.getElem?_append_left (by rw [m.len]; exact hp)] at h2
      obtain ⟨vs, h3, h4⟩ := m.ls p its x h1 h2
      exact ⟨vs, h3.at fun o e => kp_get k e, h4.keep hkeep pre⟩
    · have hps : p = σ.length := by
        have := (List.getElem?_eq_some_iff.mp h1).1
        simp at this; omega
      subst hps
      rw [List.getElem?_append_right (Nat.le_refl _)] at h1
      rw [List.getElem?_append_right (by rw [m.len]; exact Nat.le_refl _), m.len] at h2
      simp at h1 h2
      subst h1 h2
      exact ⟨[], hl, rfl⟩
theorem Fm2.change (m : Fm2 W X Y h₀ env Ow ρ σ as s) (fe : Ow env.locals) {p : Nat} {a : Addr} {its : List It} {vs : List Value} {h' : Heap} (ha : as[p]? = some a) (hs : Heap.SameBut a s.heap h') (hl : h'.PlainList a (List.toArray vs)) (hr : ItsR Y s.heap as its vs) :
    Fm2 W X Y h₀ env Ow ρ (σ.set p its) as { s with heap := h' } := by
  have hm := List.mem_of_getElem? ha
  have keep : ∀ b o, b ≠ a → s.heap.get? b = some o → h'.get? b = some o := fun b o hb e => hs.extBut b o hb e
  have hY : ∀ b o, ¬ Y b → s.heap.get? b = some o → h'.get? b = some o ∧ ¬ Y b := fun b o hb e => ⟨keep b o (by rintro rfl; exact hb (m.inY _ hm)) e, hb⟩
  refine ⟨?_, m.ok, by simp [m.len], m.nd, m.inY, m.off, m.new, m.base, fun q its' x h1 h2 => ?_⟩
  · refine m.f.move (fun b o hc e => keep b o ?_ e) fe (fun b o hb _ => hb) m.f.own (fun x hx => ?_)
    · rintro rfl
      rcases hc with hc | hc | hc
      · exact hc (m.inY _ hm)
      · exact m.off _ hm hc
      · rw [m.new _ hm] at hc; cases hc
    · by_cases hb : x = a
      · subst hb; obtain ⟨_, e⟩ := hl; exact ⟨_, e⟩
      · obtain ⟨o, e⟩ := m.f.live x hx
        exact ⟨o, keep x o hb e⟩
  · by_cases hq : q = p
    · subst hq
      rw [ha] at h2; cases h2
      have hlt : q < σ.length := by rw [← m.len]; exact (List.getElem?_eq_some_iff.mp ha).1
      rw [List.getElem?_set_self hlt] at h1
      cases h1
      exact ⟨vs, hl, hr.keep hY fun _ _ e => e⟩
    · rw [List.getElem?_set_ne (Ne.symm hq)] at h1
      obtain ⟨us, h3, h4⟩ := m.ls q its' x h1 h2
      have hxa : x ≠ a := by
        rintro rfl
        obtain ⟨l1, e1⟩ := List.getElem?_eq_some_iff.mp ha
        obtain ⟨l2, e2⟩ := List.getElem?_eq_some_iff.mp h2
        have i1 := m.nd.idxOf_getElem p l1
        have i2 := m.nd.idxOf_getElem q l2
        rw [e1] at i1
        rw [e2] at i2
        exact hq (i2.symm.trans i1)
      exact ⟨us, h3.extBut hs.extBut hxa, h4.keep hY fun _ _ e => e⟩
end
end Mine
end SVS
section SUF
open PySem PySem.W PyProof.Rows PySem.Calls
set_option maxRecDepth 100000
namespace Mine
variable {prog : Program} {w : World} {A : Around} {E : Value → Shared → Prop} {s : Shared}
theorem mapSeq_set_plain (its : Array Value) (n j : Nat) (x : Value) : ∃ n', Obj.mapSeq (·.setIfInBounds j x) { cls := .type "list", data := .seq its n } = { cls := .type "list", data := .seq (its.setIfInBounds j x) n' } := by
  simp [Obj.mapSeq]
theorem setItem_plain {l : Addr} {items : Array Value} {k : Int} {j : Nat} {t : Tok} {v : Value} {Q : Unit → Shared → Prop} (hl : s.heap.PlainList l items) (hkj : k = (j : Int)) (hfit : j < 1000000) (hn : j < items.size)
    (hQ : ∀ h', h'.PlainList l (items.setIfInBounds j v) → Heap.SameBut l s.heap h' → Q () { s with heap := h' }) :
    wpAny (model prog w) A (setItem (.ref l) (.int k t) v) Q E s := by
  obtain ⟨n, ho⟩ := id hl
  have hT := hl.isList.typeIs
  unfold setItem
  try with_reducible refine wpAny_holding ?_
  first | refine wpAny_bind (wpAny_pure ?_) | skip
  refine wpAny_bind (wpAny_sequenceKey hT (by decide) ?_)
  refine wpAny_bind (wpAny_callSpecial?_slot (name := Str.ofString "__setitem__") hT slot_list_setitem (wpAny_call_entry slot_list_setitem hT entry_list_setitem ?_ (args_list_setitem _ _ _)))
  show wpAny _ _ (Builtin.List.listSubscript? (.int k t) >>= _) _ _ s
  refine wpAny_bind (wpAny_listSubscript_int (fitsIndex_of (by omega) (by omega)) ?_)
  subst hkj
  clear hfit
  have hx' : items[j]? = some items[j] := Array.getElem?_eq_getElem hn
  show wpAny _ _ ((seqItemAt l j >>= fun r => pure (r.map (j, ·))) >>= _) _ _ s
  refine wpAny_bind (wpAny_bind (wpAny_seqItemAt ho rfl (wpAny_pure ?_)))
  rw [hx']
  show wpAny _ _ (setSeqItemAt l j v >>= _) _ _ s
  obtain ⟨n', e'⟩ := mapSeq_set_plain items n j v
  have hfin : (s.heap.update l (Obj.mapSeq (·.setIfInBounds j v))).PlainList l (items.setIfInBounds j v) :=
    ⟨n', by rw [Heap.get?_update_self _ ho (by rw [e']; rfl), e']⟩
  refine wpAny_bind (wpAny_setSeqItemAt ho rfl ?_)
  first
    | exact wpAny_bind (wpAny_pure (wpAny_pure ⟨.none, rfl, wpAny_pure (hQ _ hfin (Heap.SameBut.update ..))⟩))
    | exact wpAny_pure ⟨.none, rfl, wpAny_pure (hQ _ hfin (Heap.SameBut.update ..))⟩
end Mine
end SUF
section SVT
open PySem PySem.W PyProof.Rows PySem.Calls
namespace Mine
variable {prog : Program} {w : World}
noncomputable def FlowR (X : AS) (h : Heap) : Fl → Flow → Prop
  | .next, f => f = .next
  | .ret d, f => ∃ v, f = .ret v ∧ Rp X h d v
noncomputable def Post (W : Wd prog w) (X Y : AS) (h₀ : Heap) (env : Env) (Ow : AS) (as : List Addr) (s : Shared) (q : Fl × St2) (fl : Flow) (s' : Shared) : Prop :=
  FlowR X s'.heap q.1 fl ∧ ∃ Y' as', Fm2 W X Y' h₀ env Ow q.2.1 q.2.2 as' s' ∧ Grow s Y as Y' as' ∧ SK2 Ow as s s'
structure StAll (W : Wd prog w) (k : Nat) (F : Fn) (n : Nat) : Prop where
  exS : ∀ {sc st r q env Ow A s X Y h₀ as E}, exS F n sc st r = some q → AOk (k + 1) A → FEnv env sc Ow → Fm2 W X Y h₀ env Ow r.1 r.2 as s → wpAny (model prog w) A (exec st env) (Post W X Y h₀ env Ow as s q) E s
  exL : ∀ {sc st r q env Ow A s X Y h₀ as E}, exL F n sc st r = some q → AOk (k + 1) A → FEnv env sc Ow → Fm2 W X Y h₀ env Ow r.1 r.2 as s → wpAny (model prog w) A (execs st env) (Post W X Y h₀ env Ow as s q) E s
section
variable {W : Wd prog w} {X Y : AS} {h₀ : Heap} {env : Env} {Ow : AS} {ρ : Ro2} {σ : Sg} {as : List Addr} {s : Shared} {A : Around} {E : Value → Shared → Prop} {k : Nat} {F : Fn} {n : Nat} {sc : Scope}
theorem Grow.ofKeeps {s s' : Shared} (k : Keeps s s') {Y Y' : AS} {as as' : List Addr} (g : Grow s' Y as Y' as') : Grow s Y as Y' as' where
  sub := g.sub
  old := fun b h => by
    rcases g.old b h with h1 | h1
    · exact .inl h1
    · cases e : s.heap.get? b with
      | none => exact .inr rfl
      | some o => rw [kp_get k e] at h1; cases h1
  as1 := g.as1
  as2 := fun b h => by
    rcases g.as2 b h with h1 | h1
    · exact .inl h1
    · cases e : s.heap.get? b with
      | none => exact .inr rfl
      | some o => rw [kp_get k e] at h1; cases h1
theorem sk2_keeps {s s' s'' : Shared} (k : Keeps s s') (a : SK2 Ow as s' s'') : SK2 Ow as s s'' := by
  obtain ⟨h, tk, rfl, kk⟩ := k
  obtain ⟨⟨h', tk', rfl⟩, k'⟩ := a
  exact ⟨⟨h', tk', rfl⟩, fun b o h1 h2 e => k' b o h1 h2 (kk b o e)⟩
theorem Post.keeps {s' : Shared} (kk : Keeps s s') {q : Fl × St2} {fl : Flow} {s'' : Shared} (p : Post W X Y h₀ env Ow as s' q fl s'') : Post W X Y h₀ env Ow as s q fl s'' := by
  obtain ⟨h1, Y', as', h2, h3, h4⟩ := p
  exact ⟨h1, Y', as', h2, h3.ofKeeps kk, sk2_keeps kk h4⟩
theorem Post.trans (m : Fm2 W X Y h₀ env Ow ρ σ as s) {Y' : AS} {as' : List Addr} {s' : Shared} (g : Grow s Y as Y' as') (k : SK2 Ow as s s') {q : Fl × St2} {fl : Flow} {s'' : Shared} (p : Post W X Y' h₀ env Ow as' s' q fl s'') : Post W X Y h₀ env Ow as s q fl s'' := by
  obtain ⟨h1, Y'', as'', h2, h3, h4⟩ := p
  exact ⟨h1, Y'', as'', h2, g.trans k m.f.own m.inY (fun x hx hm => h2.off x hm hx) h3, sk2_trans k g h4⟩
theorem exL_ok (ih : StAll W k F n) {st : List Stmt} {r : St2} {q : Fl × St2} (h : exL F (n + 1) sc st r = some q) (hA : AOk (k + 1) A) (fe : FEnv env sc Ow) (m : Fm2 W X Y h₀ env Ow r.1 r.2 as s) :
    wpAny (model prog w) A (execs st env) (Post W X Y h₀ env Ow as s q) E s := by
  cases st with
  | nil =>
    simp only [exL, Option.some.injEq] at h
    subst h
    exact wpAny_execs_nil ⟨rfl, Y, as, m, Grow.refl _ _ _, sk2_refl _⟩
  | cons st r' =>
    simp only [exL, Option.bind_eq_bind, Option.bind_eq_some_iff] at h
    obtain ⟨q1, h1, h⟩ := h
    refine wpAny_execs_cons (wpk (ih.exS h1 hA fe m) fun fl s₁ q₁ => ?_)
    obtain ⟨hfl, Y1, as1, m1, g1, k1⟩ := q₁
    obtain ⟨fl', r1⟩ := q1
    cases fl' with
    | ret d =>
      simp only [Option.some.injEq] at h
      subst h
      obtain ⟨v, rfl, rr⟩ := hfl
      exact ⟨⟨v, rfl, rr⟩, Y1, as1, m1, g1, k1⟩
    | next =>
      simp only at h
      have hfl' : fl = .next := hfl
      subst hfl'
      exact wpk (ih.exL h hA fe m1) fun fl s₂ q₂ => Post.trans m g1 k1 q₂
theorem while_ok (ih : StAll W k F n) (eva : EvAll W k F n) {t : Expr} {body : List Stmt} {pos : Pos} {r : St2} {q : Fl × St2} {j : Nat}
    (h2 : whL (fun r => tst F n sc t (view r.1 r.2)) (exL F n sc body) j r = some q) (hA : AOk (k + 1) A) (fe : FEnv env sc Ow) (m : Fm2 W X Y h₀ env Ow r.1 r.2 as s) :
    wpAny (model prog w) A (exec (.While t body [] pos) env) (Post W X Y h₀ env Ow as s q) E s := by
  refine wpAny_While (codeAny_whileLoop (fun j s' => ∃ r' Y' as', whL (fun r => tst F n sc t (view r.1 r.2)) (exL F n sc body) j r' = some q ∧ Fm2 W X Y' h₀ env Ow r'.1 r'.2 as' s' ∧ Grow s Y as Y' as' ∧ SK2 Ow as s s') ?_ j ⟨r, Y, as, h2, m, Grow.refl _ _ _, sk2_refl _⟩)
  rintro j s' ⟨r', Y', as', hw, m', g', sk⟩
  cases j with
  | zero => simp [whL] at hw
  | succ j =>
    simp only [whL, Option.bind_eq_bind, Option.bind_eq_some_iff] at hw
    obtain ⟨b, h1, hw⟩ := hw
    refine wpk (eva.tst h1 hA fe.eo m'.f.G m'.liveV m'.seeV) fun b' s₂ q₂ => ?_
    obtain ⟨rfl, k₂⟩ := q₂
    have sk2 : SK2 Ow as s s₂ := sk2_trans sk g' (sk2_keeps k₂ (sk2_refl _))
    cases b' with
    | false =>
      simp only [Bool.false_eq_true, if_false, Option.some.injEq] at hw ⊢
      subst hw
      exact wpAny_execs_nil ⟨rfl, Y', as', m'.keeps k₂, g', sk2⟩
    | true =>
      simp only [if_true, Option.bind_eq_some_iff] at hw ⊢
      obtain ⟨r1, hr, hw⟩ := hw
      refine wpk (ih.exL hr hA fe (m'.keeps k₂)) fun fl s₃ q₃ => ?_
      obtain ⟨hfl, Y3, as3, m3, g3, sk3⟩ := Post.trans m g' sk (Post.keeps k₂ q₃)
      obtain ⟨fl', r2⟩ := r1
      cases fl' with
      | ret dr =>
        simp only [Option.some.injEq] at hw
        subst hw
        obtain ⟨v', rfl, rr⟩ := hfl
        exact ⟨⟨v', rfl, rr⟩, Y3, as3, m3, g3, sk3⟩
      | next =>
        simp only at hw
        have hfl' : fl = .next := hfl
        subst hfl'
        exact ⟨j, Nat.lt_succ_self _, r2, Y3, as3, hw, m3, g3, sk3⟩
end
end Mine
end SVT
section SVU
open PySem PySem.W PyProof.Rows PySem.Calls
namespace Mine
variable {prog : Program} {w : World}
section
variable {W : Wd prog w} {X Y : AS} {h₀ : Heap} {env : Env} {Ow : AS} {ρ : Ro2} {σ : Sg} {as : List Addr} {s : Shared} {A : Around} {E : Value → Shared → Prop} {k : Nat} {F : Fn} {n : Nat} {sc : Scope}
theorem bind2_ok {ρ' : Ro2} {tg : Expr} {d : PyData} {v : Value} (hh : A.handled = none) (h : bindT2 sc ρ tg d = some ρ') (fe : FEnv env sc Ow) (m : Fm2 W X Y h₀ env Ow ρ σ as s) (r : Rp Y s.heap d v) (hl : ∀ l, d ≠ .list l ∨ ∃ x p, tg = .Name x p) :
    wpAny (model prog w) A (assign tg env v) (fun _ s' => Fm2 W X Y h₀ env Ow ρ' σ as s' ∧ SK Ow s s') E s := by
  rcases bindT2_inv h with ⟨x, p, rfl, hx, rfl⟩ | ⟨x, px, y, py, x1, pt, a, b, rfl, rfl, hx, rfl⟩ | ⟨x, px, y, py, z, pz, x1, pt, a, b, c, rfl, rfl, hx, rfl⟩
  · exact wpAny_assign_Name (fm2_store fe m hx (v2 := .dat d) r fun s' a b => ⟨a, b⟩)
  · simp only [Rp] at r
    obtain ⟨T, vs, rfl, hX, ht, hr⟩ := r
    simp only [Rps] at hr
    obtain ⟨va, vr, rfl, ra, vb, vr', rfl, rb, rfl⟩ := hr
    refine wpAny_assign_Tuple hh ht.isTuple rfl rfl fun h' hx' => ?_
    have kk : Keeps s { s with heap := h' } := ⟨h', s.toks, rfl, fun b o e => hx' b o (Nat.ne_of_lt (Heap.lt_size e)) e⟩
    show wpAny _ A (do holding [vb] (assign (.Name x px) env va); do holding [] (assign (.Name y py) env vb); pure ()) _ _ _
    have kY : ∀ (s' : Shared), SK Ow { s with heap := h' } s' → Rp Y s'.heap b vb := fun s' sk => Rp.keep (fun b o hb e => ⟨sk.2 b o (fun q => hb (m.f.own b q)) (kp_get kk e), hb⟩) rb
    refine wpAny_bind (wpAny_holding (wpAny_assign_Name (fm2_store fe (m.keeps kk) hx.1 (v2 := .dat a) (Rp.keeps kk ra) fun s' f' sk => ?_)))
    refine wpAny_bind (wpAny_holding (wpAny_assign_Name (fm2_store fe f' hx.2 (v2 := .dat b) (kY s' sk) fun s'' f'' sk' => wpAny_pure ⟨f'', sk_trans (sk_of kk) (sk_trans sk sk')⟩)))
  · exfalso
    rcases hl _ with h1 | ⟨_, _, h1⟩
    · exact h1 rfl
    · cases h1
theorem Fm2.weak {Y' : AS} (m : Fm2 W X Y h₀ env Ow ρ σ as s) (ol : Ow env.locals) (h : ∀ b, Y' b → Y b) (hO : ∀ b, Ow b → Y' b) (hA : ∀ a ∈ as, Y' a) (hX : ∀ b, X b → Y' b) : Fm2 W X Y' h₀ env Ow ρ σ as s :=
  ⟨m.f.move (fun b o _ e => e) ol (fun b o hb _ hy => hb (h b hy)) hO fun a ha => m.f.live a (h a ha), m.ok, m.len, m.nd, hA, m.off, m.new, fun b hb => ⟨hX b hb, (m.base b hb).2⟩, fun p its a h1 h2 => by
    obtain ⟨vs, h3, h4⟩ := m.ls p its a h1 h2
    exact ⟨vs, h3, h4.keep (fun b o hb e => ⟨e, fun hy => hb (h b hy)⟩) fun _ _ e => e⟩⟩
theorem Fm2.move {Y' : AS} {s' : Shared} (m : Fm2 W X Y h₀ env Ow ρ σ as s) (hk : ∀ b o, (¬ Y b ∨ Ow b ∨ b ∈ as ∨ h₀.get? b = some o) → s.heap.get? b = some o → s'.heap.get? b = some o) (ol : Ow env.locals) (hy : ∀ b o, ¬ Y b → s.heap.get? b = some o → ¬ Y' b) (ho : ∀ b, Y b → Y' b) (hl : Live Y' s'.heap) :
    Fm2 W X Y' h₀ env Ow ρ σ as s' :=
  ⟨m.f.move (fun b o hc e => hk b o (hc.imp_right fun h => h.imp_right fun h => .inr h) e) ol hy (fun b hb => ho b (m.f.own b hb)) hl, m.ok, m.len, m.nd, fun a ha => ho a (m.inY a ha), m.off, m.new, fun b hb => ⟨ho b (m.base b hb).1, (m.base b hb).2⟩, fun p its a h1 h2 => by
    obtain ⟨vs, h3, h4⟩ := m.ls p its a h1 h2
    exact ⟨vs, h3.at fun o e => hk a o (.inr (.inr (.inl (List.mem_of_getElem? h2)))) e, h4.keep (fun b o hb e => ⟨hk b o (.inl hb) e, hy b o hb e⟩) fun _ _ e => e⟩⟩
end
end Mine
end SVU
section SVV
open PySem PySem.W PyProof.Rows PySem.Calls
namespace Mine
variable {prog : Program} {w : World}
section
variable {W : Wd prog w} {X Y : AS} {h₀ : Heap} {env : Env} {Ow : AS} {ρ : Ro2} {σ : Sg} {as : List Addr} {s : Shared} {A : Around} {E : Value → Shared → Prop} {k : Nat} {F : Fn} {n : Nat} {sc : Scope}
theorem go_target2 {ρ ρ' : Ro2} {tg : Expr} {d : PyData} {v : Value} {A : Around} {Y X : AS} {h : Heap} {xs : List PyData} {i : Nat} {s₀ s₂ s : Shared} {I : Addr} {fp wr : List Addr} {P : Nat → Value → Prop} {St : Nat → Heap → Prop} {E : Value → Shared → Prop} {Q : Unit → Shared → Prop}
    (io : IterOk prog w A Y xs s₀ I fp wr P St s₂) (hb : bindT2 sc ρ tg d = some ρ') (hd : xs[i]? = some d) (hl : ∀ l, d ≠ .list l ∨ ∃ x p, tg = .Name x p) (r : Rp X h d v) {j : Nat} (st : St j s.heap) (hQ : Q () s) : wpAny (model prog w) A (letOwnedTupleGo tg (.ref I) v) Q E s := by
  rcases bindT2_inv hb with ⟨x, p, rfl, hx, rfl⟩ | ⟨x, px, y, py, x1, pt, a, b, rfl, rfl, hx, rfl⟩ | ⟨x, px, y, py, z, pz, x1, pt, a, b, c, rfl, rfl, hx, rfl⟩
  · exact wpAny_of_eq (a := ()) rfl hQ
  · simp only [Rp] at r
    obtain ⟨T, vs, rfl, _⟩ := r
    exact io.go _ _ _ _ _ _ _ _ _ _ hd st hQ
  · exfalso
    rcases hl _ with h1 | ⟨_, _, h1⟩
    · exact h1 rfl
    · cases h1
theorem Fm2.shift {Y' : AS} {s' : Shared} (m : Fm2 W X Y h₀ env Ow ρ σ as s) (hk : ∀ b o, (¬ Y b ∨ Ow b ∨ b ∈ as ∨ h₀.get? b = some o) → s.heap.get? b = some o → s'.heap.get? b = some o) (ol : Ow env.locals) (hy : ∀ b o, ¬ Y b → s.heap.get? b = some o → ¬ Y' b) (hO : ∀ b, Ow b → Y' b) (hA : ∀ a ∈ as, Y' a) (hX : ∀ b, X b → Y' b) (hl : Live Y' s'.heap) :
    Fm2 W X Y' h₀ env Ow ρ σ as s' :=
  ⟨m.f.move (fun b o hc e => hk b o (hc.imp_right fun h => h.imp_right fun h => .inr h) e) ol hy hO hl, m.ok, m.len, m.nd, hA, m.off, m.new, fun b hb => ⟨hX b hb, (m.base b hb).2⟩, fun p its a h1 h2 => by
    obtain ⟨vs, h3, h4⟩ := m.ls p its a h1 h2
    exact ⟨vs, h3.at fun o e => hk a o (.inr (.inr (.inl (List.mem_of_getElem? h2)))) e, h4.keep (fun b o hb e => ⟨hk b o (.inl hb) e, hy b o hb e⟩) fun _ _ e => e⟩⟩
theorem forFit_ok {tg : Expr} {xs : List PyData} (h : forFit tg xs = true) {d : PyData} (hd : d ∈ xs) : ∀ l, d ≠ .list l ∨ ∃ x p, tg = .Name x p := by
  intro l
  have key : (∃ x p, tg = .Name x p) ∨ forFit tg xs = xs.all fun d => match d with | .list _ => false | _ => true := by
    cases tg <;> first
      | exact .inl ⟨_, _, rfl⟩
      | exact .inr rfl
  rcases key with h1 | h1
  · exact .inr h1
  · refine .inl ?_
    rintro rfl
    rw [h1] at h
    have := List.all_eq_true.mp h _ hd
    cases this
theorem for_ok (ih : StAll W k F n) (eva : EvAll W k F n) {tg it : Expr} {body : List Stmt} {pos : Pos} {r : St2} {q : Fl × St2} {xs : List PyData} (h1 : its F n sc it (noPtr r.1) = some xs) (hft : forFit tg xs = true)
    (h2 : forL (fun v r => (bindT2 sc r.1 tg v).bind fun ρ' => exL F n sc body (ρ', r.2)) xs r = some q) (hA : AOk (k + 1) A) (fe : FEnv env sc Ow) (m : Fm2 W X Y h₀ env Ow r.1 r.2 as s) :
    wpAny (model prog w) A (exec (.For tg it body [] pos) env) (Post W X Y h₀ env Ow as s q) E s := by
  refine wpAny_For (wpk (eva.its h1 hA fe.eo m.f.G m.f.live m.seeN) fun xv s₁ h₁ => wpk h₁ fun itv s₂ h₂ => ?_) (its_noset h1 env)
  obtain ⟨I, fp, wr, P, St, rfl, io⟩ := h₂
  let Z : AS := fun b => Y b ∨ b ∈ wr
  let Ow' : AS := fun b => Ow b ∨ b ∈ wr
  have wrY : ∀ b ∈ wr, ¬ Y b := fun b hb hy => by
    obtain ⟨o, e⟩ := m.f.live b hy
    rw [io.new b hb] at e; cases e
  have wrOwn : ∀ b ∈ wr, ¬ Ow b := fun b hb hO => wrY b hb (m.f.own b hO)
  have wrNew : ∀ b ∈ wr, h₀.get? b = none := fun b hb => by
    cases e : h₀.get? b with
    | none => rfl
    | some o => have := m.f.base b o e; rw [io.new b hb] at this; cases this
  have asFp : ∀ {Z' as'}, Grow s₂ Z as Z' as' → ∀ a ∈ as', a ∉ fp := fun g a ha hf => by
    rcases g.as2 a ha with h | h
    · exact io.off a hf (m.inY a h)
    · obtain ⟨o, e⟩ := io.low a hf
      rw [e] at h; cases h
  have asWr : ∀ {Z' as'}, Grow s₂ Z as Z' as' → ∀ a ∈ as', a ∉ wr := fun g a ha hw => asFp g a ha (io.W.sub a hw)
  have thin : ∀ {s₃ : Shared} {r' : St2} {Z' as'}, Fm2 W X Z' h₀ env Ow r'.1 r'.2 as' s₃ → Grow s₂ Z as Z' as' → Fm2 W X (fun b => Z' b ∧ b ∉ wr) h₀ env Ow r'.1 r'.2 as' s₃ := fun m' g =>
    m'.weak fe.ol (fun b h => h.1) (fun b hb => ⟨m'.f.own b hb, fun hw => wrOwn b hw hb⟩) (fun a ha => ⟨m'.inY a ha, asWr g a ha⟩) (fun b hb => ⟨(m'.base b hb).1, fun hw => wrY b hw (m.base b hb).1⟩)
  have fin : ∀ (fl : Flow) (s₃ : Shared) (q' : Fl × St2) Z' as', FlowR X s₃.heap q'.1 fl → Fm2 W X (fun b => Z' b ∧ b ∉ wr) h₀ env Ow q'.2.1 q'.2.2 as' s₃ → Grow s₂ Z as Z' as' → SK2 Ow' as s₂ s₃ → Post W X Y h₀ env Ow as s q' fl s₃ := by
    intro fl s₃ q' Z' as' hfl m' g sk
    refine ⟨hfl, fun b => Z' b ∧ b ∉ wr, as', m', ?_, ?_⟩
    · refine Grow.ofKeeps io.k ⟨fun b h => ⟨g.sub b (.inl h), fun hw => wrY b hw h⟩, fun b h => ?_, g.as1, g.as2⟩
      rcases g.old b h.1 with (h1 | h1) | h1
      · exact .inl h1
      · exact absurd h1 h.2
      · exact .inr h1
    · obtain ⟨⟨h₃, t₃, rfl⟩, hk⟩ := sk
      obtain ⟨h₂', t₂', e₂, kk⟩ := id io.k
      refine ⟨⟨h₃, t₃, by rw [e₂]⟩, fun b o hO ha e => hk b o ?_ ha (kp_get io.k e)⟩
      rintro (h | h)
      · exact hO h
      · rw [io.new b h] at e; cases e
  refine codeAny_forLoop_any (fun q' s' => ∃ i ri Z' as', i ≤ xs.length ∧ q' = xs.length + 1 - i ∧ St i s'.heap ∧ forL (fun v r => (bindT2 sc r.1 tg v).bind fun ρ' => exL F n sc body (ρ', r.2)) (xs.drop i) ri = some q ∧ Fm2 W X Z' h₀ env Ow ri.1 ri.2 as' s' ∧ Grow s₂ Z as Z' as' ∧ SK2 Ow' as s₂ s') ?_ (xs.length + 1) ⟨0, r, Z, as, Nat.zero_le _, rfl, io.st, by simpa using h2, ?_, Grow.refl _ _ _, sk2_refl _⟩
  · rintro q' s' ⟨i, ri, Z', as', hi, rfl, hst, hfl, mi, gi, ski⟩
    have zwr : ∀ b ∈ wr, Z' b := fun b hb => gi.sub b (.inr hb)
    by_cases hlt : i < xs.length
    · obtain ⟨d, hd⟩ : ∃ d, xs[i]? = some d := ⟨_, List.getElem?_eq_getElem hlt⟩
      have hdrop : xs.drop i = d :: xs.drop (i + 1) := by
        rw [List.drop_eq_getElem_cons hlt]
        congr 1
        rw [List.getElem?_eq_getElem hlt] at hd; cases hd; rfl
      rw [hdrop] at hfl
      simp only [forL, Option.bind_eq_bind, Option.bind_eq_some_iff] at hfl
      obtain ⟨r', ⟨ρ', hb, hr⟩, hrest⟩ := hfl
      have hdf := forFit_ok hft (List.mem_of_getElem? hd)
      refine io.W.item i _ _ _ hlt hst fun v h₁ tk₁ hPv hst₁ hk₁ => ?_
      have m1 : Fm2 W X Z' h₀ env Ow ri.1 ri.2 as' { s' with heap := h₁, toks := tk₁ } := mi.move (fun b o hc e => hk₁ b o (fun hw => by
          rcases hc with hc | hc | hc | hc
          · exact hc (zwr b hw)
          · exact wrOwn b hw hc
          · exact asWr gi b hc hw
          · rw [wrNew b hw] at hc; cases hc) e) fe.ol (fun b o hb _ => hb) (fun b h => h) (fun a ha => by
          by_cases hw : a ∈ wr
          · exact io.lives _ _ hst₁ a hw
          · obtain ⟨o, e⟩ := mi.f.live a ha
            exact ⟨o, hk₁ a o hw e⟩)
      have sk1 : SK2 Ow' as s₂ { s' with heap := h₁, toks := tk₁ } := by
        obtain ⟨⟨h₃, t₃, rfl⟩, hk⟩ := ski
        exact ⟨⟨h₁, tk₁, rfl⟩, fun b o hO ha e => hk₁ b o (fun h => hO (.inr h)) (hk b o hO ha e)⟩
      have rv : Rp Z' h₁ d v := Rp.keep (fun b o hb e => ⟨sk1.2 b o (fun h => hb (h.elim (fun h => .inl (m.f.own b h)) .inr)) (fun h => hb (.inl (m.inY b h))) e, fun hz => by
        rcases gi.old b hz with h | h
        · exact hb h
        · rw [e] at h; cases h⟩) (io.item i v d hPv hd)
      refine go_target2 io hb hd hdf rv hst₁ ?_
      refine wpk (bind2_ok (W := W) hA.h hb fe m1 rv hdf) fun _ s₃ q₃ => ?_
      obtain ⟨m3, sk3⟩ := q₃
      have hst3 : St (i + 1) s₃.heap := io.W.frame _ _ _ hst₁ fun b hb o e => sk3.2 b o (fun h => io.off b hb (m.f.own b h)) e
      have sk3' : SK2 Ow' as s₂ s₃ := sk2_trans sk1 (Grow.refl s₂ Z as) (sk2_of (sk_mono sk3 fun b h => .inl h))
      refine wpk (ih.exL hr hA fe m3) fun fl s₄ q₄ => ?_
      obtain ⟨hfl, Z4, as4, m4, g4, sk4⟩ := q₄
      have as4wr : ∀ a ∈ as4, a ∉ wr := fun a ha hw => by
        rcases g4.as2 a ha with h | h
        · exact asWr gi a h hw
        · obtain ⟨o, e⟩ := io.lives _ _ hst3 a hw
          rw [e] at h; cases h
      have g4' : Grow s₂ Z as Z4 as4 := gi.trans sk3' (fun b h => h.elim (fun h => .inl (m.f.own b h)) .inr) (fun x hx => .inl (m.inY x hx)) (fun x hx hm => hx.elim (fun h => m4.off x hm h) fun h => as4wr x hm h) g4
      have sk4' : SK2 Ow' as s₂ s₄ := sk2_trans sk3' gi ⟨sk4.1, fun b o hO ha e => sk4.2 b o (fun h => hO (.inl h)) ha e⟩
      obtain ⟨fl', r''⟩ := r'
      cases fl' with
      | ret dr =>
        simp only [Option.some.injEq] at hrest
        subst hrest
        obtain ⟨v', rfl, rr⟩ := hfl
        exact fin _ _ _ _ _ ⟨v', rfl, rr⟩ (thin m4 g4') g4' sk4'
      | next =>
        simp only at hrest
        have hfl' : fl = .next := hfl
        subst hfl'
        refine ⟨xs.length + 1 - (i + 1), by omega, i + 1, r'', Z4, as4, hlt, rfl, ?_, hrest, m4, g4', sk4'⟩
        exact io.W.frame _ _ _ hst3 fun b hb o e => sk4.2 b o (fun h => io.off b hb (m.f.own b h)) (fun h => asFp gi b h hb) e
    · have hin : i = xs.length := by omega
      subst hin
      rw [List.drop_of_length_le (Nat.le_refl _)] at hfl
      simp only [forL, Option.some.injEq] at hfl
      subst hfl
      refine io.W.done _ _ _ hst fun h₁ tk₁ hk₁ => wpAny_execs_nil ?_
      have sk1 : SK2 Ow' as s₂ { s' with heap := h₁, toks := tk₁ } := by
        obtain ⟨⟨h₃, t₃, rfl⟩, hk⟩ := ski
        exact ⟨⟨h₁, tk₁, rfl⟩, fun b o hO ha e => hk₁ b o (fun h => hO (.inr h)) (hk b o hO ha e)⟩
      refine fin _ _ (.next, ri) _ _ rfl ?_ gi sk1
      refine mi.shift (fun b o hc e => hk₁ b o (fun hw => by
          rcases hc with hc | hc | hc | hc
          · exact hc (zwr b hw)
          · exact wrOwn b hw hc
          · exact asWr gi b hc hw
          · rw [wrNew b hw] at hc; cases hc) e) fe.ol (fun b o hb _ h => hb h.1) (fun b hb => ⟨mi.f.own b hb, fun hw => wrOwn b hw hb⟩) (fun a ha => ⟨mi.inY a ha, asWr gi a ha⟩) (fun b hb => ⟨(mi.base b hb).1, fun hw => wrY b hw (m.base b hb).1⟩) (fun a ha => ?_)
      obtain ⟨o, e⟩ := mi.f.live a ha.1
      exact ⟨o, hk₁ a o ha.2 e⟩
  · refine m.move (fun b o _ e => kp_get io.k e) fe.ol (fun b o hb e h => ?_) (fun b hb => .inl hb) (fun a ha => ?_)
    · rcases h with h | h
      · exact hb h
      · rw [io.new b h] at e; cases e
    · rcases ha with ha | ha
      · exact m.f.live.keeps io.k a ha
      · exact io.lives _ _ io.st a ha
end
end Mine
end SVV
section SVW
open PySem PySem.W PyProof.Rows PySem.Calls
namespace Mine
variable {prog : Program} {w : World}
section
variable {W : Wd prog w} {X Y : AS} {h₀ : Heap} {env : Env} {Ow : AS} {ρ : Ro2} {σ : Sg} {as : List Addr} {s : Shared} {A : Around} {E : Value → Shared → Prop} {k : Nat} {F : Fn} {n : Nat} {sc : Scope}
theorem Post.next {ρ' : Ro2} {σ' : Sg} {s' : Shared} (m' : Fm2 W X Y h₀ env Ow ρ' σ' as s') (sk : SK2 Ow as s s') : Post W X Y h₀ env Ow as s (.next, ρ', σ') .next s' :=
  ⟨rfl, Y, as, m', Grow.refl _ _ _, sk⟩
theorem unpackL {t : Addr} {items : Array Value} {targets : List (Bool × (Value → Sem Unit))} {Q : Unit → Shared → Prop} (hh : A.handled = none) (ht : s.heap.IsList t items)
    (hn : targets.length = items.size) (hstar : targets.findIdx? (·.1) = none)
    (h : ∀ h', Heap.ExtBut s.heap.objs.size s.heap h' → wpAny (model prog w) A (assignInOrder (targets.map (·.2)) items.toList) Q E { s with heap := h' }) :
    wpAny (model prog w) A (unpack (.ref t) targets) Q E s := by
  unfold unpack
  rw [hn, hstar]
  exact wpAny_bind (wpAny_holding (kun_itemsOf hh ht h))
theorem bind3_ok {ρ' : Ro2} {x y z : Str} {px py pz pt : Pos} {c1 : Nat} {a b c : PyData} {v : Value} (hh : A.handled = none) (hx : stFit sc x = true ∧ stFit sc y = true ∧ stFit sc z = true) (hρ : ρ' = put2 (put2 (put2 ρ x (.dat a)) y (.dat b)) z (.dat c)) (fe : FEnv env sc Ow) (m : Fm2 W X Y h₀ env Ow ρ σ as s) (r : Rp Y s.heap (.list [a, b, c]) v) :
    wpAny (model prog w) A (assign (.Tuple [.Name x px, .Name y py, .Name z pz] c1 pt) env v) (fun _ s' => Fm2 W X Y h₀ env Ow ρ' σ as s' ∧ SK Ow s s') E s := by
  subst hρ
  simp only [Rp] at r
  obtain ⟨T, vs, rfl, hX, ht, hr⟩ := r
  simp only [Rps] at hr
  obtain ⟨va, vr, rfl, ra, vb, vr', rfl, rb, vc, vr'', rfl, rc, rfl⟩ := hr
  rw [arm_assign_Tuple]
  refine wpAny_bind (wpAny_standAt (unpackL hh ht.isList rfl rfl fun h' hx' => ?_))
  have kk : Keeps s { s with heap := h' } := ⟨h', s.toks, rfl, fun b o e => hx' b o (Nat.ne_of_lt (Heap.lt_size e)) e⟩
  show wpAny _ A (do holding [vb, vc] (assign (.Name x px) env va); do holding [vc] (assign (.Name y py) env vb); do holding [] (assign (.Name z pz) env vc); pure ()) _ _ _
  have kY : ∀ (s₁ s' : Shared), SK Ow s₁ s' → ∀ d v, Rp Y s₁.heap d v → Rp Y s'.heap d v := fun s₁ s' sk d v r => Rp.keep (fun b o hb e => ⟨sk.2 b o (fun q => hb (m.f.own b q)) e, hb⟩) r
  have skk : SK Ow s { s with heap := h' } := sk_of kk
  refine wpAny_bind (wpAny_holding (wpAny_assign_Name (fm2_store fe (m.keeps kk) hx.1 (v2 := .dat a) (Rp.keeps kk ra) fun s' f' sk => ?_)))
  refine wpAny_bind (wpAny_holding (wpAny_assign_Name (fm2_store fe f' hx.2.1 (v2 := .dat b) (kY _ _ sk _ _ (Rp.keeps kk rb)) fun s'' f'' sk' => ?_)))
  refine wpAny_bind (wpAny_holding (wpAny_assign_Name (fm2_store fe f'' hx.2.2 (v2 := .dat c) (kY _ _ sk' _ _ (kY _ _ sk _ _ (Rp.keeps kk rc))) fun s₃ f₃ sk₃ => wpAny_pure ⟨f₃, sk_trans skk (sk_trans sk (sk_trans sk' sk₃))⟩)))
theorem bindA_ok {ρ' : Ro2} {ts : List Expr} {c1 : Nat} {pt : Pos} {d : PyData} {v : Value} (hh : A.handled = none) (h : bindT2 sc ρ (.Tuple ts c1 pt) d = some ρ') (fe : FEnv env sc Ow) (m : Fm2 W X Y h₀ env Ow ρ σ as s) (r : Rp Y s.heap d v) :
    wpAny (model prog w) A (assign (.Tuple ts c1 pt) env v) (fun _ s' => Fm2 W X Y h₀ env Ow ρ' σ as s' ∧ SK Ow s s') E s := by
  rcases bindT2_inv h with ⟨x, p, e, hx, _⟩ | ⟨x, px, y, py, x1, pt, a, b, e, rfl, hx, _⟩ | ⟨x, px, y, py, z, pz, x1, pt, a, b, c, e, rfl, hx, hρ⟩
  · cases e
  · exact bind2_ok hh h fe m r fun l => .inl (by simp)
  · cases e
    exact bind3_ok hh hx hρ fe m r
theorem swaps_tuple (value : Expr) (ts : List Expr) (c1 : Nat) (pt : Pos) (line : Nat) (env : Env) : swapsWithSole [.Tuple ts c1 pt] value line env = pure false := by
  show swapsWith value (some (.Tuple ts c1 pt)) line env = pure false
  cases value <;> rfl
theorem stores_none {value : Expr} (h : isTup value = false) (ts : List Expr) (c1 : Nat) (pt : Pos) (env : Env) : swappedStores [.Tuple ts c1 pt] value env = pure none := by
  cases value <;> first | rfl | (cases h; done)
theorem assign_tuple_ok (eva : EvAll W k F n) {ρ' : Ro2} {ts : List Expr} {c1 : Nat} {pt spos : Pos} {e : Expr} {d : PyData} (h1 : ev F n sc e (noPtr ρ) = some d) (ht : isTup e = false) (h2 : bindT2 sc ρ (.Tuple ts c1 pt) d = some ρ') (hA : AOk (k + 1) A) (fe : FEnv env sc Ow) (m : Fm2 W X Y h₀ env Ow ρ σ as s) :
    wpAny (model prog w) A (exec (.Assign [.Tuple ts c1 pt] e spos) env) (Post W X Y h₀ env Ow as s (.next, ρ', σ)) E s := by
  refine PyProof.Rows.Assign_Tuple (wpk (eva.ev h1 hA fe.eo m.f.G m.f.live m.seeN) fun v s₁ q => ?_) (swaps_tuple _ _ _ _ _ _) (stores_none ht _ _ _ _)
  refine wpk (bindA_ok hA.h h2 fe (m.keeps q.2) q.1) fun _ s₂ q₂ => ?_
  exact Post.next q₂.1 (sk2_of (sk_trans (sk_of q.2) q₂.2))
theorem ld_ptr {p : Nat} {x : Str} {px : Pos} (hp : ptrOf ρ x = some p) (fe : FEnv env sc Ow) (m : Fm2 W X Y h₀ env Ow ρ σ as s) {Q : Value → Shared → Prop} (h : ∀ a, as[p]? = some a → Q (.ref a) s) : wpAny (model prog w) A (eval (.Name x px) env) Q E s := by
  unfold ptrOf at hp
  split at hp
  · rename_i p' e
    cases hp
    have hq := m.ok x p e
    have ha : as[p]? = some as[p] := List.getElem?_eq_getElem hq
    obtain ⟨pn, v, nv, rv⟩ := m.f.sees x (.raw (.ref as[p])) (by unfold rawR; rw [e]; simp [ha])
    have rv' : v = .ref as[p] := rv
    subst rv'
    exact ld_var fe.eo.kind pn nv (h _ ha)
  · cases hp
theorem asNat_ok {d : PyData} {j : Nat} (h : asNat d = some j) : d = .int (j : Int) ∧ j < 1000000 := by
  unfold asNat at h
  split at h
  · split at h
    · rename_i hb
      cases h
      refine ⟨?_, by omega⟩
      congr 1
      omega
    · cases h
  · cases h
theorem ptrAt_ok (eva : EvAll W k F n) {q : Nat} {y : Str} {py ps : Pos} {i : Expr} (h : ptrAt F n sc ρ σ y i = some q) (hA : AOk (k + 1) A) (fe : FEnv env sc Ow) (m : Fm2 W X Y h₀ env Ow ρ σ as s) {Q : Value → Shared → Prop}
    (hQ : ∀ a s', as[q]? = some a → Keeps s s' → Q (.ref a) s') : wpAny (model prog w) A (eval (.Subscript (.Name y py) i ps) env) Q E s := by
  unfold ptrAt at h
  obtain ⟨p, h1, h⟩ := bnd h
  obtain ⟨d, h2, h⟩ := bnd h
  obtain ⟨j, h3, h⟩ := bnd h
  obtain ⟨its, h4, h5⟩ := bnd h
  clear h
  split at h5
  · rename_i q' h6
    cases h5
    obtain ⟨rfl, hj⟩ := asNat_ok h3
    refine PyProof.Rows.Subscript_ (ld_ptr h1 fe m fun a ha => ?_)
    refine wpk (eva.ev h2 hA fe.eo m.f.G m.liveV m.seeV) fun v s₁ q₁ => ?_
    obtain ⟨r1, k1⟩ := q₁
    simp only [Rp] at r1
    obtain ⟨t, rfl⟩ := r1
    obtain ⟨vs, hl, hr⟩ := (m.keeps k1).ls p its a h4 ha
    obtain ⟨v, hv, a', ha', rfl⟩ := hr.get h6
    refine sub_tail (T := "list") hl.isList.typeIs slot_list_getitem.lookup ?_
    exact wpAny_getItem_list hl.isList (by omega) (by omega) (by simpa using hv) (hQ _ _ ha' k1)
  · cases h5
end
end Mine
end SVW
section SVX
open PySem PySem.W PyProof.Rows PySem.Calls
namespace Mine
variable {prog : Program} {w : World}
section
variable {W : Wd prog w} {X Y : AS} {h₀ : Heap} {env : Env} {Ow : AS} {ρ : Ro2} {σ : Sg} {as : List Addr} {s : Shared} {A : Around} {E : Value → Shared → Prop} {k : Nat} {F : Fn} {n : Nat} {sc : Scope}
theorem Grow.one {a : Addr} (h : s.heap.get? a = none) : Grow s Y as (fun b => Y b ∨ b = a) (as ++ [a]) where
  sub := fun _ h => .inl h
  old := fun b hb => by
    rcases hb with hb | rfl
    · exact .inl hb
    · exact .inr h
  as1 := fun q x hx => by rw [List.getElem?_append_left ((List.getElem?_eq_some_iff.mp hx).1)]; exact hx
  as2 := fun b hb => by
    rcases List.mem_append.mp hb with hb | hb
    · exact .inl hb
    · rw [List.mem_singleton.mp hb]; exact .inr h
theorem none_before {s s' : Shared} (k : Keeps s s') {a : Addr} (h : s'.heap.get? a = none) : s.heap.get? a = none := by
  cases e : s.heap.get? a with
  | none => rfl
  | some o => rw [kp_get k e] at h; cases h
theorem nil_list {e : Expr} (h : isEmptyList e = true) : ∃ p, e = .List [] p := by
  cases e <;> first
    | (cases h; done)
    | skip
  rename_i es p
  cases es with
  | nil => exact ⟨p, rfl⟩
  | cons _ _ => cases h
theorem sk2_change {a : Addr} {h' : Heap} (hs : Heap.SameBut a s.heap h') (ha : a ∈ as) : SK2 Ow as s { s with heap := h' } :=
  ⟨⟨h', s.toks, rfl⟩, fun b o _ hn e => hs.extBut b o (by rintro rfl; exact hn ha) e⟩
theorem not_inter {env : Env} {sc : Scope} (eo : EnvOk env sc) : interactive env = false := by
  unfold interactive
  rw [eo.kind]
  rfl
theorem append_tail {p : Nat} {a : Addr} {its : List It} {i : It} {v : Value} {Q : Value → Shared → Prop} (m : Fm2 W X Y h₀ env Ow ρ σ as s) (fe : FEnv env sc Ow) (ha : as[p]? = some a) (h1 : σ[p]? = some its) (hz : its.length ≤ 1000000) (hi : ItR Y s.heap as i v)
    (hQ : ∀ v s', Fm2 W X Y h₀ env Ow ρ (σ.set p (its ++ [i])) as s' → SK2 Ow as s s' → Q v s') : wpAny (model prog w) A (call (.builtin "list.append") [.ref a, v]) Q E s := by
  obtain ⟨vs, hl, hr⟩ := m.ls p its a h1 ha
  refine wpAny_list_append_plain hl (fun h' hl' hs' => ?_) (by rw [sizeLine_big, List.size_toArray, hr.length]; omega)
  rw [List.push_toArray] at hl'
  exact hQ _ _ (m.change fe.ol ha hs' hl' (hr.append ⟨v, [], rfl, hi, rfl⟩)) (sk2_change hs' (List.mem_of_getElem? ha))
theorem push_ok (eva : EvAll W k F n) {o : Expr} {p : Nat} {e : Expr} {ap pos spos : Pos} {σ' : Sg} (hbase : attributeBase o sAppend env (eval o env) = eval o env)
    (ho : ∀ (Q : Value → Shared → Prop), (∀ a s', as[p]? = some a → Keeps s s' → Q (.ref a) s') → wpAny (model prog w) A (eval o env) Q E s)
    (h : pushIt F n sc ρ σ p e = some σ') (hline : (ap.endLine == pos.line) = true) (hA : AOk (k + 1) A) (fe : FEnv env sc Ow) (m : Fm2 W X Y h₀ env Ow ρ σ as s) :
    wpAny (model prog w) A (exec (.Expr (.Call (.Attribute o sAppend ap) [e] [] pos) spos) env) (Post W X Y h₀ env Ow as s (.next, ρ, σ')) E s := by
  unfold pushIt at h
  obtain ⟨its, h1, h⟩ := bnd h
  split at h
  · rename_i hz
    have hn1 : ∀ e' ∈ [e], ∀ v p, e' ≠ .Starred v p := fun e' he v p => by
      rw [List.mem_singleton] at he
      subst he
      rintro rfl
      rw [if_neg (fun e => by cases e)] at h
      obtain ⟨d, h2, _⟩ := Option.bind_eq_some_iff.mp h
      exact ev_nostar (show ev F n sc _ (noPtr ρ) = some d from h2) _ _ rfl
    refine wpAny_Expr_any ?_ (not_inter fe.eo)
    refine call_meth hbase hn1 (by simp) hline (ho _ fun a s₁ ha k1 imp => ?_)
    have m1 := m.keeps k1
    obtain ⟨vs, ⟨nl, hl⟩, hr⟩ := m1.ls p its a h1 ha
    refine getMethod_builtin (id := "list.append") ⟨_, hl, rfl⟩ PySem.F.plainAttrs_list PySem.F.slot_list_append PySem.F.type_list_append (fun a e => by cases e; exact ⟨_, hl, rfl⟩) ?_
    refine callW_builtin (by simp) hn1 ?_
    split at h
    · rename_i hem
      cases h
      obtain ⟨pe, rfl⟩ := nil_list hem
      refine wpAny_items_cons (wpAny_List_spliced (wpAny_items_nil ⟨Nat.zero_le _, wpAny_items_nil ?_⟩))
      have hno : s₁.heap.get? s₁.heap.objs.size = none := get_size_none _
      have m2 := m1.grow fe.ol (s' := { s₁ with heap := s₁.heap.push { cls := .type "list", data := .seq ([] : List Value).toArray } }) (kp_push _ _) hno ⟨_, Heap.get?_push_size _ rfl⟩
      have hp : p < as.length := (List.getElem?_eq_some_iff.mp ha).1
      have hp' : p < σ.length := by rw [← m.len]; exact hp
      have ha' : (as ++ [s₁.heap.objs.size])[p]? = some a := by rw [List.getElem?_append_left hp]; exact ha
      have h1' : (σ ++ [[]])[p]? = some its := by rw [List.getElem?_append_left hp']; exact h1
      refine append_tail m2 fe ha' h1' hz (i := .p σ.length) ⟨_, ?_, rfl⟩ fun v s' m3 sk => ?_
      · rw [← m.len, List.getElem?_append_right (Nat.le_refl _)]; simp
      · refine ⟨rfl, _, _, ?_, Grow.ofKeeps k1 (Grow.one hno), ?_⟩
        · have e : (σ ++ [[]]).set p (its ++ [It.p σ.length]) = σ.set p (its ++ [It.p σ.length]) ++ [[]] := List.set_append_left _ _ hp'
          rw [← e]; exact m3
        · exact sk2_trans (sk2_keeps k1 (sk2_of (sk_of (kp_push _ _)))) (Grow.ofKeeps k1 (Grow.one (Y := Y) hno)) sk
    · obtain ⟨d, h2, h⟩ := bnd h
      obtain rfl := Option.some.inj h
      refine wpAny_items_cons (wpk (evS_ok eva h2 hA fe.eo m1) fun v s₂ q => wpAny_items_nil ?_) (starEach_plain (hn1 e (by simp)))
      refine append_tail (m1.keeps q.2) fe ha h1 hz (i := .d d) q.1 fun v s' m3 sk => ?_
      exact Post.next m3 (sk2_keeps (kp_trans k1 q.2) sk)
  · cases h
theorem swaps_sub (value o i : Expr) (p : Pos) (line : Nat) (env : Env) : swapsWith value (some (.Subscript o i p)) line env = pure false := by
  cases value <;> rfl
theorem setitem_ok (eva : EvAll W k F n) {x : Str} {px pp spos : Pos} {i e : Expr} {d j : PyData} {p kk : Nat} {its : List It} (h1 : evS F n sc e ρ σ = some d) (h2 : ptrOf ρ x = some p) (h3 : ev F n sc i (view ρ σ) = some j) (h4 : asNat j = some kk) (h5 : σ[p]? = some its) (h6 : kk < its.length)
    (hA : AOk (k + 1) A) (fe : FEnv env sc Ow) (m : Fm2 W X Y h₀ env Ow ρ σ as s) :
    wpAny (model prog w) A (exec (.Assign [.Subscript (.Name x px) i pp] e spos) env) (Post W X Y h₀ env Ow as s (.next, ρ, σ.set p (its.set kk (.d d)))) E s := by
  obtain ⟨rfl, hj⟩ := asNat_ok h4
  refine wpAny_Assign_Subscript (wpk (evS_ok eva h1 hA fe.eo m) fun v s₁ q => ?_) (swaps_sub _ _ _ _ _ _)
  refine ld_ptr h2 fe (m.keeps q.2) fun a ha => ?_
  have m1 := m.keeps q.2
  refine wpk (eva.ev h3 hA fe.eo m1.f.G m1.liveV m1.seeV) fun iv s₂ q₂ => ?_
  obtain ⟨r1, k1⟩ := q₂
  simp only [Rp] at r1
  obtain ⟨t, rfl⟩ := r1
  have m2 := m1.keeps k1
  obtain ⟨vs, hl, hr⟩ := m2.ls p its a h5 ha
  refine setItem_plain hl rfl hj (by rw [List.size_toArray, hr.length]; exact h6) fun h' hl' hs' => ?_
  have e : vs.toArray.setIfInBounds kk v = (vs.set kk v).toArray := by simp
  rw [e] at hl'
  exact Post.next (m2.change fe.ol ha hs' hl' (hr.set (i := .d d) (Rp.keeps k1 q.1))) (sk2_keeps (kp_trans q.2 k1) (sk2_change hs' (List.mem_of_getElem? ha)))
theorem new_ok {x : Str} {px spos : Pos} {e : Expr} (he : isEmptyList e = true) (hx : stFit sc x = true) (fe : FEnv env sc Ow) (m : Fm2 W X Y h₀ env Ow ρ σ as s) :
    wpAny (model prog w) A (exec (.Assign [.Name x px] e spos) env) (Post W X Y h₀ env Ow as s (.next, put2 ρ x (.ptr σ.length), σ ++ [[]])) E s := by
  obtain ⟨pe, rfl⟩ := nil_list he
  refine wpAny_Assign_Name (wpAny_List_spliced (wpAny_items_nil ⟨Nat.zero_le _, ?_⟩))
  have hno : s.heap.get? s.heap.objs.size = none := get_size_none _
  have m2 := m.grow fe.ol (s' := { s with heap := s.heap.push { cls := .type "list", data := .seq ([] : List Value).toArray } }) (kp_push _ _) hno ⟨_, Heap.get?_push_size _ rfl⟩
  refine fm2_store fe m2 hx (v2 := .ptr σ.length) ⟨_, ?_, rfl⟩ fun s' m3 sk => ?_
  · rw [← m.len, List.getElem?_append_right (Nat.le_refl _)]; simp
  · exact ⟨rfl, _, _, m3, Grow.one hno, sk2_of (sk_trans (sk_of (kp_push _ _)) sk)⟩
end
end Mine
end SVX
section SVY
open PySem PySem.W PyProof.Rows PySem.Calls
namespace Mine
variable {prog : Program} {w : World}
section
variable {W : Wd prog w} {X Y : AS} {h₀ : Heap} {env : Env} {Ow : AS} {ρ : Ro2} {σ : Sg} {as : List Addr} {s : Shared} {A : Around} {E : Value → Shared → Prop} {k : Nat} {F : Fn} {n : Nat} {sc : Scope}
theorem comp_form {F : Fn} {n : Nat} {sc : Scope} {elt : Expr} {gens : List Comprehension} {isc : Scope} {pos : Pos} {ρ : Ro} {d : PyData} (h : ev F (n + 1) sc (.ListComp elt gens isc pos) ρ = some d) : ∃ g gs, gens = g :: gs := by
  cases gens with
  | nil => cases h
  | cons g gs => exact ⟨g, gs, rfl⟩
theorem swaps {F : Fn} {n : Nat} {sc : Scope} {e : Expr} {ρ : Ro} {d : PyData} (h : ev F n sc e ρ = some d) (x : Str) (px : Pos) (line : Nat) (env : Env) :
    ∃ b, swapsWith e (some (.Name x px)) line env = pure b ∧ (b = true → ∃ m elt g gs isc pos, n = m + 1 ∧ e = .ListComp elt (g :: gs) isc pos) := by
  cases n with
  | zero => cases h
  | succ n =>
    cases e <;> first
      | exact ⟨false, rfl, fun h => by cases h⟩
      | (exfalso; cases h; done)
      | skip
    rename_i elt gens isc pos
    refine ⟨_, rfl, fun _ => ?_⟩
    refine ⟨n, ?_⟩
    obtain ⟨g, gs, rfl⟩ := comp_form h
    exact ⟨elt, g, gs, isc, pos, rfl, rfl⟩
theorem assign_comp (eva : EvAll W k F n) {isc : Scope} {elt : Expr} {g : Comprehension} {gs : List Comprehension} {x : Str} {px pos spos : Pos} {d : PyData}
    (h : ev F (n + 1) sc (.ListComp elt (g :: gs) isc pos) (noPtr ρ) = some d) (hsw : swapsWith (.ListComp elt (g :: gs) isc pos) (some (.Name x px)) spos.line env = pure true) (hx : stFit sc x = true)
    (hA : AOk (k + 1) A) (fe : FEnv env sc Ow) (m : Fm2 W X Y h₀ env Ow ρ σ as s) :
    wpAny (model prog w) A (exec (.Assign [.Name x px] (.ListComp elt (g :: gs) isc pos) spos) env) (Post W X Y h₀ env Ow as s (.next, put2 ρ x (.dat d), σ)) E s := by
  obtain ⟨fit, ha, xs, ds, h1, h2, hlen, rfl⟩ := ev_comp h
  have hfa : firstAsync (g :: gs) = false := by
    have := ha g List.mem_cons_self
    obtain ⟨tg, it, ifs, as⟩ := g
    simp only at this
    subst this
    rfl
  have hfi : firstIter (g :: gs) env = eval g.iter env := by
    obtain ⟨tg, it, ifs, as⟩ := g
    rfl
  rw [exec_Assign_Name_used _ _ _ _ hsw]
  refine wpAny_bind (wpAny_standAt (wpAny_bind ?_))
  show wpAny _ A (do let _ ← comprehension (.ListComp elt (g :: gs) isc pos) isc env _ (newList []) (firstAsync (g :: gs)) (firstIter (g :: gs) env) (some (assign (.Name x px) env))) _ _ s
  rw [hfa, hfi]
  refine wpAny_bind (wpAny_mono (wpAny_comprehension_free (g := g) (gs := gs) (use := some (assign (.Name x px) env)) (Q := fun _ s' => Fm2 W X Y h₀ env Ow (put2 ρ x (.dat (.list ds))) σ as s' ∧ SK Ow s s') rfl (its_noset h1 env) (fit_clo fit fe.eo) fit.kind fit.loc
    (wpk (eva.its h1 hA fe.eo m.f.G m.f.live m.seeN) fun xv s₁ h₁ => wpk h₁ fun itv s₂ h₂ => ?_)) (fun _ s' hq => wpAny_pure (wpAny_pure (Post.next hq.1 (sk2_of hq.2)))) fun _ _ e => e)
  obtain ⟨I, fp, wr, P, St, rfl, io⟩ := h₂
  refine comp_block (RR := fun acc C => compPost (model prog w) A E (some (assign (.Name x px) env)) (fun _ s' => Fm2 W X Y h₀ env Ow (put2 ρ x (.dat (.list ds))) σ as s' ∧ SK Ow s s') acc C) eva fit ha fe.eo hA m.f.G m.f.live m.seeN io h2 hlen ?_
  intro D C h' tk m' ys hD hC hDC hn hp hr hk
  have kk : Keeps s { s₂ with heap := h', toks := tk } := by
    obtain ⟨h₂', t₂', e₂, kk⟩ := id io.k
    exact ⟨h', tk, by rw [e₂], fun b o e => hk b o e⟩
  have sC : s.heap.get? C = none := none_before io.k hC
  have yC : ∀ b, Y b → b ≠ C := by
    rintro b hO rfl
    obtain ⟨o, e⟩ := m.f.live _ hO
    rw [sC] at e; cases e
  have nC : ∀ b, Ow b → b ≠ C := fun b hb => yC b (m.f.own b hb)
  let Z : AS := fun b => Y b ∨ b = C
  have fZ : Fm2 W X Z h₀ env Ow ρ σ as { s₂ with heap := h', toks := tk } := m.move (fun b o _ e => kp_get kk e) fe.ol (fun b o hb e h => by
      rcases h with h | rfl
      · exact hb h
      · rw [sC] at e; cases e) (fun b hb => .inl hb) (fun a ha => by
      rcases ha with ha | rfl
      · exact m.f.live.keeps kk a ha
      · obtain ⟨o, _, _, e, _⟩ := hn; exact ⟨o, e⟩)
  have rl : Rp Z h' (.list ds) (.ref D) := by
    simp only [Rp]
    refine ⟨D, ys, rfl, ?_, hp, Rps.keep (fun b o hb e => ⟨e, ?_⟩) hr⟩
    · rintro (h | h)
      · exact (m.f.live.keeps io.k).fresh hD h
      · exact hDC h
    · rintro (h | h)
      · exact hb (.inl h)
      · exact hb (.inr (.inl h))
  show wpAny _ A (assign (.Name x px) env (.ref D)) _ _ _
  refine wpAny_assign_Name (fm2_store fe fZ hx (v2 := .dat (.list ds)) rl fun s'' f'' sk'' => ?_)
  have hnC : ∃ m, s''.heap.Ns C m := ⟨m', hn.at' fun o e => sk''.2 C o (fun h => nC C h rfl) e⟩
  obtain ⟨m'', hn''⟩ := hnC
  refine ⟨m'', hn'', fun h₃ hs₃ => ⟨?_, ?_⟩⟩
  · refine f''.shift (fun b o hc e => hs₃.extBut b o ?_ e) fe.ol (fun b o hb _ h => hb (.inl h)) m.f.own m.inY (fun b hb => (m.base b hb).1) (fun a ha => ?_)
    · rintro rfl
      rcases hc with hc | hc | hc | hc
      · exact hc (.inr rfl)
      · exact nC _ hc rfl
      · exact yC _ (m.inY _ hc) rfl
      · have := m.f.base _ _ hc; rw [sC] at this; cases this
    · obtain ⟨o, e⟩ := f''.f.live a (.inl ha)
      refine ⟨o, hs₃.extBut a o ?_ e⟩
      rintro rfl
      exact yC _ ha rfl
  · obtain ⟨⟨h₄, t₄, rfl⟩, kk₄⟩ := sk''
    obtain ⟨h₂', t₂', e₂, _⟩ := id io.k
    refine ⟨⟨h₃, t₄, by rw [e₂]⟩, fun b o hO e => hs₃.extBut b o (by rintro rfl; rw [sC] at e; cases e) (kk₄ b o hO (kp_get kk e))⟩
theorem assign_val (evs_ : ∀ m, EvAll W k F m) {x : Str} {px spos : Pos} {e : Expr} {d : PyData} (h : evS F n sc e ρ σ = some d) (hx : stFit sc x = true) (hA : AOk (k + 1) A) (fe : FEnv env sc Ow) (m : Fm2 W X Y h₀ env Ow ρ σ as s) :
    wpAny (model prog w) A (exec (.Assign [.Name x px] e spos) env) (Post W X Y h₀ env Ow as s (.next, put2 ρ x (.dat d), σ)) E s := by
  have key : swapsWith e (some (.Name x px)) spos.line env = pure false → wpAny (model prog w) A (exec (.Assign [.Name x px] e spos) env) (Post W X Y h₀ env Ow as s (.next, put2 ρ x (.dat d), σ)) E s := fun hs => by
    refine wpAny_Assign_Name (wpk (evS_ok (evs_ n) h hA fe.eo m) fun v s₁ q₁ => ?_) hs
    exact fm2_store fe (m.keeps q₁.2) hx (v2 := .dat d) q₁.1 fun s' f' sk' => Post.next f' (sk2_of (sk_trans (sk_of q₁.2) sk'))
  have h' := h
  unfold evS at h
  split at h
  · rename_i hh
    refine key ?_
    cases e <;> first | rfl | (cases hh; done)
  · obtain ⟨b, hs, hb⟩ := swaps h x px spos.line env
    cases b with
    | false => exact key hs
    | true =>
      obtain ⟨m', elt, g, gs, isc, pos, rfl, rfl⟩ := hb rfl
      exact assign_comp (evs_ m') h hs hx hA fe m
theorem view_ret {W : Wd prog w} (m : Fm2 W X Y h₀ env Ow ρ σ as s) {h : Heap} {d : PyData} {v : Value} (r : Rp (offAs Y as) h d v) : Rp X h d v :=
  Rp.keep (fun b _ hb e => ⟨e, fun hx => hb (m.base b hx)⟩) r
theorem exS_ok (hF : FnOk W k F) (evs_ : ∀ m, EvAll W k F m) (ih : StAll W k F n) {st : Stmt} {r : St2} {q : Fl × St2} (h : exS F (n + 1) sc st r = some q) (hA : AOk (k + 1) A) (fe : FEnv env sc Ow) (m : Fm2 W X Y h₀ env Ow r.1 r.2 as s) :
    wpAny (model prog w) A (exec st env) (Post W X Y h₀ env Ow as s q) E s := by
  have eva := evs_ n
  obtain ⟨ρ, σ⟩ := r
  have hc := clsS_of st
  replace h : exC F n (exL F n) sc ρ σ (clsS st) = some q := h
  generalize clsS st = c at h hc
  cases c with
  | asgN x e =>
    obtain ⟨px, p, rfl⟩ := hc
    unfold exC asgC at h
    dsimp only at h
    split at h
    · rename_i hx
      split at h
      · rename_i he
        cases h
        exact new_ok he.1 hx fe m
      · split at h
        · rename_i es hm
          obtain ⟨xs, h1, h⟩ := bnd h
          obtain ⟨d, h2, h⟩ := bnd h
          obtain ⟨ks, h3, h4⟩ := bnd h
          clear h
          cases h4
          rw [one_inv h2, asList_inv h3] at h1
          obtain ⟨np, p', rfl, hg, hlen⟩ := makeArg_inv hm
          refine wpAny_Assign_Name (wpAny_Call_NameR (ld_glob W fe.eo hg m.f.G W.mkNm ?_)) rfl
          obtain ⟨e1, rfl⟩ := List.length_eq_one_iff.mp hlen
          have hns := evs_nostar h1
          refine callWith_K (W.inK m.f.G) W.mkKeep ?_ (starEach_plain (hns e1 List.mem_cons_self)) rfl
          refine wpk (eva.evs h1 hA fe.eo m.f.G m.f.live m.seeN) fun vs s₁ q₁ => ?_
          have G1 := W.keep m.f.G fun _ _ e => kp_get q₁.2 e
          refine ⟨W.inK G1, ?_⟩
          have r1 := q₁.1
          simp only [Rps] at r1
          obtain ⟨v, vr, rfl, rv, rfl⟩ := r1
          refine wpk (hF.make ks A s₁ Y v E (hA.mono (Nat.le_succ _)) G1 (m.f.live.keeps q₁.2) rv) fun ov s₂ q₂ => ?_
          have kk := kp_trans q₁.2 q₂.2
          exact fm2_store fe (m.keeps kk) hx (v2 := .inst (.list ks)) q₂.1 fun s' f' sk' => Post.next f' (sk2_of (sk_trans (sk_of kk) sk'))
        · split at h
          · rename_i qq hq
            cases h
            obtain ⟨yi, hy, hq⟩ := Option.bind_eq_some_iff.mp hq
            obtain ⟨py, p', rfl⟩ := subNameOf_inv hy
            refine wpAny_Assign_Name (ptrAt_ok eva hq hA fe m fun a s₁ ha k1 => ?_) rfl
            exact fm2_store fe (m.keeps k1) hx (v2 := .ptr _) ⟨a, ha, rfl⟩ fun s' f' sk' => Post.next f' (sk2_of (sk_trans (sk_of k1) sk'))
          · obtain ⟨d, h1, rfl⟩ := Option.map_eq_some_iff.mp h
            exact assign_val evs_ h1 hx hA fe m
    · cases h
  | asgT t e =>
    obtain ⟨ts, kt, qt, p, rfl, rfl⟩ := hc
    unfold exC at h
    dsimp only at h
    split at h
    · cases h
    · rename_i ht
      obtain ⟨d, h1, h⟩ := bnd h
      obtain ⟨ρ', h2, h⟩ := bnd h
      obtain rfl := Option.some.inj h
      exact assign_tuple_ok eva h1 (by simpa using ht) h2 hA fe m
  | asgS x i e =>
    obtain ⟨px, qs, p, rfl⟩ := hc
    unfold exC at h
    obtain ⟨d, h1, h⟩ := bnd h
    obtain ⟨p, h2, h⟩ := bnd h
    obtain ⟨j, h3, h⟩ := bnd h
    obtain ⟨kk, h4, h⟩ := bnd h
    obtain ⟨its, h5, h6⟩ := bnd h
    clear h
    split at h6
    · rename_i hlt
      cases h6
      exact setitem_ok eva h1 h2 h3 h4 h5 hlt hA fe m
    · cases h6
  | appN x mt e ln =>
    obtain ⟨px, ap, qs, p, rfl, rfl⟩ := hc
    unfold exC at h
    dsimp only at h
    split at h
    · rename_i hm
      obtain ⟨rfl, hline⟩ := hm
      obtain ⟨p, h1, h⟩ := bnd h
      obtain ⟨σ', h2, h⟩ := bnd h
      obtain rfl := Option.some.inj h
      exact push_ok eva rfl (fun Q hQ => ld_ptr h1 fe m fun a ha => hQ a _ ha (kp_refl _)) h2 hline hA fe m
    · cases h
  | appS y i mt e ln =>
    obtain ⟨py, sq, ap, qs, p, rfl, rfl⟩ := hc
    unfold exC at h
    dsimp only at h
    split at h
    · rename_i hm
      obtain ⟨rfl, hline⟩ := hm
      obtain ⟨p, h1, h⟩ := bnd h
      obtain ⟨σ', h2, h⟩ := bnd h
      obtain rfl := Option.some.inj h
      exact push_ok eva rfl (fun Q hQ => ptrAt_ok eva h1 hA fe m hQ) h2 hline hA fe m
    · cases h
  | ifs t b o =>
    obtain ⟨p, rfl⟩ := hc
    unfold exC at h
    obtain ⟨c, h1, h2⟩ := bnd h
    clear h
    refine wpAny_If (wpk (eva.tst h1 hA fe.eo m.f.G m.liveV m.seeV) fun c' s₁ q₁ => ?_)
    obtain ⟨rfl, k₁⟩ := q₁
    cases c'
    · simp only [Bool.false_eq_true, if_false] at h2 ⊢
      exact wpk (ih.exL h2 hA fe (m.keeps k₁)) fun fl s₂ q₂ => Post.keeps k₁ q₂
    · simp only [if_true] at h2 ⊢
      exact wpk (ih.exL h2 hA fe (m.keeps k₁)) fun fl s₂ q₂ => Post.keeps k₁ q₂
  | forS tg it body =>
    obtain ⟨p, rfl⟩ := hc
    unfold exC at h
    obtain ⟨xs, h1, h2⟩ := bnd h
    clear h
    split at h2
    · rename_i hft
      exact for_ok ih eva h1 hft h2 hA fe m
    · cases h2
  | whl t body =>
    obtain ⟨p, rfl⟩ := hc
    exact while_ok ih eva h hA fe m
  | ret e =>
    obtain ⟨p, rfl⟩ := hc
    unfold exC at h
    obtain ⟨d, h1, h⟩ := bnd h
    obtain rfl := Option.some.inj h
    exact wpAny_Return_some (wpk (eva.ev h1 hA fe.eo m.f.G m.liveV m.seeV) fun v s₁ q₁ => ⟨⟨v, rfl, view_ret m q₁.1⟩, Y, as, m.keeps q₁.2, Grow.refl _ _ _, sk2_of (sk_of q₁.2)⟩)
  | other => cases h
theorem st_all (N : NmOk W) (hF : FnOk W k F) : ∀ n, StAll W k F n
  | 0 => ⟨fun h => (by cases h), fun h => (by cases h)⟩
  | n + 1 => ⟨exS_ok hF (ev_all N hF) (st_all N hF n), exL_ok (st_all N hF n)⟩
end
end Mine
end SVY
section SVZ
open PySem PySem.W PyProof.Rows PySem.Calls
namespace Mine
variable {prog : Program} {w : World}
noncomputable def bindAll : List Str → List PyData → Ro2 → Ro2
  | x :: xs, d :: ds, ρ => bindAll xs ds (put2 ρ x (.dat d))
  | _, _, ρ => ρ
theorem noPtr_put (ρ : Ro2) (x : Str) (d : PyData) : noPtr (put2 ρ x (.dat d)) = put (noPtr ρ) x (.dat d) := by
  funext y
  unfold noPtr put2 put
  by_cases e : y = x
  · simp only [e, if_true]
  · simp only [e, if_false]
theorem noPtr_inst (ρ : Ro2) (x : Str) (d : PyData) : noPtr (put2 ρ x (.inst d)) = put (noPtr ρ) x (.inst d) := by
  funext y
  unfold noPtr put2 put
  by_cases e : y = x
  · simp only [e, if_true]
  · simp only [e, if_false]
theorem rawR_nil (ρ : Ro2) : rawR ρ [] = noPtr ρ := by
  funext x
  unfold rawR noPtr
  cases ρ x with
  | none => rfl
  | some v => cases v <;> rfl
noncomputable def NoP (ρ : Ro2) : Prop := ∀ x p, ρ x ≠ some (.ptr p)
theorem NoP.put {ρ : Ro2} (h : NoP ρ) (x : Str) (d : PyData) : NoP (put2 ρ x (.dat d)) := fun y p e => by
  unfold put2 at e
  split at e
  · cases e
  · exact h y p e
theorem NoP.all : ∀ {xs : List Str} {ds : List PyData} {ρ : Ro2}, NoP ρ → NoP (bindAll xs ds ρ)
  | [], _, _, h => by unfold bindAll; exact h
  | _ :: _, [], _, h => by unfold bindAll; exact h
  | x :: xs, d :: ds, ρ, h => by unfold bindAll; exact NoP.all (h.put x d)
noncomputable def fnFit (sc : Scope) (params : List Str) : Bool :=
  decide (sc.kind = .function) && !sc.isCoroutine && !sc.isGenerator && (sc.names.all fun y => decide (y.2 ≠ .free) && plainB y.1) && (params.all fun x => stFit sc x)
theorem cellsFrom_more : ∀ (l : List (Str × NameKind)) (n : Nat) (acc : List (Str × Addr)) (x : Str × Addr), x ∈ acc → x ∈ cellsFrom n l acc
  | [], _, _, _, h => h
  | (m, k) :: r, n, acc, x, h => by
    unfold cellsFrom
    split
    · exact cellsFrom_more r _ _ x (List.mem_cons_of_mem _ h)
    · exact cellsFrom_more r _ _ x h
theorem cellsFrom_has : ∀ (l : List (Str × NameKind)) (n : Nat) (acc : List (Str × Addr)) (x : Str), (x, NameKind.cell) ∈ l → ∃ c, (x, c) ∈ cellsFrom n l acc
  | (m, k) :: r, n, acc, x, h => by
    unfold cellsFrom
    rcases List.mem_cons.mp h with h | h
    · cases h
      rw [if_pos (by decide)]
      exact ⟨n, cellsFrom_more _ _ _ _ List.mem_cons_self⟩
    · split
      · exact cellsFrom_has r _ _ x h
      · exact cellsFrom_has r _ _ x h
theorem cellsFrom_look {sc : Scope} {x : Str} (n : Nat) (h : sc.names.lookup x = some .cell) : ∃ c, (cellsFrom n sc.names []).lookup x = some c := by
  obtain ⟨c, hc⟩ := cellsFrom_has sc.names n [] x (lookup_mem h)
  exact lookup_some hc
noncomputable def BindOk (W : Wd prog w) (Y : AS) (h : Heap) (ko : Str → Option NameKind) (ρ : Ro) (m cm : Str → Option Value) : Prop :=
  ∀ x r, ρ x = some r → plainName x ∧ ∃ v, ((ko x = some .local ∧ m x = some v) ∨ (ko x = some .cell ∧ cm x = some v)) ∧ Rv W Y h r v
theorem bindOk_step {W : Wd prog w} {Y : AS} {h : Heap} {ko : Str → Option NameKind} {ρ : Ro} {m cm : Str → Option Value} (b : BindOk W Y h ko ρ m cm) {x : Str} {d : PyData} {v : Value} (hx : ko x = some .local ∨ ko x = some .cell) (hp : plainName x) (r : Rp Y h d v) :
    BindOk W Y h ko (put ρ x (.dat d)) (if ko x = some .local then fun y => if y = x then some v else m y else m) (if ko x = some .local then cm else fun y => if y = x then some v else cm y) := by
  intro y r' hy
  unfold put at hy
  split at hy
  · rename_i e
    subst e
    cases hy
    refine ⟨hp, v, ?_, r⟩
    rcases hx with hx | hx
    · exact .inl ⟨hx, by rw [if_pos hx]; simp⟩
    · exact .inr ⟨hx, by rw [if_neg (by rw [hx]; decide)]; simp⟩
  · rename_i e
    obtain ⟨p', v', hv, rv'⟩ := b y r' hy
    refine ⟨p', v', ?_, rv'⟩
    rcases hv with ⟨h1, h2⟩ | ⟨h1, h2⟩
    · refine .inl ⟨h1, ?_⟩
      split
      · simp only [e, if_false]; exact h2
      · exact h2
    · refine .inr ⟨h1, ?_⟩
      split
      · exact h2
      · simp only [e, if_false]; exact h2
theorem bindOk_all {W : Wd prog w} {Y : AS} {h : Heap} {ko : Str → Option NameKind} : ∀ {params : List Str} {ds : List PyData} {vs : List Value} {ρ : Ro2} {m cm : Str → Option Value}, BindOk W Y h ko (noPtr ρ) m cm → Rps Y h ds vs → params.length = ds.length →
    (∀ x ∈ params, (ko x = some .local ∨ ko x = some .cell) ∧ plainName x) → BindOk W Y h ko (noPtr (bindAll params ds ρ)) (bindL ko (params.zip vs) m) (bindC ko (params.zip vs) cm)
  | [], [], vs, ρ, m, cm, b, _, _, _ => by
    simp only [bindAll, List.zip_nil_left, bindL, bindC]; exact b
  | x :: xs, d :: ds, vs, ρ, m, cm, b, r, hl, hp => by
    simp only [Rps] at r
    obtain ⟨v, vr, rfl, r1, r2⟩ := r
    simp only [bindAll, List.zip_cons_cons, bindL, bindC]
    exact bindOk_all (by rw [noPtr_put]; exact bindOk_step b (hp x List.mem_cons_self).1 (hp x List.mem_cons_self).2 r1) r2 (by simpa using hl) fun y hy => hp y (List.mem_cons_of_mem _ hy)
  | [], _ :: _, _, _, _, _, _, _, hl, _ => by cases hl
  | _ :: _, [], _, _, _, _, _, _, hl, _ => by cases hl
theorem apart_of {l : List (Str × Addr)} (hp : l.Pairwise fun x y => x.2 ≠ y.2) {x y : Str} {c : Addr} (hx : (x, c) ∈ l) (hy : (y, c) ∈ l) : x = y := by
  induction l with
  | nil => cases hx
  | cons z r ih =>
    obtain ⟨h1, h2⟩ := List.pairwise_cons.mp hp
    rcases List.mem_cons.mp hx with rfl | hx'
    · rcases List.mem_cons.mp hy with e | hy'
      · cases e; rfl
      · exact absurd (show (x, c).2 = (y, c).2 from rfl) (h1 _ hy')
    · rcases List.mem_cons.mp hy with rfl | hy'
      · exact absurd (show (y, c).2 = (x, c).2 from rfl) (h1 _ hx')
      · exact ih h2 hx' hy'
structure FnAt (W : Wd prog w) (a : Addr) (fd : FuncData) (body : List Stmt) (params : List Str) : Prop where
  at_ : ∃ o, o.data = .func fd ∧ ∀ h, W.G h → h.get? a = some o
  lim : ∀ h, W.G h → h.NoLimit
  code : ∀ h, W.G h → h.CodeRec fd.code fd.qualname
  body : fd.body = .stmts body
  clo : fd.closure = []
  g : fd.globals = mainGlobals
  b : fd.builtins = builtinsNs
  bind : ∀ vals : List Value, vals.length = params.length → bindArgs fd ⟨vals, []⟩ = pure (params.zip vals)
  fit : fnFit fd.scope params = true
theorem fn_run {W : Wd prog w} {k : Nat} {F : Fn} {n : Nat} (sa : StAll W k F n) {a : Addr} {fd : FuncData} {body : List Stmt} {params : List Str} (fa : FnAt W a fd body params) {A : Around} {s : Shared} {X : AS} {vs : List Value} {E : Value → Shared → Prop} {ρ : Ro2} {d : PyData} {r' : St2}
    (hnp : NoP ρ) (hlen : vs.length = params.length) (hb : ∀ h ko, (∀ x ∈ params, (ko x = some .local ∨ ko x = some .cell) ∧ plainName x) → (∀ b o, s.heap.get? b = some o → h.get? b = some o) → ∀ Y : AS, (∀ b o, ¬ X b → s.heap.get? b = some o → ¬ Y b) →
      BindOk W Y h ko (noPtr ρ) (bindL ko (params.zip vs) fun _ => none) (bindC ko (params.zip vs) fun _ => none))
    (hrun : exL F n fd.scope body (ρ, []) = some (.ret d, r')) (hA : AOk (k + 2) A) (hG : W.G s.heap) (hl : Live X s.heap) :
    wpAny (model prog w) A (call (.ref a) vs) (Gv X s d) E s := by
  obtain ⟨o, hd, ho⟩ := fa.at_
  have hfit := fa.fit
  unfold fnFit at hfit
  simp only [Bool.and_eq_true, decide_eq_true_eq, Bool.not_eq_true', List.all_eq_true, plainB_iff] at hfit
  obtain ⟨⟨⟨⟨hkind, hco⟩, hgen⟩, hnames⟩, hparams⟩ := hfit
  refine wpAny_call ?_
  have hroom : A.depth < recursionLimit := by
    have := hA.d
    show A.depth < 1000
    omega
  refine codeAny_call_cells hroom (ho _ hG) hd (fa.lim _ hG) (fa.code _ hG) fa.body (fa.bind vs hlen) fa.clo ?_ (fun s₁ x => ?_) hco hgen hkind
  · intro y hy
    have hm : y.1 ∈ params := (List.of_mem_zip hy).1
    obtain ⟨h1 | h1, _⟩ := stFit_iff (hparams _ hm)
    · exact .inl h1
    · obtain ⟨c, hc⟩ := cellsFrom_look (s.heap.objs.size + 1) h1
      exact .inr ⟨h1, by rw [hc]; rfl⟩
  · generalize hE : callEnvC fd s.heap.objs.size a = env at x ⊢
    have hsc : env.scope = fd.scope := by rw [← hE]; rfl
    have hcells : env.cells = cellsFrom (s.heap.objs.size + 1) fd.scope.names [] := by rw [← hE]; rfl
    have hloc : env.locals = s.heap.objs.size := by rw [← hE]; rfl
    have hko : ∀ y, env.kindOf y = fd.scope.names.lookup y := fun y => by unfold Env.kindOf; rw [hsc]
    have eo : EnvOk env fd.scope := {
      kind := by rw [hsc]; exact hkind
      g := by rw [← hE]; exact fa.g
      b := by rw [← hE]; exact fa.b
      names := fun y hy => by
        have hy' : fd.scope.names.lookup y = some .globalImplicit := by simpa [glob] using hy
        exact ⟨by rw [hko]; exact hy', (hnames _ (lookup_mem hy')).2⟩
      cells := fun y hy => by
        rcases hy with hy | hy
        · refine ⟨.inl (by rw [hko]; exact hy), ?_⟩
          rw [hcells]; exact cellsFrom_look _ hy
        · exact absurd rfl (hnames _ (lookup_mem hy)).1 }
    have offc : ∀ m c, env.cells.lookup m = some c → env.locals < c := fun m c hc => x.above m c (PySem.mem_of_lookup hc)
    let Own : AS := fun b => b = env.locals ∨ ∃ m, env.cells.lookup m = some b
    have fe : FEnv env fd.scope Own := ⟨fun y hy => by rw [hko]; exact hy, fun y hy => by
      obtain ⟨c, hc⟩ := cellsFrom_look (s.heap.objs.size + 1) hy
      rw [← hcells] at hc
      exact ⟨by rw [hko]; exact hy, c, hc, .inr ⟨y, hc⟩⟩, eo, fun y z c _ h1 h2 => apart_of x.apart (PySem.mem_of_lookup h1) (PySem.mem_of_lookup h2), fun m c hc => Nat.ne_of_gt (offc m c hc), .inl rfl⟩
    have ownGe : ∀ b, Own b → s.heap.objs.size ≤ b := by
      rintro b (rfl | ⟨m, hm⟩)
      · rw [hloc]; exact Nat.le_refl _
      · exact Nat.le_of_lt (hloc ▸ offc m b hm)
    have ge_none : ∀ b, s.heap.objs.size ≤ b → s.heap.get? b = none := fun b hb => by
      cases e : s.heap.get? b with
      | none => rfl
      | some o => exact absurd (Heap.lt_size e) (Nat.not_lt.mpr hb)
    let Y : AS := fun b => X b ∨ Own b
    have bo := hb s₁.heap env.kindOf (fun y hy => by
        obtain ⟨h1, h2⟩ := stFit_iff (hparams y hy)
        rw [hko]; exact ⟨h1, h2⟩) x.toInCall.keep Y (fun b o hb e h => by
        rcases h with h | h
        · exact hb h
        · rw [ge_none b (ownGe b h)] at e; cases e)
    have fm : Fm W Y s.heap env Own (rawR ρ []) s₁ := {
      own := fun b hb => .inr hb
      new := fun b hb => ge_none b (ownGe b hb)
      ns := ⟨_, x.toInCall.ns⟩
      cell := fun m c hc => .inl ⟨.inr ⟨m, hc⟩, _, x.cell m c hc⟩
      sees := fun y r hy => by
        rw [rawR_nil] at hy
        obtain ⟨p, v, hv, rv⟩ := bo y r hy
        refine ⟨p, v, ?_, rv⟩
        rcases hv with ⟨h1, h2⟩ | ⟨h1, h2⟩
        · exact .inl ⟨h1, _, x.toInCall.ns, h2⟩
        · obtain ⟨_, c, hc⟩ := eo.cells y (.inl (by rw [← hko]; exact h1))
          exact .inr ⟨.inl h1, c, hc, h2 ▸ x.cell y c hc⟩
      live := fun b hb => by
        rcases hb with hb | (rfl | ⟨m, hm⟩)
        · obtain ⟨o, e⟩ := hl b hb; exact ⟨o, x.toInCall.keep b o e⟩
        · obtain ⟨o, _, _, e, _⟩ := x.toInCall.ns; exact ⟨o, e⟩
        · obtain ⟨o, e, _⟩ := x.cell m b hm; exact ⟨o, e⟩
      g := hG
      base := x.toInCall.keep }
    have fm2 : Fm2 W X Y s.heap env Own ρ [] [] s₁ := ⟨fm, fun y p hy => absurd hy (hnp y p), rfl, List.nodup_nil, fun a h => (nomatch h), fun a h => (nomatch h), fun a h => (nomatch h), fun b hb => ⟨.inl hb, fun h => (nomatch h)⟩, fun p its a h _ => by simp at h⟩
    refine wpk (sa.exL hrun (hA.deeper env) fe fm2) fun fl s₂ q => ?_
    obtain ⟨⟨v, rfl, rv⟩, Y', as', f2, _, ⟨⟨h₂, t₂, rfl⟩, _⟩⟩ := q
    refine ⟨rv, ?_⟩
    obtain ⟨h₁', t₁', rfl⟩ := x.toInCall.same
    exact ⟨h₂, t₂, rfl, f2.f.base⟩
theorem fn_ok {W : Wd prog w} {k : Nat} {F : Fn} {n : Nat} (sa : StAll W k F n) {a : Addr} {fd : FuncData} {body : List Stmt} {params : List Str} (fa : FnAt W a fd body params) {args : List PyData} {d : PyData} {r' : St2} (hlen : params.length = args.length)
    (hrun : exL F n fd.scope body (bindAll params args (fun _ => none), []) = some (.ret d, r')) : CallOk W (k + 2) (.ref a) args d := by
  intro A s X vs E hA hG hl r
  refine fn_run sa fa (NoP.all fun _ _ h => by cases h) (r.length.trans hlen.symm) (fun h ko hp hk Y hY => ?_) hrun hA hG hl
  exact bindOk_all (fun _ _ h => by cases h) (r.keep fun b o hb e => ⟨hk b o e, hY b o hb e⟩) hlen hp
end Mine
end SVZ
section SUG
open PySem PySem.W PyProof.Rows PySem.Calls
set_option maxRecDepth 20000
namespace Mine
noncomputable def kRun {α : Type} (n : Nat) (lt : Nat → Nat → Bool) : KasT α → Option α
  | .ret a => some a
  | .ask i j k => if i < n ∧ j < n then kRun n lt (k (lt i j)) else none
theorem kasWp_run {α : Type} {n : Nat} {lt : Nat → Nat → Bool} {cmp : Nat → Nat → (Bool → Shared → Prop) → Shared → Prop} {s : Shared} (hc : ∀ i j C, i < n → j < n → C (lt i j) s → cmp i j C s) {Q : α → Shared → Prop} :
    ∀ (t : KasT α) {a : α}, kRun n lt t = some a → Q a s → t.kasWp cmp Q s
  | .ret b, a, e, h => by
    simp only [kRun, Option.some.injEq] at e
    subst e
    exact h
  | .ask i j k, a, e, h => by
    simp only [kRun] at e
    split at e
    · rename_i hij
      exact hc i j _ hij.1 hij.2 (kasWp_run hc (k (lt i j)) e h)
    · cases e
section
variable {prog : Program} {w : World} {A : Around} {E : Value → Shared → Prop} {s : Shared}
theorem one_int {b : Bool} {x y : Int} {t u : Tok} {Q : Bool → Shared → Prop} (h : Q (decide (x < y)) s) : wpAny (model prog w) A (oneLt' b (.int x t) (.int y u)) Q E s := by
  cases b with
  | true => exact oneLt_int h
  | false => exact kat_one _ _ (PyProof.Rows.lt_int h)
theorem kat_ints {b fin : Bool} {Q : Bool → Shared → Prop} : ∀ {x y : List Int} {xs ys : List Value} (i : Nat), IntsAre xs x → IntsAre ys y → fin = decide (xs.length < ys.length) → Q (ltInts x y) s → KatLex prog w A b fin Q (xs.zip ys) i s
  | _, _, _, _, i, .nil, .nil, hf, h => by subst hf; exact kat_nil h
  | _, _, _, _, i, .nil, .cons _ _ _, hf, h => by subst hf; exact kat_nil (by simpa [ltInts] using h)
  | _, _, _, _, i, .cons _ _ _, .nil, hf, h => by subst hf; exact kat_nil (by simpa [ltInts] using h)
  | _, _, _, _, i, .cons a t hx, .cons c u hy, hf, h => by
    rw [List.zip_cons_cons]
    refine kat_cons (MeetsSeq.EqGives.int a c t u prog w A _ s _ ?_)
    by_cases hk : a = c
    · subst hk
      rw [show (a == a) = true by simp]
      refine kat_yes (kat_ints (i + 1) hx hy (by simpa using hf) ?_)
      simpa [ltInts] using h
    · rw [show (a == c) = false by simpa using hk]
      refine kat_no (one_int ?_)
      simpa [ltInts, hk] using h
noncomputable def TupInts (h : Heap) : List Value → List (List Int) → Prop
  | [], [] => True
  | v :: vs, x :: xs => (∃ a us, v = .ref a ∧ PTup h a (List.toArray us) ∧ IntsAre us x ∧ x ≠ []) ∧ TupInts h vs xs
  | _, _ => False
theorem TupInts.keep {h h' : Heap} (hk : ∀ b o, h.get? b = some o → h'.get? b = some o) : ∀ {vs : List Value} {xs : List (List Int)}, TupInts h vs xs → TupInts h' vs xs
  | [], [], _ => trivial
  | _ :: _, _ :: _, ⟨⟨a, us, e, ⟨n, ho⟩, hi, hn⟩, r⟩ => ⟨⟨a, us, e, ⟨n, hk _ _ ho⟩, hi, hn⟩, r.keep hk⟩
theorem TupInts.length {h : Heap} : ∀ {vs : List Value} {xs : List (List Int)}, TupInts h vs xs → vs.length = xs.length
  | [], [], _ => rfl
  | _ :: _, _ :: _, ⟨_, r⟩ => by simp [r.length]
theorem TupInts.get {h : Heap} : ∀ {vs : List Value} {xs : List (List Int)}, TupInts h vs xs → ∀ {i : Nat}, i < xs.length → ∃ a us, vs.getD i Value.none = .ref a ∧ PTup h a (List.toArray us) ∧ IntsAre us (xs.getD i [])
  | [], [], _, i, hi => by simp at hi
  | _ :: _, _ :: _, ⟨⟨a, us, e, ho, hi, _⟩, r⟩, i, hl => by
    cases i with
    | zero => exact ⟨a, us, by simpa using e, ho, by simpa using hi⟩
    | succ i => simpa using r.get (by simpa using hl)
theorem TupInts.kat {h : Heap} : ∀ {vs : List Value} {xs : List (List Int)}, TupInts h vs xs → ∃ fs, KatTups h vs fs ∧ fs.length = vs.length ∧ ∀ v ∈ fs, ∃ i t, v = .int i t
  | [], [], _ => ⟨[], KatTups.nil, rfl, fun _ h => nomatch h⟩
  | _ :: _, _ :: _, ⟨⟨a, us, e, ⟨n, ho⟩, hi, hn⟩, r⟩ => by
    obtain ⟨fs, h1, h2, h3⟩ := r.kat
    subst e
    cases hi with
    | nil => exact absurd rfl hn
    | cons i t hi =>
      refine ⟨.int i t :: fs, KatTups.cons ho rfl rfl (by simp) h1, by simp [h2], fun v hv => ?_⟩
      rcases List.mem_cons.mp hv with rfl | hv
      · exact ⟨i, t, rfl⟩
      · exact h3 v hv
noncomputable def ltAt (xs : List (List Int)) (i j : Nat) : Bool := ltInts (xs.getD i []) (xs.getD j [])
theorem ask_ints {b : Bool} {vs : List Value} {xs : List (List Int)} (T : TupInts s.heap vs xs) : ∀ i j (C : Bool → Shared → Prop), i < xs.length → j < xs.length → C (ltAt xs i j) s → kas_ask prog w A (tuples' b) vs i j C s := by
  intro i j C hi hj h
  obtain ⟨a, us, e1, ⟨n1, h1⟩, i1⟩ := T.get hi
  obtain ⟨c, ws, e2, ⟨n2, h2⟩, i2⟩ := T.get hj
  unfold kas_ask
  rw [e1, e2]
  refine kat_lt h1 rfl h2 rfl ?_
  exact kat_ints 0 i1 i2 (by simp) h
noncomputable def sortP (n : Nat) (xs : List (List Int)) : Option (List Nat) :=
  if n < 2 then some (List.range n) else (kRun n (ltAt xs) (kas_sort n)).map (·.toList)
theorem range_getD (vs : List Value) : (List.range vs.length).map (fun i => vs.getD i Value.none) = vs := by
  refine List.ext_getElem (by simp) fun i h1 h2 => ?_
  simp at h1
  simp [h1]
theorem list_sort_pairs {a : Addr} {vs : List Value} {n : Nat} {xs : List (List Int)} {p : List Nat} {P : PySem.Fin → Shared → Prop} (ho : s.heap.get? a = some (seqObj "list" vs.toArray n)) (h64 : vs.length < 64)
    (T : ∀ h', (∀ b o, b ≠ a → s.heap.get? b = some o → h'.get? b = some o) → TupInts h' vs xs) (hp : sortP vs.length xs = some p)
    (h : P (.done (.ret .none)) { s with heap := sortedHeap s.heap a vs (List.toArray (p.map fun i => vs.getD i Value.none)) }) :
    wpAny (model prog w) A (Builtin.«list.sort» ⟨[.ref a], []⟩) P E s := by
  rw [list_sort_plain]
  have ha : a < s.heap.objs.size := Heap.lt_size ho
  refine wpAny_bind (listItems_at ho rfl ?_)
  refine wpAny_bind (listUpdate_at ho rfl ?_ (by rw [List.size_toArray, sizeLine_eq]; omega) (Nat.zero_le _))
  obtain ⟨e1, ho1⟩ : ∃ e1, (s.heap.update a (Obj.mapSeq fun _ => #[])).get? a = some (seqObj "list" #[] e1) := ⟨_, get?_update_seq ho (fun _ => #[])⟩
  refine wpAny_bind (seqEpoch_at ho1 rfl ?_)
  refine wpAny_bind (wpAny_newTuple ?_ (by show vs.length ≤ _; rw [sizeLine_eq]; omega))
  refine wpAny_bind (wpAny_newList ?_ (Nat.zero_le _))
  refine wpAny_holding ?_
  have keep : ∀ b o, b ≠ a → s.heap.get? b = some o → (((s.heap.update a (Obj.mapSeq fun _ => #[])).push (seqObj "tuple" vs.toArray 0)).push (seqObj "list" #[] 0)).get? b = some o := fun b o hb e =>
    Heap.get?_push_of_some _ (Heap.get?_push_of_some _ (by rw [Heap.get?_update_ne _ _ _ _ hb]; exact e))
  have ho6 : (((s.heap.update a (Obj.mapSeq fun _ => #[])).push (seqObj "tuple" vs.toArray 0)).push (seqObj "list" #[] 0)).get? a = some (seqObj "list" #[] e1) := by
    rw [Heap.get?_push_ne _ _ _ (by rw [size_push', Heap.size_update]; exact Nat.ne_of_lt (Nat.lt_succ_of_lt ha)), Heap.get?_push_ne _ _ _ (by rw [Heap.size_update]; exact Nat.ne_of_lt ha)]
    exact ho1
  have hT := T _ keep
  show wpAny (model prog w) A _ P E { s with heap := ((s.heap.update a (Obj.mapSeq fun _ => #[])).push (seqObj "tuple" vs.toArray 0)).push (seqObj "list" #[] 0) }
  dsimp only
  have hsz : vs.toArray.size = vs.length := by simp
  unfold sortP at hp
  by_cases h2 : vs.toArray.size < 2
  · rw [if_pos h2, if_pos h2]
    rw [if_pos (by omega)] at hp
    cases hp
    refine wpAny_bind (wpAny_pure ?_)
    rw [StateT.run_pure]
    refine wpAny_bind (wpAny_pure ?_)
    dsimp only
    refine wpAny_bind (seqEpoch_at ho6 rfl ?_)
    refine wpAny_bind (listUpdate_at ho6 rfl ?_ (Nat.zero_le _) (by rw [Array.size_map]; show (pairsOf vs).size ≤ _; rw [pairsOf_size, sizeLine_eq]; omega))
    simp only [bne_self_eq_false, Bool.false_eq_true, if_false]
    rw [range_getD] at h
    have e : (arrOf (SortSt.mk' general' (vs.toArray.zip vs.toArray) #[] 7 none)).map (·.2) = vs.toArray := by
      show (vs.toArray.zip vs.toArray).map (·.2) = vs.toArray
      apply Array.toList_inj.mp
      rw [Array.toList_map, Array.toList_zip]
      exact List.map_snd_zip (Nat.le_refl _)
    refine wpAny_pure ?_
    rw [e]
    exact h
  · rw [if_neg h2, if_neg h2]
    rw [if_neg (by omega)] at hp
    obtain ⟨q, hq, rfl⟩ := Option.map_eq_some_iff.mp hp
    obtain ⟨fs, f1, f2, f3⟩ := hT.kat
    refine wpAny_bind (kat_kind (T := .type "int") f1 (by rw [f2]; omega) (fun v hv => by obtain ⟨i, t, rfl⟩ := f3 v hv; exact Looks.of_pure rfl) rfl ?_)
    refine wpAny_bind (wpAny_mono (kat_run (Q := fun st' s' => s' = { s with heap := ((s.heap.update a (Obj.mapSeq fun _ => #[])).push (seqObj "tuple" vs.toArray 0)).push (seqObj "list" #[] 0) } ∧ arrOf st' = q.map (kas_item (vs.toArray.zip vs.toArray)) ∧ q.size = vs.length ∧ failedOf st' = none)
      (G := fun p' s' => p' = q ∧ s' = { s with heap := ((s.heap.update a (Obj.mapSeq fun _ => #[])).push (seqObj "tuple" vs.toArray 0)).push (seqObj "list" #[] 0) })
      rfl (by omega) h64 (fun p' st' s' a1 a2 a3 a4 => by obtain ⟨rfl, rfl⟩ := a4; exact ⟨rfl, a2, a1, a3⟩) (kasWp_run (n := xs.length) (lt := ltAt xs) (ask_ints hT) _ (by rw [← hT.length]; exact hq) ⟨rfl, rfl⟩)) ?_ fun _ _ e => e)
    rintro ⟨⟨⟩, st'⟩ s' ⟨rfl, har, hqs, hf⟩
    dsimp only
    have hout := kat_snds rfl har
    rw [hout]
    refine wpAny_bind (seqEpoch_at ho6 rfl ?_)
    refine wpAny_bind (listUpdate_at ho6 rfl ?_ (Nat.zero_le _) (by show (List.toArray _).size ≤ _; rw [List.size_toArray, List.length_map, Array.length_toList, hqs, sizeLine_eq]; omega))
    rw [hf]
    simp only [bne_self_eq_false, Bool.false_eq_true, if_false]
    exact wpAny_pure h
theorem sorted_pairs {l : Addr} {vs : List Value} {xs : List (List Int)} {p : List Nat} {Q : Value → Shared → Prop} (hl : s.heap.IsList l vs.toArray) (T : TupInts s.heap vs xs) (h64 : vs.length < 64) (hp : sortP vs.length xs = some p)
    (h : Q (.ref (s.heap.objs.size + 1)) { s with heap := sortedAll s.heap vs (List.toArray (p.map fun i => vs.getD i Value.none)) }) :
    wpAny (model prog w) A (call (.builtin "sorted") [.ref l]) Q E s := by
  refine Calls.call_function_entry kind_sorted plain_sorted entry_sorted (args_sorted1 _) ?_
  unfold Builtin.«sorted»
  refine wpAny_bind (m := checkCount "sorted" 1 1 _) (wpAny_pure ?_)
  refine wpAny_bind (collect_list hl ?_ (by rw [sizeLine_eq]; omega))
  refine wpAny_bind (wpAny_newList ?_ (by rw [sizeLine_eq]; omega))
  have hsz : ((s.heap.push (seqObj "list" #[] 0)).update s.heap.objs.size (Obj.mapSeq (· ++ vs.toArray))).objs.size = s.heap.objs.size + 1 := by
    rw [Heap.size_update, size_push']
  have hoL : (((s.heap.push (seqObj "list" #[] 0)).update s.heap.objs.size (Obj.mapSeq (· ++ vs.toArray))).push (seqObj "list" vs.toArray 0)).get? (s.heap.objs.size + 1) = some (seqObj "list" vs.toArray 0) := by
    rw [← hsz]; exact Heap.get?_push_size _ rfl
  have keep : ∀ b o, s.heap.get? b = some o → (((s.heap.push (seqObj "list" #[] 0)).update s.heap.objs.size (Obj.mapSeq (· ++ vs.toArray))).push (seqObj "list" vs.toArray 0)).get? b = some o := fun b o q => by
    have hlt : b < s.heap.objs.size := Heap.lt_size q
    rw [Heap.get?_push_ne _ _ _ (by rw [hsz]; exact Nat.ne_of_lt (Nat.lt_succ_of_lt hlt)), Heap.get?_update_ne _ _ _ _ (Nat.ne_of_lt hlt), Heap.get?_push_ne _ _ _ (Nat.ne_of_lt hlt)]
    exact q
  show wpAny _ _ _ _ _ { s with heap := ((s.heap.push (seqObj "list" #[] 0)).update s.heap.objs.size (Obj.mapSeq (· ++ vs.toArray))).push (seqObj "list" vs.toArray 0) }
  rw [hsz]
  refine wpAny_bind (wpAny_holding (wpAny_call_entry slot_list_sort ⟨_, hoL, rfl⟩ entry_list_sort (list_sort_pairs hoL h64 (fun h' hk => T.keep fun b o e => hk b o (Nat.ne_of_lt (Nat.lt_succ_of_lt (Heap.lt_size e))) (keep b o e)) hp ⟨_, rfl, ?_⟩) (args_list_sort _)))
  exact wpAny_pure ⟨_, rfl, h⟩
end
end Mine
end SUG
section SRQ
open PySem PySem.W PyProof.Rows PySem.Calls PySem.Spec
namespace Mine
variable {prog : Program} {w : World}
noncomputable def maxI : List Int → Int
  | [] => 0
  | [a] => a
  | a :: r => if maxI r ≤ a then a else maxI r
noncomputable def tupsD : List PyData → Option (List (List Int))
  | [] => some []
  | .tuple xs :: r => (intsD xs).bind fun is => if is = [] then none else (tupsD r).map (is :: ·)
  | _ => none
noncomputable def bltD (f : Str) (args : List PyData) : Option PyData :=
  if f = Str.ofString "len" then match args with
    | [.list xs] => if xs.length ≤ 1000000 then some (.int xs.length) else none
    | [.str x] => if x.length ≤ 1000000 then some (.int x.length) else none
    | _ => none
  else if f = Str.ofString "ord" then match args with
    | [.str x] => if x.length = 1 then some (.int (x.cps.getD 0 0 : Nat)) else none
    | _ => none
  else if f = Str.ofString "chr" then match args with
    | [.int i] => if 0 ≤ i ∧ i ≤ 1114111 then some (.str ⟨#[i.toNat]⟩) else none
    | _ => none
  else if f = Str.ofString "sum" then match args with
    | [.list xs] => (intsD xs).map fun is => .int is.sum
    | _ => none
  else if f = Str.ofString "max" then match args with
    | [.list xs] => (intsD xs).bind fun is => if is = [] then none else some (.int (maxI is))
    | _ => none
  else if f = Str.ofString "sorted" then match args with
    | [.list xs] => (tupsD xs).bind fun is => if xs.length < 64 then (sortP xs.length is).map fun p => .list (p.map fun i => xs.getD i .none) else none
    | _ => none
  else none
theorem intsAre_of {X : AS} {h : Heap} : ∀ {xs : List PyData} {ss : List Int} {vs : List Value}, intsD xs = some ss → Rps X h xs vs → IntsAre vs ss
  | [], ss, vs, e, r => by simp only [intsD, Option.some.injEq] at e; subst e; simp only [Rps] at r; subst r; exact .nil
  | d :: xs, ss, vs, e, r => by
    simp only [Rps] at r
    obtain ⟨v, vr, rfl, r1, r2⟩ := r
    cases d <;> simp only [intsD, reduceCtorEq, Option.map_eq_some_iff] at e
    obtain ⟨t, e, rfl⟩ := e
    simp only [Rp] at r1
    obtain ⟨u, rfl⟩ := r1
    exact .cons _ _ (intsAre_of e r2)
theorem maxI_mem : ∀ (l : List Int), l ≠ [] → maxI l ∈ l ∧ ∀ a ∈ l, a ≤ maxI l
  | [], h => absurd rfl h
  | [a], _ => by simp [maxI]
  | a :: b :: r, _ => by
    obtain ⟨h1, h2⟩ := maxI_mem (b :: r) (by simp)
    have e : maxI (a :: b :: r) = if maxI (b :: r) ≤ a then a else maxI (b :: r) := rfl
    rw [e]
    split
    · rename_i h
      refine ⟨List.mem_cons_self, fun x hx => ?_⟩
      rcases List.mem_cons.mp hx with rfl | hx
      · exact Int.le_refl _
      · exact Int.le_trans (h2 x hx) h
    · rename_i h
      refine ⟨List.mem_cons_of_mem _ h1, fun x hx => ?_⟩
      rcases List.mem_cons.mp hx with rfl | hx
      · omega
      · exact h2 x hx
theorem tups_of {X : AS} {h : Heap} : ∀ {xs : List PyData} {is : List (List Int)} {vs : List Value}, tupsD xs = some is → Rps X h xs vs → TupInts h vs is
  | [], is, vs, e, r => by
    simp only [tupsD, Option.some.injEq] at e; subst e
    simp only [Rps] at r; subst r; trivial
  | d :: ds, is, vs, e, r => by
    simp only [Rps] at r
    obtain ⟨v, vr, rfl, h1, h2⟩ := r
    cases d <;> simp only [tupsD, reduceCtorEq, Option.bind_eq_some_iff] at e
    obtain ⟨js, e1, e⟩ := e
    split at e
    · cases e
    · rename_i hne
      obtain ⟨rs, e2, rfl⟩ := Option.map_eq_some_iff.mp e
      simp only [Rp] at h1
      obtain ⟨a, us, rfl, _, hp, hr⟩ := h1
      exact ⟨⟨a, us, rfl, hp, intsAre_of e1 hr, hne⟩, tups_of e2 h2⟩
theorem Rps.pick {X : AS} {h : Heap} {ds : List PyData} {vs : List Value} (r : Rps X h ds vs) : ∀ (p : List Nat), Rps X h (p.map fun i => ds.getD i .none) (p.map fun i => vs.getD i Value.none)
  | [] => by simp only [List.map_nil, Rps]
  | i :: p => by
    simp only [List.map_cons, Rps]
    refine ⟨_, _, rfl, ?_, r.pick p⟩
    cases e : ds[i]? with
    | none =>
      have : vs[i]? = none := by
        rw [List.getElem?_eq_none_iff] at e ⊢
        rw [r.length]; exact e
      simp [List.getD_eq_getElem?_getD, e, this, Rp]
    | some d =>
      obtain ⟨v, hv, hr⟩ := r.get e
      simpa [List.getD_eq_getElem?_getD, e, hv] using hr
section
variable {W : Wd prog w} {k : Nat}
theorem rps1 {X : AS} {h : Heap} {d : PyData} {vs : List Value} (r : Rps X h [d] vs) : ∃ v, vs = [v] ∧ Rp X h d v := by
  simp only [Rps] at r
  obtain ⟨v, vr, rfl, r1, rfl⟩ := r
  exact ⟨v, rfl, r1⟩
theorem len_ok {d r : PyData} (h : bltD (Str.ofString "len") [d] = some r) : CallOk W k (.builtin "len") [d] r := by
  intro A s X vs E hA hG hl rv
  obtain ⟨v, rfl, r1⟩ := rps1 rv
  unfold bltD at h
  rw [if_pos rfl] at h
  split at h
  · rename_i xs hd
    cases hd
    split at h
    · rename_i hz
      cases h
      simp only [Rp] at r1
      obtain ⟨a, vs, rfl, _, hpl, hr⟩ := r1
      have e : vs.toArray.size = xs.length := by rw [List.size_toArray, hr.length]
      refine call_len_list hpl.isList (by rw [e]; omega) ⟨?_, kp_tok _ _⟩
      rw [e]; exact rp_int
    · cases h
  · rename_i x hd
    cases hd
    split at h
    · rename_i hz
      cases h
      simp only [Rp] at r1
      obtain ⟨t, rfl⟩ := r1
      exact PySem.P.len_str (by omega) ⟨rp_int, kp_tok _ _⟩
    · cases h
  · cases h
theorem ord_ok {x : Str} (h1 : x.length = 1) : CallOk W k (.builtin "ord") [.str x] (.int (x.cps.getD 0 0 : Nat)) := by
  intro A s X vs E hA hG hl rv
  obtain ⟨v, rfl, r1⟩ := rps1 rv
  simp only [Rp] at r1
  obtain ⟨t, rfl⟩ := r1
  exact ord_of_one h1 ⟨rp_int, kp_tok _ _⟩
theorem chr_ok {i : Int} (h0 : 0 ≤ i) (h1 : i ≤ 1114111) : CallOk W k (.builtin "chr") [.int i] (.str ⟨#[i.toNat]⟩) := by
  intro A s X vs E hA hG hl rv
  obtain ⟨v, rfl, r1⟩ := rps1 rv
  simp only [Rp] at r1
  obtain ⟨t, rfl⟩ := r1
  exact chr_of_range h0 h1 ⟨rp_str, kp_tok _ _⟩
theorem sum_ok {xs : List PyData} {is : List Int} (h : intsD xs = some is) : CallOk W k (.builtin "sum") [.list xs] (.int is.sum) := by
  intro A s X vs E hA hG hl rv
  obtain ⟨v, rfl, r1⟩ := rps1 rv
  simp only [Rp] at r1
  obtain ⟨a, vs, rfl, _, hpl, hr⟩ := r1
  have hi := intsAre_of h hr
  obtain ⟨ys, e⟩ := hi.allInts.items
  have hns : is = ys.toList.map (·.1) := by rw [← hi.numsOf, ← nums_intItems, ← e]
  refine sum_intListG hA.h (e ▸ hpl.isList) fun h' tk t' hk => ?_
  rw [preSum_eq, List.take_of_length_le (by simp), ← hns]
  exact ⟨rp_int, h', tk, rfl, hk⟩
theorem max_ok {xs : List PyData} {is : List Int} (h : intsD xs = some is) (hne : is ≠ []) : CallOk W k (.builtin "max") [.list xs] (.int (maxI is)) := by
  intro A s X vs E hA hG hl rv
  obtain ⟨v, rfl, r1⟩ := rps1 rv
  simp only [Rp] at r1
  obtain ⟨a, vs, rfl, _, hpl, hr⟩ := r1
  have hi := intsAre_of h hr
  obtain ⟨ys, e⟩ := hi.allInts.items
  have hns : is = ys.toList.map (·.1) := by rw [← hi.numsOf, ← nums_intItems, ← e]
  have hsz : 0 < ys.size := by
    have h3 := List.length_pos_iff.mpr hne
    rw [hns, List.length_map, Array.length_toList] at h3; exact h3
  refine max_intList hA.h (e ▸ hpl.isList) hsz fun v h' tk hv hk => ?_
  obtain ⟨hb1, hb2⟩ := argBest_gt (numAt ys) (ys.size - 1)
  generalize argBest (fun i j => decide (numAt ys i > numAt ys j)) (ys.size - 1) = b at hv hb1 hb2
  have hb : b < ys.size := by omega
  have hv' : v = .int (ys[b]).1 (ys[b]).2 := by
    simp only [intItems, Array.getElem?_map, Array.getElem?_eq_getElem hb, Option.map_some, Option.some.injEq] at hv
    exact hv.symm
  have hnum : ∀ j (hj : j < ys.size), numAt ys j = (ys[j]).1 := fun j hj => by unfold numAt; simp [Array.getElem?_eq_getElem hj]
  have hmax : (ys[b]).1 = maxI is := by
    obtain ⟨m1, m2⟩ := maxI_mem is hne
    refine Int.le_antisymm ?_ ?_
    · apply m2
      rw [hns]
      exact List.mem_map.mpr ⟨ys[b], by simp, rfl⟩
    · rw [hns] at m1
      obtain ⟨p, hp, e1⟩ := List.mem_map.mp m1
      obtain ⟨j, hj, rfl⟩ := List.mem_iff_getElem.mp hp
      have hj' : j < ys.size := by simpa using hj
      have := hb2 j (by omega)
      rw [hnum b hb, hnum j hj'] at this
      rw [hns, ← e1]
      simpa using this
  rw [hv', hmax]
  exact ⟨rp_int, h', tk, rfl, hk⟩
theorem sorted_ok {xs : List PyData} {is : List (List Int)} {p : List Nat} (h : tupsD xs = some is) (h64 : xs.length < 64) (hp : sortP xs.length is = some p) : CallOk W k (.builtin "sorted") [.list xs] (.list (p.map fun i => xs.getD i .none)) := by
  intro A s X vs E hA hG hl rv
  obtain ⟨v, rfl, r1⟩ := rps1 rv
  simp only [Rp] at r1
  obtain ⟨a, vs, rfl, _, hpl, hr⟩ := r1
  refine sorted_pairs hpl.isList (tups_of h hr) (by rw [hr.length]; exact h64) (by rw [hr.length]; exact hp) ?_
  obtain ⟨e, he⟩ := sortedAll_at s.heap vs (List.toArray (p.map fun i => vs.getD i Value.none))
  refine ⟨?_, _, s.toks, rfl, fun _ _ => sortedAll_old⟩
  simp only [Rp]
  refine ⟨_, _, rfl, hl.fresh ?_, ⟨e, he⟩, (hr.keeps ⟨_, s.toks, rfl, fun _ _ => sortedAll_old⟩).pick p⟩
  cases e : s.heap.get? (s.heap.objs.size + 1) with
  | none => rfl
  | some o => exact absurd (Heap.lt_size e) (Nat.not_lt.mpr (Nat.le_succ _))
end
end Mine
end SRQ
section SRR
open PySem PySem.W PyProof.Rows PySem.Calls
set_option maxRecDepth 100000
namespace Mine
noncomputable section
noncomputable def KF1 (P : Params) : Frag := (List.range 162).zip (objsC P)
theorem k_cmp (P : Params) : findIn (KF1 P) (.ref 38) "compare" = some (some (.ref 35)) := by kernel_rfl
theorem k_init (P : Params) : findIn (KF1 P) (.ref 38) "__init__" = some (some (.ref 28)) := by kernel_rfl
theorem k_make (P : Params) : makesIn (KF1 P) 38 = true := by kernel_rfl
theorem k_keep (P : Params) : keepIn (KF1 P) (.ref 38) = true := by kernel_rfl
theorem k_ga (P : Params) : findIn (KF1 P) (.ref 38) "__getattribute__" = some (some (.builtin "object.__getattribute__")) := by kernel_rfl
theorem k_gt (P : Params) : findIn (KF1 P) (.ref 38) "__getattr__" = some none := by kernel_rfl
theorem k_sa (P : Params) : findIn (KF1 P) (.ref 38) "__setattr__" = some (some (.builtin "object.__setattr__")) := by kernel_rfl
theorem k_po (P : Params) : plainOver (KF1 P) 38 = true := by kernel_rfl
theorem k_tk (P : Params) : takerIn (KF1 P) 38 sCSL = some none := by kernel_rfl
theorem k_hd (P : Params) : hasDictIn (KF1 P) 38 = true := by kernel_rfl
theorem k_csl (P : Params) : findIn (KF1 P) (.ref 38) sCSL = some none := by kernel_rfl
theorem k_fn28 (P : Params) : typeIn (KF1 P) (.ref 28) = some (.type "function") := by kernel_rfl
theorem k_fn35 (P : Params) : typeIn (KF1 P) (.ref 35) = some (.type "function") := by kernel_rfl
theorem zip_lookup {l : List Obj} {n a : Nat} {o : Obj} (h : ((List.range n).zip l).lookup a = some o) : l[a]? = some o := by
  have hm : (a, o) ∈ (List.range n).zip l := by
    revert h
    generalize (List.range n).zip l = z
    induction z with
    | nil => intro h; cases h
    | cons x r ih =>
      obtain ⟨k, v⟩ := x
      intro h
      rw [List.lookup_cons] at h
      split at h
      · rename_i hk
        cases h
        have : a = k := by simpa using hk
        subst this
        exact List.mem_cons_self
      · exact List.mem_cons_of_mem _ (ih h)
  obtain ⟨i, hi⟩ := List.mem_iff_getElem?.mp hm
  rw [List.getElem?_zip_eq_some] at hi
  obtain ⟨h1, h2⟩ := hi
  obtain ⟨h3, h4⟩ := List.getElem?_eq_some_iff.mp h1
  simp only [List.getElem_range] at h4
  subst h4
  exact h2
theorem in_K1 {w : World} {h : Heap} (y : says1 w h) : (KF1 w.params).In h := fun a o e => y a o (zip_lookup e)
noncomputable def dictEs (o : Obj) : Array DictEntry := match o.data with
  | .dict es _ => es
  | _ => #[]
noncomputable def strKeysB (o : Obj) : Bool := match o.data with
  | .dict es _ => es.all fun e => match e.key with | .str _ _ => true | _ => false
  | _ => false
theorem ns_of {h : Heap} {a : Addr} {o : Obj} (ho : h.get? a = some o) (hk : strKeysB o = true) : h.Ns a (nsFind (dictEs o)) := by
  unfold strKeysB at hk
  unfold dictEs
  split at hk
  · rename_i es ep hd
    refine ⟨o, es, ep, ho, hd, fun e he => ?_, fun x => rfl⟩
    rw [Array.all_eq_true'] at hk
    have := hk e he
    split at this
    · rename_i x t hx; exact ⟨x, t, hx⟩
    · cases this
  · cases hk
theorem keys3 (P : Params) : strKeysB (oC_3 P) = true := by kernel_rfl
theorem keys0 (P : Params) : strKeysB (boot_o_0 P) = true := by kernel_rfl
noncomputable def nm1 (P : Params) (x : Str) : Option Value := match nsFind (dictEs (oC_3 P)) x with
  | some v => some v
  | none => nsFind (dictEs (boot_o_0 P)) x
noncomputable def instOf1 (P : Params) (X : AS) (h : Heap) (ks : PyData) (v : Value) : Prop :=
  ∃ x dx t n lv, v = .ref x ∧ ¬ X x ∧ ¬ X dx ∧ h.get? x = some (instObj 38 dx) ∧ h.get? dx = some (dictOf [⟨PyData.keyHash P sCSL, .str sCSL t, lv⟩] n) ∧ Rp X h ks lv ∧ ∃ l, ks = .list l
noncomputable def W1 (w : World) : Wd pp w where
  G := says1 w
  keep := fun y k => says_keeps w _ _ y k
  nm := nm1 w.params
  look := fun {h} y {x v} hx => by
    refine ⟨_, _, ns_of (y 3 _ rfl) (keys3 _), ns_of (y 0 _ rfl) (keys0 _), ?_⟩
    unfold nm1 at hx
    split at hx
    · rename_i v' e; cases hx; exact .inl e
    · rename_i e; exact .inr ⟨e, hx⟩
  Inst := instOf1 w.params
  instKeep := fun hk i => by
    obtain ⟨x, dx, t, n, lv, rfl, hx, hd, h1, h2, r, hl⟩ := i
    exact ⟨x, dx, t, n, lv, rfl, (hk _ _ hx h1).2, (hk _ _ hd h2).2, (hk _ _ hx h1).1, (hk _ _ hd h2).1, r.keep hk, hl⟩
  fc := 35
  meth := fun {X s k ov} y i A E imp Q hQ => by
    obtain ⟨x, dx, t, n, lv, rfl, hx, hd, h1, h2, r, hl⟩ := i
    exact method_fn (in_K1 y) (ox := instObj 38 dx) (C := 38) (od := some (dictOf [⟨PyData.keyHash w.params sCSL, .str sCSL t, lv⟩] n)) ⟨h1, rfl, rfl, h2⟩ (k_ga _) (k_gt _) (k_cmp _) (k_fn35 _) (by kernel_rfl) hQ
  attr := fun {X s k ov} y i A E Q hQ => by
    obtain ⟨x, dx, t, n, lv, rfl, hx, hd, h1, h2, r, l, rfl⟩ := i
    have hlv : handedIn lv = true := by
      simp only [Rp] at r
      obtain ⟨a, vs, rfl, _⟩ := r
      rfl
    refine get_value (in_K1 y) (ox := instObj 38 dx) (C := 38) (od := some (dictOf [⟨PyData.keyHash w.params sCSL, .str sCSL t, lv⟩] n)) ⟨h1, rfl, rfl, h2⟩ (k_ga _) (findObj_own (k_hd _) (k_csl _) rfl ?_) hlv (hQ lv r)
    kernel_rfl
  K := KF1 w.params
  inK := in_K1
  mka := 38
  mkNm := by kernel_rfl
  mkKeep := k_keep _
  fcAt := ⟨_, _, fun h y => y 35 _ rfl, rfl⟩
end
end Mine
end SRR
section SRS
open PySem PySem.W PyProof.Rows PySem.Calls
set_option maxRecDepth 100000
namespace Mine
noncomputable section
theorem keysS (P : Params) : strKeysB ((objsC P).getD cStatics (boot_o_0 P)) = true := by kernel_rfl
theorem lim1 {w : World} {h : Heap} (y : says1 w h) : h.NoLimit :=
  ⟨_, ns_of (y cStatics _ rfl) (keysS w.params), by kernel_rfl⟩
noncomputable def fdOf (st : Stmt) (qual : Str) (pm cd : Value) : FuncData := match st with
  | .FunctionDef name args body _ _ _ scope _ _ _ => { name, qualname := qual, params := args, body := .stmts body, scope, globals := 3, closure := [], defaults := .none, kwdefaults := .none, pyModule := pm, code := cd, builtins := 0 }
  | _ => { name := qual, qualname := qual, params := default, body := .stmts [], scope := default, globals := 3, closure := [], defaults := .none, kwdefaults := .none, pyModule := pm, code := cd, builtins := 0 }
noncomputable def bodyOf (st : Stmt) : List Stmt := match st with
  | .FunctionDef _ _ body _ _ _ _ _ _ _ => body
  | _ => []
noncomputable def scopeOf (st : Stmt) : Scope := match st with
  | .FunctionDef _ _ _ _ _ _ scope _ _ _ => scope
  | _ => default
noncomputable def argsOf (st : Stmt) : List Str := match st with
  | .FunctionDef _ args _ _ _ _ _ _ _ _ => args.args.map (·.arg)
  | _ => []
theorem len_two {l : List Value} (h : l.length = 2) : ∃ a b, l = [a, b] := by
  match l, h with
  | [a, b], _ => exact ⟨a, b, rfl⟩
theorem len_three {l : List Value} (h : l.length = 3) : ∃ a b c, l = [a, b, c] := by
  match l, h with
  | [a, b, c], _ => exact ⟨a, b, c, rfl⟩
theorem code1 {w : World} {h : Heap} (y : says1 w h) {cd : Value} {q : Str} (e : codeIn (KF1 w.params) cd q = true) : h.CodeRec cd q := codeRec_of (in_K1 y) e
noncomputable abbrev st_tc_init : Stmt := stIn bd 1 0
noncomputable abbrev fd_tc_init : FuncData := fdOf st_tc_init (Str.ofString "TupleComp.__init__") (.str (Str.ofString "cpy313.pstats") 187) (.ref 27)
theorem at_tc_init (w : World) : FnAt (W1 w) 28 fd_tc_init (bodyOf st_tc_init) [Str.ofString "self", Str.ofString "comp_select_list"] where
  at_ := ⟨_, rfl, fun h y => y 28 _ rfl⟩
  lim := fun h y => lim1 y
  code := fun h y => code1 y (by kernel_rfl)
  body := rfl
  clo := rfl
  g := rfl
  b := rfl
  bind := fun vals hl => by
    obtain ⟨a, b, rfl⟩ := len_two hl
    kernel_rfl
  fit := by kernel_rfl
noncomputable abbrev st_tc_compare : Stmt := stIn bd 1 1
noncomputable abbrev fd_tc_compare : FuncData := fdOf st_tc_compare (Str.ofString "TupleComp.compare") (.str (Str.ofString "cpy313.pstats") 187) (.ref 34)
theorem at_tc_compare (w : World) : FnAt (W1 w) 35 fd_tc_compare (bodyOf st_tc_compare) [Str.ofString "self", Str.ofString "left", Str.ofString "right"] where
  at_ := ⟨_, rfl, fun h y => y 35 _ rfl⟩
  lim := fun h y => lim1 y
  code := fun h y => code1 y (by kernel_rfl)
  body := rfl
  clo := rfl
  g := rfl
  b := rfl
  bind := fun vals hl => by
    obtain ⟨a, b, c, rfl⟩ := len_three hl
    kernel_rfl
  fit := by kernel_rfl
noncomputable abbrev st_in_table_b1 : Stmt := stAt bd 4
noncomputable abbrev fd_in_table_b1 : FuncData := fdOf st_in_table_b1 (Str.ofString "in_table_b1") (.str (Str.ofString "cpy313.stringprep") 231) (.ref 59)
theorem at_in_table_b1 (w : World) : FnAt (W1 w) 60 fd_in_table_b1 (bodyOf st_in_table_b1) [Str.ofString "code"] where
  at_ := ⟨_, rfl, fun h y => y 60 _ rfl⟩
  lim := fun h y => lim1 y
  code := fun h y => code1 y (by kernel_rfl)
  body := rfl
  clo := rfl
  g := rfl
  b := rfl
  bind := fun vals hl => by
    obtain ⟨a, rfl⟩ := List.length_eq_one_iff.mp hl
    kernel_rfl
  fit := by kernel_rfl
noncomputable abbrev st_map_table_b3 : Stmt := stAt bd 6
noncomputable abbrev fd_map_table_b3 : FuncData := fdOf st_map_table_b3 (Str.ofString "map_table_b3") (.str (Str.ofString "cpy313.stringprep") 231) (.ref 105)
theorem at_map_table_b3 (w : World) : FnAt (W1 w) 106 fd_map_table_b3 (bodyOf st_map_table_b3) [Str.ofString "code"] where
  at_ := ⟨_, rfl, fun h y => y 106 _ rfl⟩
  lim := fun h y => lim1 y
  code := fun h y => code1 y (by kernel_rfl)
  body := rfl
  clo := rfl
  g := rfl
  b := rfl
  bind := fun vals hl => by
    obtain ⟨a, rfl⟩ := List.length_eq_one_iff.mp hl
    kernel_rfl
  fit := by kernel_rfl
noncomputable abbrev st_word : Stmt := stAt bd 8
noncomputable abbrev fd_word : FuncData := fdOf st_word (Str.ofString "_law_word") (.str (Str.ofString "law_mr0250_02") 2259) (.ref 112)
theorem at_word (w : World) : FnAt (W1 w) 113 fd_word (bodyOf st_word) [Str.ofString "x"] where
  at_ := ⟨_, rfl, fun h y => y 113 _ rfl⟩
  lim := fun h y => lim1 y
  code := fun h y => code1 y (by kernel_rfl)
  body := rfl
  clo := rfl
  g := rfl
  b := rfl
  bind := fun vals hl => by
    obtain ⟨a, rfl⟩ := List.length_eq_one_iff.mp hl
    kernel_rfl
  fit := by kernel_rfl
noncomputable abbrev st_sign : Stmt := stAt bd 9
noncomputable abbrev fd_sign : FuncData := fdOf st_sign (Str.ofString "_law_sign") (.str (Str.ofString "law_mr0250_02") 2259) (.ref 119)
theorem at_sign (w : World) : FnAt (W1 w) 120 fd_sign (bodyOf st_sign) [Str.ofString "letter", Str.ofString "form"] where
  at_ := ⟨_, rfl, fun h y => y 120 _ rfl⟩
  lim := fun h y => lim1 y
  code := fun h y => code1 y (by kernel_rfl)
  body := rfl
  clo := rfl
  g := rfl
  b := rfl
  bind := fun vals hl => by
    obtain ⟨a, b, rfl⟩ := len_two hl
    kernel_rfl
  fit := by kernel_rfl
noncomputable abbrev st_unseen : Stmt := stAt bd 10
noncomputable abbrev fd_unseen : FuncData := fdOf st_unseen (Str.ofString "_law_unseen") (.str (Str.ofString "law_mr0250_02") 2259) (.ref 126)
theorem at_unseen (w : World) : FnAt (W1 w) 127 fd_unseen (bodyOf st_unseen) [Str.ofString "k"] where
  at_ := ⟨_, rfl, fun h y => y 127 _ rfl⟩
  lim := fun h y => lim1 y
  code := fun h y => code1 y (by kernel_rfl)
  body := rfl
  clo := rfl
  g := rfl
  b := rfl
  bind := fun vals hl => by
    obtain ⟨a, rfl⟩ := List.length_eq_one_iff.mp hl
    kernel_rfl
  fit := by kernel_rfl
noncomputable abbrev st_piece : Stmt := stAt bd 11
noncomputable abbrev fd_piece : FuncData := fdOf st_piece (Str.ofString "_law_piece") (.str (Str.ofString "law_mr0250_02") 2259) (.ref 131)
theorem at_piece (w : World) : FnAt (W1 w) 132 fd_piece (bodyOf st_piece) [Str.ofString "x"] where
  at_ := ⟨_, rfl, fun h y => y 132 _ rfl⟩
  lim := fun h y => lim1 y
  code := fun h y => code1 y (by kernel_rfl)
  body := rfl
  clo := rfl
  g := rfl
  b := rfl
  bind := fun vals hl => by
    obtain ⟨a, rfl⟩ := List.length_eq_one_iff.mp hl
    kernel_rfl
  fit := by kernel_rfl
noncomputable abbrev st_prepared : Stmt := stAt bd 12
noncomputable abbrev fd_prepared : FuncData := fdOf st_prepared (Str.ofString "_law_prepared") (.str (Str.ofString "law_mr0250_02") 2259) (.ref 136)
theorem at_prepared (w : World) : FnAt (W1 w) 137 fd_prepared (bodyOf st_prepared) [Str.ofString "piece"] where
  at_ := ⟨_, rfl, fun h y => y 137 _ rfl⟩
  lim := fun h y => lim1 y
  code := fun h y => code1 y (by kernel_rfl)
  body := rfl
  clo := rfl
  g := rfl
  b := rfl
  bind := fun vals hl => by
    obtain ⟨a, rfl⟩ := List.length_eq_one_iff.mp hl
    kernel_rfl
  fit := by kernel_rfl
noncomputable abbrev st_sorted : Stmt := stAt bd 13
noncomputable abbrev fd_sorted : FuncData := fdOf st_sorted (Str.ofString "_law_sorted") (.str (Str.ofString "law_mr0250_02") 2259) (.ref 143)
theorem at_sorted (w : World) : FnAt (W1 w) 144 fd_sorted (bodyOf st_sorted) [Str.ofString "rows", Str.ofString "keys"] where
  at_ := ⟨_, rfl, fun h y => y 144 _ rfl⟩
  lim := fun h y => lim1 y
  code := fun h y => code1 y (by kernel_rfl)
  body := rfl
  clo := rfl
  g := rfl
  b := rfl
  bind := fun vals hl => by
    obtain ⟨a, b, rfl⟩ := len_two hl
    kernel_rfl
  fit := by kernel_rfl
noncomputable abbrev st_put_in : Stmt := stAt bd 14
noncomputable abbrev fd_put_in : FuncData := fdOf st_put_in (Str.ofString "_law_put_in") (.str (Str.ofString "law_mr0250_02") 2259) (.ref 150)
theorem at_put_in (w : World) : FnAt (W1 w) 151 fd_put_in (bodyOf st_put_in) [Str.ofString "places", Str.ofString "rows", Str.ofString "keys"] where
  at_ := ⟨_, rfl, fun h y => y 151 _ rfl⟩
  lim := fun h y => lim1 y
  code := fun h y => code1 y (by kernel_rfl)
  body := rfl
  clo := rfl
  g := rfl
  b := rfl
  bind := fun vals hl => by
    obtain ⟨a, b, c, rfl⟩ := len_three hl
    kernel_rfl
  fit := by kernel_rfl
noncomputable abbrev st_longest : Stmt := stAt bd 15
noncomputable abbrev fd_longest : FuncData := fdOf st_longest (Str.ofString "_law_longest") (.str (Str.ofString "law_mr0250_02") 2259) (.ref 155)
theorem at_longest (w : World) : FnAt (W1 w) 156 fd_longest (bodyOf st_longest) [Str.ofString "ranks"] where
  at_ := ⟨_, rfl, fun h y => y 156 _ rfl⟩
  lim := fun h y => lim1 y
  code := fun h y => code1 y (by kernel_rfl)
  body := rfl
  clo := rfl
  g := rfl
  b := rfl
  bind := fun vals hl => by
    obtain ⟨a, rfl⟩ := List.length_eq_one_iff.mp hl
    kernel_rfl
  fit := by kernel_rfl
noncomputable abbrev st_law : Stmt := stAt bd 16
noncomputable abbrev fd_law : FuncData := fdOf st_law (Str.ofString "law") (.str (Str.ofString "law_mr0250_02") 2259) (.ref 160)
theorem at_law (w : World) : FnAt (W1 w) 161 fd_law (bodyOf st_law) [Str.ofString "script"] where
  at_ := ⟨_, rfl, fun h y => y 161 _ rfl⟩
  lim := fun h y => lim1 y
  code := fun h y => code1 y (by kernel_rfl)
  body := rfl
  clo := rfl
  g := rfl
  b := rfl
  bind := fun vals hl => by
    obtain ⟨a, rfl⟩ := List.length_eq_one_iff.mp hl
    kernel_rfl
  fit := by kernel_rfl
end
end Mine
end SRS
section SRT
open PySem PySem.W PyProof.Rows PySem.Calls
set_option maxRecDepth 100000
namespace Mine
noncomputable section
noncomputable abbrev sSelf : Str := Str.ofString "self"
theorem init_body : ∃ p1 p2 p3 p4, bodyOf st_tc_init = [.Assign [.Attribute (.Name sSelf p1) sCSL p2] (.Name sCSL p3) p4] := ⟨_, _, _, _, rfl⟩
theorem plain_self : plainName sSelf := plainB_iff.mp (by kernel_rfl)
theorem plain_csl : plainName sCSL := plainB_iff.mp (by kernel_rfl)
theorem make_ok (w : World) {k : Nat} (ks : List PyData) (A : Around) (s : Shared) (X : AS) (v : Value) (E : Value → Shared → Prop) (hA : AOk (k + 2) A) (y : says1 w s.heap) (hl : Live X s.heap) (rv : Rp X s.heap (.list ks) v) :
    wpAny (model pp w) A (call (.ref 38) [v]) (fun ov s' => instOf1 w.params X s'.heap (.list ks) ov ∧ Keeps s s') E s := by
  obtain ⟨h, g, d, t, os⟩ := s
  dsimp only at y hl rv
  refine wpAny_call (make_core (makes_of (in_K1 y) (k_make _)) (looks_findIn (in_K1 y) (k_init _)) (fun self => bind_fn (in_K1 y) self (k_fn28 _)) (.inl rfl) ?_)
  generalize hB : A.under (.builtin "type.__call__" ⟨[.ref 38, v], []⟩) = B
  have hBd : B.depth = A.depth + 1 := by rw [← hB]; rfl
  have kk : ∀ b o, h.get? b = some o → ((h.push emptyDict).push (instObj 38 h.objs.size)).get? b = some o := fun b o e => Heap.get?_push_of_some _ (Heap.get?_push_of_some _ e)
  have y' : says1 w ((h.push emptyDict).push (instObj 38 h.objs.size)) := says_keeps w _ _ y kk
  have fa := at_tc_init w
  obtain ⟨o, hd, ho⟩ := fa.at_
  have hdx : ((h.push emptyDict).push (instObj 38 h.objs.size)).get? h.objs.size = some emptyDict := Heap.get?_push_of_some _ (Heap.get?_push_size _ rfl)
  have hx : ((h.push emptyDict).push (instObj 38 h.objs.size)).get? (h.objs.size + 1) = some (instObj 38 h.objs.size) := by
    have := Heap.get?_push_size (o := instObj 38 h.objs.size) (h.push emptyDict) rfl
    rwa [Heap.size_push] at this
  have hroom : B.depth < recursionLimit := by
    have := hA.d
    show B.depth < 1000
    omega
  refine codeAny_call_cells hroom (ho _ y') hd (fa.lim _ y') (fa.code _ y') fa.body (fa.bind [.ref (h.objs.size + 1), v] rfl) fa.clo ?_ (fun s₁ x => ?_)
  · intro z hz
    refine .inl ?_
    simp only [List.zip_cons_cons, List.zip_nil_left, List.mem_cons, List.not_mem_nil, or_false] at hz
    rcases hz with rfl | rfl <;> kernel_rfl
  · obtain ⟨p1, p2, p3, p4, hb⟩ := init_body
    rw [hb]
    have fr := x.toInCall
    generalize hE : callEnvC fd_tc_init _ 28 = env at x fr ⊢
    have hsc : env.scope = fd_tc_init.scope := by rw [← hE]; rfl
    have hk : env.scope.kind = .function := by rw [hsc]; kernel_rfl
    have hk1 : env.kindOf sSelf = some .local := by unfold Env.kindOf; rw [hsc]; kernel_rfl
    have hk2 : env.kindOf sCSL = some .local := by unfold Env.kindOf; rw [hsc]; kernel_rfl
    have hns := fr.ns
    have m1 : bindL env.kindOf (List.zip [Str.ofString "self", Str.ofString "comp_select_list"] [.ref (h.objs.size + 1), v]) (fun _ => none) sSelf = some (.ref (h.objs.size + 1)) := by
      simp only [List.zip_cons_cons, List.zip_nil_left, bindL, hk1, hk2, if_true]
      rw [if_neg (by decide +kernel)]
    have m2 : bindL env.kindOf (List.zip [Str.ofString "self", Str.ofString "comp_select_list"] [.ref (h.objs.size + 1), v]) (fun _ => none) sCSL = some v := by
      simp only [List.zip_cons_cons, List.zip_nil_left, bindL, hk1, hk2, if_true]
    refine wpAny_execs_cons (plainObj_wpAny_Assign_Attribute ?_)
    refine wpAny_Name (wpAny_loadName_local hk hk2 hns m2 ?_) plain_csl.1
    refine wpAny_Name (wpAny_loadName_local hk hk1 hns m1 ?_) plain_self.1
    have hLge : h.objs.size + 2 ≤ env.locals := by
      have := fr.fresh
      rw [Heap.size_push, Heap.size_push] at this
      exact this
    have F : Fr h env.locals s₁.heap (bindL env.kindOf (List.zip [Str.ofString "self", Str.ofString "comp_select_list"] [.ref (h.objs.size + 1), v]) (fun _ => none)) := ⟨hns, fun b o e => fr.keep b o (kk b o e), by omega⟩
    have none_of : ∀ b, h.objs.size ≤ b → h.get? b = none := fun b hb => by
      cases e : h.get? b with
      | none => rfl
      | some o => exact absurd (Heap.lt_size e) (Nat.not_lt.mpr hb)
    have N : News h env.locals s₁.heap [(h.objs.size + 1, instObj 38 h.objs.size), (h.objs.size, dictOf [] 0)] := by
      intro p hp
      simp only [List.mem_cons, List.not_mem_nil, or_false] at hp
      rcases hp with rfl | rfl
      · exact ⟨fr.keep _ _ hx, Nat.ne_of_lt (Nat.lt_of_lt_of_le (Nat.lt_succ_self _) hLge), none_of _ (Nat.le_succ _)⟩
      · exact ⟨fr.keep _ _ hdx, Nat.ne_of_lt (Nat.lt_of_lt_of_le (Nat.lt_succ_of_lt (Nat.lt_succ_self _)) hLge), none_of _ (Nat.le_refl _)⟩
    refine set_dict (K := KF1 w.params) (C := 38) F (in_K1 y) N (ox := instObj 38 h.objs.size) (dx := h.objs.size) (es := []) (n := 0) ⟨fr.keep _ _ hx, rfl, rfl, fr.keep _ _ hdx⟩ rfl (k_sa _) (k_po _) (k_tk _) (k_hd _) rfl rfl
      (.tail (Nat.ne_of_gt (Nat.lt_succ_self _)) (.head fun p hp => nomatch hp)) (Nat.le_of_ble_eq_true rfl) fun h' F' N' => ?_
    refine wpAny_execs_nil ⟨rfl, ?_, ?_⟩
    · have n1 := N' _ List.mem_cons_self
      have n2 := N' _ (List.mem_cons_of_mem _ List.mem_cons_self)
      refine ⟨_, _, _, _, v, rfl, hl.fresh (none_of _ (Nat.le_succ _)), hl.fresh (none_of _ (Nat.le_refl _)), n1.1, n2.1, ?_, ks, rfl⟩
      exact rv.keep fun b o hb e => ⟨F'.keep b o e, hb⟩
    · obtain ⟨h₁, t₁, e₁⟩ := fr.same
      subst e₁
      exact ⟨h', _, rfl, F'.keep⟩
end
end Mine
end SRT
section SRU
open PySem PySem.W PyProof.Rows PySem.Calls
set_option maxRecDepth 100000
namespace Mine
noncomputable section
theorem hash_small {k : Int} (h0 : 0 ≤ k) (h1 : k < 2 ^ 32) : hashInt k = k := by
  have e : ((k.natAbs : Int) % ((2 ^ 61 - 1 : Nat) : Int)) = k := by
    have : (k.natAbs : Int) = k := Int.natAbs_of_nonneg h0
    rw [this]
    exact Int.emod_eq_of_lt h0 (by omega)
  have hr : rawHash k = k := by
    unfold rawHash
    simp only [e]
    rw [if_neg (show ¬ k < 0 by omega), if_neg]
    intro h
    have := beq_iff_eq.mp h
    omega
  unfold hashInt
  rw [hr, if_neg]
  intro h
  have := beq_iff_eq.mp h
  omega
noncomputable def b1L : List Int := [65024, 65025, 65026, 65027, 65028, 65029, 6150, 65030, 65031, 65032, 65033, 6155, 6156, 6157, 8203, 8204, 8205, 65034, 65035, 65036, 65037, 65038, 65039, 173, 847, 8288, 65279]
noncomputable def setEs (o : Obj) : Array (Int × Value) := match o.data with
  | .set es _ _ => es
  | _ => #[]
noncomputable def setOkB (o : Obj) (l : List Int) : Bool := match o.data with
  | .set es _ t => (es.toList.map (·.1) == l) && (es.toList.all fun e => match e.2 with | .int k _ => decide (k = e.1) && decide (0 ≤ k) && decide (k < 2 ^ 32) | _ => false) && decide (es.size < scanBound) && t.fits es.size
  | _ => false
theorem set50 (P : Params) : setOkB (oA_50 P) b1L = true := by kernel_rfl
theorem set_of {prog : Program} {w : World} {h : Heap} {a : Addr} {o : Obj} {l : List Int} (ho : h.get? a = some o) (hx : o.ExactSet) (hk : setOkB o l = true) : ∃ n, h.SetOf (intKind prog w) a (fun k => l.contains k) n := by
  unfold setOkB at hk
  split at hk
  · rename_i es ep t hd
    simp only [Bool.and_eq_true, decide_eq_true_eq, List.all_eq_true, beq_iff_eq] at hk
    obtain ⟨⟨⟨h1, h2⟩, h3⟩, h4⟩ := hk
    have shape : ∀ e ∈ es.toList, ∃ tk, e.2 = .int e.1 tk ∧ 0 ≤ e.1 ∧ e.1 < 2 ^ 32 := fun e he => by
      have := h2 e he
      split at this
      · rename_i k tk hv
        simp only [Bool.and_eq_true, decide_eq_true_eq] at this
        obtain ⟨⟨rfl, a⟩, b⟩ := this
        exact ⟨tk, hv, a, b⟩
      · cases this
    refine ⟨_, o, es, ep, t, ho, hx, hd, fun e he => ?_, fun k => ?_, h3, h4, rfl⟩
    · obtain ⟨tk, hv, a, b⟩ := shape e he
      rw [hv]
      exact ⟨⟨e.1, by show (e.1 == e.1) = true; exact beq_self_eq_true _, (hash_small a b).symm⟩, rfl⟩
    · rw [List.contains_iff_mem, ← h1, List.mem_map]
      constructor
      · rintro ⟨e, he, rfl⟩
        obtain ⟨tk, hv, _⟩ := shape e he
        exact ⟨e, he, by rw [hv]; show (e.1 == e.1) = true; exact beq_self_eq_true _⟩
      · rintro ⟨e, he, hk⟩
        obtain ⟨tk, hv, _⟩ := shape e he
        rw [hv] at hk
        have hk' : (e.1 == k) = true := hk
        exact ⟨e, he, beq_iff_eq.mp hk'⟩
  · cases hk
theorem inset_ok (w : World) (i : Int) (A : Around) (s : Shared) (X : AS) (av : Value) (E : Value → Shared → Prop) (y : says1 w s.heap) (r : Rp X s.heap (.int i) av) :
    wpAny (model pp w) A (compareOp .In av (.ref 50)) (Gv X s (.bool (b1L.contains i))) E s := by
  simp only [Rp] at r
  obtain ⟨t, rfl⟩ := r
  obtain ⟨n, hS⟩ := set_of (prog := pp) (w := w) (y 50 _ rfl) ⟨rfl, rfl, rfl⟩ (set50 w.params)
  exact wpAny_inSet_of (k := i) (by show (i == i) = true; exact beq_self_eq_true _) rfl hS ⟨rp_bool, kp_tok _ _⟩
noncomputable def b3Get (k : Int) : Option Str := (b3P.find? fun x => x.1.1 == k).map (·.2.1)
noncomputable def b3D (k : Int) : PyData := match b3Get k with
  | some x => .str x
  | none => .none
theorem find_ents3 (k : Int) : ∀ (l : List Pr) (t : Nat), ((ents3 t l).find? fun e => Value.isInt k e.key).map (·.val) = none ∧ (l.find? fun x => x.1.1 == k) = none ∨ ∃ x u, ((ents3 t l).find? fun e => Value.isInt k e.key).map (·.val) = some (.str x.2.1 u) ∧ (l.find? fun x => x.1.1 == k) = some x
  | [], _ => .inl ⟨rfl, rfl⟩
  | x :: r, t => by
    simp only [ents3, List.find?_cons]
    have e : Value.isInt k (.int x.1.1 t) = (x.1.1 == k) := rfl
    rw [e]
    cases h : x.1.1 == k
    · exact find_ents3 k r _
    · exact .inr ⟨x, t + 1, rfl, rfl⟩
theorem find_ents2 (k : Int) : ∀ (l : List Pr) (t : Nat), ((ents2 t l).find? fun e => Value.isInt k e.key).map (·.val) = none ∧ (l.find? fun x => x.1.1 == k) = none ∨ ∃ x u, ((ents2 t l).find? fun e => Value.isInt k e.key).map (·.val) = some (.str x.2.1 u) ∧ (l.find? fun x => x.1.1 == k) = some x
  | [], _ => .inl ⟨rfl, rfl⟩
  | x :: r, t => by
    simp only [ents2, List.find?_cons]
    have e : Value.isInt k (.int x.1.1 t) = (x.1.1 == k) := rfl
    rw [e]
    cases h : x.1.1 == k
    · exact find_ents2 k r _
    · exact .inr ⟨x, t + 1, rfl, rfl⟩
theorem ents3_keys : ∀ (l : List Pr) (t : Nat), (∀ x ∈ l, 0 ≤ x.1.1 ∧ x.1.1 < 2 ^ 32) → ∀ e ∈ ents3 t l, ∃ k u, e.key = .int k u ∧ e.hash = k ∧ 0 ≤ k ∧ k < 2 ^ 32
  | [], _, _, e, he => by cases he
  | x :: r, t, h, e, he => by
    simp only [ents3] at he
    rcases List.mem_cons.mp he with rfl | he
    · exact ⟨x.1.1, t, rfl, rfl, h x List.mem_cons_self⟩
    · exact ents3_keys r _ (fun y hy => h y (List.mem_cons_of_mem _ hy)) e he
theorem ents2_keys : ∀ (l : List Pr) (t : Nat), (∀ x ∈ l, 0 ≤ x.1.1 ∧ x.1.1 < 2 ^ 32) → ∀ e ∈ ents2 t l, ∃ k u, e.key = .int k u ∧ e.hash = k ∧ 0 ≤ k ∧ k < 2 ^ 32
  | [], _, _, e, he => by cases he
  | x :: r, t, h, e, he => by
    simp only [ents2] at he
    rcases List.mem_cons.mp he with rfl | he
    · exact ⟨x.1.1, t, rfl, rfl, h x List.mem_cons_self⟩
    · exact ents2_keys r _ (fun y hy => h y (List.mem_cons_of_mem _ hy)) e he
theorem b3_keyAll : ∀ x ∈ b3P, 0 ≤ x.1.1 ∧ x.1.1 < 2 ^ 32 := fun x hx => by
  have := List.all_eq_true.mp b3_keyOk x hx
  simpa using this
theorem map61 {w : World} {h : Heap} (y : says1 w h) : ∃ f : Int → Option Value, h.MapOf (intKind pp w) 61 f ∧ ∀ k, (f k = none ∧ b3Get k = none) ∨ ∃ x u, f k = some (.str x u) ∧ b3Get k = some x := by
  refine ⟨_, ⟨b3Main, _, _, y 61 _ rfl, ⟨rfl, rfl, rfl⟩, rfl, fun e he => ?_, fun k => rfl⟩, fun k => ?_⟩
  · have hk : ∃ k u, e.key = .int k u ∧ e.hash = k ∧ 0 ≤ k ∧ k < 2 ^ 32 := by
      have he' : e ∈ ents3 300 (b3P.take 646) ++ ents2 2238 last4 := by simpa using he
      rcases List.mem_append.mp he' with he | he
      · exact ents3_keys _ _ (fun x hx => b3_keyAll x (List.mem_of_mem_take hx)) e he
      · exact ents2_keys _ _ (fun x hx => b3_keyAll x (List.mem_of_mem_drop hx)) e he
    obtain ⟨k, u, h1, h2, h3, h4⟩ := hk
    exact ⟨k, by rw [h1]; show (k == k) = true; exact beq_self_eq_true _, by rw [h2]; exact (hash_small h3 h4).symm⟩
  · have hb : b3P = b3P.take 646 ++ last4 := (List.take_append_drop 646 b3P).symm
    have hf : findBy (intKind pp w).is (ents3 300 (b3P.take 646) ++ ents2 2238 last4).toArray k = ((ents3 300 (b3P.take 646) ++ ents2 2238 last4).find? fun e => Value.isInt k e.key).map (·.val) := by
      unfold findBy
      rw [List.find?_toArray]
      rfl
    have hg : b3Get k = ((b3P.take 646 ++ last4).find? fun x => x.1.1 == k).map (·.2.1) := by
      unfold b3Get
      rw [← hb]
    rw [hf, hg, List.find?_append, List.find?_append]
    rcases find_ents3 k (b3P.take 646) 300 with ⟨h1, h2⟩ | ⟨x, u, h1, h2⟩
    · have h1' : (ents3 300 (b3P.take 646)).find? (fun e => Value.isInt k e.key) = none := Option.map_eq_none_iff.mp h1
      rw [h1', h2, Option.none_or, Option.none_or]
      rcases find_ents2 k last4 2238 with ⟨h3, h4⟩ | ⟨x, u, h3, h4⟩
      · exact .inl ⟨h3, by rw [h4]; rfl⟩
      · exact .inr ⟨x.2.1, u, h3, by rw [h4]; rfl⟩
    · obtain ⟨e, he, he'⟩ := Option.map_eq_some_iff.mp h1
      rw [he, h2, Option.some_or, Option.some_or]
      exact .inr ⟨x.2.1, u, by rw [Option.map_some, he'], rfl⟩
theorem get_ok (w : World) (i : Int) (A : Around) (s : Shared) (X : AS) (vs : List Value) (E : Value → Shared → Prop) (y : says1 w s.heap) (r : Rps X s.heap [.int i] vs) :
    wpAny (model pp w) A (call (.builtin "dict.get") (.ref 61 :: vs)) (Gv X s (b3D i)) E s := by
  obtain ⟨v, rfl, r1⟩ := rps1 r
  simp only [Rp] at r1
  obtain ⟨t, rfl⟩ := r1
  obtain ⟨f, hm, hf⟩ := map61 y
  refine call_meetsIn PySem.F.slot_dict_get hm.typeIs PySem.F.entry_dict_get (PySem.F.args_dict_get_2 _ _) (meets_dict_get (intKind pp w) 61 (k := i) (by show (i == i) = true; exact beq_self_eq_true _) (by decide)) ⟨f, hm, ?_⟩
  unfold b3D
  rcases hf i with ⟨h1, h2⟩ | ⟨x, u, h1, h2⟩
  · rw [h1, h2]
    exact ⟨by simp only [Rp]; rfl, kp_tok _ _⟩
  · rw [h1, h2]
    exact ⟨rp_str, kp_tok _ _⟩
theorem low_ok {w : World} {x : Str} (hx : x.length ≤ 1000) (A : Around) (s : Shared) (X : AS) (t : Tok) (E : Value → Shared → Prop) : wpAny (model pp w) A (call (.builtin "str.lower") [.str x t]) (Gv X s (.str (Txt.lower x))) E s :=
  PyProof.Rows.SCL.lower (by omega) fun _ => ⟨rp_str, kp_tok _ _⟩
end
end Mine
end SRU
section SRV
open PySem PySem.W PyProof.Rows PySem.Calls
set_option maxRecDepth 100000
namespace Mine
noncomputable section
noncomputable def retOf : Fl × St2 → Option PyData
  | (.ret d, _) => some d
  | _ => none
noncomputable def runF (F : Fn) (st : Stmt) (params : List Str) (args : List PyData) : Option PyData :=
  if params.length = args.length then
    (exL F 60 (scopeOf st) (bodyOf st) (bindAll params args fun _ => none, [])).bind retOf
  else none
noncomputable def F0 : Fn := fun f args =>
  if f = sIn then match args with
    | [.int i] => some (.bool (b1L.contains i))
    | _ => none
  else if f = sGetB3 then match args with
    | [.int i] => some (b3D i)
    | _ => none
  else if f = sLower then match args with
    | [.str x] => if x.length ≤ 1000 then some (.str (Txt.lower x)) else none
    | _ => none
  else bltD f args
theorem runF_ok {w : World} {k : Nat} {F : Fn} (hF : FnOk (W1 w) k F) (N : NmOk (W1 w)) {a : Addr} {st : Stmt} {q : Str} {pm cd : Value} {params : List Str} (fa : FnAt (W1 w) a (fdOf st q pm cd) (bodyOf st) params) (hsc : (fdOf st q pm cd).scope = scopeOf st) {args : List PyData} {d : PyData}
    (h : runF F st params args = some d) : CallOk (W1 w) (k + 2) (.ref a) args d := by
  unfold runF at h
  split at h
  · rename_i hl
    obtain ⟨⟨fl, ρ'⟩, he, hr⟩ := Option.bind_eq_some_iff.mp h
    cases fl with
    | next => cases hr
    | ret d' =>
      cases hr
      exact fn_ok (st_all N hF 60) fa hl (by rw [hsc]; exact he)
  · cases h
end
end Mine
end SRV
section SRY
open PySem PySem.W PyProof.Rows PySem.Calls
set_option maxRecDepth 100000
namespace Mine
noncomputable section
theorem nm_ok (w : World) : NmOk (W1 w) := ⟨by kernel_rfl, by kernel_rfl⟩
theorem f0_tc (l : List PyData) : F0 sTC l = none := by kernel_rfl
theorem f0_low (l : List PyData) : F0 sLower l = match l with
    | [.str x] => if x.length ≤ 1000 then some (.str (Txt.lower x)) else none
    | _ => none := by kernel_rfl
theorem f0_in (l : List PyData) : F0 sIn l = match l with
    | [.int i] => some (.bool (b1L.contains i))
    | _ => none := by kernel_rfl
theorem f0_get (l : List PyData) : F0 sGetB3 l = match l with
    | [.int i] => some (b3D i)
    | _ => none := by kernel_rfl
theorem f0_blt {f : Str} {l : List PyData} (h1 : f ≠ sLower) (h2 : f ≠ sIn) (h3 : f ≠ sGetB3) : F0 f l = bltD f l := by
  unfold F0; rw [if_neg h2, if_neg h3, if_neg h1]
theorem blt_fn (w : World) {k : Nat} {f : Str} {args : List PyData} {d : PyData} (h : bltD f args = some d) : ∃ fv, (W1 w).nm f = some fv ∧ Cal (W1 w) fv ∧ CallOk (W1 w) k fv args d := by
  unfold bltD at h
  split at h
  · rename_i e; subst e
    have hn : (W1 w).nm (Str.ofString "len") = some (.builtin "len") := by kernel_rfl
    split at h
    · rename_i xs
      exact ⟨_, hn, .inl ⟨_, rfl⟩, len_ok (by unfold bltD; rw [if_pos rfl]; exact h)⟩
    · rename_i xs
      exact ⟨_, hn, .inl ⟨_, rfl⟩, len_ok (by unfold bltD; rw [if_pos rfl]; exact h)⟩
    · cases h
  split at h
  · rename_i e; subst e
    have hn : (W1 w).nm (Str.ofString "ord") = some (.builtin "ord") := by kernel_rfl
    split at h
    · split at h
      · rename_i h1; cases h; exact ⟨_, hn, .inl ⟨_, rfl⟩, ord_ok h1⟩
      · cases h
    · cases h
  split at h
  · rename_i e; subst e
    have hn : (W1 w).nm (Str.ofString "chr") = some (.builtin "chr") := by kernel_rfl
    split at h
    · split at h
      · rename_i h1; cases h; exact ⟨_, hn, .inl ⟨_, rfl⟩, chr_ok h1.1 h1.2⟩
      · cases h
    · cases h
  split at h
  · rename_i e; subst e
    have hn : (W1 w).nm (Str.ofString "sum") = some (.builtin "sum") := by kernel_rfl
    split at h
    · obtain ⟨is, h1, rfl⟩ := Option.map_eq_some_iff.mp h
      exact ⟨_, hn, .inl ⟨_, rfl⟩, sum_ok h1⟩
    · cases h
  split at h
  · rename_i e; subst e
    have hn : (W1 w).nm (Str.ofString "max") = some (.builtin "max") := by kernel_rfl
    split at h
    · obtain ⟨is, h1, h⟩ := Option.bind_eq_some_iff.mp h
      split at h
      · cases h
      · rename_i hne; cases h
        exact ⟨_, hn, .inl ⟨_, rfl⟩, max_ok h1 hne⟩
    · cases h
  split at h
  · rename_i e; subst e
    have hn : (W1 w).nm (Str.ofString "sorted") = some (.builtin "sorted") := by kernel_rfl
    split at h
    · obtain ⟨is, h1, h⟩ := Option.bind_eq_some_iff.mp h
      split at h
      · rename_i h64
        obtain ⟨p, hp, rfl⟩ := Option.map_eq_some_iff.mp h
        exact ⟨_, hn, .inl ⟨_, rfl⟩, sorted_ok h1 h64 hp⟩
      · cases h
    · cases h
  · cases h
theorem blt_nil (f : Str) : bltD f [] = none := by
  unfold bltD
  repeat (split; rfl)
  rfl
theorem fnok0 (w : World) (k : Nat) : FnOk (W1 w) (k + 2) F0 where
  ne := fun f => by
    unfold F0
    split; rfl
    split; rfl
    split; rfl
    exact blt_nil f
  fn := fun f args d h _ h1 h2 h3 => by
    rw [f0_blt h1 h2 h3] at h
    exact blt_fn w h
  cmp := fun ks args d h => by rw [f0_tc] at h; cases h
  low := fun a d h => by
    rw [f0_low] at h
    split at h
    · rename_i x e
      cases e
      split at h
      · rename_i hx; cases h
        exact ⟨_, rfl, fun A s X t E _ => low_ok hx A s X t E⟩
      · cases h
    · cases h
  inset := fun a d h => by
    rw [f0_in] at h
    split at h
    · rename_i i e
      cases e; cases h
      exact ⟨.ref 50, by kernel_rfl, fun A s X av E _ y r => inset_ok w i A s X av E y r⟩
    · cases h
  get := fun xs d h => by
    rw [f0_get] at h
    split at h
    · rename_i i
      cases h
      exact ⟨61, b3Main, by kernel_rfl, fun h y => y 61 _ rfl, rfl, rfl, fun A s X vs E _ y r => get_ok w i A s X vs E y r⟩
    · cases h
  make := fun ks A s X v E hA y hl r => make_ok w ks A s X v E hA y hl r
noncomputable def addF (F : Fn) (name : Str) (st : Stmt) (params : List Str) : Fn := fun f args => if f = name then runF F st params args else F f args
theorem FnOk.mono {prog : Program} {w : World} {W : Wd prog w} {k j : Nat} {F : Fn} (h : FnOk W k F) (hk : k ≤ j) : FnOk W j F where
  ne := h.ne
  fn := fun f args d e a b c d' => by
    obtain ⟨fv, h1, h2, h3⟩ := h.fn f args d e a b c d'
    exact ⟨fv, h1, h2, fun A s X vs E hA => h3 A s X vs E (hA.mono hk)⟩
  cmp := fun ks args d e A s X ov vs E hA => h.cmp ks args d e A s X ov vs E (hA.mono hk)
  low := fun a d e => by
    obtain ⟨x, h1, h2⟩ := h.low a d e
    exact ⟨x, h1, fun A s X t E hA => h2 A s X t E (hA.mono hk)⟩
  inset := fun a d e => by
    obtain ⟨v, h1, h2⟩ := h.inset a d e
    exact ⟨v, h1, fun A s X av E hA => h2 A s X av E (hA.mono hk)⟩
  get := fun xs d e => by
    obtain ⟨r, o, h1, h2, h3, h4, h5⟩ := h.get xs d e
    exact ⟨r, o, h1, h2, h3, h4, fun A s X vs E hA => h5 A s X vs E (hA.mono hk)⟩
  make := fun ks A s X v E hA => h.make ks A s X v E (hA.mono hk)
end
end Mine
end SRY
section SRZ
open PySem PySem.W PyProof.Rows PySem.Calls
set_option maxRecDepth 100000
namespace Mine
noncomputable section
noncomputable def notSp (name : Str) : Prop := name ≠ sTC ∧ name ≠ sLower ∧ name ≠ sIn ∧ name ≠ sGetB3
noncomputable def withF (F G : Fn) (name : Str) (st : Stmt) (params : List Str) : Fn := fun f args => if f = name then runF F st params args else G f args
theorem withF_same {F G : Fn} {name : Str} {st : Stmt} {params : List Str} {args : List PyData} : withF F G name st params name args = runF F st params args := if_pos rfl
theorem withF_other {F G : Fn} {name f : Str} {st : Stmt} {params : List Str} {args : List PyData} (h : f ≠ name) : withF F G name st params f args = G f args := if_neg h
theorem fnok_add {w : World} {k : Nat} {F G : Fn} (hF : FnOk (W1 w) k F) (hG : FnOk (W1 w) (k + 2) G) {name : Str} {a : Addr} {st : Stmt} {q : Str} {pm cd : Value} {params : List Str} (fa : FnAt (W1 w) a (fdOf st q pm cd) (bodyOf st) params)
    (hsc : (fdOf st q pm cd).scope = scopeOf st) (hn : (W1 w).nm name = some (.ref a)) (hp : params ≠ []) (hsp : notSp name) : FnOk (W1 w) (k + 2) (withF F G name st params) where
  ne := fun f => by
    unfold withF
    split
    · unfold runF
      rw [if_neg]
      intro h
      exact hp (List.length_eq_zero_iff.mp h)
    · exact hG.ne f
  fn := fun f args d h h1 h2 h3 h4 => by
    unfold withF at h
    split at h
    · rename_i e
      subst e
      obtain ⟨o, hd, ho⟩ := fa.at_
      exact ⟨.ref a, hn, .inr (.inr ⟨a, o, _, rfl, ho, hd⟩), runF_ok hF (nm_ok w) fa hsc h⟩
    · exact hG.fn f args d h h1 h2 h3 h4
  cmp := fun ks args d h => by rw [withF_other (Ne.symm hsp.1)] at h; exact hG.cmp ks args d h
  low := fun a d h => by rw [withF_other (Ne.symm hsp.2.1)] at h; exact hG.low a d h
  inset := fun a d h => by rw [withF_other (Ne.symm hsp.2.2.1)] at h; exact hG.inset a d h
  get := fun xs d h => by rw [withF_other (Ne.symm hsp.2.2.2)] at h; exact hG.get xs d h
  make := hG.make
noncomputable abbrev sLeft : Str := Str.ofString "left"
noncomputable abbrev sRight : Str := Str.ofString "right"
noncomputable def roCmp (ks l r : PyData) : Ro2 := bindAll [sLeft, sRight] [l, r] (put2 (fun _ => none) sSelf (.inst ks))
noncomputable def runCmp (F : Fn) (args : List PyData) : Option PyData := match args with
  | [ks, l, r] => (exL F 60 (scopeOf st_tc_compare) (bodyOf st_tc_compare) (roCmp ks l r, [])).bind retOf
  | _ => none
noncomputable def withCmp (F G : Fn) : Fn := fun f args => if f = sTC then runCmp F args else G f args
theorem withCmp_other {F G : Fn} {f : Str} {args : List PyData} (h : f ≠ sTC) : withCmp F G f args = G f args := if_neg h
theorem NoP.inst0 (x : Str) (k : PyData) : NoP (put2 (fun _ => none) x (.inst k)) := fun y p e => by
  unfold put2 at e
  split at e
  · cases e
  · cases e
theorem fnok_cmp {w : World} {k : Nat} {F G : Fn} (hF : FnOk (W1 w) k F) (hG : FnOk (W1 w) (k + 2) G) : FnOk (W1 w) (k + 2) (withCmp F G) where
  ne := fun f => by
    unfold withCmp
    split
    · rfl
    · exact hG.ne f
  fn := fun f args d h h1 h2 h3 h4 => by rw [withCmp_other h1] at h; exact hG.fn f args d h h1 h2 h3 h4
  cmp := fun ks args d h A s X ov vs E hA hGs hl hi r => by
    unfold withCmp at h
    rw [if_pos rfl] at h
    unfold runCmp at h
    split at h
    · rename_i ks' l r' e
      cases e
      obtain ⟨⟨fl, ρ'⟩, he, hr⟩ := Option.bind_eq_some_iff.mp h
      cases fl with
      | next => cases hr
      | ret d' =>
        cases hr
        have hlen : (ov :: vs).length = 3 := by rw [List.length_cons, r.length]; rfl
        refine fn_run (st_all (nm_ok w) hF 60) (at_tc_compare w) (ρ := roCmp ks l r') (r' := ρ') (NoP.all (NoP.inst0 sSelf ks)) hlen (fun h ko hp hk Y hY => ?_) he hA hGs hl
        have hp1 := hp sSelf List.mem_cons_self
        have b0 : BindOk (W1 w) Y h ko (noPtr (put2 (fun _ => none) sSelf (.inst ks))) (if ko sSelf = some .local then fun y => if y = sSelf then some ov else none else fun _ => none) (if ko sSelf = some .local then fun _ => none else fun y => if y = sSelf then some ov else none) := by
          intro y rv hy
          rw [noPtr_inst] at hy
          unfold put at hy
          split at hy
          · rename_i e
            subst e
            cases hy
            refine ⟨hp1.2, ov, ?_, ?_⟩
            · rcases hp1.1 with hx | hx
              · exact .inl ⟨hx, by rw [if_pos hx]; simp⟩
              · exact .inr ⟨hx, by rw [if_neg (by rw [hx]; decide)]; simp⟩
            · exact (W1 w).instKeep (fun b o hb e => ⟨hk b o e, hY b o hb e⟩) hi
          · cases hy
        exact bindOk_all (params := [sLeft, sRight]) b0 (r.keep fun b o hb e => ⟨hk b o e, hY b o hb e⟩) rfl fun x hx => hp x (List.mem_cons_of_mem _ hx)
    · cases h
  low := fun a d h => by rw [withCmp_other (by decide +kernel)] at h; exact hG.low a d h
  inset := fun a d h => by rw [withCmp_other (by decide +kernel)] at h; exact hG.inset a d h
  get := fun xs d h => by rw [withCmp_other (by decide +kernel)] at h; exact hG.get xs d h
  make := hG.make
noncomputable abbrev nWord : Str := Str.ofString "_law_word"
noncomputable abbrev nSign : Str := Str.ofString "_law_sign"
noncomputable abbrev nUnseen : Str := Str.ofString "_law_unseen"
noncomputable abbrev nB1 : Str := Str.ofString "in_table_b1"
noncomputable abbrev nB3 : Str := Str.ofString "map_table_b3"
noncomputable abbrev nPiece : Str := Str.ofString "_law_piece"
noncomputable abbrev nPrep : Str := Str.ofString "_law_prepared"
noncomputable abbrev nSorted : Str := Str.ofString "_law_sorted"
noncomputable abbrev pWord : List Str := [Str.ofString "x"]
noncomputable abbrev pSign : List Str := [Str.ofString "letter", Str.ofString "form"]
noncomputable abbrev pUnseen : List Str := [Str.ofString "k"]
noncomputable abbrev pCode : List Str := [Str.ofString "code"]
noncomputable abbrev pPiece : List Str := [Str.ofString "x"]
noncomputable abbrev pPrep : List Str := [Str.ofString "piece"]
noncomputable abbrev pSorted : List Str := [Str.ofString "rows", Str.ofString "keys"]
noncomputable abbrev nPutIn : Str := Str.ofString "_law_put_in"
noncomputable abbrev nLongest : Str := Str.ofString "_law_longest"
noncomputable abbrev pPutIn : List Str := [Str.ofString "places", Str.ofString "rows", Str.ofString "keys"]
noncomputable abbrev pLongest : List Str := [Str.ofString "ranks"]
noncomputable def F1 : Fn := withCmp F0 (withF F0 (withF F0 (withF F0 (withF F0 (withF F0 (withF F0 F0 nLongest st_longest pLongest) nB3 st_map_table_b3 pCode) nB1 st_in_table_b1 pCode) nUnseen st_unseen pUnseen) nSign st_sign pSign) nWord st_word pWord)
noncomputable def F2 : Fn := withF F1 (withF F1 (withF F1 (withF F1 F1 nPiece st_piece pPiece) nPrep st_prepared pPrep) nSorted st_sorted pSorted) nPutIn st_put_in pPutIn
theorem nsp (x : Str) (h : (decide (x ≠ sTC) && decide (x ≠ sLower) && decide (x ≠ sIn) && decide (x ≠ sGetB3)) = true) : notSp x := by
  simp only [Bool.and_eq_true, decide_eq_true_eq] at h
  exact ⟨h.1.1.1, h.1.1.2, h.1.2, h.2⟩
theorem fnok1 (w : World) : FnOk (W1 w) 4 F1 :=
  fnok_cmp (fnok0 w 0) (fnok_add (fnok0 w 0) (fnok_add (fnok0 w 0) (fnok_add (fnok0 w 0) (fnok_add (fnok0 w 0) (fnok_add (fnok0 w 0) (fnok_add (fnok0 w 0) (fnok0 w 2)
    (at_longest w) rfl (by kernel_rfl) (by simp) (nsp _ (by decide +kernel)))
    (at_map_table_b3 w) rfl (by kernel_rfl) (by simp) (nsp _ (by decide +kernel)))
    (at_in_table_b1 w) rfl (by kernel_rfl) (by simp) (nsp _ (by decide +kernel)))
    (at_unseen w) rfl (by kernel_rfl) (by simp) (nsp _ (by decide +kernel)))
    (at_sign w) rfl (by kernel_rfl) (by simp) (nsp _ (by decide +kernel)))
    (at_word w) rfl (by kernel_rfl) (by simp) (nsp _ (by decide +kernel)))
theorem fnok2 (w : World) : FnOk (W1 w) 6 F2 :=
  fnok_add (fnok1 w) (fnok_add (fnok1 w) (fnok_add (fnok1 w) (fnok_add (fnok1 w) ((fnok1 w).mono (by decide))
    (at_piece w) rfl (by kernel_rfl) (by simp) (nsp _ (by decide +kernel)))
    (at_prepared w) rfl (by kernel_rfl) (by simp) (nsp _ (by decide +kernel)))
    (at_sorted w) rfl (by kernel_rfl) (by simp) (nsp _ (by decide +kernel)))
    (at_put_in w) rfl (by kernel_rfl) (by simp) (nsp _ (by decide +kernel))
theorem law_call (w : World) {xs : List PyData} {d : PyData} (h : runF F2 st_law [Str.ofString "script"] [.list xs] = some d) : CallOk (W1 w) 8 (.ref 161) [.list xs] d :=
  runF_ok (fnok2 w) (nm_ok w) (at_law w) rfl h
end
end Mine
end SRZ
section SXB2
open PySem PySem.W PyProof.Rows PySem.Calls
set_option maxRecDepth 100000
namespace Mine
theorem has_int {R : WRecords} {x : WData} (h : WShape.has R x .int = true) : ∃ i, x = .int i := by
  cases x <;> first
    | exact ⟨_, rfl⟩
    | (cases h; done)
theorem items_int {R : WRecords} : ∀ {xs : List WData}, WShape.hasItems R xs .int = true → ∃ is : List Int, xs = is.map .int
  | [], _ => ⟨[], rfl⟩
  | x :: xs, h => by
    have h := Bool.and_eq_true _ _ ▸ (show (WShape.has R x .int && WShape.hasItems R xs .int) = true from h)
    obtain ⟨i, rfl⟩ := has_int h.1
    obtain ⟨is, rfl⟩ := items_int h.2
    exact ⟨i :: is, rfl⟩
theorem has_ints {R : WRecords} {x : WData} (h : WShape.has R x (.list .int) = true) : ∃ is : List Int, x = .list (is.map .int) := by
  cases x <;> first
    | (cases h; done)
    | skip
  have h := (Bool.or_false _).symm.trans h
  obtain ⟨is, rfl⟩ := items_int h
  exact ⟨is, rfl⟩
theorem len_pre {is : List Int} (h : (OpenLaw.pre PySem.Challenge.rw_mr0250_02).holds [] { args := [.list (is.map .int)] } = true) : is.length ≤ 63 := by
  have e : OpenLaw.pre PySem.Challenge.rw_mr0250_02 = .and (.not (.lt (.lit (.int 63)) (.len (.arg 0)))) (.lit (.bool true)) := rfl
  rw [e] at h
  simp [WTm.holds, WTm.value] at h
  have hl : less? (WData.int 63) (WData.int (is.length : Int)) = some (decide ((63 : Int) < (is.length : Int))) := rfl
  rw [hl] at h
  by_cases hx : (63 : Int) < (is.length : Int)
  · simp [hx] at h
  · omega
theorem pre_args {args : List WData} (h : PySem.Challenge.rw_mr0250_02.row.claim.pre args = true) : ∃ xs : List Int, xs.length ≤ 63 ∧ args = [.list (xs.map .int)] := by
  have h' : (WShape.hasAll [] args [.list .int] && (OpenLaw.pre PySem.Challenge.rw_mr0250_02).holds [] { args := args }) = true := h
  rw [Bool.and_eq_true] at h'
  obtain ⟨h1, h2⟩ := h'
  cases args with
  | nil => cases h1
  | cons x r =>
    simp only [WShape.hasAll, Bool.and_eq_true] at h1
    obtain ⟨is, rfl⟩ := has_ints h1.1
    cases r with
    | cons y r => simp [WShape.hasAll] at h1
    | nil => exact ⟨is, len_pre h2, rfl⟩
end Mine
end SXB2
section SRX
open PySem PySem.W PyProof.Rows PySem.Calls
set_option maxRecDepth 100000
namespace Mine
section
variable {F : Fn} {n : Nat} {sc : Scope} {ρ : Ro} {p : Pos}
theorem e_const {c : Const} {k : Nat} {d : PyData} (h : constD c = some d) : ev F (n + 1) sc (.Constant c k p) ρ = some d := h
theorem e_name {x : Str} {d : PyData} (h : ρ x = some (.dat d)) : ev F (n + 1) sc (.Name x p) ρ = some d := by
  show (match ρ x with | some (.dat d) => some d | _ => none) = some d
  rw [h]
theorem e_bin {l r : Expr} {op : Operator} {a b d : PyData} (ha : ev F n sc l ρ = some a) (hb : ev F n sc r ρ = some b) (h : binD op a b = some d) : ev F (n + 1) sc (.BinOp l op r p) ρ = some d := by
  show ((ev F n sc l ρ).bind fun a => (ev F n sc r ρ).bind fun b => binD op a b) = some d
  rw [ha, Option.bind_some, hb, Option.bind_some]; exact h
theorem e_neg {e : Expr} {i : Int} (h : ev F n sc e ρ = some (.int i)) : ev F (n + 1) sc (.UnaryOp .USub e p) ρ = some (.int (-i)) := by
  show ((ev F n sc e ρ).bind fun a => (asInt a).bind fun i => some (PyData.int (-i))) = _
  rw [h]; rfl
theorem e_attr {o : Str} {q : Pos} {k : PyData} (h : ρ o = some (.inst k)) : ev F (n + 1) sc (.Attribute (.Name o q) sCSL p) ρ = some k := by
  show (if sCSL = sCSL then (match ρ o with | some (.inst k) => some k | _ => none) else none) = some k
  rw [if_pos rfl, h]
theorem e_in {l : Expr} {q : Pos} {a d : PyData} (hg : glob sc sB1 = true) (ha : ev F n sc l ρ = some a) (h : F sIn [a] = some d) : ev F (n + 1) sc (.Compare l [.In] [.Name sB1 q] p) ρ = some d := by
  show (if sB1 = sB1 ∧ glob sc sB1 = true then (ev F n sc l ρ).bind fun a => F sIn [a] else none) = some d
  rw [if_pos ⟨rfl, hg⟩, ha, Option.bind_some]; exact h
theorem e_if {t b o : Expr} {c : Bool} {d : PyData} (ht : tst F n sc t ρ = some c) (h : (if c = true then ev F n sc b ρ else ev F n sc o ρ) = some d) : ev F (n + 1) sc (.IfExp t b o p) ρ = some d := by
  show ((tst F n sc t ρ).bind fun c => if c = true then ev F n sc b ρ else ev F n sc o ρ) = some d
  rw [ht, Option.bind_some]; exact h
theorem e_list {es : List Expr} {xs : List PyData} (h : evs F n sc es ρ = some xs) (hl : xs.length ≤ 1000000) : ev F (n + 1) sc (.List es p) ρ = some (.list xs) := by
  show ((evs F n sc es ρ).bind fun xs => if xs.length ≤ 1000000 then some (PyData.list xs) else none) = _
  rw [h, Option.bind_some, if_pos hl]
theorem e_tuple {es : List Expr} {xs : List PyData} {k : Nat} (h : evs F n sc es ρ = some xs) (hl : xs.length ≤ 1000000) : ev F (n + 1) sc (.Tuple es k p) ρ = some (.tuple xs) := by
  show ((evs F n sc es ρ).bind fun xs => if xs.length ≤ 1000000 then some (PyData.tuple xs) else none) = _
  rw [h, Option.bind_some, if_pos hl]
theorem e_slice {v : Expr} {lo hi st : Option Expr} {q : Pos} {xs : List PyData} {l u t : Option Int} (h : ev F n sc v ρ = some (.list xs)) (h1 : evp F n sc lo ρ = some l) (h2 : evp F n sc hi ρ = some u) (h3 : evp F n sc st ρ = some t) (hl : xs.length ≤ 1000000) (ht : t ≠ some 0) :
    ev F (n + 1) sc (.Subscript v (.Slice lo hi st q) p) ρ = some (.list (sliceL xs l u t)) := by
  show ((ev F n sc v ρ).bind fun a => (asList a).bind fun xs => (evp F n sc lo ρ).bind fun l => (evp F n sc hi ρ).bind fun u => (evp F n sc st ρ).bind fun t => if xs.length ≤ 1000000 ∧ t ≠ some 0 then some (PyData.list (sliceL xs l u t)) else none) = _
  rw [h, Option.bind_some, show asList (.list xs) = some xs from rfl, Option.bind_some, h1, Option.bind_some, h2, Option.bind_some, h3, Option.bind_some, if_pos ⟨hl, ht⟩]
theorem ev_sub {v i : Expr} (h : ∀ lo hi' st q, i ≠ .Slice lo hi' st q) : ev F (n + 1) sc (.Subscript v i p) ρ = (ev F n sc v ρ).bind fun a => (ev F n sc i ρ).bind fun b => idxD a b := by
  cases i <;> first | rfl | exact absurd rfl (h _ _ _ _)
theorem ev_slice (lo hi' st : Option Expr) (q : Pos) : ev F n sc (.Slice lo hi' st q) ρ = none := by cases n <;> rfl
theorem e_sub {v i : Expr} {a b d : PyData} (hv : ev F n sc v ρ = some a) (hi : ev F n sc i ρ = some b) (h : idxD a b = some d) : ev F (n + 1) sc (.Subscript v i p) ρ = some d := by
  have hns : ∀ lo hi' st q, i ≠ .Slice lo hi' st q := fun lo hi' st q e => by rw [e, ev_slice] at hi; cases hi
  rw [ev_sub hns, hv, Option.bind_some, hi, Option.bind_some]; exact h
theorem e_call {f : Str} {q : Pos} {args : List Expr} {xs : List PyData} {d : PyData} (hg : glob sc f = true) (hn : f ≠ sList ∧ f ≠ sTC ∧ f ≠ sLower ∧ f ≠ sIn ∧ f ≠ sGetB3) (ha : evs F n sc args ρ = some xs) (h : F f xs = some d) : ev F (n + 1) sc (.Call (.Name f q) args [] p) ρ = some d := by
  have hno : ¬ (f = sTC ∨ f = sLower ∨ f = sIn ∨ f = sGetB3 ∨ f = sList) := by
    rintro (e | e | e | e | e)
    · exact hn.2.1 e
    · exact hn.2.2.1 e
    · exact hn.2.2.2.1 e
    · exact hn.2.2.2.2 e
    · exact hn.1 e
  show (if glob sc f = true then if f = sTC ∨ f = sLower ∨ f = sIn ∨ f = sGetB3 ∨ f = sList then none else (evs F n sc args ρ).bind fun xs => F f xs else none) = some d
  rw [if_pos hg, if_neg hno, ha, Option.bind_some]; exact h
theorem e_join {x : Str} {k : Nat} {q ap : Pos} {e : Expr} {xs : List PyData} {ys : List Str} (hl : (ap.endLine == p.line) = true) (h : ev F n sc e ρ = some (.list xs)) (hs : strsD xs = some ys) (hj : JoinOk x ys = true) :
    ev F (n + 1) sc (.Call (.Attribute (.Constant (.str x) k q) sJoin ap) [e] [] p) ρ = some (.str (Txt.join x ys)) := by
  show (if sJoin = sJoin ∧ (ap.endLine == p.line) = true then (ev F n sc e ρ).bind fun a => (asList a).bind fun xs => (strsD xs).bind fun ys => if JoinOk x ys = true then some (PyData.str (Txt.join x ys)) else none else none) = _
  rw [if_pos ⟨rfl, hl⟩, h, Option.bind_some, show asList (.list xs) = some xs from rfl, Option.bind_some, hs, Option.bind_some, if_pos hj]
theorem e_compare {o : Str} {q ap : Pos} {args : List Expr} {k : PyData} {xs : List PyData} {d : PyData} (hl : (ap.endLine == p.line) = true) (ho : ρ o = some (.inst k)) (hn : args.length = 2) (ha : evs F n sc args ρ = some xs) (h : F sTC (k :: xs) = some d) :
    ev F (n + 1) sc (.Call (.Attribute (.Name o q) sCompare ap) args [] p) ρ = some d := by
  show (if (ap.endLine == p.line) = true then _ else none) = some d
  rw [if_pos hl, ho]
  show (if sCompare = sCompare ∧ args.length = 2 then (evs F n sc args ρ).bind fun xs => F sTC (k :: xs) else none) = some d
  rw [if_pos ⟨rfl, hn⟩, ha, Option.bind_some]; exact h
theorem e_lower {o : Str} {q ap : Pos} {a d : PyData} (hl : (ap.endLine == p.line) = true) (ho : ρ o = some (.dat a)) (h : F sLower [a] = some d) :
    ev F (n + 1) sc (.Call (.Attribute (.Name o q) sLower ap) [] [] p) ρ = some d := by
  show (if (ap.endLine == p.line) = true then _ else none) = some d
  rw [if_pos hl, ho]
  show (if sLower = sLower ∧ ([] : List Expr) = [] then F sLower [a] else none) = some d
  rw [if_pos ⟨rfl, rfl⟩]; exact h
theorem e_get {q ap : Pos} {args : List Expr} {xs : List PyData} {d : PyData} (hl : (ap.endLine == p.line) = true) (ho : ρ sB3 = none) (hg : glob sc sB3 = true) (hn : args.length = 1) (ha : evs F n sc args ρ = some xs) (h : F sGetB3 xs = some d) :
    ev F (n + 1) sc (.Call (.Attribute (.Name sB3 q) sGet ap) args [] p) ρ = some d := by
  show (if (ap.endLine == p.line) = true then _ else none) = some d
  rw [if_pos hl, ho]
  show (if sGet = sGet ∧ sB3 = sB3 ∧ glob sc sB3 = true ∧ args.length = 1 then (evs F n sc args ρ).bind fun xs => F sGetB3 xs else none) = some d
  rw [if_pos ⟨rfl, rfl, hg, hn⟩, ha, Option.bind_some]; exact h
noncomputable def genF (F : Fn) (n : Nat) (isc : Scope) (elt tg : Expr) (ifs : List Expr) (ρ : Ro) (v : PyData) : Option (List PyData) :=
  (bindN isc ρ tg v).bind fun ρ' => (tsts F n isc ifs ρ').bind fun b => if b = true then (ev F n isc elt ρ').bind fun y => some [y] else some []
theorem gen_one {elt tg it : Expr} {ifs : List Expr} {isc : Scope} {xs : List PyData} : gen F (n + 1) isc elt [⟨tg, it, ifs, 0⟩] ρ xs = catL (genF F n isc elt tg ifs ρ) xs := by
  rfl
noncomputable def genF2 (F : Fn) (n : Nat) (isc : Scope) (elt tg : Expr) (ifs : List Expr) (tg' it' : Expr) (ifs' : List Expr) (ρ : Ro) (v : PyData) : Option (List PyData) :=
  (bindN isc ρ tg v).bind fun ρ' => (tsts F n isc ifs ρ').bind fun b => if b = true then (its F n isc it' ρ').bind fun xs' => gen F n isc elt [⟨tg', it', ifs', 0⟩] ρ' xs' else some []
theorem gen_two {elt tg it tg' it' : Expr} {ifs ifs' : List Expr} {isc : Scope} {xs : List PyData} : gen F (n + 1) isc elt [⟨tg, it, ifs, 0⟩, ⟨tg', it', ifs', 0⟩] ρ xs = catL (genF2 F n isc elt tg ifs tg' it' ifs' ρ) xs := by
  rfl
theorem e_comp {elt tg it : Expr} {ifs : List Expr} {isc : Scope} {xs ds : List PyData} (hf : compFit sc isc = true) (hi : its F (n + 1) sc it ρ = some xs) (h : catL (genF F n isc elt tg ifs (cap isc ρ)) xs = some ds) (hz : ds.length ≤ 1000000) :
    ev F (n + 2) sc (.ListComp elt [⟨tg, it, ifs, 0⟩] isc p) ρ = some (.list ds) := by
  have hs : syncG [⟨tg, it, ifs, 0⟩] = true := rfl
  rw [← gen_one (it := it)] at h
  refine (if_pos ⟨hf, hs⟩ : (if compFit sc isc = true ∧ _ then ((its F (n + 1) sc it ρ).bind fun xs => (gen F (n + 1) isc elt _ (cap isc ρ) xs).bind fun ys => if ys.length ≤ 1000000 then some (PyData.list ys) else none) else none) = _).trans ?_
  rw [hi, Option.bind_some, h, Option.bind_some, if_pos hz]
theorem e_comp2 {elt tg it tg' it' : Expr} {ifs ifs' : List Expr} {isc : Scope} {xs ds : List PyData} (hf : compFit sc isc = true) (hi : its F (n + 1) sc it ρ = some xs) (h : catL (genF2 F n isc elt tg ifs tg' it' ifs' (cap isc ρ)) xs = some ds) (hz : ds.length ≤ 1000000) :
    ev F (n + 2) sc (.ListComp elt [⟨tg, it, ifs, 0⟩, ⟨tg', it', ifs', 0⟩] isc p) ρ = some (.list ds) := by
  have hs : syncG [⟨tg, it, ifs, 0⟩, ⟨tg', it', ifs', 0⟩] = true := rfl
  rw [← gen_two (it := it)] at h
  refine (if_pos ⟨hf, hs⟩ : (if compFit sc isc = true ∧ _ then ((its F (n + 1) sc it ρ).bind fun xs => (gen F (n + 1) isc elt _ (cap isc ρ) xs).bind fun ys => if ys.length ≤ 1000000 then some (PyData.list ys) else none) else none) = _).trans ?_
  rw [hi, Option.bind_some, h, Option.bind_some, if_pos hz]
theorem g_one {elt tg : Expr} {ifs : List Expr} {isc : Scope} {v y : PyData} {ρ' : Ro} (hb : bindN isc ρ tg v = some ρ') (ht : tsts F n isc ifs ρ' = some true) (he : ev F n isc elt ρ' = some y) : genF F n isc elt tg ifs ρ v = some [y] := by
  simp only [genF, hb, ht, he, Option.bind_some, if_true]
theorem g_no {elt tg : Expr} {ifs : List Expr} {isc : Scope} {v : PyData} {ρ' : Ro} (hb : bindN isc ρ tg v = some ρ') (ht : tsts F n isc ifs ρ' = some false) : genF F n isc elt tg ifs ρ v = some [] := by
  simp only [genF, hb, ht, Option.bind_some, Bool.false_eq_true, if_false]
theorem g_two {elt tg tg' it' : Expr} {ifs ifs' : List Expr} {isc : Scope} {v : PyData} {ρ' : Ro} {xs ys : List PyData} (hb : bindN isc ρ tg v = some ρ') (ht : tsts F (n + 1) isc ifs ρ' = some true) (hi : its F (n + 1) isc it' ρ' = some xs) (h : catL (genF F n isc elt tg' ifs' ρ') xs = some ys) :
    genF2 F (n + 1) isc elt tg ifs tg' it' ifs' ρ v = some ys := by
  rw [← gen_one (it := it')] at h
  simp only [genF2, hb, ht, hi, h, Option.bind_some, if_true]
theorem es_nil : evs F (n + 1) sc [] ρ = some [] := rfl
theorem es_cons {e : Expr} {r : List Expr} {x : PyData} {xs : List PyData} (h : ev F n sc e ρ = some x) (hr : evs F n sc r ρ = some xs) : evs F (n + 1) sc (e :: r) ρ = some (x :: xs) := by
  show ((ev F n sc e ρ).bind fun x => (evs F n sc r ρ).bind fun xs => some (x :: xs)) = _
  rw [h, Option.bind_some, hr]; rfl
theorem ep_none : evp F (n + 1) sc none ρ = some none := rfl
theorem ep_some {e : Expr} {i : Int} (h : ev F n sc e ρ = some (.int i)) : evp F (n + 1) sc (some e) ρ = some (some i) := by
  show ((ev F n sc e ρ).bind fun a => (asInt a).bind fun i => some (some i)) = _
  rw [h]; rfl
theorem t_not {e : Expr} {b : Bool} (h : tst F n sc e ρ = some b) : tst F (n + 1) sc (.UnaryOp .Not e p) ρ = some (!b) := by
  show ((tst F n sc e ρ).bind fun b => some (!b)) = _
  rw [h]; rfl
theorem t_and {x y : Expr} {a b : Bool} (h : tst F n sc x ρ = some a) (hb : (if a = true then tst F n sc y ρ else some false) = some b) : tst F (n + 1) sc (.BoolOp .And [x, y] p) ρ = some b := by
  show ((tst F n sc x ρ).bind fun b => if b = true then tst F n sc y ρ else some false) = some b
  rw [h, Option.bind_some]; exact hb
theorem t_cmp {l r : Expr} {op : CmpOp} {a b : PyData} {c : Bool} (hm : behindInMarks op r = false) (ha : ev F n sc l ρ = some a) (hb : ev F n sc r ρ = some b) (h : cmpD op a b = some c) : tst F (n + 1) sc (.Compare l [op] [r] p) ρ = some c := by
  show (if behindInMarks op r = true then none else (ev F n sc l ρ).bind fun a => (ev F n sc r ρ).bind fun b => cmpD op a b) = some c
  rw [hm, if_neg Bool.false_ne_true, ha, Option.bind_some, hb, Option.bind_some]; exact h
theorem t_call {f : Expr} {a : List Expr} {k : List Keyword} {b : Bool} (h : ev F n sc (.Call f a k p) ρ = some (.bool b)) : tst F (n + 1) sc (.Call f a k p) ρ = some b := by
  show ((ev F n sc (.Call f a k p) ρ).bind fun a => asBool a) = some b
  rw [h]; rfl
theorem ts_nil : tsts F (n + 1) sc [] ρ = some true := rfl
theorem ts_cons {e : Expr} {r : List Expr} {a b : Bool} (h : tst F n sc e ρ = some a) (hb : (if a = true then tsts F n sc r ρ else some false) = some b) : tsts F (n + 1) sc (e :: r) ρ = some b := by
  show ((tst F n sc e ρ).bind fun b => if b = true then tsts F n sc r ρ else some false) = some b
  rw [h, Option.bind_some]; exact hb
theorem range_some {es : List Expr} {q : Pos} (hr : glob sc sRange = true) : rangeArgs sc (.Call (.Name sRange q) es [] p) = some es := by
  show (if sRange = sRange ∧ glob sc sRange = true then some es else none) = _
  rw [if_pos ⟨rfl, hr⟩]
theorem i_range1 {e : Expr} {q : Pos} {k : Int} (hr : glob sc sRange = true) (h : evs F n sc [e] ρ = some [.int k]) (h1 : -1000000 ≤ k) (h2 : k ≤ 1000000) : its F (n + 1) sc (.Call (.Name sRange q) [e] [] p) ρ = some (rangeD 0 k) := by
  show itsC _ _ _ _ _ = _
  unfold itsC
  rw [range_some hr]
  show ((evs F n sc [e] ρ).bind _) = _
  rw [h]
  exact if_pos ⟨h1, h2⟩
theorem i_range2 {e e' : Expr} {q : Pos} {l k : Int} (hr : glob sc sRange = true) (h : evs F n sc [e, e'] ρ = some [.int l, .int k]) (h3 : -1000000 ≤ l) (h4 : l ≤ 1000000) (h1 : -1000000 ≤ k) (h2 : k ≤ 1000000) : its F (n + 1) sc (.Call (.Name sRange q) [e, e'] [] p) ρ = some (rangeD l k) := by
  show itsC _ _ _ _ _ = _
  unfold itsC
  rw [range_some hr]
  show ((evs F n sc [e, e'] ρ).bind _) = _
  rw [h]
  exact if_pos ⟨h3, h4, h1, h2⟩
theorem i_val {e : Expr} {a : PyData} {xs : List PyData} (hr : rangeArgs sc e = none) (h : ev F n sc e ρ = some a) (hi : itemsD a = some xs) : its F (n + 1) sc e ρ = some xs := by
  show itsC _ _ _ _ _ = _
  unfold itsC
  rw [hr]
  show ((ev F n sc e ρ).bind _) = _
  rw [h]; exact hi
variable {r : Ro2} {σ : Sg}
theorem np_dat {x : Str} {d : PyData} (h : r x = some (.dat d)) : noPtr r x = some (.dat d) := by unfold noPtr; rw [h]
theorem vw_dat {x : Str} {d : PyData} (h : r x = some (.dat d)) : view r σ x = some (.dat d) := by unfold view; rw [h]
theorem vw_inst {x : Str} {d : PyData} (h : r x = some (.inst d)) : view r σ x = some (.inst d) := by unfold view; rw [h]
theorem vw_ptr {x : Str} {q : Nat} {d : PyData} (h : r x = some (.ptr q)) (hv : viewP σ q = some d) : view r σ x = some (.dat d) := by unfold view; rw [h]; simp only [hv, Option.map_some]
theorem l_nil {s : St2} : exL F (n + 1) sc [] s = some (.next, s) := rfl
theorem l_ret {st : Stmt} {l : List Stmt} {d : PyData} {s s' : St2} (h : exS F n sc st s = some (.ret d, s')) : exL F (n + 1) sc (st :: l) s = some (.ret d, s') := by
  show ((exS F n sc st s).bind _) = _
  rw [h]; rfl
theorem l_next {st : Stmt} {l : List Stmt} {s s' : St2} {q : Fl × St2} (h : exS F n sc st s = some (.next, s')) (hr : exL F n sc l s' = some q) : exL F (n + 1) sc (st :: l) s = some q := by
  show ((exS F n sc st s).bind _) = _
  rw [h]; exact hr
theorem v_np {e : Expr} {d : PyData} (hh : hint e = false) (h : ev F n sc e (noPtr r) = some d) : evS F n sc e r σ = some d := by
  unfold evS; rw [hh, if_neg Bool.false_ne_true]; exact h
theorem v_vw {e : Expr} {d : PyData} (hh : hint e = true) (h : ev F n sc e (view r σ) = some d) (ha : isAtom d = true) : evS F n sc e r σ = some d := by
  unfold evS; rw [hh, if_pos rfl, h]; simp only [Option.bind_some, ha, if_true]
theorem s_assign {x : Str} {px : Pos} {e : Expr} {d : PyData} (hx : stFit sc x = true) (ho : (isEmptyList e && ownNames.contains x) = false) (hm : makeArg sc e = none) (hs : subNameOf e = none) (h : evS F n sc e r σ = some d) :
    exS F (n + 1) sc (.Assign [.Name x px] e p) (r, σ) = some (.next, put2 r x (.dat d), σ) := by
  have ho' : ¬ (isEmptyList e = true ∧ ownNames.contains x = true) := fun ⟨a, b⟩ => by rw [a, b] at ho; cases ho
  show asgC F n sc r σ x e = _
  unfold asgC
  rw [if_pos hx, if_neg ho', hm, hs]
  show (evS F n sc e r σ).map _ = _
  rw [h]; rfl
theorem s_asub {x y : Str} {px py q : Pos} {i : Expr} {d : PyData} (hx : stFit sc x = true) (hs : ptrAt F n sc r σ y i = none) (h : evS F n sc (.Subscript (.Name y py) i q) r σ = some d) :
    exS F (n + 1) sc (.Assign [.Name x px] (.Subscript (.Name y py) i q) p) (r, σ) = some (.next, put2 r x (.dat d), σ) := by
  have ho' : ¬ (isEmptyList (.Subscript (.Name y py) i q) = true ∧ ownNames.contains x = true) := fun ⟨a, _⟩ => by cases a
  have hm : makeArg sc (.Subscript (.Name y py) i q) = none := rfl
  show asgC F n sc r σ x (.Subscript (.Name y py) i q) = _
  unfold asgC
  rw [if_pos hx, if_neg ho', hm, show subNameOf (.Subscript (.Name y py) i q) = some (y, i) from rfl]
  show (match ptrAt F n sc r σ y i with | some q => _ | none => _) = _
  rw [hs]
  show (evS F n sc _ r σ).map _ = _
  rw [h]; rfl
theorem pa_dat {y : Str} {i : Expr} {d : PyData} (h : r y = some (.dat d)) : ptrAt F n sc r σ y i = none := by
  unfold ptrAt ptrOf; rw [h]; rfl
theorem pa_item {y : Str} {i : Expr} {q : Nat} {k : Int} {j : Nat} {its : List It} {x : PyData} (h : r y = some (.ptr q)) (hi : ev F n sc i (view r σ) = some (.int k)) (hk : asNat (.int k) = some j) (hs : σ[q]? = some its) (hx : its[j]? = some (.d x)) : ptrAt F n sc r σ y i = none := by
  unfold ptrAt ptrOf; rw [h, hi]
  simp only [Option.bind_eq_bind, Option.bind_some, hk, hs, hx]
theorem pa_ptr {y : Str} {i : Expr} {q q' : Nat} {k : Int} {j : Nat} {its : List It} (h : r y = some (.ptr q)) (hi : ev F n sc i (view r σ) = some (.int k)) (hk : asNat (.int k) = some j) (hs : σ[q]? = some its) (hx : its[j]? = some (.p q')) : ptrAt F n sc r σ y i = some q' := by
  unfold ptrAt ptrOf; rw [h, hi]
  simp only [Option.bind_eq_bind, Option.bind_some, hk, hs, hx]
theorem s_alias {x y : Str} {px py q : Pos} {i : Expr} {k : Nat} (hx : stFit sc x = true) (hs : ptrAt F n sc r σ y i = some k) :
    exS F (n + 1) sc (.Assign [.Name x px] (.Subscript (.Name y py) i q) p) (r, σ) = some (.next, put2 r x (.ptr k), σ) := by
  have ho' : ¬ (isEmptyList (.Subscript (.Name y py) i q) = true ∧ ownNames.contains x = true) := fun ⟨a, _⟩ => by cases a
  have hm : makeArg sc (.Subscript (.Name y py) i q) = none := rfl
  show asgC F n sc r σ x (.Subscript (.Name y py) i q) = _
  unfold asgC
  rw [if_pos hx, if_neg ho', hm, show subNameOf (.Subscript (.Name y py) i q) = some (y, i) from rfl]
  show (match ptrAt F n sc r σ y i with | some q => _ | none => _) = _
  rw [hs]
theorem s_new {x : Str} {px q : Pos} (hx : stFit sc x = true) (ho : ownNames.contains x = true) : exS F (n + 1) sc (.Assign [.Name x px] (.List [] q) p) (r, σ) = some (.next, put2 r x (.ptr σ.length), σ ++ [[]]) := by
  show asgC F n sc r σ x (.List [] q) = _
  unfold asgC
  rw [if_pos hx, if_pos ⟨rfl, ho⟩]
theorem s_make {x : Str} {px : Pos} {e : Expr} {es : List Expr} {ks : List PyData} (hx : stFit sc x = true) (ho : isEmptyList e = false) (hm : makeArg sc e = some es) (h : evs F n sc es (noPtr r) = some [.list ks]) :
    exS F (n + 1) sc (.Assign [.Name x px] e p) (r, σ) = some (.next, put2 r x (.inst (.list ks)), σ) := by
  have ho' : ¬ (isEmptyList e = true ∧ ownNames.contains x = true) := fun ⟨a, _⟩ => by rw [a] at ho; cases ho
  show asgC F n sc r σ x e = _
  unfold asgC
  rw [if_pos hx, if_neg ho', hm]
  show ((evs F n sc es (noPtr r)).bind _) = _
  rw [h]; rfl
theorem s_tup {ts : List Expr} {k : Nat} {q : Pos} {e : Expr} {d : PyData} {r' : Ro2} (ht : isTup e = false) (h : ev F n sc e (noPtr r) = some d) (hb : bindT2 sc r (.Tuple ts k q) d = some r') : exS F (n + 1) sc (.Assign [.Tuple ts k q] e p) (r, σ) = some (.next, r', σ) := by
  show (if isTup e = true then none else (ev F n sc e (noPtr r)).bind fun d => (bindT2 sc r (.Tuple ts k q) d).bind fun ρ' => some (Fl.next, ρ', σ)) = _
  rw [ht, if_neg Bool.false_ne_true, h, Option.bind_some, hb]; rfl
theorem s_set {x : Str} {px q : Pos} {i e : Expr} {d : PyData} {a : Nat} {j : Int} {k : Nat} {its : List It} (h : evS F n sc e r σ = some d) (hp : r x = some (.ptr a)) (hi : ev F n sc i (view r σ) = some (.int j)) (hk : asNat (.int j) = some k) (hs : σ[a]? = some its) (hl : k < its.length) :
    exS F (n + 1) sc (.Assign [.Subscript (.Name x px) i q] e p) (r, σ) = some (.next, r, σ.set a (its.set k (.d d))) := by
  have hp' : ptrOf r x = some a := by unfold ptrOf; rw [hp]
  show ((evS F n sc e r σ).bind fun d => (ptrOf r x).bind fun p => (ev F n sc i (view r σ)).bind fun j => (asNat j).bind fun k => (σ[p]?).bind fun its => if k < its.length then some (Fl.next, r, σ.set p (its.set k (.d d))) else none) = _
  rw [h, Option.bind_some, hp', Option.bind_some, hi, Option.bind_some, hk, Option.bind_some, hs, Option.bind_some, if_pos hl]
theorem pu_new {e : Expr} {q : Nat} {its : List It} (hs : σ[q]? = some its) (hz : its.length ≤ 1000000) (he : isEmptyList e = true) : pushIt F n sc r σ q e = some ((σ.set q (its ++ [.p σ.length])) ++ [[]]) := by
  unfold pushIt; simp only [hs, Option.bind_eq_bind, Option.bind_some, if_pos hz, if_pos he]
theorem pu_it {e : Expr} {q : Nat} {its : List It} {d : PyData} (hs : σ[q]? = some its) (hz : its.length ≤ 1000000) (he : isEmptyList e = false) (h : evS F n sc e r σ = some d) : pushIt F n sc r σ q e = some (σ.set q (its ++ [.d d])) := by
  unfold pushIt; simp only [hs, Option.bind_eq_bind, Option.bind_some, if_pos hz, he, Bool.false_eq_true, if_false, h]
theorem s_app {x : Str} {px ap q : Pos} {e : Expr} {k : Nat} {σ' : Sg} (hl : (ap.endLine == q.line) = true) (hx : r x = some (.ptr k)) (h : pushIt F n sc r σ k e = some σ') : exS F (n + 1) sc (.Expr (.Call (.Attribute (.Name x px) sAppend ap) [e] [] q) p) (r, σ) = some (.next, r, σ') := by
  have hp' : ptrOf r x = some k := by unfold ptrOf; rw [hx]
  show (if sAppend = sAppend ∧ (ap.endLine == q.line) = true then (ptrOf r x).bind fun q => (pushIt F n sc r σ q e).bind fun σ' => some (Fl.next, r, σ') else none) = _
  rw [if_pos ⟨rfl, hl⟩, hp', Option.bind_some, h]; rfl
theorem s_appAt {y : Str} {py sq ap q : Pos} {i e : Expr} {k : Nat} {σ' : Sg} (hl : (ap.endLine == q.line) = true) (hx : ptrAt F n sc r σ y i = some k) (h : pushIt F n sc r σ k e = some σ') : exS F (n + 1) sc (.Expr (.Call (.Attribute (.Subscript (.Name y py) i sq) sAppend ap) [e] [] q) p) (r, σ) = some (.next, r, σ') := by
  show (if sAppend = sAppend ∧ (ap.endLine == q.line) = true then (ptrAt F n sc r σ y i).bind fun q => (pushIt F n sc r σ q e).bind fun σ' => some (Fl.next, r, σ') else none) = _
  rw [if_pos ⟨rfl, hl⟩, hx, Option.bind_some, h]; rfl
theorem s_ift {t : Expr} {b o : List Stmt} {q : Fl × St2} (ht : tst F n sc t (view r σ) = some true) (h : exL F n sc b (r, σ) = some q) : exS F (n + 1) sc (.If t b o p) (r, σ) = some q := by
  show ((tst F n sc t (view r σ)).bind _) = _
  rw [ht]; exact h
theorem s_iff {t : Expr} {b o : List Stmt} {q : Fl × St2} (ht : tst F n sc t (view r σ) = some false) (h : exL F n sc o (r, σ) = some q) : exS F (n + 1) sc (.If t b o p) (r, σ) = some q := by
  show ((tst F n sc t (view r σ)).bind _) = _
  rw [ht]; exact h
noncomputable def forF (F : Fn) (n : Nat) (sc : Scope) (tg : Expr) (body : List Stmt) (v : PyData) (s : St2) : Option (Fl × St2) := (bindT2 sc s.1 tg v).bind fun ρ' => exL F n sc body (ρ', s.2)
theorem s_for {tg it : Expr} {body : List Stmt} {xs : List PyData} {q : Fl × St2} (hi : its F n sc it (noPtr r) = some xs) (hf : forFit tg xs = true) (h : forL (forF F n sc tg body) xs (r, σ) = some q) : exS F (n + 1) sc (.For tg it body [] p) (r, σ) = some q := by
  show ((its F n sc it (noPtr r)).bind fun xs => if forFit tg xs = true then forL (forF F n sc tg body) xs (r, σ) else none) = some q
  rw [hi, Option.bind_some, if_pos hf]; exact h
noncomputable def whT (F : Fn) (n : Nat) (sc : Scope) (t : Expr) (s : St2) : Option Bool := tst F n sc t (view s.1 s.2)
theorem s_while {t : Expr} {body : List Stmt} {q : Fl × St2} (h : whL (whT F n sc t) (exL F n sc body) n (r, σ) = some q) : exS F (n + 1) sc (.While t body [] p) (r, σ) = some q := h
theorem s_ret {e : Expr} {d : PyData} (h : ev F n sc e (view r σ) = some d) : exS F (n + 1) sc (.Return (some e) p) (r, σ) = some (.ret d, r, σ) := by
  show ((ev F n sc e (view r σ)).bind _) = _
  rw [h]; rfl
theorem f_next {f : PyData → St2 → Option (Fl × St2)} {x : PyData} {xs : List PyData} {s s' : St2} {q : Fl × St2} (h : f x s = some (.next, s')) (hr : forL f xs s' = some q) : forL f (x :: xs) s = some q := by
  simp only [forL, h, Option.bind_eq_bind, Option.bind_some]; exact hr
theorem f_ret {f : PyData → St2 → Option (Fl × St2)} {x : PyData} {xs : List PyData} {s s' : St2} {d : PyData} (h : f x s = some (.ret d, s')) : forL f (x :: xs) s = some (.ret d, s') := by
  simp only [forL, h, Option.bind_eq_bind, Option.bind_some]
theorem w_stop {c : St2 → Option Bool} {f : St2 → Option (Fl × St2)} {k : Nat} {s : St2} (h : c s = some false) : whL c f (k + 1) s = some (.next, s) := by
  simp only [whL, h, Option.bind_eq_bind, Option.bind_some, Bool.false_eq_true, if_false]
theorem w_go {c : St2 → Option Bool} {f : St2 → Option (Fl × St2)} {k : Nat} {s s' : St2} {q : Fl × St2} (h : c s = some true) (hf : f s = some (.next, s')) (hr : whL c f k s' = some q) : whL c f (k + 1) s = some q := by
  simp only [whL, h, hf, Option.bind_eq_bind, Option.bind_some, if_true]; exact hr
theorem run_of {F : Fn} {st : Stmt} {params : List Str} {args : List PyData} {d : PyData} {s' : St2} (hl : params.length = args.length) (h : exL F 60 (scopeOf st) (bodyOf st) (bindAll params args fun _ => none, []) = some (.ret d, s')) : runF F st params args = some d := by
  unfold runF
  rw [if_pos hl, h]; rfl
theorem e_ift {t b o : Expr} {d : PyData} (ht : tst F n sc t ρ = some true) (h : ev F n sc b ρ = some d) : ev F (n + 1) sc (.IfExp t b o p) ρ = some d := e_if ht (by rw [if_pos rfl]; exact h)
theorem e_iff {t b o : Expr} {d : PyData} (ht : tst F n sc t ρ = some false) (h : ev F n sc o ρ = some d) : ev F (n + 1) sc (.IfExp t b o p) ρ = some d := e_if ht (by rw [if_neg Bool.false_ne_true]; exact h)
theorem t_andt {x y : Expr} {b : Bool} (h : tst F n sc x ρ = some true) (hb : tst F n sc y ρ = some b) : tst F (n + 1) sc (.BoolOp .And [x, y] p) ρ = some b := t_and h (by rw [if_pos rfl]; exact hb)
theorem t_andf {x y : Expr} (h : tst F n sc x ρ = some false) : tst F (n + 1) sc (.BoolOp .And [x, y] p) ρ = some false := t_and h (by rw [if_neg Bool.false_ne_true])
theorem ts_t {e : Expr} {r : List Expr} {b : Bool} (h : tst F n sc e ρ = some true) (hb : tsts F n sc r ρ = some b) : tsts F (n + 1) sc (e :: r) ρ = some b := ts_cons h (by rw [if_pos rfl]; exact hb)
theorem ts_f {e : Expr} {r : List Expr} (h : tst F n sc e ρ = some false) : tsts F (n + 1) sc (e :: r) ρ = some false := ts_cons h (by rw [if_neg Bool.false_ne_true])
end
theorem catL_map {α : Type} {f : PyData → Option (List PyData)} {g : α → PyData} {h : α → List PyData} : ∀ {l : List α}, (∀ a ∈ l, f (g a) = some (h a)) → catL f (l.map g) = some (l.flatMap h)
  | [], _ => rfl
  | a :: l, H => by
    simp only [List.map_cons, catL, H a List.mem_cons_self, catL_map (l := l) (fun b hb => H b (List.mem_cons_of_mem _ hb)), Option.bind_eq_bind, Option.bind_some, List.flatMap_cons]
theorem catL_all {α β : Type} {f : PyData → Option (List PyData)} {g : α → PyData} {h : α → β} {k : β → PyData} {l : List α} (H : ∀ a ∈ l, f (g a) = some [k (h a)]) : catL f (l.map g) = some ((l.map h).map k) := by
  rw [catL_map (f := f) (g := g) (h := fun a => [k (h a)]) H]
  simp [List.map_eq_flatMap, List.flatMap_assoc]
theorem catL_filter {α : Type} {f : PyData → Option (List PyData)} {g k : α → PyData} {b : α → Bool} {l : List α} (H : ∀ a ∈ l, f (g a) = some (if b a = true then [k a] else [])) : catL f (l.map g) = some ((l.filter b).map k) := by
  rw [catL_map (f := f) (g := g) (h := fun a => if b a = true then [k a] else []) H]
  congr 1
  induction l with
  | nil => rfl
  | cons a l ih =>
    rw [List.flatMap_cons, List.filter_cons, ih (fun c hc => H c (List.mem_cons_of_mem _ hc))]
    cases b a <;> simp
end Mine
end SRX
section SPA
open PySem PySem.W PyProof.Rows PySem.Calls
set_option maxRecDepth 100000
namespace Mine
noncomputable section
noncomputable def wordL : List Str := [Str.ofString "", Str.ofString "h", Str.ofString "hp", Str.ofString "hpa", Str.ofString "hz", Str.ofString "k", Str.ofString "kb", Str.ofString "khz"]
noncomputable def wd (x : Int) : Str := wordL.getD (x.fmod 8).toNat (Str.ofString "")
theorem mod8 (x : Int) : 0 ≤ x.fmod 8 ∧ x.fmod 8 < 8 := ⟨Int.fmod_nonneg_of_pos x (by decide), Int.fmod_lt_of_pos x (by decide)⟩
theorem lt8 {y : Int} (h0 : 0 ≤ y) (h1 : y < 8) : y = 0 ∨ y = 1 ∨ y = 2 ∨ y = 3 ∨ y = 4 ∨ y = 5 ∨ y = 6 ∨ y = 7 := by omega
theorem word_idx (x : Int) : idxD (.list (wordL.map .str)) (.int (x.fmod 8)) = some (.str (wd x)) := by
  obtain ⟨h0, h1⟩ := mod8 x
  unfold wd
  generalize x.fmod 8 = y at h0 h1
  rcases lt8 h0 h1 with rfl | rfl | rfl | rfl | rfl | rfl | rfl | rfl <;> kernel_rfl
theorem run_word (x : Int) : runF F0 st_word pWord [.int x] = some (.str (wd x)) :=
  run_of rfl (l_ret (s_ret (e_sub (e_list (es_cons (e_const rfl) (es_cons (e_const rfl) (es_cons (e_const rfl) (es_cons (e_const rfl) (es_cons (e_const rfl) (es_cons (e_const rfl) (es_cons (e_const rfl) (es_cons (e_const rfl) es_nil)))))))) (by decide))
    (e_bin (e_name rfl) (e_const rfl) rfl) (word_idx x))))
end
end Mine
end SPA
section SPB
open PySem PySem.W PyProof.Rows PySem.Calls
set_option maxRecDepth 100000
namespace Mine
noncomputable section
noncomputable def alphaL : List Nat := [0, 1, 2, 4, 7, 8, 9, 10, 11, 12]
noncomputable def signC (c : Nat) (form : Nat) : Nat := if form < 2 then c - 32 * form else 119808 + 52 * alphaL.getD (form - 2) 0 + c - 97
noncomputable def chS (c : Nat) : Str := ⟨#[c]⟩
noncomputable def strIs (o : Option PyData) (x : Str) : Bool := match o with
  | some (.str y) => decide (y = x)
  | _ => false
theorem strIs_eq {o : Option PyData} {x : Str} (h : strIs o x = true) : o = some (.str x) := by
  unfold strIs at h
  split at h
  · rw [of_decide_eq_true h]
  · cases h
noncomputable def letters : List Nat := [97, 98, 104, 107, 112, 122]
theorem sign_all : (letters.all fun c => (List.range 12).all fun f => strIs (runF F0 st_sign pSign [.str (chS c), .int f]) (chS (signC c f))) = true := by kernel_rfl
theorem unseen_all : ((List.range 27).all fun k => (match runF F0 st_unseen pUnseen [.int k] with | some (.str x) => decide (x.length = 1) && b1L.contains (x.cps.getD 0 0 : Nat) | _ => false)) = true := by kernel_rfl
end
end Mine
end SPB
section SPC
open PySem PySem.W PyProof.Rows PySem.Calls
set_option maxRecDepth 100000
namespace Mine
noncomputable section
theorem f0_ord (c : Nat) : F0 (Str.ofString "ord") [.str (chS c)] = some (.int c) := by kernel_rfl
theorem ord_names : Str.ofString "ord" ≠ sList ∧ Str.ofString "ord" ≠ sTC ∧ Str.ofString "ord" ≠ sLower ∧ Str.ofString "ord" ≠ sIn ∧ Str.ofString "ord" ≠ sGetB3 := by decide +kernel
theorem run_b1 (c : Nat) : runF F0 st_in_table_b1 pCode [.str (chS c)] = some (.bool (b1L.contains (c : Int))) :=
  run_of rfl (l_ret (s_ret (e_in rfl (e_call rfl ord_names (es_cons (e_name rfl) es_nil) (f0_ord c)) (f0_in _))))
noncomputable def mapB3 (c : Nat) : Str := match b3Get c with
  | some x => x
  | none => Txt.lower (chS c)
theorem run_b3 (c : Nat) : runF F0 st_map_table_b3 pCode [.str (chS c)] = some (.str (mapB3 c)) := by
  cases h : b3Get c with
  | some x =>
    have e : b3D c = .str x := by unfold b3D; rw [h]
    have e' : mapB3 c = x := by unfold mapB3; rw [h]
    rw [e']
    have g : F0 sGetB3 [.int c] = some (.str x) := by rw [← e]; exact f0_get _
    exact run_of rfl (l_next (s_assign rfl rfl rfl rfl (v_np rfl (e_get rfl rfl rfl rfl (es_cons (e_call rfl ord_names (es_cons (e_name rfl) es_nil) (f0_ord c)) es_nil) g)))
      (l_ret (s_ift (t_cmp rfl (e_name rfl) (e_const rfl) rfl) (l_ret (s_ret (e_name rfl))))))
  | none =>
    have e : b3D c = .none := by unfold b3D; rw [h]
    have e' : mapB3 c = Txt.lower (chS c) := by unfold mapB3; rw [h]
    rw [e']
    have g : F0 sGetB3 [.int c] = some .none := by rw [← e]; exact f0_get _
    have g2 : F0 sLower [.str (chS c)] = some (.str (Txt.lower (chS c))) := f0_low _
    exact run_of rfl (l_next (s_assign rfl rfl rfl rfl (v_np rfl (e_get rfl rfl rfl rfl (es_cons (e_call rfl ord_names (es_cons (e_name rfl) es_nil) (f0_ord c)) es_nil) g)))
      (l_next (s_iff (t_cmp rfl (e_name rfl) (e_const rfl) rfl) l_nil) (l_ret (s_ret (e_lower rfl rfl g2)))))
end
end Mine
end SPC
section SPD
open PySem PySem.W PyProof.Rows PySem.Calls
set_option maxRecDepth 100000
namespace Mine
noncomputable section
theorem f1_b1 (l : List PyData) : F1 nB1 l = runF F0 st_in_table_b1 pCode l := by
  unfold F1
  rw [withCmp_other (by decide +kernel), withF_other (by decide +kernel), withF_other (by decide +kernel), withF_other (by decide +kernel), withF_same]
theorem f1_b3 (l : List PyData) : F1 nB3 l = runF F0 st_map_table_b3 pCode l := by
  unfold F1
  rw [withCmp_other (by decide +kernel), withF_other (by decide +kernel), withF_other (by decide +kernel), withF_other (by decide +kernel), withF_other (by decide +kernel), withF_same]
theorem f1_word (l : List PyData) : F1 nWord l = runF F0 st_word pWord l := by
  unfold F1
  rw [withCmp_other (by decide +kernel), withF_same]
theorem f1_sign (l : List PyData) : F1 nSign l = runF F0 st_sign pSign l := by
  unfold F1
  rw [withCmp_other (by decide +kernel), withF_other (by decide +kernel), withF_same]
theorem f1_unseen (l : List PyData) : F1 nUnseen l = runF F0 st_unseen pUnseen l := by
  unfold F1
  rw [withCmp_other (by decide +kernel), withF_other (by decide +kernel), withF_other (by decide +kernel), withF_same]
theorem f1_longest (l : List PyData) : F1 nLongest l = runF F0 st_longest pLongest l := by
  unfold F1
  rw [withCmp_other (by decide +kernel), withF_other (by decide +kernel), withF_other (by decide +kernel), withF_other (by decide +kernel), withF_other (by decide +kernel), withF_other (by decide +kernel), withF_same]
theorem f1_blt {f : Str} {l : List PyData} (h : (decide (f ≠ sTC) && decide (f ≠ nWord) && decide (f ≠ nSign) && decide (f ≠ nUnseen) && decide (f ≠ nB1) && decide (f ≠ nB3) && decide (f ≠ nLongest) && decide (f ≠ sLower) && decide (f ≠ sIn) && decide (f ≠ sGetB3)) = true) : F1 f l = bltD f l := by
  simp only [Bool.and_eq_true, decide_eq_true_eq] at h
  obtain ⟨⟨⟨⟨⟨⟨⟨⟨⟨h1, h2⟩, h3⟩, h4⟩, h5⟩, h6⟩, h10⟩, h7⟩, h8⟩, h9⟩ := h
  unfold F1
  rw [withCmp_other h1, withF_other h2, withF_other h3, withF_other h4, withF_other h5, withF_other h6, withF_other h10, f0_blt h7 h8 h9]
end
end Mine
end SPD
section SPE
open PySem PySem.W PyProof.Rows PySem.Calls
set_option maxRecDepth 100000
namespace Mine
noncomputable section
noncomputable def b1 (c : Nat) : Bool := b1L.contains (c : Int)
noncomputable def prepL (cs : List Nat) : List Str := (cs.filter fun c => !b1 c).map mapB3
theorem strsD_map : ∀ l : List Str, strsD (l.map .str) = some l
  | [] => rfl
  | x :: r => by simp only [List.map_cons, strsD, strsD_map r, Option.map_some]
theorem g_b1 : nB1 ≠ sList ∧ nB1 ≠ sTC ∧ nB1 ≠ sLower ∧ nB1 ≠ sIn ∧ nB1 ≠ sGetB3 := by decide +kernel
theorem g_b3 : nB3 ≠ sList ∧ nB3 ≠ sTC ∧ nB3 ≠ sLower ∧ nB3 ≠ sIn ∧ nB3 ≠ sGetB3 := by decide +kernel
theorem run_prep (s : Str) (hs : s.length ≤ 1000000) (hj : JoinOk (Str.ofString "") (prepL s.cps.toList) = true) : runF F1 st_prepared pPrep [.str s] = some (.str (Txt.join (Str.ofString "") (prepL s.cps.toList))) := by
  have hi : itemsD (.str s) = some (s.cps.toList.map fun c => .str (chS c)) := (if_pos hs : (if s.length ≤ 1000000 then some (s.cps.toList.map fun c => PyData.str (chS c)) else none) = _)
  have hg : ∀ l : List Nat, l.flatMap (fun c => if b1 c = true then [] else [PyData.str (mapB3 c)]) = (prepL l).map .str := fun l => by
    induction l with
    | nil => rfl
    | cons c l ih =>
      unfold prepL at ih ⊢
      rw [List.flatMap_cons, ih, List.filter_cons]
      cases b1 c <;> rfl
  have hn : (prepL s.cps.toList).length ≤ s.cps.toList.length := by
    unfold prepL
    rw [List.length_map]
    exact List.length_filter_le _ _
  have e : s.cps.toList.length = s.length := rfl
  refine run_of rfl (l_ret (s_ret (e_join rfl (e_comp (xs := s.cps.toList.map fun c => .str (chS c)) (ds := (prepL s.cps.toList).map .str) rfl (i_val rfl (e_name rfl) hi) ?_ (by rw [List.length_map]; omega)) (strsD_map _) hj)))
  rw [← hg]
  refine catL_map fun c _ => ?_
  cases h : b1 c
  · rw [if_neg Bool.false_ne_true]
    refine g_one rfl (ts_t (t_not (t_call (e_call rfl g_b1 (es_cons (e_name rfl) es_nil) ((f1_b1 _).trans ((run_b1 c).trans (by rw [show b1L.contains (c : Int) = false from h])))))) ts_nil) (e_call rfl g_b3 (es_cons (e_name rfl) es_nil) ((f1_b3 _).trans (run_b3 c)))
  · rw [if_pos rfl]
    exact g_no rfl (ts_f (t_not (t_call (e_call rfl g_b1 (es_cons (e_name rfl) es_nil) ((f1_b1 _).trans ((run_b1 c).trans (by rw [show b1L.contains (c : Int) = true from h])))))))
end
end Mine
end SPE
section SPF
open PySem PySem.W PyProof.Rows PySem.Calls
set_option maxRecDepth 100000
namespace Mine
noncomputable section
theorem run_sign {c f : Nat} (hc : c ∈ letters) (hf : f < 12) : runF F0 st_sign pSign [.str (chS c), .int f] = some (.str (chS (signC c f))) :=
  strIs_eq (List.all_eq_true.mp (List.all_eq_true.mp sign_all c hc) f (List.mem_range.mpr hf))
noncomputable def form (x : Int) (k : Nat) : Int := ((x.fdiv 16).fdiv (12 ^ k)).fmod 12
theorem run_unseen {k : Nat} (hk : k < 27) : ∃ c : Nat, b1 c = true ∧ runF F0 st_unseen pUnseen [.int k] = some (.str (chS c)) := by
  have h := List.all_eq_true.mp unseen_all k (List.mem_range.mpr hk)
  split at h
  · rename_i x hx
    simp only [Bool.and_eq_true, decide_eq_true_eq] at h
    refine ⟨x.cps.getD 0 0, h.2, ?_⟩
    rw [hx, one_sign h.1]
    simp [chS]
  · cases h
end
end Mine
end SPF
section SPG
open PySem PySem.W PyProof.Rows PySem.Calls
set_option maxRecDepth 100000
namespace Mine
noncomputable section
theorem rangeD0 (n : Nat) : rangeD 0 n = (List.range n).map fun i => .int (i : Nat) := by
  unfold rangeD
  have : ((n : Int) - 0).toNat = n := by omega
  rw [this]
  simp
theorem eq_int (a b : Int) : cmpD .Eq (.int a) (.int b) = some (a == b) := rfl
theorem join_cps : ∀ l : List Str, (Txt.join (Str.ofString "") l).cps.toList = l.flatMap (·.cps.toList) := by
  intro l
  show (Builtin.Str.glued (Str.ofString "") l).cps.toList = _
  rw [StrLaws.glued_eq_join]
  have e0 : Str.ofString "" = ⟨#[]⟩ := by kernel_rfl
  rw [e0]
  induction l with
  | nil => rfl
  | cons x r ih =>
    cases r with
    | nil => simp [Str.join]
    | cons y r =>
      have : Str.join ⟨#[]⟩ (x :: y :: r) = x ++ ⟨#[]⟩ ++ Str.join ⟨#[]⟩ (y :: r) := rfl
      rw [this]
      have e1 : ∀ a b : Str, (a ++ b).cps = a.cps ++ b.cps := fun _ _ => rfl
      rw [e1, e1, Array.toList_append, Array.toList_append, ih]
      simp
theorem str_ext {a b : Str} (h : a.cps.toList = b.cps.toList) : a = b := by
  cases a; cases b; simp only [Str.mk.injEq] at *; exact Array.toList_inj.mp h
theorem joinOk_small {l : List Str} (h : (l.map (·.length)).sum ≤ 1000000) : JoinOk (Str.ofString "") l = true := by
  unfold JoinOk
  rw [StrLaws.joinTotal]
  have e : (Str.ofString "").length = 0 := by kernel_rfl
  rw [e, Nat.mul_zero, Nat.add_zero]
  unfold Builtin.Str.tooLong
  rw [sizeLine_big]
  simp
  omega
theorem sign_facts : (letters.all fun c => (List.range 12).all fun f => !b1 (signC c f) && decide (mapB3 (signC c f) = chS c) && decide (signC c f < 0x110000)) = true := by kernel_rfl
theorem word_facts : (wordL.all fun w => w.cps.toList.all (fun c => letters.contains c) && decide (w.length ≤ 3)) = true := by kernel_rfl
noncomputable def ligL : List Nat := [0x200d, 0x210b, 0x33cb, 0x3371, 0x3390, 0x212a, 0x3385, 0x3391]
theorem lig_facts : ((List.range 8).all fun i => decide ((prepL [ligL.getD i 0]).flatMap (·.cps.toList) = (wordL.getD i (Str.ofString "")).cps.toList) && decide (ligL.getD i 0 < 0x110000)) = true := by kernel_rfl
theorem wd_mem (x : Int) : wd x ∈ wordL := by
  obtain ⟨h0, h1⟩ := mod8 x
  unfold wd
  rw [List.getD_eq_getElem?_getD, List.getElem?_eq_getElem (show (x.fmod 8).toNat < wordL.length by show _ < 8; omega)]
  exact List.getElem_mem _
theorem wd_letters (x : Int) : (∀ c ∈ (wd x).cps.toList, c ∈ letters) ∧ (wd x).length ≤ 3 := by
  have h := List.all_eq_true.mp word_facts _ (wd_mem x)
  rw [Bool.and_eq_true, List.all_eq_true, decide_eq_true_eq] at h
  exact ⟨fun c hc => by simpa using h.1 c hc, h.2⟩
structure PieceOf (w : Str) (s : Str) : Prop where
  len : s.length ≤ 4
  fits : ∀ c ∈ s.cps.toList, c < 0x110000
  prep : (prepL s.cps.toList).flatMap (·.cps.toList) = w.cps.toList
end
end Mine
end SPG
section SPH
open PySem PySem.W PyProof.Rows PySem.Calls
set_option maxRecDepth 100000
namespace Mine
noncomputable section
theorem g_word : nWord ≠ sList ∧ nWord ≠ sTC ∧ nWord ≠ sLower ∧ nWord ≠ sIn ∧ nWord ≠ sGetB3 := by decide +kernel
theorem g_sign : nSign ≠ sList ∧ nSign ≠ sTC ∧ nSign ≠ sLower ∧ nSign ≠ sIn ∧ nSign ≠ sGetB3 := by decide +kernel
theorem g_unseen : nUnseen ≠ sList ∧ nUnseen ≠ sTC ∧ nUnseen ≠ sLower ∧ nUnseen ≠ sIn ∧ nUnseen ≠ sGetB3 := by decide +kernel
noncomputable abbrev nLen : Str := Str.ofString "len"
theorem g_len : nLen ≠ sList ∧ nLen ≠ sTC ∧ nLen ≠ sLower ∧ nLen ≠ sIn ∧ nLen ≠ sGetB3 := by decide +kernel
theorem f1_len (l : List PyData) : F1 nLen l = bltD nLen l := f1_blt (by decide +kernel)
theorem blt_len_str {x : Str} (h : x.length ≤ 1000000) : bltD nLen [.str x] = some (.int x.length) := by
  show (if x.length ≤ 1000000 then some (PyData.int x.length) else none) = _
  rw [if_pos h]
theorem blt_len_list {x : List PyData} (h : x.length ≤ 1000000) : bltD nLen [.list x] = some (.int x.length) := by
  show (if x.length ≤ 1000000 then some (PyData.int x.length) else none) = _
  rw [if_pos h]
theorem seqIndex_nat {i n : Nat} (h : i < n) : seqIndex? (i : Int) n = some i := by
  unfold seqIndex?
  have h1 : ¬ (i : Int) < 0 := by omega
  simp only [h1, if_false]
  rw [if_pos (by simp; omega)]
  simp
theorem idx_str {x : Str} {k : Nat} (h : k < x.cps.toList.length) (hk : k < 1000) : idxD (.str x) (.int k) = some (.str (chS x.cps.toList[k])) := by
  have h' : k < x.length := by simpa [Str.length] using h
  simp only [idxD]
  rw [if_pos (by omega), seqIndex_nat h']
  have h2 : k < x.cps.size := h'
  simp only [Option.bind_some, Array.getElem?_eq_getElem h2, Option.map_some]
  simp [chS]
theorem bin_fdiv {a b : Int} (h : b ≠ 0 ∧ b.natAbs < 1073741824) : binD .FloorDiv (.int a) (.int b) = some (.int (a.fdiv b)) := by
  show (if b ≠ 0 ∧ b.natAbs < 1073741824 then some (PyData.int (a.fdiv b)) else none) = _
  rw [if_pos h]
theorem bin_mod {a b : Int} (h : b ≠ 0) : binD .Mod (.int a) (.int b) = some (.int (a.fmod b)) := by
  show (if b = 0 then none else some (PyData.int (a.fmod b))) = _
  rw [if_neg h]
theorem bin_pow {a : Int} {k : Nat} (h : k ≤ 1000) (ha : a.natAbs < 2 ^ 60) : binD .Pow (.int a) (.int k) = some (.int (a ^ k)) := by
  show (if 0 ≤ (k : Int) ∧ (k : Int) ≤ 1000 ∧ a.natAbs < 2 ^ 60 then some (PyData.int (a ^ (k : Int).toNat)) else none) = _
  rw [if_pos ⟨by omega, by omega, ha⟩]; simp
theorem pow12 {k : Nat} (h : k < 3) : ((12 : Int) ^ k ≠ 0) ∧ ((12 : Int) ^ k).natAbs < 1073741824 := by
  have : k = 0 ∨ k = 1 ∨ k = 2 := by omega
  rcases this with rfl | rfl | rfl <;> decide
theorem mod12 (x : Int) : ((x.fmod 12).toNat : Int) = x.fmod 12 ∧ (x.fmod 12).toNat < 12 := by
  have h0 := Int.fmod_nonneg_of_pos x (show (0 : Int) < 12 by omega)
  have h1 := Int.fmod_lt_of_pos x (show (0 : Int) < 12 by omega)
  omega
noncomputable def fmN (x : Int) (k : Nat) : Nat := (form x k).toNat
theorem fmN_lt (x : Int) (k : Nat) : fmN x k < 12 := (mod12 _).2
theorem fmN_eq (x : Int) (k : Nat) : form x k = (fmN x k : Int) := ((mod12 _).1).symm
noncomputable def signs (which x : Int) : List Nat := (List.range (wd which).cps.toList.length).map fun k => signC ((wd which).cps.toList.getD k 0) (fmN x k)
noncomputable def sPieceV : Str := Str.ofString "piece"
noncomputable def joined (which x : Int) : Str := ⟨(signs which x).toArray⟩
theorem join_signs (which x : Int) : Txt.join (Str.ofString "") ((signs which x).map chS) = joined which x := by
  apply str_ext
  rw [join_cps]
  simp only [joined, List.flatMap_map]
  have : (fun a => (chS a).cps.toList) = fun a => [a] := rfl
  rw [this]
  simp
theorem joinOk_chS {l : List Nat} (h : l.length ≤ 1000000) : JoinOk (Str.ofString "") (l.map chS) = true := by
  apply joinOk_small
  have : ((l.map chS).map (·.length)) = l.map fun _ => 1 := by rw [List.map_map]; rfl
  rw [this, List.map_const', List.sum_replicate_nat]
  omega
theorem sign_prep {c f : Nat} (hc : c ∈ letters) (hf : f < 12) : b1 (signC c f) = false ∧ mapB3 (signC c f) = chS c ∧ signC c f < 0x110000 := by
  have h := List.all_eq_true.mp (List.all_eq_true.mp sign_facts c hc) f (List.mem_range.mpr hf)
  simp only [Bool.and_eq_true, decide_eq_true_eq, Bool.not_eq_true'] at h
  exact ⟨h.1.1, h.1.2, h.2⟩
theorem prep_signs {l : List Nat} (fm : Nat → Nat) (hl : ∀ c ∈ l, c ∈ letters) (hf : ∀ k, fm k < 12) : (prepL ((List.range l.length).map fun k => signC (l.getD k 0) (fm k))).flatMap (·.cps.toList) = l := by
  have hb : ∀ k ∈ List.range l.length, l.getD k 0 ∈ letters := fun k hk => by
    have hk := List.mem_range.mp hk
    rw [List.getD_eq_getElem?_getD, List.getElem?_eq_getElem hk]
    exact hl _ (List.getElem_mem _)
  unfold prepL
  rw [List.filter_eq_self.mpr (fun a ha => by
    obtain ⟨k, hk, rfl⟩ := List.mem_map.mp ha
    rw [(sign_prep (hb k hk) (hf k)).1]; rfl)]
  have e1 : ((List.range l.length).map (mapB3 ∘ fun k => signC (l.getD k 0) (fm k))) = (List.range l.length).map fun k => chS (l.getD k 0) := List.map_congr_left fun k hk => (sign_prep (hb k hk) (hf k)).2.1
  rw [List.map_map, e1, List.flatMap_map]
  have e : (fun a => (chS (l.getD a 0)).cps.toList) = fun a => [l.getD a 0] := rfl
  rw [e, ← List.map_eq_flatMap]
  apply List.ext_getElem (by simp)
  intro i h1 h2
  simp [List.getD_eq_getElem?_getD, List.getElem?_eq_getElem h2]
end
end Mine
end SPH
section SPI
open PySem PySem.W PyProof.Rows PySem.Calls
set_option maxRecDepth 100000
namespace Mine
noncomputable section
theorem lig_idx (x : Int) : idxD (.str (Str.ofString "\u200dℋ㏋㍱㎐\u212a㎅㎑")) (.int (x.fmod 8)) = some (.str (chS (ligL.getD (x.fmod 8).toNat 0))) := by
  obtain ⟨h0, h1⟩ := mod8 x
  generalize x.fmod 8 = y at h0 h1
  rcases lt8 h0 h1 with rfl | rfl | rfl | rfl | rfl | rfl | rfl | rfl <;> kernel_rfl
structure MidOf (w : Str) (s : Str) : Prop where
  len : s.length ≤ 3
  fits : ∀ c ∈ s.cps.toList, c < 0x110000
  prep : (prepL s.cps.toList).flatMap (·.cps.toList) = w.cps.toList
theorem mid_lig (x : Int) : MidOf (wd x) (chS (ligL.getD (x.fmod 8).toNat 0)) := by
  obtain ⟨h0, h1⟩ := mod8 x
  have h := List.all_eq_true.mp lig_facts (x.fmod 8).toNat (List.mem_range.mpr (by omega))
  simp only [Bool.and_eq_true, decide_eq_true_eq] at h
  refine ⟨by show 1 ≤ 3; omega, fun c hc => ?_, h.1⟩
  have : c = ligL.getD (x.fmod 8).toNat 0 := by simpa [chS] using hc
  rw [this]; exact h.2
theorem mid_signs (which x : Int) : MidOf (wd which) (joined which x) := by
  obtain ⟨h1, h2⟩ := wd_letters which
  refine ⟨?_, fun c hc => ?_, ?_⟩
  · have : (joined which x).length = (wd which).length := by simp [joined, Str.length, signs]
    omega
  · simp only [joined, signs, List.mem_map, List.mem_range] at hc
    obtain ⟨k, hk, rfl⟩ := hc
    refine (sign_prep (h1 _ ?_) (fmN_lt x k)).2.2
    rw [List.getD_eq_getElem?_getD, List.getElem?_eq_getElem hk]
    exact List.getElem_mem _
  · exact prep_signs (fmN x) h1 (fmN_lt x)
theorem mod55 (x : Int) : ((x.fmod 55).toNat : Int) = x.fmod 55 ∧ (x.fmod 55).toNat < 55 := by
  have h0 := Int.fmod_nonneg_of_pos x (show (0 : Int) < 55 by omega)
  have h1 := Int.fmod_lt_of_pos x (show (0 : Int) < 55 by omega)
  omega
theorem prepL_append (a b : List Nat) : prepL (a ++ b) = prepL a ++ prepL b := by simp [prepL]
theorem str_app (a b : Str) : (a ++ b).cps.toList = a.cps.toList ++ b.cps.toList := Array.toList_append
theorem b1_fits {c : Nat} (h : b1 c = true) : c < 0x110000 := by
  have e : (b1L.all fun i => decide (i < 0x110000)) = true := by kernel_rfl
  have := List.all_eq_true.mp e c (by unfold b1 at h; exact List.contains_iff_mem.mp h)
  have := of_decide_eq_true this
  omega
theorem unseen_piece {w s : Str} {c : Nat} (hs : MidOf w s) (hc : b1 c = true) : PieceOf w (s ++ chS c) ∧ PieceOf w (chS c ++ s) := by
  have h1 : (chS c).length = 1 := rfl
  have h3 := hs.len
  have e : prepL (chS c).cps.toList = [] := by
    show prepL [c] = []
    unfold prepL
    rw [List.filter_cons, hc]; rfl
  refine ⟨⟨?_, fun y hy => ?_, ?_⟩, ⟨?_, fun y hy => ?_, ?_⟩⟩
  · rw [Str.length_append]; omega
  · rw [str_app, List.mem_append] at hy
    rcases hy with hy | hy
    · exact hs.fits y hy
    · have : y = c := by simpa [chS] using hy
      rw [this]; exact b1_fits hc
  · rw [str_app, prepL_append, List.flatMap_append, hs.prep, e]; simp
  · rw [Str.length_append]; omega
  · rw [str_app, List.mem_append] at hy
    rcases hy with hy | hy
    · have : y = c := by simpa [chS] using hy
      rw [this]; exact b1_fits hc
    · exact hs.fits y hy
  · rw [str_app, prepL_append, List.flatMap_append, hs.prep, e]; simp
theorem bin_strs {a b : Str} (h : a.length + b.length ≤ 1000000) : binD .Add (.str a) (.str b) = some (.str (a ++ b)) := by
  show (if a.length + b.length ≤ 1000000 then some (PyData.str (a ++ b)) else none) = _
  rw [if_pos h]
theorem gt_int (a b : Int) : cmpD .Gt (.int a) (.int b) = some (decide (b < a)) := rfl
theorem piece_rest {ρ : Ro2} {w s : Str} {x : Int} (hs : MidOf w s) (h1 : ρ (Str.ofString "piece") = some (.dat (.str s))) (h2 : ρ (Str.ofString "x") = some (.dat (.int x))) :
    ∃ r s', PieceOf w r ∧ exL F1 57 (scopeOf st_piece) ((bodyOf st_piece).drop 3) (ρ, []) = some (.ret (.str r), s') := by
  have tl : exS F1 56 (scopeOf st_piece) ((bodyOf st_piece).getD 3 default) (ρ, []) = some (.next, put2 ρ (Str.ofString "more") (.dat (.int ((x.fdiv 27648).fmod 55))), []) :=
    s_assign rfl rfl rfl rfl (v_np rfl (e_bin (e_bin (e_name (np_dat h2)) (e_const rfl) (bin_fdiv (by decide))) (e_const rfl) (bin_mod (by decide))))
  obtain ⟨e1, e2⟩ := mod55 (x.fdiv 27648)
  have h1' : put2 ρ (Str.ofString "more") (.dat (.int ((x.fdiv 27648).fmod 55))) (Str.ofString "piece") = some (.dat (.str s)) := h1
  have h3 := hs.len
  by_cases hg : 27 < (x.fdiv 27648).fmod 55
  · have e3 : (x.fdiv 27648).fmod 55 - 28 = ((((x.fdiv 27648).fmod 55).toNat - 28 : Nat) : Int) := by omega
    obtain ⟨c, hc, hr⟩ := run_unseen (k := ((x.fdiv 27648).fmod 55).toNat - 28) (by omega)
    rw [← e3] at hr
    have hl : (chS c).length = 1 := rfl
    exact ⟨chS c ++ s, _, (unseen_piece hs hc).2, l_next tl (l_ret (s_ift (t_cmp rfl (e_name rfl) (e_const rfl) (by rw [gt_int, decide_eq_true hg])) (l_ret (s_ret (e_bin (e_call rfl g_unseen (es_cons (e_bin (e_name rfl) (e_const rfl) rfl) es_nil) ((f1_unseen _).trans hr)) (e_name (vw_dat h1')) (bin_strs (by omega)))))))⟩
  · have tg : exS F1 55 (scopeOf st_piece) ((bodyOf st_piece).getD 4 default) (put2 ρ (Str.ofString "more") (.dat (.int ((x.fdiv 27648).fmod 55))), []) = some (.next, put2 ρ (Str.ofString "more") (.dat (.int ((x.fdiv 27648).fmod 55))), []) :=
      s_iff (t_cmp rfl (e_name rfl) (e_const rfl) (by rw [gt_int, decide_eq_false hg])) l_nil
    by_cases ht : (x.fdiv 27648).fmod 55 = 0
    · exact ⟨s, _, ⟨by omega, hs.fits, hs.prep⟩, l_next tl (l_next tg (l_ret (s_ret (e_ift (t_cmp rfl (e_name rfl) (e_const rfl) (by rw [eq_int, ht]; rfl)) (e_name (vw_dat h1'))))))⟩
    · have e3 : (x.fdiv 27648).fmod 55 - 1 = ((((x.fdiv 27648).fmod 55).toNat - 1 : Nat) : Int) := by omega
      obtain ⟨c, hc, hr⟩ := run_unseen (k := ((x.fdiv 27648).fmod 55).toNat - 1) (by omega)
      rw [← e3] at hr
      have hl : (chS c).length = 1 := rfl
      exact ⟨s ++ chS c, _, (unseen_piece hs hc).1, l_next tl (l_next tg (l_ret (s_ret (e_iff (t_cmp rfl (e_name rfl) (e_const rfl) (by rw [eq_int]; simp [ht])) (e_bin (e_name (vw_dat h1')) (e_call rfl g_unseen (es_cons (e_bin (e_name rfl) (e_const rfl) rfl) es_nil) ((f1_unseen _).trans hr)) (bin_strs (by omega)))))))⟩
theorem piece_join {x : Int} {ρ : Ro2} (hx : ρ (Str.ofString "x") = some (.dat (.int x))) (hword : ρ (Str.ofString "word") = some (.dat (.str (wd x)))) :
    exS F1 58 (scopeOf st_piece) ((bodyOf st_piece).getD 1 default) (ρ, []) = some (.next, put2 ρ (Str.ofString "piece") (.dat (.str (joined x x))), []) := by
  obtain ⟨hw1, hw2⟩ := wd_letters x
  have hlen : (wd x).length = (wd x).cps.toList.length := rfl
  have hs : (signs x x).map chS = (List.range (wd x).length).map fun k => chS (signC ((wd x).cps.toList.getD k 0) (fmN x k)) := List.map_map
  have hn : (((signs x x).map chS).map PyData.str).length ≤ 1000000 := by rw [List.length_map, List.length_map, signs, List.length_map, List.length_range]; omega
  rw [← join_signs]
  refine s_assign rfl rfl rfl rfl (v_np rfl (e_join rfl (e_comp (xs := rangeD 0 ((wd x).length : Nat)) rfl (i_range1 rfl (es_cons (e_call rfl g_len (es_cons (e_name (np_dat hword)) es_nil) ((f1_len _).trans (blt_len_str (by omega)))) es_nil) (by omega) (by omega)) ?_ hn) (strsD_map _) (joinOk_chS (by rw [signs, List.length_map, List.length_range]; omega))))
  rw [rangeD0, hs]
  refine catL_all (k := .str) fun k hk => ?_
  have hk := List.mem_range.mp hk
  have hm : (wd x).cps.toList[k]'hk ∈ letters := hw1 _ (List.getElem_mem _)
  refine g_one rfl ts_nil (e_call rfl g_sign (es_cons (e_sub (e_name (np_dat hword)) (e_name rfl) (idx_str hk (by omega))) (es_cons (e_bin (e_bin (e_bin (e_name (np_dat hx)) (e_const rfl) (bin_fdiv (by decide))) (e_bin (e_const rfl) (e_name rfl) (bin_pow (by omega) (by decide))) (bin_fdiv (pow12 (by omega)))) (e_const rfl) (bin_mod (by decide))) es_nil)) ((f1_sign _).trans ?_))
  have e := fmN_eq x k
  unfold form at e
  rw [e, run_sign hm (fmN_lt x k)]
  simp [List.getD_eq_getElem?_getD, List.getElem?_eq_getElem hk]
theorem run_piece (x : Int) : ∃ s, PieceOf (wd x) s ∧ runF F1 st_piece pPiece [.int x] = some (.str s) := by
  by_cases h : (x.fdiv 8).fmod 2 = 1
  · obtain ⟨r, ρ', h1, h2⟩ := piece_rest (mid_lig x) (ρ := put2 (put2 (put2 (bindAll pPiece [.int x] fun _ => none) (Str.ofString "word") (.dat (.str (wd x)))) (Str.ofString "piece") (.dat (.str (joined x x)))) (Str.ofString "piece") (.dat (.str (chS (ligL.getD (x.fmod 8).toNat 0))))) (x := x) rfl rfl
    refine ⟨r, h1, run_of rfl (l_next (s_assign rfl rfl rfl rfl (v_np rfl (e_call rfl g_word (es_cons (e_name rfl) es_nil) ((f1_word _).trans (run_word x))))) (l_next (piece_join rfl rfl) (l_next (s_ift (t_cmp rfl (e_bin (e_bin (e_name rfl) (e_const rfl) (bin_fdiv (by decide))) (e_const rfl) (bin_mod (by decide))) (e_const rfl) (by rw [eq_int, h]; rfl)) (l_next (s_assign rfl rfl rfl rfl (v_np rfl (e_sub (e_const rfl) (e_bin (e_name rfl) (e_const rfl) (bin_mod (by decide))) (lig_idx x)))) l_nil)) h2)))⟩
  · obtain ⟨r, ρ', h1, h2⟩ := piece_rest (mid_signs x x) (ρ := put2 (put2 (bindAll pPiece [.int x] fun _ => none) (Str.ofString "word") (.dat (.str (wd x)))) (Str.ofString "piece") (.dat (.str (joined x x)))) (x := x) rfl rfl
    refine ⟨r, h1, run_of rfl (l_next (s_assign rfl rfl rfl rfl (v_np rfl (e_call rfl g_word (es_cons (e_name rfl) es_nil) ((f1_word _).trans (run_word x))))) (l_next (piece_join rfl rfl) (l_next (s_iff (t_cmp rfl (e_bin (e_bin (e_name rfl) (e_const rfl) (bin_fdiv (by decide))) (e_const rfl) (bin_mod (by decide))) (e_const rfl) (by rw [eq_int]; simp [h])) l_nil) h2)))⟩
theorem run_prepared {w s : Str} (hw : w.length ≤ 1000) (h : PieceOf w s) : runF F1 st_prepared pPrep [.str s] = some (.str w) := by
  rw [run_prep s (by have := h.len; omega) (joinOk_small ?_)]
  · congr 2
    exact str_ext ((join_cps _).trans h.prep)
  · have e := congrArg List.length h.prep
    rw [List.length_flatMap] at e
    have e2 : w.cps.toList.length = w.length := rfl
    have e3 : (prepL s.cps.toList).map (·.length) = (prepL s.cps.toList).map fun a => a.cps.toList.length := rfl
    rw [e3, e, e2]; omega
end
end Mine
end SPI
section SPJ
open PySem PySem.W PyProof.Rows PySem.Calls
set_option maxRecDepth 100000
namespace Mine
noncomputable section
noncomputable def ltD : PyData → PyData → Bool
  | .str x, .str y => ltS x y
  | .int x, .int y => decide (x < y)
  | _, _ => false
noncomputable def sameK : PyData → PyData → Bool
  | .str _, .str _ => true
  | .int _, .int _ => true
  | _, _ => false
theorem cmp_lt {a b : PyData} (h : sameK a b = true) : cmpD .Lt a b = some (ltD a b) := by
  cases a <;> cases b <;> first | rfl | (simp [sameK] at h)
theorem cmp_gt {a b : PyData} (h : sameK a b = true) : cmpD .Gt a b = some (ltD b a) := by
  cases a <;> cases b <;> first | rfl | (simp [sameK] at h)
noncomputable def keyD (k : Nat × Int) : PyData := .tuple [.int k.1, .int k.2]
noncomputable def cmpK (L R : List PyData) : List (Nat × Int) → Option Int
  | [] => none
  | (i, d) :: ks => if ltD (L.getD i .none) (R.getD i .none) = true then some (-d) else if ltD (R.getD i .none) (L.getD i .none) = true then some d else cmpK L R ks
theorem idx_tuple {xs : List PyData} {k : Nat} (h : k < xs.length) (hz : xs.length ≤ 1000000) : idxD (.tuple xs) (.int k) = some (xs.getD k .none) := by
  simp only [idxD]
  rw [if_pos (by omega), seqIndex_nat h]
  simp [List.getElem?_eq_getElem h]
theorem idx_list {xs : List PyData} {k : Nat} (h : k < xs.length) (hz : xs.length ≤ 1000000) : idxD (.list xs) (.int k) = some (xs.getD k .none) := by
  simp only [idxD]
  rw [if_pos (by omega), seqIndex_nat h]
  simp [List.getElem?_eq_getElem h]
noncomputable abbrev cmpFor : Stmt := (bodyOf st_tc_compare).getD 0 default
noncomputable def forTg : Stmt → Expr
  | .For t _ _ _ _ => t
  | _ => default
noncomputable def forBody : Stmt → List Stmt
  | .For _ _ b _ _ => b
  | _ => []
theorem cmp_for {F : Fn} {n : Nat} {L R : List PyData} (hL : L.length ≤ 1000000) (hR : R.length ≤ 1000000) : ∀ {ks : List (Nat × Int)} {ρ : Ro2}, (∀ k ∈ ks, k.1 < L.length ∧ k.1 < R.length ∧ sameK (L.getD k.1 .none) (R.getD k.1 .none) = true) →
    ρ sLeft = some (.dat (.tuple L)) → ρ sRight = some (.dat (.tuple R)) →
    ∃ s', forL (forF F (n + 10) (scopeOf st_tc_compare) (forTg cmpFor) (forBody cmpFor)) (ks.map keyD) (ρ, []) = some (match cmpK L R ks with | some c => .ret (.int c) | none => .next, s')
  | [], ρ, _, _, _ => ⟨(ρ, []), rfl⟩
  | (i, d) :: ks, ρ, hk, h1, h2 => by
    obtain ⟨k1, k2, k3⟩ := hk (i, d) List.mem_cons_self
    simp only at k1 k2 k3
    generalize ha : L.getD i .none = a at k3
    generalize hb : R.getD i .none = b at k3
    have il : idxD (.tuple L) (.int i) = some a := by rw [idx_tuple k1 hL, ha]
    have ir : idxD (.tuple R) (.int i) = some b := by rw [idx_tuple k2 hR, hb]
    have c1 := cmp_lt k3
    have c2 := cmp_gt k3
    have g1 : ∀ x, put2 (put2 ρ (Str.ofString "index") (.dat (.int i))) (Str.ofString "direction") x sLeft = some (.dat (.tuple L)) := fun _ => h1
    have g2 : ∀ x y, put2 (put2 (put2 ρ (Str.ofString "index") (.dat (.int i))) (Str.ofString "direction") x) (Str.ofString "l") y sRight = some (.dat (.tuple R)) := fun _ _ => h2
    simp only [List.map_cons]
    unfold cmpK
    rw [ha, hb]
    have s1 : ∀ x, exS F (n + 9) (scopeOf st_tc_compare) ((forBody cmpFor).getD 0 default) (put2 (put2 ρ (Str.ofString "index") (.dat (.int i))) (Str.ofString "direction") x, []) = some (.next, put2 (put2 (put2 ρ (Str.ofString "index") (.dat (.int i))) (Str.ofString "direction") x) (Str.ofString "l") (.dat a), []) := fun x =>
      s_asub rfl (pa_dat (g1 x)) (v_np rfl (e_sub (e_name (np_dat (g1 x))) (e_name rfl) il))
    have s2 : ∀ x, exS F (n + 8) (scopeOf st_tc_compare) ((forBody cmpFor).getD 1 default) (put2 (put2 (put2 ρ (Str.ofString "index") (.dat (.int i))) (Str.ofString "direction") x) (Str.ofString "l") (.dat a), []) = some (.next, put2 (put2 (put2 (put2 ρ (Str.ofString "index") (.dat (.int i))) (Str.ofString "direction") x) (Str.ofString "l") (.dat a)) (Str.ofString "r") (.dat b), []) := fun x =>
      s_asub rfl (pa_dat (g2 x (.dat a))) (v_np rfl (e_sub (e_name (np_dat (g2 x (.dat a)))) (e_name rfl) ir))
    cases e1 : ltD a b with
    | true =>
      rw [e1] at c1
      exact ⟨_, f_ret (Option.bind_eq_some_iff.mpr ⟨_, rfl, l_next (s1 _) (l_next (s2 _) (l_ret (s_ift (t_cmp rfl (e_name rfl) (e_name rfl) c1) (l_ret (s_ret (e_neg (e_name rfl)))))))⟩)⟩
    | false =>
      rw [e1] at c1
      cases e2 : ltD b a with
      | true =>
        rw [e2] at c2
        exact ⟨_, f_ret (Option.bind_eq_some_iff.mpr ⟨_, rfl, l_next (s1 _) (l_next (s2 _) (l_next (s_iff (t_cmp rfl (e_name rfl) (e_name rfl) c1) l_nil) (l_ret (s_ift (t_cmp rfl (e_name rfl) (e_name rfl) c2) (l_ret (s_ret (e_name rfl)))))))⟩)⟩
      | false =>
        rw [e2] at c2
        obtain ⟨ρ', h⟩ := cmp_for (F := F) (n := n) hL hR (ks := ks) (ρ := put2 (put2 (put2 (put2 ρ (Str.ofString "index") (.dat (.int i))) (Str.ofString "direction") (.dat (.int d))) (Str.ofString "l") (.dat a)) (Str.ofString "r") (.dat b)) (fun k h => hk k (List.mem_cons_of_mem _ h)) h1 h2
        refine ⟨ρ', ?_⟩
        simp only [Bool.false_eq_true, if_false]
        exact f_next (Option.bind_eq_some_iff.mpr ⟨_, rfl, l_next (s1 _) (l_next (s2 _) (l_next (s_iff (t_cmp rfl (e_name rfl) (e_name rfl) c1) l_nil) (l_next (s_iff (t_cmp rfl (e_name rfl) (e_name rfl) c2) l_nil) l_nil)))⟩) h
theorem items_list {xs : List PyData} (h : xs.length ≤ 1000000) : itemsD (.list xs) = some xs := if_pos h
theorem run_cmp {F : Fn} {L R : List PyData} (hL : L.length ≤ 1000000) (hR : R.length ≤ 1000000) {ks : List (Nat × Int)} (hz : ks.length ≤ 1000000) (hk : ∀ k ∈ ks, k.1 < L.length ∧ k.1 < R.length ∧ sameK (L.getD k.1 .none) (R.getD k.1 .none) = true) :
    runCmp F [.list (ks.map keyD), .tuple L, .tuple R] = some (.int ((cmpK L R ks).getD 0)) := by
  unfold runCmp
  obtain ⟨ρ', h⟩ := cmp_for (F := F) (n := 48) hL hR (ρ := roCmp (.list (ks.map keyD)) (.tuple L) (.tuple R)) hk rfl rfl
  have hi : (ks.map keyD).length ≤ 1000000 := by rw [List.length_map]; exact hz
  have hff : forFit (forTg cmpFor) (ks.map keyD) = true := by
    show ((ks.map keyD).all fun d => match d with | .list _ => false | _ => true) = true
    rw [List.all_map]
    exact List.all_eq_true.mpr fun _ _ => rfl
  cases e : cmpK L R ks with
  | some c =>
    rw [e] at h
    have g : exL F 60 (scopeOf st_tc_compare) (bodyOf st_tc_compare) (roCmp (.list (ks.map keyD)) (.tuple L) (.tuple R), []) = some (.ret (.int c), ρ') :=
      l_ret (s_for (i_val rfl (e_attr rfl) (items_list hi)) hff h)
    simp only [g]; rfl
  | none =>
    rw [e] at h
    have g : exL F 60 (scopeOf st_tc_compare) (bodyOf st_tc_compare) (roCmp (.list (ks.map keyD)) (.tuple L) (.tuple R), []) = some (.ret (.int 0), ρ') :=
      l_next (s_for (i_val rfl (e_attr rfl) (items_list hi)) hff h) (l_ret (s_ret (e_const rfl)))
    simp only [g]; rfl
noncomputable def spotOf (gt : Nat → Nat → Bool) (done : List Nat) (p : Nat) : Nat → Nat
  | 0 => 0
  | s + 1 => if gt (done.getD s 0) p = true then spotOf gt done p s else s + 1
noncomputable def insAt (gt : Nat → Nat → Bool) (done : List Nat) (p : Nat) : List Nat := done.take (spotOf gt done p done.length) ++ [p] ++ done.drop (spotOf gt done p done.length)
noncomputable def isort (gt : Nat → Nat → Bool) (l : List Nat) : List Nat := l.foldl (insAt gt) []
noncomputable def natsD (l : List Nat) : List PyData := l.map fun i => .int (i : Nat)
noncomputable def rowGt (rows : List (List PyData)) (ks : List (Nat × Int)) (p q : Nat) : Bool := decide ((cmpK (rows.getD p []) (rows.getD q []) ks).getD 0 = 1)
theorem sliceL_upto {xs : List PyData} {b : Nat} (hb : b ≤ xs.length) : sliceL xs none (some b) none = xs.take b := by
  have : sliceL xs none (some b) none = (sliceRange 0 b 1).filterMap (xs[·]?) := by
    unfold sliceL
    have e : sliceBounds none (some (b : Int)) none xs.length = (0, (b : Int), 1) := by
      unfold sliceBounds
      simp
      omega
    rw [e]
  rw [this]
  have e := sliceRange_one 0 b
  have e' : ((0 : Nat) : Int) = 0 := rfl
  rw [e'] at e
  rw [e]
  have := pick_run xs.toArray 0 (b - 0)
  simp at this ⊢
  exact this
theorem sliceL_from {xs : List PyData} {a : Nat} (ha : a ≤ xs.length) : sliceL xs (some a) none none = xs.drop a := by
  have : sliceL xs (some a) none none = (sliceRange a xs.length 1).filterMap (xs[·]?) := by
    unfold sliceL
    have e : sliceBounds (some (a : Int)) none none xs.length = ((a : Int), (xs.length : Int), 1) := by
      unfold sliceBounds
      simp
      omega
    rw [e]
  rw [this, sliceRange_one]
  have := pick_run xs.toArray a (xs.length - a)
  simp at this ⊢
  rw [this]
  exact List.take_of_length_le (by simp)
end
end Mine
end SPJ
section SPK
open PySem PySem.W PyProof.Rows PySem.Calls
set_option maxRecDepth 100000
namespace Mine
noncomputable section
theorem f1_tc (l : List PyData) : F1 sTC l = runCmp F0 l := by unfold F1 withCmp; rw [if_pos rfl]
noncomputable abbrev sPlaces : Str := Str.ofString "places"
noncomputable abbrev sRows : Str := Str.ofString "rows"
noncomputable abbrev sKeys : Str := Str.ofString "keys"
noncomputable abbrev sOrder : Str := Str.ofString "order"
noncomputable abbrev sDone : Str := Str.ofString "done"
noncomputable abbrev sPlace : Str := Str.ofString "place"
noncomputable abbrev sSpot : Str := Str.ofString "spot"
noncomputable abbrev sorFor : Stmt := (bodyOf st_sorted).getD 2 default
noncomputable abbrev sorWh : Stmt := (forBody sorFor).getD 1 default
noncomputable def whTest : Stmt → Expr
  | .While t _ _ _ => t
  | _ => default
noncomputable def whBody : Stmt → List Stmt
  | .While _ b _ _ => b
  | _ => []
structure RowsOk (rows : List (List PyData)) (ks : List (Nat × Int)) : Prop where
  len : rows.length ≤ 1000
  rlen : ∀ p < rows.length, (rows.getD p []).length ≤ 1000
  kl : ks.length ≤ 1000
  ok : ∀ p < rows.length, ∀ q < rows.length, ∀ k ∈ ks, k.1 < (rows.getD p []).length ∧ sameK ((rows.getD p []).getD k.1 .none) ((rows.getD q []).getD k.1 .none) = true
theorem rows_cmp {rows : List (List PyData)} {ks : List (Nat × Int)} (h : RowsOk rows ks) {p q : Nat} (hp : p < rows.length) (hq : q < rows.length) :
    F1 sTC [.list (ks.map keyD), .tuple (rows.getD p []), .tuple (rows.getD q [])] = some (.int ((cmpK (rows.getD p []) (rows.getD q []) ks).getD 0)) := by
  rw [f1_tc]
  have := h.rlen p hp
  have := h.rlen q hq
  have := h.kl
  exact run_cmp (by omega) (by omega) (by omega) fun k hk => ⟨(h.ok p hp q hq k hk).1, (h.ok q hq p hp k hk).1, (h.ok p hp q hq k hk).2⟩
theorem natsD_getD {l : List Nat} {i : Nat} (h : i < l.length) : (natsD l).getD i .none = .int (l.getD i 0 : Nat) := by
  simp [natsD, List.getD_eq_getElem?_getD, List.getElem?_eq_getElem h]
theorem idx_nats {l : List Nat} {i : Nat} (h : i < l.length) (hz : l.length ≤ 1000000) : idxD (.list (natsD l)) (.int i) = some (.int (l.getD i 0 : Nat)) := by
  rw [idx_list (by simpa [natsD] using h) (by simpa [natsD] using hz), natsD_getD h]
theorem idx_rows {rows : List (List PyData)} {i : Nat} (h : i < rows.length) (hz : rows.length ≤ 1000000) : idxD (.list (rows.map .tuple)) (.int i) = some (.tuple (rows.getD i [])) := by
  rw [idx_list (by simpa using h) (by simpa using hz)]
  simp [List.getD_eq_getElem?_getD, List.getElem?_eq_getElem h]
structure SorEnv (ρ : Ro2) (rows : List (List PyData)) (ks : List (Nat × Int)) (done : List Nat) : Prop where
  rows : ρ sRows = some (.dat (.list (rows.map .tuple)))
  order : ρ sOrder = some (.inst (.list (ks.map keyD)))
  done : ρ sDone = some (.dat (.list (natsD done)))
theorem sor_while {rows : List (List PyData)} {ks : List (Nat × Int)} (H : RowsOk rows ks) {done : List Nat} (hd : ∀ p ∈ done, p < rows.length) (hdl : done.length ≤ 1000) {p : Nat} (hp : p < rows.length) {n : Nat} :
    ∀ (s : Nat) (fuel : Nat) (ρ : Ro2), s < fuel → s ≤ done.length → SorEnv ρ rows ks done → ρ sPlace = some (.dat (.int p)) → ρ sSpot = some (.dat (.int s)) →
    ∃ ρ', whL (whT F1 (n + 10) (scopeOf st_sorted) (whTest sorWh)) (exL F1 (n + 10) (scopeOf st_sorted) (whBody sorWh)) fuel (ρ, []) = some (.next, ρ', []) ∧ SorEnv ρ' rows ks done ∧ ρ' sPlace = some (.dat (.int p)) ∧ ρ' sSpot = some (.dat (.int (spotOf (rowGt rows ks) done p s : Nat)))
  | 0, fuel + 1, ρ, _, _, E, hpl, hs => by
    refine ⟨ρ, w_stop (t_andf (t_cmp rfl (e_name (vw_dat hs)) (e_const rfl) rfl)), E, hpl, hs⟩
  | s + 1, fuel + 1, ρ, hf, hl, E, hpl, hs => by
    have hsd : s < done.length := by omega
    have hgd : done.getD s 0 < rows.length := by
      rw [List.getD_eq_getElem?_getD, List.getElem?_eq_getElem hsd]
      exact hd _ (List.getElem_mem _)
    have hr := H.len
    have e1 : ((s + 1 : Nat) : Int) - 1 = (s : Nat) := by omega
    have t0 : cmpD .Gt (.int ((s + 1 : Nat) : Int)) (.int 0) = some true := by
      show some (decide ((0 : Int) < ((s + 1 : Nat) : Int))) = _
      rw [decide_eq_true (by omega)]
    have tt : whT F1 (n + 10) (scopeOf st_sorted) (whTest sorWh) (ρ, []) = some (rowGt rows ks (done.getD s 0) p) := by
      refine t_andt (t_cmp rfl (e_name (vw_dat hs)) (e_const rfl) t0) (t_cmp rfl (e_compare rfl (vw_inst E.order) rfl (es_cons (e_sub (e_name (vw_dat E.rows)) (e_sub (e_name (vw_dat E.done)) (e_bin (e_name (vw_dat hs)) (e_const rfl) rfl) ?_) (idx_rows hgd (by omega))) (es_cons (e_sub (e_name (vw_dat E.rows)) (e_name (vw_dat hpl)) (idx_rows hp (by omega))) es_nil)) (rows_cmp H hgd hp)) (e_const rfl) ?_)
      · rw [e1]; exact idx_nats hsd (by omega)
      · rw [eq_int]; rfl
    cases g : rowGt rows ks (done.getD s 0) p with
    | false =>
      rw [g] at tt
      refine ⟨ρ, w_stop tt, E, hpl, ?_⟩
      simp only [spotOf, g, Bool.false_eq_true, if_false]; exact hs
    | true =>
      rw [g] at tt
      obtain ⟨ρ', h1, h2, h3, h4⟩ := sor_while H hd hdl hp (n := n) s fuel (put2 ρ sSpot (.dat (.int s))) (by omega) (by omega) ⟨E.rows, E.order, E.done⟩ hpl rfl
      refine ⟨ρ', w_go tt (l_next (s_assign rfl rfl rfl rfl (v_np rfl (e_bin (e_name (np_dat hs)) (e_const rfl) (by show some (PyData.int (((s + 1 : Nat) : Int) - 1)) = _; rw [e1])))) l_nil) h1, h2, h3, ?_⟩
      simp only [spotOf, g, if_true]; exact h4
end
end Mine
end SPK
section SPL
open PySem PySem.W PyProof.Rows PySem.Calls
set_option maxRecDepth 100000
namespace Mine
noncomputable section
theorem spotOf_le (gt : Nat → Nat → Bool) (done : List Nat) (p : Nat) : ∀ s, spotOf gt done p s ≤ s
  | 0 => Nat.le_refl 0
  | s + 1 => by
    unfold spotOf
    split
    · exact Nat.le_succ_of_le (spotOf_le gt done p s)
    · exact Nat.le_refl _
theorem insAt_perm (gt : Nat → Nat → Bool) (done : List Nat) (p : Nat) : (insAt gt done p).Perm (p :: done) := by
  unfold insAt
  generalize spotOf gt done p done.length = k
  have : (done.take k ++ [p] ++ done.drop k).Perm ([p] ++ (done.take k ++ done.drop k)) := by
    rw [← List.append_assoc]
    exact List.Perm.append_right _ List.perm_append_comm
  rw [List.take_append_drop] at this
  exact this
theorem natsD_append (a b : List Nat) : natsD (a ++ b) = natsD a ++ natsD b := by simp [natsD]
theorem natsD_length (a : List Nat) : (natsD a).length = a.length := by simp [natsD]
theorem bin_list {a b : List PyData} (h : a.length + b.length ≤ 1000000) : binD .Add (.list a) (.list b) = some (.list (a ++ b)) := by
  show (if a.length + b.length ≤ 1000000 then some (PyData.list (a ++ b)) else none) = _
  rw [if_pos h]
theorem sor_for {rows : List (List PyData)} {ks : List (Nat × Int)} (H : RowsOk rows ks) {n : Nat} :
    ∀ (ps : List Nat) (done : List Nat) (ρ : Ro2), (∀ p ∈ ps, p < rows.length) → (∀ p ∈ done, p < rows.length) → ps.length + done.length ≤ n → n ≤ 900 → SorEnv ρ rows ks done →
    ∃ ρ', forL (forF F1 (n + 20) (scopeOf st_sorted) (forTg sorFor) (forBody sorFor)) (natsD ps) (ρ, []) = some (.next, ρ', []) ∧ SorEnv ρ' rows ks (ps.foldl (insAt (rowGt rows ks)) done)
  | [], done, ρ, _, _, _, _, E => ⟨ρ, rfl, E⟩
  | p :: ps, done, ρ, hp, hd, hl, hn, E => by
    have hpp := hp p List.mem_cons_self
    simp only [List.length_cons] at hl
    obtain ⟨ρ1, w1, E1, w2, w3⟩ := sor_while H hd (by omega) hpp (n := n + 7) done.length (n + 17) (put2 (put2 ρ sPlace (.dat (.int p))) sSpot (.dat (.int done.length))) (by omega) (Nat.le_refl _) ⟨E.rows, E.order, E.done⟩ rfl rfl
    have hsp := spotOf_le (rowGt rows ks) done p done.length
    have hperm := insAt_perm (rowGt rows ks) done p
    have hlen := hperm.length_eq
    simp only [List.length_cons] at hlen
    have hval : PyData.list (natsD (done.take (spotOf (rowGt rows ks) done p done.length)) ++ [.int p] ++ natsD (done.drop (spotOf (rowGt rows ks) done p done.length))) = .list (natsD (insAt (rowGt rows ks) done p)) := by
      unfold insAt; rw [natsD_append, natsD_append]; rfl
    obtain ⟨ρ2, f1, E2⟩ := sor_for H (n := n) ps (insAt (rowGt rows ks) done p) (put2 ρ1 sDone (.dat (.list (natsD (insAt (rowGt rows ks) done p))))) (fun q hq => hp q (List.mem_cons_of_mem _ hq)) (fun q hq => by
      rcases List.mem_cons.mp (hperm.mem_iff.mp hq) with rfl | h
      · exact hpp
      · exact hd q h) (by omega) hn ⟨E1.rows, E1.order, rfl⟩
    have hd0 : put2 ρ sPlace (.dat (.int p)) sDone = some (.dat (.list (natsD done))) := E.done
    refine ⟨ρ2, f_next (Option.bind_eq_some_iff.mpr ⟨_, rfl, l_next (s_assign rfl rfl rfl rfl (v_np rfl (e_call rfl g_len (es_cons (e_name (np_dat hd0)) es_nil) ((f1_len _).trans ((blt_len_list (by rw [natsD_length]; omega)).trans (by rw [natsD_length]))))))
      (l_next (s_while w1) (l_next (s_assign rfl rfl rfl rfl (v_np rfl (e_bin (e_bin (e_slice (e_name (np_dat E1.done)) ep_none (ep_some (e_name (np_dat w3))) ep_none (by rw [natsD_length]; omega) (by simp)) (e_list (es_cons (e_name (np_dat w2)) es_nil) (by simp)) (bin_list ?_)) (e_slice (e_name (np_dat E1.done)) (ep_some (e_name (np_dat w3))) ep_none ep_none (by rw [natsD_length]; omega) (by simp)) ?_))) l_nil))⟩) f1, E2⟩
    · rw [sliceL_upto (by rw [natsD_length]; exact hsp), List.length_take, natsD_length]; simp; omega
    · rw [sliceL_upto (by rw [natsD_length]; exact hsp), sliceL_from (by rw [natsD_length]; exact hsp)]
      refine (bin_list ?_).trans ?_
      · simp [natsD_length]; omega
      · have t1 : (natsD done).take (spotOf (rowGt rows ks) done p done.length) = natsD (done.take (spotOf (rowGt rows ks) done p done.length)) := by simp [natsD, List.map_take]
        have t2 : (natsD done).drop (spotOf (rowGt rows ks) done p done.length) = natsD (done.drop (spotOf (rowGt rows ks) done p done.length)) := by simp [natsD, List.map_drop]
        rw [t1, t2, hval]
theorem rangeD_nats (n : Nat) : rangeD 0 n = natsD (List.range n) := rangeD0 n
theorem run_sorted {rows : List (List PyData)} {ks : List (Nat × Int)} (H : RowsOk rows ks) (hl : rows.length ≤ 20) :
    runF F1 st_sorted pSorted [.list (rows.map .tuple), .list (ks.map keyD)] = some (.list (natsD (isort (rowGt rows ks) (List.range rows.length)))) := by
  obtain ⟨ρ', f, E⟩ := sor_for H (n := 36) (List.range rows.length) [] (put2 (put2 (bindAll pSorted [.list (rows.map .tuple), .list (ks.map keyD)] fun _ => none) sOrder (.inst (.list (ks.map keyD)))) sDone (.dat (.list []))) (fun p h => List.mem_range.mp h) (fun _ h => nomatch h) (by simp; omega) (by omega) ⟨rfl, rfl, rfl⟩
  exact run_of rfl (l_next (s_make rfl rfl rfl (es_cons (e_name rfl) es_nil)) (l_next (s_assign rfl rfl rfl rfl (v_np rfl (e_list es_nil (by decide)))) (l_next (s_for (by rw [← rangeD_nats] at f; exact i_range1 rfl (es_cons (e_call rfl g_len (es_cons (e_name rfl) es_nil) ((f1_len _).trans ((blt_len_list (by rw [List.length_map]; omega)).trans (by rw [List.length_map])))) es_nil) (by omega) (by omega)) rfl (by rw [rangeD_nats]; exact f)) (l_ret (s_ret (e_name (vw_dat E.done)))))))
end
end Mine
end SPL
section SPM
open PySem PySem.W PyProof.Rows PySem.Calls
set_option maxRecDepth 100000
namespace Mine
section
variable {α : Type}
noncomputable def putKM (gt : α → α → Bool) (dflt place : α) : α → List (List α × List α) → List (List α × List α)
  | m, [] => [([m], [place])]
  | m, (line, md) :: rest =>
    if line.findIdx (fun x => gt x m) = line.length then (line ++ [m], md ++ [place]) :: rest
    else (line.set (line.findIdx fun x => gt x m) m, md) :: putKM gt dflt place (line.getD (line.findIdx fun x => gt x m) dflt) rest
noncomputable def putIn (gt : α → α → Bool) (dflt : α) (places : List α) : List (List α × List α) := places.foldl (fun T p => putKM gt dflt p p T) []
end
noncomputable def Tok (R N : Nat) (T : List (List Nat × List Nat)) : Prop := T.length ≤ N ∧ ∀ t ∈ T, t.1.length ≤ N ∧ t.2.length ≤ N ∧ ∀ p ∈ t.1, p < R
theorem putKM_len {gt : Nat → Nat → Bool} {place : Nat} : ∀ {m : Nat} {T : List (List Nat × List Nat)}, (putKM gt 0 place m T).length ≤ T.length + 1
  | _, [] => Nat.le_refl _
  | m, (line, md) :: rest => by
    unfold putKM
    split
    · simp
    · have := putKM_len (gt := gt) (place := place) (m := line.getD (line.findIdx fun x => gt x m) 0) (T := rest)
      simp only [List.length_cons]; omega
theorem getD_mem {l : List Nat} {i : Nat} (h : i < l.length) (d : Nat) : l.getD i d ∈ l := by
  rw [List.getD_eq_getElem?_getD, List.getElem?_eq_getElem h, Option.getD_some]
  exact List.getElem_mem _
theorem findIdx_lt {l : List Nat} {p : Nat → Bool} (h : ¬ l.findIdx p = l.length) : l.findIdx p < l.length := by
  have := List.findIdx_le_length (xs := l) (p := p)
  omega
theorem putKM_ok {gt : Nat → Nat → Bool} {place R N : Nat} (hN : 0 < N + 1) : ∀ {m : Nat} {T : List (List Nat × List Nat)}, m < R → (∀ t ∈ T, t.1.length ≤ N ∧ t.2.length ≤ N ∧ ∀ p ∈ t.1, p < R) → ∀ t ∈ putKM gt 0 place m T, t.1.length ≤ N + 1 ∧ t.2.length ≤ N + 1 ∧ ∀ p ∈ t.1, p < R
  | m, [], hm, _, t, ht => by
    unfold putKM at ht
    rw [List.mem_singleton.mp ht]
    refine ⟨by simp, by simp, fun p hp => ?_⟩
    rw [List.mem_singleton.mp hp]; exact hm
  | m, (line, md) :: rest, hm, h, t, ht => by
    obtain ⟨h1, h2, h3⟩ := h (line, md) List.mem_cons_self
    simp only at h1 h2 h3
    have hr : ∀ t ∈ rest, t.1.length ≤ N ∧ t.2.length ≤ N ∧ ∀ p ∈ t.1, p < R := fun t ht => h t (List.mem_cons_of_mem _ ht)
    unfold putKM at ht
    split at ht
    · rcases List.mem_cons.mp ht with rfl | ht
      · refine ⟨by simp; omega, by simp; omega, fun p hp => ?_⟩
        rcases List.mem_append.mp hp with hp | hp
        · exact h3 p hp
        · rw [List.mem_singleton.mp hp]; exact hm
      · obtain ⟨a, b, c⟩ := hr t ht
        exact ⟨by omega, by omega, c⟩
    · rename_i hne
      rcases List.mem_cons.mp ht with rfl | ht
      · refine ⟨by simp; omega, by simp; omega, fun p hp => ?_⟩
        rcases List.mem_or_eq_of_mem_set hp with hp | rfl
        · exact h3 p hp
        · exact hm
      · exact putKM_ok hN (h3 _ (getD_mem (findIdx_lt hne) 0)) hr t ht
theorem Tok.put {gt : Nat → Nat → Bool} {place R N m : Nat} {T : List (List Nat × List Nat)} (h : Tok R N T) (hm : m < R) : Tok R (N + 1) (putKM gt 0 place m T) :=
  ⟨by have := putKM_len (gt := gt) (place := place) (m := m) (T := T); have := h.1; omega, putKM_ok (Nat.succ_pos _) hm h.2⟩
noncomputable def dl (l : List Nat) : List It := l.map fun i => .d (.int (i : Nat))
noncomputable def sigT : List (List Nat × List Nat) → List (List It)
  | [] => []
  | t :: T => dl t.1 :: dl t.2 :: sigT T
noncomputable def ptrs (c n : Nat) : List It := (List.range n).map fun i => .p (2 * i + c)
noncomputable def sig (T : List (List Nat × List Nat)) : Sg := ptrs 2 T.length :: ptrs 3 T.length :: sigT T
theorem sigT_len : ∀ T, (sigT T).length = 2 * T.length
  | [] => rfl
  | t :: T => by simp only [sigT, List.length_cons, sigT_len T]; omega
theorem sig_len (T : List (List Nat × List Nat)) : (sig T).length = 2 * T.length + 2 := by
  simp only [sig, List.length_cons, sigT_len]
theorem sigT_get1 (t : List Nat × List Nat) (rest : List (List Nat × List Nat)) : ∀ pre : List (List Nat × List Nat), (sigT (pre ++ t :: rest))[2 * pre.length]? = some (dl t.1)
  | [] => rfl
  | p :: pre => by
    have e : 2 * (p :: pre).length = 2 * pre.length + 1 + 1 := by simp only [List.length_cons]; omega
    rw [e, List.cons_append]
    simp only [sigT, List.getElem?_cons_succ]
    exact sigT_get1 t rest pre
theorem sigT_get2 (t : List Nat × List Nat) (rest : List (List Nat × List Nat)) : ∀ pre : List (List Nat × List Nat), (sigT (pre ++ t :: rest))[2 * pre.length + 1]? = some (dl t.2)
  | [] => rfl
  | p :: pre => by
    have e : 2 * (p :: pre).length + 1 = 2 * pre.length + 1 + 1 + 1 := by simp only [List.length_cons]; omega
    rw [e, List.cons_append]
    simp only [sigT, List.getElem?_cons_succ]
    exact sigT_get2 t rest pre
theorem sigT_set1 (t : List Nat × List Nat) (a : List Nat) (rest : List (List Nat × List Nat)) : ∀ pre : List (List Nat × List Nat), (sigT (pre ++ t :: rest)).set (2 * pre.length) (dl a) = sigT (pre ++ (a, t.2) :: rest)
  | [] => rfl
  | p :: pre => by
    have e : 2 * (p :: pre).length = 2 * pre.length + 1 + 1 := by simp only [List.length_cons]; omega
    rw [e, List.cons_append, List.cons_append]
    simp only [sigT, List.set_cons_succ]
    rw [sigT_set1 t a rest pre]
theorem sigT_set2 (t : List Nat × List Nat) (a : List Nat) (rest : List (List Nat × List Nat)) : ∀ pre : List (List Nat × List Nat), (sigT (pre ++ t :: rest)).set (2 * pre.length + 1) (dl a) = sigT (pre ++ (t.1, a) :: rest)
  | [] => rfl
  | p :: pre => by
    have e : 2 * (p :: pre).length + 1 = 2 * pre.length + 1 + 1 + 1 := by simp only [List.length_cons]; omega
    rw [e, List.cons_append, List.cons_append]
    simp only [sigT, List.set_cons_succ]
    rw [sigT_set2 t a rest pre]
section
variable {t : List Nat × List Nat} {pre rest : List (List Nat × List Nat)}
theorem sig_get1 : (sig (pre ++ t :: rest))[2 * pre.length + 2]? = some (dl t.1) := by
  simp only [sig, List.getElem?_cons_succ]; exact sigT_get1 t rest pre
theorem sig_get2 : (sig (pre ++ t :: rest))[2 * pre.length + 3]? = some (dl t.2) := by
  have e : 2 * pre.length + 3 = 2 * pre.length + 1 + 1 + 1 := rfl
  rw [e]
  simp only [sig, List.getElem?_cons_succ]; exact sigT_get2 t rest pre
theorem len_same (a : List Nat × List Nat) : (pre ++ a :: rest).length = (pre ++ t :: rest).length := by simp
theorem sig_set1 (a : List Nat) : (sig (pre ++ t :: rest)).set (2 * pre.length + 2) (dl a) = sig (pre ++ (a, t.2) :: rest) := by
  simp only [sig, List.set_cons_succ]
  rw [sigT_set1, len_same (t := t) (a, t.2)]
theorem sig_set2 (a : List Nat) : (sig (pre ++ t :: rest)).set (2 * pre.length + 3) (dl a) = sig (pre ++ (t.1, a) :: rest) := by
  have e : 2 * pre.length + 3 = 2 * pre.length + 1 + 1 + 1 := rfl
  rw [e]
  simp only [sig, List.set_cons_succ]
  rw [sigT_set2, len_same (t := t) (t.1, a)]
end
theorem ptrs_get {c n i : Nat} (h : i < n) : (ptrs c n)[i]? = some (.p (2 * i + c)) := by
  unfold ptrs; simp [h]
theorem ptrs_len {c n : Nat} : (ptrs c n).length = n := by unfold ptrs; simp
theorem ptrs_succ {c n : Nat} : ptrs c n ++ [.p (2 * n + c)] = ptrs c (n + 1) := by
  unfold ptrs; rw [List.range_succ, List.map_append]; rfl
theorem sigT_append : ∀ T, sigT T ++ [[], []] = sigT (T ++ [([], [])])
  | [] => rfl
  | t :: T => by simp only [sigT, List.cons_append, sigT_append T]
theorem sig_new (T : List (List Nat × List Nat)) : ((((sig T).set 0 (ptrs 2 T.length ++ [It.p (sig T).length])) ++ [[]]).set 1 (ptrs 3 T.length ++ [It.p (((sig T).set 0 (ptrs 2 T.length ++ [It.p (sig T).length])) ++ [[]]).length])) ++ [[]] = sig (T ++ [([], [])]) := by
  rw [List.length_append, List.length_set, List.length_singleton, sig_len]
  rw [ptrs_succ, show 2 * T.length + 2 + 1 = 2 * T.length + 3 from rfl, ptrs_succ]
  show ((ptrs 2 (T.length + 1) :: ptrs 3 T.length :: sigT T) ++ [[]]).set 1 _ ++ [[]] = _
  rw [List.cons_append, List.cons_append, List.set_cons_succ, List.set_cons_zero]
  simp only [List.cons_append]
  rw [List.append_assoc]
  show _ :: _ :: (sigT T ++ [[], []]) = _
  rw [sigT_append]
  unfold sig
  rw [List.length_append]
  rfl
theorem mapM_all {α β : Type} {f : α → Option β} {g : α → β} : ∀ {l : List α}, (∀ x ∈ l, f x = some (g x)) → l.mapM f = some (l.map g)
  | [], _ => by simp
  | x :: l, h => by
    rw [List.mapM_cons, h x List.mem_cons_self, mapM_all fun y hy => h y (List.mem_cons_of_mem _ hy)]
    rfl
noncomputable def itD : It → PyData
  | .d x => x
  | .p _ => .none
theorem dl_len (l : List Nat) : (dl l).length = l.length := by simp [dl]
theorem dl_itD (l : List Nat) : (dl l).map itD = natsD l := by simp [dl, natsD, itD, Function.comp_def]
theorem flat_dl (l : List Nat) : (dl l).mapM flatIt = some (natsD l) := by
  rw [mapM_all (g := itD) fun x hx => ?_, dl_itD]
  obtain ⟨i, _, rfl⟩ := List.mem_map.mp hx
  rfl
theorem view_dl (σ : Sg) (l : List Nat) : (dl l).mapM (viewIt σ) = some (natsD l) := by
  rw [mapM_all (g := itD) fun x hx => ?_, dl_itD]
  obtain ⟨i, _, rfl⟩ := List.mem_map.mp hx
  rfl
theorem view_line {σ : Sg} {q : Nat} {l : List Nat} (h : σ[q]? = some (dl l)) : viewP σ q = some (.list (natsD l)) := by
  unfold viewP
  rw [h, Option.bind_some, view_dl]; rfl
noncomputable def rowsD (L : List (List Nat)) : PyData := .list (L.map fun l => .list (natsD l))
theorem sigT_at1 : ∀ {T : List (List Nat × List Nat)} {i : Nat}, i < T.length → (sigT T)[2 * i]? = some (dl (T.getD i ([], [])).1)
  | [], i, h => by simp at h
  | t :: T, 0, _ => rfl
  | t :: T, i + 1, h => by
    have e : 2 * (i + 1) = 2 * i + 1 + 1 := by omega
    rw [e]
    simp only [sigT, List.getElem?_cons_succ]
    rw [sigT_at1 (by simpa using h)]; simp
theorem sigT_at2 : ∀ {T : List (List Nat × List Nat)} {i : Nat}, i < T.length → (sigT T)[2 * i + 1]? = some (dl (T.getD i ([], [])).2)
  | [], i, h => by simp at h
  | t :: T, 0, _ => rfl
  | t :: T, i + 1, h => by
    have e : 2 * (i + 1) + 1 = 2 * i + 1 + 1 + 1 := by omega
    rw [e]
    simp only [sigT, List.getElem?_cons_succ]
    rw [sigT_at2 (by simpa using h)]; simp
theorem range_getD_map {α : Type} {T : List α} {d : α} {β : Type} (f : α → β) : (List.range T.length).map (fun i => f (T.getD i d)) = T.map f := by
  apply List.ext_getElem (by simp)
  intro i h1 h2
  have h3 : i < T.length := by simpa using h1
  simp [List.getD_eq_getElem?_getD, List.getElem?_eq_getElem h3]
theorem view_kept (T : List (List Nat × List Nat)) : viewP (sig T) 0 = some (rowsD (T.map (·.1))) := by
  unfold viewP
  show Option.map _ ((ptrs 2 T.length).mapM (viewIt (sig T))) = _
  rw [ptrs, List.mapM_map, mapM_all (g := fun i => .list (natsD (T.getD i ([], [])).1)) fun i hi => ?_]
  · rw [Option.map_some, rowsD, List.map_map, range_getD_map (f := fun t : List Nat × List Nat => PyData.list (natsD t.1))]
    rfl
  · have hi := List.mem_range.mp hi
    show Option.map _ (((sig T)[2 * i + 2]?).bind _) = _
    have e : (sig T)[2 * i + 2]? = some (dl (T.getD i ([], [])).1) := by
      simp only [sig, List.getElem?_cons_succ]; exact sigT_at1 hi
    rw [e, Option.bind_some, flat_dl]; rfl
theorem view_made (T : List (List Nat × List Nat)) : viewP (sig T) 1 = some (rowsD (T.map (·.2))) := by
  unfold viewP
  show Option.map _ ((ptrs 3 T.length).mapM (viewIt (sig T))) = _
  rw [ptrs, List.mapM_map, mapM_all (g := fun i => .list (natsD (T.getD i ([], [])).2)) fun i hi => ?_]
  · rw [Option.map_some, rowsD, List.map_map, range_getD_map (f := fun t : List Nat × List Nat => PyData.list (natsD t.2))]
    rfl
  · have hi := List.mem_range.mp hi
    show Option.map _ (((sig T)[2 * i + 3]?).bind _) = _
    have e : (sig T)[2 * i + 3]? = some (dl (T.getD i ([], [])).2) := by
      have e' : 2 * i + 3 = 2 * i + 1 + 1 + 1 := rfl
      rw [e']
      simp only [sig, List.getElem?_cons_succ]; exact sigT_at2 hi
    rw [e, Option.bind_some, flat_dl]; rfl
end Mine
end SPM
section SPN
open PySem PySem.W PyProof.Rows PySem.Calls
set_option maxRecDepth 100000
namespace Mine
noncomputable section
noncomputable abbrev sKept : Str := Str.ofString "kept"
noncomputable abbrev sMade : Str := Str.ofString "made"
noncomputable abbrev sMoved : Str := Str.ofString "moved"
noncomputable abbrev sLevel : Str := Str.ofString "level"
noncomputable abbrev sLine : Str := Str.ofString "line"
noncomputable abbrev sPushed : Str := Str.ofString "pushed"
noncomputable abbrev putFor : Stmt := (bodyOf st_put_in).getD 3 default
noncomputable abbrev putWh : Stmt := (forBody putFor).getD 2 default
noncomputable abbrev putWh2 : Stmt := (whBody putWh).getD 3 default
theorem ne_int (a b : Int) : cmpD .NotEq (.int a) (.int b) = some (!(a == b)) := rfl
theorem lt_int' (a b : Int) : cmpD .Lt (.int a) (.int b) = some (decide (a < b)) := rfl
theorem bin_add (a b : Int) : binD .Add (.int a) (.int b) = some (.int (a + b)) := rfl
theorem put_scan {rows : List (List PyData)} {ks : List (Nat × Int)} (H : RowsOk rows ks) {line : List Nat} (hd : ∀ p ∈ line, p < rows.length) (hz : line.length ≤ 1000) {m : Nat} (hm : m < rows.length) {q : Nat} {σ : Sg} (hq : σ[q]? = some (dl line)) {n : Nat} :
    ∀ (j s fuel : Nat) (ρ : Ro2), s + j = line.length → j < fuel → ρ sRows = some (.dat (.list (rows.map .tuple))) → ρ sOrder = some (.inst (.list (ks.map keyD))) → ρ sLine = some (.ptr q) → ρ sMoved = some (.dat (.int m)) → ρ sSpot = some (.dat (.int s)) →
    ∃ ρ', whL (whT F1 (n + 10) (scopeOf st_put_in) (whTest putWh2)) (exL F1 (n + 10) (scopeOf st_put_in) (whBody putWh2)) fuel (ρ, σ) = some (.next, ρ', σ) ∧ (∀ x, x ≠ sSpot → ρ' x = ρ x) ∧ ρ' sSpot = some (.dat (.int (s + (line.drop s).findIdx fun x => rowGt rows ks x m : Nat)))
  | 0, s, fuel + 1, ρ, hj, _, h1, h2, h3, h4, h5 => by
    have e : line.drop s = [] := by rw [List.drop_eq_nil_iff]; omega
    refine ⟨ρ, w_stop (t_andf (t_cmp rfl (e_name (vw_dat h5)) (e_call rfl g_len (es_cons (e_name (vw_ptr h3 (view_line hq))) es_nil) ((f1_len _).trans (blt_len_list (by rw [natsD_length]; omega)))) (by rw [lt_int', natsD_length, decide_eq_false (by omega)]))), fun _ _ => rfl, ?_⟩
    rw [e]; exact h5
  | j + 1, s, fuel + 1, ρ, hj, hf, h1, h2, h3, h4, h5 => by
    have hs : s < line.length := by omega
    have hr := H.len
    have hg := hd _ (getD_mem hs 0)
    have hdrop : line.drop s = line.getD s 0 :: line.drop (s + 1) := by
      rw [List.drop_eq_getElem_cons hs, List.getD_eq_getElem?_getD, List.getElem?_eq_getElem hs]; rfl
    have tt : whT F1 (n + 10) (scopeOf st_put_in) (whTest putWh2) (ρ, σ) = some (!rowGt rows ks (line.getD s 0) m) := by
      refine t_andt (t_cmp rfl (e_name (vw_dat h5)) (e_call rfl g_len (es_cons (e_name (vw_ptr h3 (view_line hq))) es_nil) ((f1_len _).trans (blt_len_list (by rw [natsD_length]; omega)))) (by rw [lt_int', natsD_length, decide_eq_true (by omega)]))
        (t_cmp rfl (e_compare rfl (vw_inst h2) rfl (es_cons (e_sub (e_name (vw_dat h1)) (e_sub (e_name (vw_ptr h3 (view_line hq))) (e_name (vw_dat h5)) (idx_nats hs (by omega))) (idx_rows hg (by omega))) (es_cons (e_sub (e_name (vw_dat h1)) (e_name (vw_dat h4)) (idx_rows hm (by omega))) es_nil)) (rows_cmp H hg hm)) (e_const rfl) ?_)
      rw [ne_int]; rfl
    cases g : rowGt rows ks (line.getD s 0) m with
    | true =>
      rw [g] at tt
      refine ⟨ρ, w_stop tt, fun _ _ => rfl, ?_⟩
      rw [hdrop, List.findIdx_cons, g]; exact h5
    | false =>
      rw [g] at tt
      obtain ⟨ρ', r1, r2, r3⟩ := put_scan H hd hz hm hq (n := n) j (s + 1) fuel (put2 ρ sSpot (.dat (.int (s + 1 : Nat)))) (by omega) (by omega) h1 h2 h3 h4 rfl
      refine ⟨ρ', w_go tt (l_next (s_assign rfl rfl rfl rfl (v_np rfl (e_bin (e_name (np_dat h5)) (e_const rfl) (bin_add _ _)))) l_nil) r1, fun x hx => (r2 x hx).trans (if_neg hx), ?_⟩
      rw [r3, hdrop, List.findIdx_cons, g]
      simp only [cond_false]
      rw [show s + 1 + (line.drop (s + 1)).findIdx (fun x => rowGt rows ks x m) = s + ((line.drop (s + 1)).findIdx (fun x => rowGt rows ks x m) + 1) by omega]
structure PutEnv (ρ : Ro2) (rows : List (List PyData)) (ks : List (Nat × Int)) (place : Nat) : Prop where
  rows : ρ sRows = some (.dat (.list (rows.map .tuple)))
  order : ρ sOrder = some (.inst (.list (ks.map keyD)))
  kept : ρ sKept = some (.ptr 0)
  made : ρ sMade = some (.ptr 1)
  place : ρ sPlace = some (.dat (.int place))
theorem asNat_nat {k : Nat} (h : k < 1000000) : asNat (.int k) = some k := by
  unfold asNat
  simp only
  rw [if_pos (by omega)]
  simp
theorem dl_append (l : List Nat) (m : Nat) : dl l ++ [.d (.int m)] = dl (l ++ [m]) := by simp [dl]
theorem dl_set (l : List Nat) (i m : Nat) : (dl l).set i (.d (.int m)) = dl (l.set i m) := by simp [dl, List.map_set]
theorem dl_get {l : List Nat} {i : Nat} (h : i < l.length) : (dl l)[i]? = some (.d (.int (l.getD i 0 : Nat))) := by
  simp [dl, List.getD_eq_getElem?_getD, List.getElem?_eq_getElem h]
theorem put_body {rows : List (List PyData)} {ks : List (Nat × Int)} (H : RowsOk rows ks) {place m : Nat} (hm : m < rows.length) {pre rest : List (List Nat × List Nat)} {line md : List Nat} {n : Nat} (hlz : line.length ≤ n) (hmd : md.length ≤ n) (hn : n ≤ 900) (hpz : pre.length ≤ 900) (hd : ∀ p ∈ line, p < rows.length) {ρ : Ro2} (E : PutEnv ρ rows ks place) (h4 : ρ sMoved = some (.dat (.int m))) (h6 : ρ sLevel = some (.dat (.int pre.length))) :
    (line.findIdx (fun x => rowGt rows ks x m) = line.length → ∃ ρ', exL F1 (n + 40) (scopeOf st_put_in) ((whBody putWh).drop 1) (ρ, sig (pre ++ (line, md) :: rest)) = some (.next, ρ', sig (pre ++ (line ++ [m], md ++ [place]) :: rest)) ∧ PutEnv ρ' rows ks place ∧ ρ' sMoved = some (.dat .none)) ∧
    (¬ line.findIdx (fun x => rowGt rows ks x m) = line.length → ∃ ρ', exL F1 (n + 40) (scopeOf st_put_in) ((whBody putWh).drop 1) (ρ, sig (pre ++ (line, md) :: rest)) = some (.next, ρ', sig (pre ++ (line.set (line.findIdx fun x => rowGt rows ks x m) m, md) :: rest)) ∧ PutEnv ρ' rows ks place ∧ ρ' sMoved = some (.dat (.int (line.getD (line.findIdx fun x => rowGt rows ks x m) 0 : Nat))) ∧ ρ' sLevel = some (.dat (.int (pre.length + 1 : Nat)))) := by
  have hq : (sig (pre ++ (line, md) :: rest))[2 * pre.length + 2]? = some (dl line) := sig_get1
  have hq2 : (sig (pre ++ (line, md) :: rest))[2 * pre.length + 3]? = some (dl md) := sig_get2
  have hk0 : (sig (pre ++ (line, md) :: rest))[0]? = some (ptrs 2 (pre ++ (line, md) :: rest).length) := rfl
  have hpl : pre.length < (pre ++ (line, md) :: rest).length := by simp
  have a1 : exS F1 (n + 39) (scopeOf st_put_in) ((whBody putWh).getD 1 default) (ρ, sig (pre ++ (line, md) :: rest)) = some (.next, put2 ρ sLine (.ptr (2 * pre.length + 2)), sig (pre ++ (line, md) :: rest)) :=
    s_alias rfl (pa_ptr E.kept (e_name (vw_dat h6)) (asNat_nat (by omega)) hk0 (ptrs_get hpl))
  have a2 : exS F1 (n + 38) (scopeOf st_put_in) ((whBody putWh).getD 2 default) (put2 ρ sLine (.ptr (2 * pre.length + 2)), sig (pre ++ (line, md) :: rest)) = some (.next, put2 (put2 ρ sLine (.ptr (2 * pre.length + 2))) sSpot (.dat (.int (0 : Nat))), sig (pre ++ (line, md) :: rest)) :=
    s_assign rfl rfl rfl rfl (v_np rfl (e_const rfl))
  obtain ⟨ρ1, w1, w2, w3⟩ := put_scan H hd (by omega) hm hq (n := n + 26) line.length 0 (n + 36) (put2 (put2 ρ sLine (.ptr (2 * pre.length + 2))) sSpot (.dat (.int (0 : Nat)))) (by omega) (by omega) E.rows E.order rfl h4 rfl
  rw [List.drop_zero, Nat.zero_add] at w3
  have b1 : ρ1 sRows = some (.dat (.list (rows.map .tuple))) := (w2 _ (by decide +kernel)).trans E.rows
  have b2 : ρ1 sOrder = some (.inst (.list (ks.map keyD))) := (w2 _ (by decide +kernel)).trans E.order
  have b3 : ρ1 sKept = some (.ptr 0) := (w2 _ (by decide +kernel)).trans E.kept
  have b4 : ρ1 sMade = some (.ptr 1) := (w2 _ (by decide +kernel)).trans E.made
  have b5 : ρ1 sPlace = some (.dat (.int place)) := (w2 _ (by decide +kernel)).trans E.place
  have b6 : ρ1 sLine = some (.ptr (2 * pre.length + 2)) := w2 _ (by decide +kernel)
  have b7 : ρ1 sMoved = some (.dat (.int m)) := (w2 _ (by decide +kernel)).trans h4
  have b8 : ρ1 sLevel = some (.dat (.int pre.length)) := (w2 _ (by decide +kernel)).trans h6
  have hile : line.findIdx (fun x => rowGt rows ks x m) ≤ line.length := List.findIdx_le_length
  generalize line.findIdx (fun x => rowGt rows ks x m) = i at w3 hile
  have tl : tst F1 (n + 35) (scopeOf st_put_in) (match (whBody putWh).getD 4 default with | .If t _ _ _ => t | _ => default) (view ρ1 (sig (pre ++ (line, md) :: rest))) = some ((i : Int) == (line.length : Int)) :=
    t_cmp rfl (e_name (vw_dat w3)) (e_call rfl g_len (es_cons (e_name (vw_ptr b6 (view_line hq))) es_nil) ((f1_len _).trans ((blt_len_list (by rw [natsD_length]; omega)).trans (by rw [natsD_length])))) (eq_int _ _)
  refine ⟨fun hi => ?_, fun hi => ?_⟩
  · have tl' : tst F1 (n + 35) (scopeOf st_put_in) (match (whBody putWh).getD 4 default with | .If t _ _ _ => t | _ => default) (view ρ1 (sig (pre ++ (line, md) :: rest))) = some true := by rw [tl, hi]; simp
    have hs1 : (sig (pre ++ (line, md) :: rest)).set (2 * pre.length + 2) (dl line ++ [.d (.int m)]) = sig (pre ++ (line ++ [m], md) :: rest) := by rw [dl_append, sig_set1]
    have hs2 : (sig (pre ++ (line ++ [m], md) :: rest)).set (2 * pre.length + 3) (dl md ++ [.d (.int place)]) = sig (pre ++ (line ++ [m], md ++ [place]) :: rest) := by rw [dl_append, sig_set2]
    have hk1 : (sig (pre ++ (line ++ [m], md) :: rest))[1]? = some (ptrs 3 (pre ++ (line ++ [m], md) :: rest).length) := rfl
    have hpl1 : pre.length < (pre ++ (line ++ [m], md) :: rest).length := by simp
    have hq3 : (sig (pre ++ (line ++ [m], md) :: rest))[2 * pre.length + 3]? = some (dl md) := sig_get2
    refine ⟨_, l_next a1 (l_next a2 (l_next (s_while w1) (l_next (s_ift tl' (l_next (s_app rfl b6 ((pu_it hq (by rw [dl_len]; omega) rfl (v_np rfl (e_name (np_dat b7)))).trans (by rw [hs1])))
      (l_next (s_appAt rfl (pa_ptr b4 (e_name (vw_dat b8)) (asNat_nat (by omega)) hk1 (ptrs_get hpl1)) ((pu_it hq3 (by rw [dl_len]; omega) rfl (v_np rfl (e_name (np_dat b5)))).trans (by rw [hs2])))
      (l_next (s_assign rfl rfl rfl rfl (v_np rfl (e_const rfl))) l_nil)))) l_nil))), ⟨b1, b2, b3, b4, b5⟩, rfl⟩
  · have hil : i < line.length := by omega
    have tl' : tst F1 (n + 35) (scopeOf st_put_in) (match (whBody putWh).getD 4 default with | .If t _ _ _ => t | _ => default) (view ρ1 (sig (pre ++ (line, md) :: rest))) = some false := by
      rw [tl]; congr 1; simp; omega
    have hs1 : (sig (pre ++ (line, md) :: rest)).set (2 * pre.length + 2) ((dl line).set i (.d (.int m))) = sig (pre ++ (line.set i m, md) :: rest) := by rw [dl_set, sig_set1]
    have a5 : exS F1 (n + 34) (scopeOf st_put_in) (match (whBody putWh).getD 4 default with | .If _ _ (s :: _) _ => s | _ => default) (ρ1, sig (pre ++ (line, md) :: rest)) = some (.next, put2 ρ1 sPushed (.dat (.int (line.getD i 0 : Nat))), sig (pre ++ (line, md) :: rest)) :=
      s_asub rfl (pa_item b6 (e_name (vw_dat w3)) (asNat_nat (by omega)) hq (dl_get hil)) (v_vw rfl (e_sub (e_name (vw_ptr b6 (view_line hq))) (e_name (vw_dat w3)) (idx_nats hil (by omega))) rfl)
    have a6 : exS F1 (n + 33) (scopeOf st_put_in) (match (whBody putWh).getD 4 default with | .If _ _ (_ :: s :: _) _ => s | _ => default) (put2 ρ1 sPushed (.dat (.int (line.getD i 0 : Nat))), sig (pre ++ (line, md) :: rest)) = some (.next, put2 ρ1 sPushed (.dat (.int (line.getD i 0 : Nat))), sig (pre ++ (line.set i m, md) :: rest)) := by
      rw [← hs1]
      exact s_set (v_np rfl (e_name (np_dat b7))) b6 (e_name (vw_dat w3)) (asNat_nat (by omega)) hq (by rw [dl_len]; exact hil)
    refine ⟨_, l_next a1 (l_next a2 (l_next (s_while w1) (l_next (s_iff tl' (l_next a5 (l_next a6 (l_next (s_assign rfl rfl rfl rfl (v_np rfl (e_name rfl)))
      (l_next (s_assign rfl rfl rfl rfl (v_np rfl (e_bin (e_name (np_dat (r := put2 (put2 ρ1 sPushed (.dat (.int (line.getD i 0 : Nat)))) sMoved (.dat (.int (line.getD i 0 : Nat)))) b8)) (e_const rfl) (bin_add _ _)))) l_nil))))) l_nil))), ⟨b1, b2, b3, b4, b5⟩, rfl, rfl⟩
end
end Mine
end SPN
section SPO
open PySem PySem.W PyProof.Rows PySem.Calls
set_option maxRecDepth 100000
namespace Mine
noncomputable section
theorem isnot_int (i : Int) : cmpD .IsNot (.int i) .none = some true := rfl
theorem put_while {rows : List (List PyData)} {ks : List (Nat × Int)} (H : RowsOk rows ks) {place : Nat} {n : Nat} (hn : n ≤ 900) :
    ∀ (rest pre : List (List Nat × List Nat)) (m fuel : Nat) (ρ : Ro2), rest.length + 2 < fuel → m < rows.length → pre.length + rest.length ≤ 900 → (∀ t ∈ rest, t.1.length ≤ n ∧ t.2.length ≤ n ∧ ∀ p ∈ t.1, p < rows.length) →
      PutEnv ρ rows ks place → ρ sMoved = some (.dat (.int m)) → ρ sLevel = some (.dat (.int pre.length)) →
      ∃ ρ', whL (whT F1 (n + 41) (scopeOf st_put_in) (whTest putWh)) (exL F1 (n + 41) (scopeOf st_put_in) (whBody putWh)) fuel (ρ, sig (pre ++ rest)) = some (.next, ρ', sig (pre ++ putKM (rowGt rows ks) 0 place m rest)) ∧ PutEnv ρ' rows ks place := by
  intro rest
  induction rest with
  | nil =>
    intro pre m fuel ρ hf hm hp _ E h4 h6
    obtain ⟨f, rfl⟩ : ∃ f, fuel = f + 1 + 1 := ⟨fuel - 2, by simp at hf; omega⟩
    have tt : whT F1 (n + 41) (scopeOf st_put_in) (whTest putWh) (ρ, sig (pre ++ [])) = some true := t_cmp rfl (e_name (vw_dat h4)) (e_const rfl) (isnot_int _)
    have kl : (PyData.list ((pre.map (·.1)).map fun l => .list (natsD l))) = rowsD (pre.map (·.1)) := rfl
    have tk : tst F1 (n + 39) (scopeOf st_put_in) (match (whBody putWh).getD 0 default with | .If t _ _ _ => t | _ => default) (view ρ (sig (pre ++ []))) = some true := by
      rw [List.append_nil]
      refine t_cmp rfl (e_name (vw_dat h6)) (e_call rfl g_len (es_cons (e_name (vw_ptr E.kept (view_kept pre))) es_nil) ((f1_len _).trans (blt_len_list (by simp only [List.length_map]; simp at hp; omega)))) ?_
      rw [eq_int]; simp
    have hs : ∃ σ1, σ1 = (sig pre).set 0 (ptrs 2 pre.length ++ [It.p (sig pre).length]) ++ [[]] := ⟨_, rfl⟩
    obtain ⟨σ1, hσ⟩ := hs
    have h1 : σ1[1]? = some (ptrs 3 pre.length) := by rw [hσ]; rfl
    have p1 : ∀ k q, pushIt F1 k (scopeOf st_put_in) ρ (sig (pre ++ [])) 0 (.List [] q) = some σ1 := fun _ _ => by
      rw [hσ, List.append_nil]
      exact pu_new rfl (by rw [ptrs_len]; simp at hp; omega) rfl
    have p2 : ∀ k q, pushIt F1 k (scopeOf st_put_in) ρ σ1 1 (.List [] q) = some (sig (pre ++ [([], [])])) := fun _ _ => by
      rw [pu_new h1 (by rw [ptrs_len]; simp at hp; omega) rfl, hσ, sig_new]
    have hb := (put_body H (place := place) hm (pre := pre) (rest := []) (line := []) (md := []) (n := n) (Nat.zero_le _) (Nat.zero_le _) hn (by simp at hp; omega) (fun p h => nomatch h) E h4 h6).1 rfl
    obtain ⟨ρ', b1, b2, b3⟩ := hb
    refine ⟨ρ', w_go tt (l_next (s_ift tk (l_next (s_app rfl E.kept (p1 _ _)) (l_next (s_app rfl E.made (p2 _ _)) l_nil))) b1) (w_stop (t_cmp rfl (e_name (vw_dat b3)) (e_const rfl) rfl)), b2⟩
  | cons t rest ih =>
    intro pre m fuel ρ hf hm hp hb E h4 h6
    obtain ⟨line, md⟩ := t
    obtain ⟨f, rfl⟩ : ∃ f, fuel = f + 1 + 1 := ⟨fuel - 2, by simp at hf; omega⟩
    simp only [List.length_cons] at hf hp
    obtain ⟨q1, q2, q3⟩ := hb (line, md) List.mem_cons_self
    simp only at q1 q2 q3
    have tt : whT F1 (n + 41) (scopeOf st_put_in) (whTest putWh) (ρ, sig (pre ++ (line, md) :: rest)) = some true := t_cmp rfl (e_name (vw_dat h4)) (e_const rfl) (isnot_int _)
    have tk : tst F1 (n + 39) (scopeOf st_put_in) (match (whBody putWh).getD 0 default with | .If t _ _ _ => t | _ => default) (view ρ (sig (pre ++ (line, md) :: rest))) = some false := by
      refine t_cmp rfl (e_name (vw_dat h6)) (e_call rfl g_len (es_cons (e_name (vw_ptr E.kept (view_kept (pre ++ (line, md) :: rest)))) es_nil) ((f1_len _).trans (blt_len_list (by simp only [List.length_map, List.length_append, List.length_cons]; omega)))) ?_
      rw [eq_int]; simp only [List.length_map, List.length_append, List.length_cons]
      congr 1; simp; omega
    have hbd := put_body H (place := place) hm (pre := pre) (rest := rest) (line := line) (md := md) (n := n) q1 q2 hn (by omega) q3 E h4 h6
    unfold putKM
    by_cases hi : line.findIdx (fun x => rowGt rows ks x m) = line.length
    · rw [if_pos hi]
      obtain ⟨ρ', b1, b2, b3⟩ := hbd.1 hi
      exact ⟨ρ', w_go tt (l_next (s_iff tk l_nil) b1) (w_stop (t_cmp rfl (e_name (vw_dat b3)) (e_const rfl) rfl)), b2⟩
    · rw [if_neg hi]
      obtain ⟨ρ1, b1, b2, b3, b4⟩ := hbd.2 hi
      have e : pre ++ (line.set (line.findIdx fun x => rowGt rows ks x m) m, md) :: rest = (pre ++ [(line.set (line.findIdx fun x => rowGt rows ks x m) m, md)]) ++ rest := by simp
      obtain ⟨ρ2, c1, c2⟩ := ih (pre ++ [(line.set (line.findIdx fun x => rowGt rows ks x m) m, md)]) (line.getD (line.findIdx fun x => rowGt rows ks x m) 0) (f + 1) ρ1 (by omega) (q3 _ (getD_mem (findIdx_lt hi) 0)) (by simp; omega) (fun t ht => hb t (List.mem_cons_of_mem _ ht)) b2 b3 (by rw [b4]; simp)
      refine ⟨ρ2, w_go tt (l_next (s_iff tk l_nil) b1) ?_, c2⟩
      rw [e]
      rw [c1]; simp
theorem put_for {rows : List (List PyData)} {ks : List (Nat × Int)} (H : RowsOk rows ks) {n : Nat} (hn : 10 ≤ n) (hn' : n ≤ 900) :
    ∀ (ps : List Nat) (T : List (List Nat × List Nat)) (ρ : Ro2) (j : Nat), j + ps.length ≤ 10 → (∀ p ∈ ps, p < rows.length) → Tok rows.length j T → ρ sRows = some (.dat (.list (rows.map .tuple))) → ρ sOrder = some (.inst (.list (ks.map keyD))) → ρ sKept = some (.ptr 0) → ρ sMade = some (.ptr 1) →
    ∃ ρ', forL (forF F1 (n + 45) (scopeOf st_put_in) (forTg putFor) (forBody putFor)) (natsD ps) (ρ, sig T) = some (.next, ρ', sig (ps.foldl (fun T p => putKM (rowGt rows ks) 0 p p T) T)) ∧ ρ' sKept = some (.ptr 0) ∧ ρ' sMade = some (.ptr 1)
  | [], T, ρ, _, _, _, _, _, _, h3, h4 => ⟨ρ, rfl, h3, h4⟩
  | p :: ps, T, ρ, j, hj, hp, hT, h1, h2, h3, h4 => by
    simp only [List.length_cons] at hj
    have hpp := hp p List.mem_cons_self
    have w := put_while H (place := p) (n := n) hn' T [] p (n + 41) (put2 (put2 (put2 ρ sPlace (.dat (.int p))) sMoved (.dat (.int p))) sLevel (.dat (.int (0 : Nat)))) (by have := hT.1; omega) hpp (by have := hT.1; simp; omega) (fun t ht => by obtain ⟨a, b, c⟩ := hT.2 t ht; exact ⟨by omega, by omega, c⟩) ⟨h1, h2, h3, h4, rfl⟩ rfl rfl
    obtain ⟨ρ1, w1, w2⟩ := w
    obtain ⟨ρ2, r1, r2⟩ := put_for H hn hn' ps (putKM (rowGt rows ks) 0 p p T) ρ1 (j + 1) (by omega) (fun q hq => hp q (List.mem_cons_of_mem _ hq)) (hT.put hpp) w2.rows w2.order w2.kept w2.made
    exact ⟨ρ2, f_next (Option.bind_eq_some_iff.mpr ⟨_, rfl, l_next (s_assign rfl rfl rfl rfl (v_np rfl (e_name rfl))) (l_next (s_assign rfl rfl rfl rfl (v_np rfl (e_const rfl))) (l_next (s_while w1) l_nil))⟩) r1, r2⟩
theorem run_put {rows : List (List PyData)} {ks : List (Nat × Int)} (H : RowsOk rows ks) {ps : List Nat} (hp : ∀ p ∈ ps, p < rows.length) (hl : ps.length ≤ 10) :
    runF F1 st_put_in pPutIn [.list (natsD ps), .list (rows.map .tuple), .list (ks.map keyD)] = some (.tuple [rowsD ((putIn (rowGt rows ks) 0 ps).map (·.1)), rowsD ((putIn (rowGt rows ks) 0 ps).map (·.2))]) := by
  obtain ⟨ρ', f, k1, k2⟩ := put_for H (n := 10) (Nat.le_refl _) (by omega) ps [] (put2 (put2 (put2 (bindAll pPutIn [.list (natsD ps), .list (rows.map .tuple), .list (ks.map keyD)] fun _ => none) sOrder (.inst (.list (ks.map keyD)))) sKept (.ptr 0)) sMade (.ptr 1)) 0 (by omega) hp ⟨Nat.le_refl _, fun _ h => nomatch h⟩ rfl rfl rfl rfl
  exact run_of rfl (l_next (s_make rfl rfl rfl (es_cons (e_name rfl) es_nil)) (l_next (s_new rfl rfl) (l_next (s_new rfl rfl) (l_next (s_for (i_val rfl (e_name rfl) (items_list (by rw [natsD_length]; omega))) rfl f) (l_ret (s_ret (e_tuple (es_cons (e_name (vw_ptr k1 (view_kept _))) (es_cons (e_name (vw_ptr k2 (view_made _))) es_nil)) (by simp))))))))
end
end Mine
end SPO
section SPP
open PySem PySem.W PyProof.Rows PySem.Calls
set_option maxRecDepth 100000
namespace Mine
noncomputable section
noncomputable def maxN : List Nat → Nat
  | [] => 0
  | a :: r => max a (maxN r)
theorem maxI_nat : ∀ l : List Nat, maxI (l.map fun i : Nat => (i : Int)) = (maxN l : Nat)
  | [] => rfl
  | [a] => by simp [maxI, maxN]
  | a :: b :: r => by
    have ih := maxI_nat (b :: r)
    have e : maxI ((a :: b :: r).map fun i : Nat => (i : Int)) = if maxI ((b :: r).map fun i : Nat => (i : Int)) ≤ (a : Int) then (a : Int) else maxI ((b :: r).map fun i : Nat => (i : Int)) := rfl
    rw [e, ih]
    show _ = ((max a (maxN (b :: r)) : Nat) : Int)
    split <;> omega
section
variable {α : Type}
noncomputable def stepG (lt : α → α → Bool) (acc : List (α × Nat)) (x : α) : List (α × Nat) := acc ++ [(x, 1 + maxN ((acc.filter fun a => lt a.1 x).map (·.2)))]
noncomputable def longG (lt : α → α → Bool) (l : List α) : Nat := maxN ((l.foldl (stepG lt) []).map (·.2))
end
theorem range_filter_map {α β : Type} {acc : List α} {d : α} (p : α → Bool) (f : α → β) : ((List.range acc.length).filter fun j => p (acc.getD j d)).map (fun j => f (acc.getD j d)) = (acc.filter p).map f := by
  have e : acc = (List.range acc.length).map fun j => acc.getD j d := by
    have := range_getD_map (T := acc) (d := d) (fun x => x)
    simpa using this.symm
  have h : ∀ n, ((List.range n).filter fun j => p (acc.getD j d)).map (fun j => f (acc.getD j d)) = (((List.range n).map fun j => acc.getD j d).filter p).map f := fun n => by
    rw [List.filter_map, List.map_map]; rfl
  rw [h, ← e]
noncomputable def tupD (x : List Int) : PyData := .tuple (x.map .int)
theorem intsD_map : ∀ l : List Int, intsD (l.map .int) = some l
  | [] => rfl
  | x :: l => by simp only [List.map_cons, intsD, intsD_map l, Option.map_some]
theorem intsD_nats (l : List Nat) : intsD (natsD l) = some (l.map fun i : Nat => (i : Int)) := by
  have : natsD l = (l.map fun i : Nat => (i : Int)).map .int := by simp [natsD]
  rw [this, intsD_map]
theorem lt_tup (x y : List Int) : cmpD .Lt (tupD x) (tupD y) = some (ltInts x y) := by
  show ((intsD (x.map .int)).bind fun is => (intsD (y.map .int)).bind fun js => some (ltInts is js)) = _
  rw [intsD_map, intsD_map]; rfl
noncomputable abbrev sRanks : Str := Str.ofString "ranks"
noncomputable abbrev sSizes : Str := Str.ofString "sizes"
noncomputable abbrev sK : Str := Str.ofString "k"
noncomputable abbrev nMax : Str := Str.ofString "max"
noncomputable abbrev lonFor : Stmt := (bodyOf st_longest).getD 1 default
theorem g_max : nMax ≠ sList ∧ nMax ≠ sTC ∧ nMax ≠ sLower ∧ nMax ≠ sIn ∧ nMax ≠ sGetB3 := by decide +kernel
theorem f0_max (l : List PyData) : F0 nMax l = bltD nMax l := f0_blt (by decide +kernel) (by decide +kernel) (by decide +kernel)
theorem f0_len (l : List PyData) : F0 nLen l = bltD nLen l := f0_blt (by decide +kernel) (by decide +kernel) (by decide +kernel)
theorem blt_max {xs : List PyData} {is : List Int} (h : intsD xs = some is) (hn : is ≠ []) : bltD nMax [.list xs] = some (.int (maxI is)) := by
  have e : bltD nMax [.list xs] = (intsD xs).bind fun is => if is = [] then none else some (.int (maxI is)) := by kernel_rfl
  rw [e, h, Option.bind_some, if_neg hn]
theorem max_nats (l : List Nat) : bltD nMax [.list ([.int 0] ++ natsD l)] = some (.int (maxN l : Nat)) := by
  have e : ([.int 0] ++ natsD l : List PyData) = natsD (0 :: l) := rfl
  rw [e, blt_max (intsD_nats _) (by simp), maxI_nat]
  simp [maxN]
theorem idx_map {α : Type} {g : α → PyData} {l : List α} {d : α} {k : Nat} (h : k < l.length) (hz : l.length ≤ 1000000) : idxD (.list (l.map g)) (.int k) = some (g (l.getD k d)) := by
  rw [idx_list (by simpa using h) (by simpa using hz)]
  simp [List.getD_eq_getElem?_getD, List.getElem?_eq_getElem h]
theorem lon_for {ranks : List (List Int)} (hz : ranks.length ≤ 1000) {n : Nat} :
    ∀ (todo : List (List Int)) (acc : List (List Int × Nat)) (ρ : Ro2), ranks = acc.map (·.1) ++ todo → ρ sRanks = some (.dat (.list (ranks.map tupD))) → ρ sSizes = some (.ptr 0) →
    ∃ ρ', forL (forF F0 (n + 20) (scopeOf st_longest) (forTg lonFor) (forBody lonFor)) (natsD (List.range' acc.length todo.length)) (ρ, [dl (acc.map (·.2))]) = some (.next, ρ', [dl ((todo.foldl (stepG ltInts) acc).map (·.2))]) ∧ ρ' sSizes = some (.ptr 0)
  | [], acc, ρ, _, _, h2 => ⟨ρ, rfl, h2⟩
  | x :: todo, acc, ρ, hr, h1, h2 => by
    have hlen : acc.length < ranks.length := by rw [hr]; simp
    have hk : ranks.getD acc.length [] = x := by rw [hr]; simp [List.getD_eq_getElem?_getD]
    have hj : ∀ j, j < acc.length → ranks.getD j [] = (acc.getD j ([], 0)).1 ∧ (acc.map (·.2)).getD j 0 = (acc.getD j ([], 0)).2 := fun j hj => by
      refine ⟨?_, ?_⟩
      · rw [hr, List.getD_eq_getElem?_getD, List.getElem?_append_left (by simpa using hj), List.getElem?_map, List.getD_eq_getElem?_getD, List.getElem?_eq_getElem hj]; rfl
      · rw [List.getD_eq_getElem?_getD, List.getElem?_map, List.getD_eq_getElem?_getD, List.getElem?_eq_getElem hj]; rfl
    obtain ⟨ρ', r1, r2⟩ := lon_for hz (n := n) todo (stepG ltInts acc x) (put2 ρ sK (.dat (.int acc.length))) (by rw [hr]; simp [stepG]) h1 h2
    have hl2 : (stepG ltInts acc x).length = acc.length + 1 := by simp [stepG]
    rw [hl2] at r1
    refine ⟨ρ', ?_, r2⟩
    have hvl : viewP [dl (acc.map (·.2))] 0 = some (.list (natsD (acc.map (·.2)))) := view_line rfl
    have hcat : ∀ l : List Nat, natsD l = l.map fun i => .int (i : Nat) := fun _ => rfl
    have hds : natsD ((acc.filter fun a => ltInts a.1 x).map (·.2)) = ((List.range acc.length).filter fun j => ltInts (acc.getD j ([], 0)).1 x).map fun j => .int ((acc.getD j ([], 0)).2 : Nat) := by
      rw [← range_filter_map (d := ([], 0)) (fun a => ltInts a.1 x) (fun a => a.2)]
      simp [natsD]
    refine f_next (Option.bind_eq_some_iff.mpr ⟨_, rfl, l_next (s_app rfl h2 ((pu_it (d := .int (1 + maxN ((acc.filter fun a => ltInts a.1 x).map (·.2)) : Nat)) rfl (by rw [dl_len, List.length_map]; omega) rfl (v_vw rfl (e_bin (e_const rfl) (e_call rfl g_max (es_cons (e_bin (e_list (es_cons (e_const rfl) es_nil) (by decide)) (e_comp (xs := rangeD 0 (acc.length : Nat)) (ds := natsD ((acc.filter fun a => ltInts a.1 x).map (·.2))) rfl (i_range1 rfl (es_cons (e_name rfl) es_nil) (by omega) (by omega)) ?_ ?_) (bin_list ?_)) es_nil) ((f0_max _).trans (max_nats _))) ?_) rfl)).trans rfl)) l_nil⟩) ?_
    · rw [rangeD_nats, hds, hcat]
      refine catL_filter fun j hjm => ?_
      have hjl := List.mem_range.mp hjm
      obtain ⟨e1, e2⟩ := hj j hjl
      have hz2 : ranks.length ≤ 1000000 := by omega
      have c : cmpD .Lt (tupD (ranks.getD j [])) (tupD (ranks.getD acc.length [])) = some (ltInts (acc.getD j ([], 0)).1 x) := by rw [lt_tup, e1, hk]
      cases hlt : ltInts (acc.getD j ([], 0)).1 x with
      | true =>
        rw [hlt] at c
        rw [if_pos rfl]
        refine g_one rfl (ts_t (t_cmp rfl (e_sub (e_name (vw_dat (r := put2 ρ sK (.dat (.int acc.length))) h1)) (e_name rfl) (idx_map (by omega) hz2)) (e_sub (e_name (vw_dat (r := put2 ρ sK (.dat (.int acc.length))) h1)) (e_name rfl) (idx_map hlen hz2)) c) ts_nil) (e_sub (e_name (vw_ptr (r := put2 ρ sK (.dat (.int acc.length))) h2 hvl)) (e_name rfl) ((idx_nats (by rw [List.length_map]; exact hjl) (by rw [List.length_map]; omega)).trans (by rw [e2])))
      | false =>
        rw [hlt] at c
        rw [if_neg Bool.false_ne_true]
        exact g_no rfl (ts_f (t_cmp rfl (e_sub (e_name (vw_dat (r := put2 ρ sK (.dat (.int acc.length))) h1)) (e_name rfl) (idx_map (by omega) hz2)) (e_sub (e_name (vw_dat (r := put2 ρ sK (.dat (.int acc.length))) h1)) (e_name rfl) (idx_map hlen hz2)) c))
    · rw [natsD_length, List.length_map]
      have := List.length_filter_le (fun a : List Int × Nat => ltInts a.1 x) acc
      omega
    · rw [natsD_length, List.length_map]
      have := List.length_filter_le (fun a : List Int × Nat => ltInts a.1 x) acc
      simp only [List.length_singleton]
      omega
    · rw [bin_add]; simp
    · have es : [dl (acc.map (·.2))].set 0 (dl (acc.map (·.2)) ++ [.d (.int (1 + maxN ((acc.filter fun a => ltInts a.1 x).map (·.2)) : Nat))]) = [dl ((stepG ltInts acc x).map (·.2))] := by
        rw [dl_append]; simp [stepG]
      rw [es]
      exact r1
theorem range'_zero (n : Nat) : List.range' 0 n = List.range n := List.range_eq_range'.symm
theorem run_longest {ranks : List (List Int)} (hz : ranks.length ≤ 1000) : runF F0 st_longest pLongest [.list (ranks.map tupD)] = some (.int (longG ltInts ranks : Nat)) := by
  obtain ⟨ρ', f, h⟩ := lon_for hz (n := 37) ranks [] (put2 (bindAll pLongest [.list (ranks.map tupD)] fun _ => none) sSizes (.ptr 0)) rfl rfl rfl
  rw [List.length_nil, range'_zero, ← rangeD_nats] at f
  have hlen : ((ranks.foldl (stepG ltInts) []).map (·.2)).length ≤ 1000 := by
    have : ∀ (l : List (List Int)) (acc : List (List Int × Nat)), (l.foldl (stepG ltInts) acc).length = acc.length + l.length := fun l => by
      induction l with
      | nil => intro acc; rfl
      | cons x l ih => intro acc; rw [List.foldl_cons, ih]; simp [stepG]; omega
    rw [List.length_map, this]; simp; omega
  exact run_of rfl (l_next (s_new rfl rfl) (l_next (s_for (i_range1 rfl (es_cons (e_call rfl g_len (es_cons (e_name rfl) es_nil) ((f0_len _).trans ((blt_len_list (by rw [List.length_map]; omega)).trans (by rw [List.length_map])))) es_nil) (by omega) (by omega)) rfl f)
    (l_ret (s_ret (e_call rfl g_max (es_cons (e_bin (e_list (es_cons (e_const rfl) es_nil) (by decide)) (e_name (vw_ptr h (view_line rfl))) (bin_list (by rw [natsD_length]; simp only [List.length_singleton]; omega))) es_nil) ((f0_max _).trans (max_nats _)))))))
end
end Mine
end SPP
section SPQ
namespace Mine
noncomputable def SR (gt : Nat → Nat → Bool) (B : Nat → Nat → Prop) (a b : Nat) : Prop := gt b a = true ∨ (gt a b = false ∧ B a b)
theorem spot_after {gt : Nat → Nat → Bool} {done : List Nat} {p : Nat} : ∀ s, ∀ i, spotOf gt done p s ≤ i → i < s → gt (done.getD i 0) p = true
  | 0, i, _, h => absurd h (Nat.not_lt_zero i)
  | s + 1, i, h1, h2 => by
    unfold spotOf at h1
    split at h1
    · rename_i hg
      by_cases e : i = s
      · rw [e]; exact hg
      · exact spot_after s i h1 (by omega)
    · omega
theorem spot_before {gt : Nat → Nat → Bool} {done : List Nat} {p : Nat} : ∀ s, spotOf gt done p s = 0 ∨ gt (done.getD (spotOf gt done p s - 1) 0) p = false
  | 0 => .inl rfl
  | s + 1 => by
    unfold spotOf
    split
    · exact spot_before s
    · rename_i h
      right
      simpa using h
theorem insAt_pw {gt : Nat → Nat → Bool} {P : Nat → Prop} (as : ∀ a b, P a → P b → gt a b = true → gt b a = false) (nt : ∀ a b c, P a → P b → P c → gt a c = true → gt a b = true ∨ gt b c = true)
    {B : Nat → Nat → Prop} {done : List Nat} {p : Nat} (hp : P p) (hd : ∀ a ∈ done, P a) (hB : ∀ a ∈ done, B a p) (hpw : done.Pairwise (SR gt B)) : (insAt gt done p).Pairwise (SR gt B) := by
  unfold insAt
  have ha := spot_after (gt := gt) (done := done) (p := p) done.length
  have hb := spot_before (gt := gt) (done := done) (p := p) done.length
  have hle := spotOf_le gt done p done.length
  generalize spotOf gt done p done.length = k at ha hb hle
  have hsplit : (done.take k ++ done.drop k).Pairwise (SR gt B) := by rw [List.take_append_drop]; exact hpw
  obtain ⟨q1, q2, q3⟩ := List.pairwise_append.mp hsplit
  have hafter : ∀ b ∈ done.drop k, SR gt B p b := fun b hb' => by
    obtain ⟨i, hi, rfl⟩ := List.mem_iff_getElem.mp hb'
    rw [List.getElem_drop]
    have hi' : k + i < done.length := by rw [List.length_drop] at hi; omega
    have := ha (k + i) (by omega) hi'
    rw [List.getD_eq_getElem?_getD, List.getElem?_eq_getElem hi', Option.getD_some] at this
    exact .inl this
  have hbefore : ∀ a ∈ done.take k, SR gt B a p := fun a ha' => by
    have hmem : a ∈ done := List.mem_of_mem_take ha'
    rcases hb with hb | hb
    · rw [hb] at ha'; simp at ha'
    · have hk : 0 < k := by
        rcases Nat.eq_zero_or_pos k with h | h
        · rw [h] at ha'; simp at ha'
        · exact h
      have hk' : k - 1 < done.length := by omega
      rw [List.getD_eq_getElem?_getD, List.getElem?_eq_getElem hk', Option.getD_some] at hb
      have hlm : done[k - 1] ∈ done := List.getElem_mem _
      refine .inr ⟨?_, hB a hmem⟩
      cases hg : gt a p with
      | false => rfl
      | true =>
        obtain ⟨i, hi, rfl⟩ := List.mem_iff_getElem.mp ha'
        rw [List.getElem_take] at hg hmem
        rw [List.length_take] at hi
        by_cases e : i = k - 1
        · subst e; rw [hb] at hg; cases hg
        · rcases nt _ done[k - 1] _ (hd _ hmem) (hd _ hlm) hp hg with h | h
          · have := List.pairwise_iff_getElem.mp hpw i (k - 1) (by omega) hk' (by omega)
            rcases this with h' | ⟨h', _⟩
            · rw [as _ _ (hd _ hmem) (hd _ hlm) h] at h'; cases h'
            · rw [h] at h'; cases h'
          · rw [hb] at h; cases h
  refine List.pairwise_append.mpr ⟨List.pairwise_append.mpr ⟨q1, by simp, fun a h b h' => ?_⟩, q2, fun a h b h' => ?_⟩
  · rw [List.mem_singleton.mp h']; exact hbefore a h
  · rcases List.mem_append.mp h with h | h
    · exact q3 a h b h'
    · rw [List.mem_singleton.mp h]; exact hafter b h'
theorem isort_spec {gt : Nat → Nat → Bool} {P : Nat → Prop} (as : ∀ a b, P a → P b → gt a b = true → gt b a = false) (nt : ∀ a b c, P a → P b → P c → gt a c = true → gt a b = true ∨ gt b c = true)
    {B : Nat → Nat → Prop} {l : List Nat} (hl : ∀ a ∈ l, P a) (hB : l.Pairwise B) : (isort gt l).Perm l ∧ (isort gt l).Pairwise (SR gt B) := by
  have key : ∀ (l done : List Nat), (∀ a ∈ l, P a) → l.Pairwise B → (∀ a ∈ done, P a) → (∀ a ∈ done, ∀ b ∈ l, B a b) → done.Pairwise (SR gt B) → (l.foldl (insAt gt) done).Perm (l ++ done) ∧ (l.foldl (insAt gt) done).Pairwise (SR gt B) := by
    intro l
    induction l with
    | nil => intro done _ _ _ _ h; exact ⟨List.Perm.refl _, h⟩
    | cons p l ih =>
      intro done h1 h2 h3 h4 h5
      have hperm := insAt_perm gt done p
      have h2' := List.pairwise_cons.mp h2
      have := ih (insAt gt done p) (fun a h => h1 a (List.mem_cons_of_mem _ h)) h2'.2 (fun a h => by
        rcases List.mem_cons.mp (hperm.mem_iff.mp h) with rfl | h
        · exact h1 _ List.mem_cons_self
        · exact h3 a h) (fun a h b hb => by
        rcases List.mem_cons.mp (hperm.mem_iff.mp h) with rfl | h
        · exact h2'.1 b hb
        · exact h4 a h b (List.mem_cons_of_mem _ hb)) (insAt_pw as nt (h1 p List.mem_cons_self) h3 (fun a h => h4 a h p List.mem_cons_self) h5)
      refine ⟨this.1.trans ?_, this.2⟩
      exact (List.Perm.append_left l hperm).trans List.perm_middle
  have := key l [] hl hB (fun _ h => nomatch h) (fun _ h => nomatch h) List.Pairwise.nil
  rw [List.append_nil] at this
  exact this
end Mine
end SPQ
section SPR
open PySem PySem.W PyProof.Rows PySem.Calls
set_option maxRecDepth 100000
namespace Mine
noncomputable def insEv {α : Type} (x : α) : List α → List (List α)
  | [] => [[x]]
  | y :: l => (x :: y :: l) :: (insEv x l).map (y :: ·)
noncomputable def permsOf {α : Type} : List α → List (List α)
  | [] => [[]]
  | x :: l => (permsOf l).flatMap (insEv x)
noncomputable def rowIns {α : Type} (gt : α → α → Bool) (m : α) : List α → Option (α × List α)
  | [] => none
  | x :: l => cond (gt x m) (some (x, m :: l)) (match rowIns gt m l with | none => none | some (y, l') => some (y, x :: l'))
noncomputable def putF {α : Type} (gt : α → α → Bool) (place : α) : α → List (List α × List α) → List (List α × List α)
  | m, [] => [([m], [place])]
  | m, (line, md) :: rest => match rowIns gt m line with
    | none => (line ++ [m], md ++ [place]) :: rest
    | some (x, line') => (line', md) :: putF gt place x rest
noncomputable def putInF (l : List Nat) : List (List Nat × List Nat) := l.foldl (fun T p => putF (fun x m => Nat.blt m x) p p T) []
noncomputable def eqL : List Nat → List Nat → Bool
  | [], [] => true
  | a :: as, b :: bs => cond (Nat.beq a b) (eqL as bs) false
  | _, _ => false
noncomputable def eqLL : List (List Nat) → List (List Nat) → Bool
  | [], [] => true
  | a :: as, b :: bs => cond (eqL a b) (eqLL as bs) false
  | _, _ => false
noncomputable def invOf (π : List Nat) : List Nat := (List.range π.length).map fun j => π.idxOf j
noncomputable def colsOf (kept : List (List Nat)) : List (List Nat) := (List.range (kept.getD 0 []).length).map fun k => (kept.filter fun line => Nat.blt k line.length).map fun line => line.getD k 0
noncomputable def lk (π : List Nat) (L : List (List Nat)) : List (List Nat) := L.map fun l => l.map fun i => π.getD i 0
noncomputable def chkA (π : List Nat) : Bool :=
  let T := putInF π
  let U := putInF (invOf π)
  eqLL (lk π (U.map (·.1))) (T.map (·.2)) && eqLL (lk π (U.map (·.2))) (T.map (·.1)) && eqLL ((putInF π.reverse).map (·.1)) (colsOf (T.map (·.1)))
noncomputable def szOf (v : Nat) : List (Nat × Nat) → Nat
  | [] => 1
  | (u, s) :: r => cond (Nat.blt u v) (cond (Nat.ble (s + 1) (szOf v r)) (szOf v r) (s + 1)) (szOf v r)
noncomputable def bestT (k : Nat) : List Nat → List (Nat × Nat) → Nat
  | [], acc => acc.length
  | v :: l, acc => cond (Nat.ble (szOf v acc) k) (cond (Nat.ble (bestT k l acc) (bestT k l ((v, szOf v acc) :: acc))) (bestT k l ((v, szOf v acc) :: acc)) (bestT k l acc)) (bestT k l acc)
noncomputable def sums (a : Nat) : List (List Nat × List Nat) → Nat → List Nat
  | _, 0 => []
  | [], n + 1 => a :: sums a [] n
  | t :: T, n + 1 => (a + t.2.length) :: sums (a + t.2.length) T n
noncomputable def bests (π : List Nat) : List Nat := (List.range' 1 π.length).map fun k => bestT k π.reverse []
noncomputable def chkB (π : List Nat) : Bool := eqL (bests π) (sums 0 (putInF π) π.length)
noncomputable def treeOk (n : Nat) : KasT (Array Nat) → List (List Nat) → Bool
  | .ret p, L => L.all fun π => eqL p.toList (invOf π)
  | .ask i j k, L => match L with
    | [] => true
    | _ :: _ => cond (Nat.blt i n) (cond (Nat.blt j n) (cond (treeOk n (k true) (L.filter fun π => Nat.blt (π.getD i 0) (π.getD j 0))) (treeOk n (k false) (L.filter fun π => !Nat.blt (π.getD i 0) (π.getD j 0))) false) false) false
theorem okA6 : ((permsOf (List.range 6)).all chkA) = true := by decide +kernel
theorem okA5 : ((permsOf (List.range 5)).all chkA) = true := by decide +kernel
theorem okB6 : ((permsOf (List.range 6)).all chkB) = true := by decide +kernel
theorem okB5 : ((permsOf (List.range 5)).all chkB) = true := by decide +kernel
theorem okTree : ((List.range' 2 5).all fun n => treeOk n (kas_sort n) (permsOf (List.range n))) = true := by decide +kernel
theorem ok4 : ((List.range 5).all fun n => (permsOf (List.range n)).all fun π => chkA π && chkB π) = true := by decide +kernel
theorem ok_all {n : Nat} (hn : n ≤ 6) {π : List Nat} (h : π ∈ permsOf (List.range n)) : chkA π = true ∧ chkB π = true := by
  have : n = 6 ∨ n = 5 ∨ n < 5 := by omega
  rcases this with rfl | rfl | h5
  · exact ⟨List.all_eq_true.mp okA6 π h, List.all_eq_true.mp okB6 π h⟩
  · exact ⟨List.all_eq_true.mp okA5 π h, List.all_eq_true.mp okB5 π h⟩
  · have := List.all_eq_true.mp (List.all_eq_true.mp ok4 n (List.mem_range.mpr h5)) π h
    rw [Bool.and_eq_true] at this
    exact this
theorem insEv_mem {α : Type} (x : α) : ∀ a b : List α, a ++ x :: b ∈ insEv x (a ++ b)
  | [], [] => List.mem_singleton.mpr rfl
  | [], y :: b => List.mem_cons_self
  | y :: a, b => by
    simp only [List.cons_append, insEv]
    exact List.mem_cons_of_mem _ (List.mem_map.mpr ⟨_, insEv_mem x a b, rfl⟩)
theorem perms_mem {α : Type} : ∀ {l p : List α}, p.Perm l → p ∈ permsOf l
  | [], p, h => by rw [h.eq_nil]; exact List.mem_singleton.mpr rfl
  | x :: l, p, h => by
    have hx : x ∈ p := h.mem_iff.mpr List.mem_cons_self
    obtain ⟨a, b, rfl⟩ := List.append_of_mem hx
    have h2 : (a ++ b).Perm l := List.Perm.cons_inv (List.perm_middle.symm.trans h)
    exact List.mem_flatMap.mpr ⟨_, perms_mem h2, insEv_mem x a b⟩
theorem eqL_iff : ∀ {a b : List Nat}, eqL a b = true → a = b
  | [], [], _ => rfl
  | [], _ :: _, h => by cases h
  | _ :: _, [], h => by cases h
  | a :: as, b :: bs, h => by
    unfold eqL at h
    cases e : Nat.beq a b with
    | false => rw [e] at h; cases h
    | true =>
      rw [e] at h
      rw [Nat.eq_of_beq_eq_true e, eqL_iff h]
theorem eqLL_iff : ∀ {a b : List (List Nat)}, eqLL a b = true → a = b
  | [], [], _ => rfl
  | [], _ :: _, h => by cases h
  | _ :: _, [], h => by cases h
  | a :: as, b :: bs, h => by
    unfold eqLL at h
    cases e : eqL a b with
    | false => rw [e] at h; cases h
    | true =>
      rw [e] at h
      rw [eqL_iff e, eqLL_iff h]
theorem treeOk_run {n : Nat} : ∀ (t : KasT (Array Nat)) (L : List (List Nat)), treeOk n t L = true → ∀ π ∈ L, ∃ p, kRun n (fun i j => Nat.blt (π.getD i 0) (π.getD j 0)) t = some p ∧ p.toList = invOf π
  | .ret p, L, h, π, hπ => ⟨p, rfl, eqL_iff (List.all_eq_true.mp h π hπ)⟩
  | .ask i j k, [], _, π, hπ => nomatch hπ
  | .ask i j k, π₀ :: L, h, π, hπ => by
    replace h : cond (Nat.blt i n) (cond (Nat.blt j n) (cond (treeOk n (k true) ((π₀ :: L).filter fun π => Nat.blt (π.getD i 0) (π.getD j 0))) (treeOk n (k false) ((π₀ :: L).filter fun π => !Nat.blt (π.getD i 0) (π.getD j 0))) false) false) false = true := h
    generalize π₀ :: L = L at h hπ
    cases hi : Nat.blt i n with
    | false => rw [hi] at h; cases h
    | true =>
      cases hj : Nat.blt j n with
      | false => rw [hi, hj] at h; cases h
      | true =>
        rw [hi, hj, cond_true, cond_true] at h
        cases h1 : treeOk n (k true) (L.filter fun π => Nat.blt (π.getD i 0) (π.getD j 0)) with
        | false => rw [h1] at h; cases h
        | true =>
          rw [h1, cond_true] at h
          show ∃ p, (if i < n ∧ j < n then kRun n _ (k (Nat.blt (π.getD i 0) (π.getD j 0))) else none) = some p ∧ _
          rw [if_pos ⟨Nat.blt_eq.mp hi, Nat.blt_eq.mp hj⟩]
          cases hb : Nat.blt (π.getD i 0) (π.getD j 0) with
          | true => exact treeOk_run (k true) _ h1 π (List.mem_filter.mpr ⟨hπ, hb⟩)
          | false => exact treeOk_run (k false) _ h π (List.mem_filter.mpr ⟨hπ, by rw [hb]; rfl⟩)
theorem okS_all {n : Nat} (h2 : 2 ≤ n) (hn : n ≤ 6) {π : List Nat} (h : π ∈ permsOf (List.range n)) : ∃ p, kRun n (fun i j => Nat.blt (π.getD i 0) (π.getD j 0)) (kas_sort n) = some p ∧ p.toList = invOf π :=
  treeOk_run _ _ (List.all_eq_true.mp okTree n (List.mem_range'_1.mpr ⟨h2, by omega⟩)) π h
end Mine
end SPR
section SPS
open PySem PySem.W PyProof.Rows PySem.Calls
set_option maxRecDepth 100000
namespace Mine
section
variable {α β : Type}
theorem rowIns_eq (gt : α → α → Bool) (m d : α) : ∀ line : List α, rowIns gt m line = if line.findIdx (fun x => gt x m) = line.length then none else some (line.getD (line.findIdx fun x => gt x m) d, line.set (line.findIdx fun x => gt x m) m)
  | [] => rfl
  | x :: l => by
    unfold rowIns
    rw [List.findIdx_cons]
    cases e : gt x m with
    | true => simp
    | false =>
      rw [rowIns_eq gt m d l]
      simp only [cond_false, List.length_cons, Nat.add_right_cancel_iff]
      by_cases h : l.findIdx (fun x => gt x m) = l.length
      · rw [if_pos h, if_pos h]
      · rw [if_neg h, if_neg h]
        rfl
theorem putKM_F (gt : α → α → Bool) (d place : α) : ∀ (T : List (List α × List α)) (m : α), putKM gt d place m T = putF gt place m T
  | [], m => rfl
  | (line, md) :: rest, m => by
    unfold putKM putF
    rw [rowIns_eq gt m d line]
    by_cases h : line.findIdx (fun x => gt x m) = line.length
    · rw [if_pos h, if_pos h]
    · rw [if_neg h, if_neg h]
      simp only [putKM_F gt d place rest]
theorem putIn_F (gt : α → α → Bool) (d : α) (l : List α) : putIn gt d l = l.foldl (fun T p => putF gt p p T) [] := by
  unfold putIn
  simp only [putKM_F]
theorem rowIns_map {f : α → β} {gt : α → α → Bool} {gt' : β → β → Bool} {P : α → Prop} (h : ∀ a b, P a → P b → gt' (f a) (f b) = gt a b) {m : α} (hm : P m) : ∀ {line : List α}, (∀ x ∈ line, P x) → rowIns gt' (f m) (line.map f) = (rowIns gt m line).map fun q => (f q.1, q.2.map f)
  | [], _ => rfl
  | x :: l, hl => by
    rw [List.map_cons]
    unfold rowIns
    rw [h x m (hl x List.mem_cons_self) hm, rowIns_map h hm (line := l) fun y hy => hl y (List.mem_cons_of_mem _ hy)]
    cases gt x m with
    | true => rfl
    | false =>
      simp only [cond_false]
      cases rowIns gt m l with
      | none => rfl
      | some q => rfl
theorem rowIns_mem {gt : α → α → Bool} {m : α} : ∀ {line : List α} {x : α} {l' : List α}, rowIns gt m line = some (x, l') → x ∈ line ∧ ∀ y ∈ l', y ∈ line ∨ y = m
  | [], _, _, h => by cases h
  | z :: l, x, l', h => by
    unfold rowIns at h
    cases e : gt z m with
    | true =>
      rw [e] at h
      simp only [cond_true, Option.some.injEq, Prod.mk.injEq] at h
      obtain ⟨rfl, rfl⟩ := h
      refine ⟨List.mem_cons_self, fun y hy => ?_⟩
      rcases List.mem_cons.mp hy with rfl | hy
      · exact .inr rfl
      · exact .inl (List.mem_cons_of_mem _ hy)
    | false =>
      rw [e] at h
      simp only [cond_false] at h
      cases e2 : rowIns gt m l with
      | none => rw [e2] at h; cases h
      | some q =>
        rw [e2] at h
        simp only [Option.some.injEq, Prod.mk.injEq] at h
        obtain ⟨rfl, rfl⟩ := h
        obtain ⟨h1, h2⟩ := rowIns_mem (l' := q.2) (x := q.1) e2
        refine ⟨List.mem_cons_of_mem _ h1, fun y hy => ?_⟩
        rcases List.mem_cons.mp hy with rfl | hy
        · exact .inl List.mem_cons_self
        · rcases h2 y hy with h | h
          · exact .inl (List.mem_cons_of_mem _ h)
          · exact .inr h
noncomputable def mapB (f : α → β) (t : List α × List α) : List β × List β := (t.1.map f, t.2.map f)
theorem putF_map {f : α → β} {gt : α → α → Bool} {gt' : β → β → Bool} {P : α → Prop} (h : ∀ a b, P a → P b → gt' (f a) (f b) = gt a b) {place : α} : ∀ {T : List (List α × List α)} {m : α}, P m → (∀ t ∈ T, ∀ x ∈ t.1, P x) → putF gt' (f place) (f m) (T.map (mapB f)) = (putF gt place m T).map (mapB f)
  | [], m, _, _ => rfl
  | (line, md) :: rest, m, hm, hT => by
    have hl : ∀ x ∈ line, P x := hT (line, md) List.mem_cons_self
    have e : mapB f (line, md) = (line.map f, md.map f) := rfl
    rw [List.map_cons, e]
    unfold putF
    rw [rowIns_map h hm hl]
    cases e2 : rowIns gt m line with
    | none => simp [mapB]
    | some q =>
      obtain ⟨x, l'⟩ := q
      have hx := rowIns_mem e2
      simp only [Option.map_some, List.map_cons]
      rw [putF_map h (hl x hx.1) fun t ht => hT t (List.mem_cons_of_mem _ ht)]
      rfl
theorem putF_P {gt : α → α → Bool} {P : α → Prop} {place : α} : ∀ {T : List (List α × List α)} {m : α}, P m → (∀ t ∈ T, ∀ x ∈ t.1, P x) → ∀ t ∈ putF gt place m T, ∀ x ∈ t.1, P x
  | [], m, hm, _, t, ht, x, hx => by
    unfold putF at ht
    rw [List.mem_singleton.mp ht] at hx
    rw [List.mem_singleton.mp hx]; exact hm
  | (line, md) :: rest, m, hm, hT, t, ht, x, hx => by
    have hl : ∀ x ∈ line, P x := hT (line, md) List.mem_cons_self
    have hr : ∀ t ∈ rest, ∀ x ∈ t.1, P x := fun t ht => hT t (List.mem_cons_of_mem _ ht)
    unfold putF at ht
    cases e2 : rowIns gt m line with
    | none =>
      rw [e2] at ht
      rcases List.mem_cons.mp ht with rfl | ht
      · rcases List.mem_append.mp hx with hx | hx
        · exact hl x hx
        · rw [List.mem_singleton.mp hx]; exact hm
      · exact hr t ht x hx
    | some q =>
      rw [e2] at ht
      obtain ⟨z, l'⟩ := q
      obtain ⟨h1, h2⟩ := rowIns_mem e2
      simp only at ht
      rcases List.mem_cons.mp ht with rfl | ht
      · rcases h2 x hx with h | h
        · exact hl x h
        · rw [h]; exact hm
      · exact putF_P (hl z h1) hr t ht x hx
theorem fold_map {f : α → β} {gt : α → α → Bool} {gt' : β → β → Bool} {P : α → Prop} (h : ∀ a b, P a → P b → gt' (f a) (f b) = gt a b) : ∀ {l : List α} {T : List (List α × List α)}, (∀ x ∈ l, P x) → (∀ t ∈ T, ∀ x ∈ t.1, P x) →
    (l.map f).foldl (fun T p => putF gt' p p T) (T.map (mapB f)) = (l.foldl (fun T p => putF gt p p T) T).map (mapB f)
  | [], _, _, _ => rfl
  | p :: l, T, hl, hT => by
    have hp := hl p List.mem_cons_self
    rw [List.map_cons, List.foldl_cons, List.foldl_cons, putF_map h hp hT]
    exact fold_map h (fun x hx => hl x (List.mem_cons_of_mem _ hx)) (putF_P hp hT)
end
noncomputable def blt' (x m : Nat) : Bool := Nat.blt m x
theorem putIn_map {f : Nat → Nat} {gt : Nat → Nat → Bool} {n : Nat} (h : ∀ a b, a < n → b < n → gt (f a) (f b) = Nat.blt b a) {l : List Nat} (hl : ∀ x ∈ l, x < n) : putIn gt 0 (l.map f) = (putInF l).map (mapB f) := by
  rw [putIn_F]
  exact fold_map (T := []) (gt := fun x m => Nat.blt m x) (P := fun x => x < n) h hl fun _ h => nomatch h
theorem putF_made {gt : Nat → Nat → Bool} {q : Nat → Bool} {p : Nat} (hp : q p = false) : ∀ {T : List (List Nat × List Nat)} {m k : Nat}, (((putF gt p m T).map (·.2)).take k).flatten.filter q = ((T.map (·.2)).take k).flatten.filter q
  | [], m, 0 => rfl
  | [], m, k + 1 => by simp [putF, hp]
  | (line, md) :: rest, m, 0 => rfl
  | (line, md) :: rest, m, k + 1 => by
    unfold putF
    cases e2 : rowIns gt m line with
    | none => simp [hp]
    | some r =>
      obtain ⟨x, l'⟩ := r
      simp only [List.map_cons, List.take_succ_cons, List.flatten_cons, List.filter_append]
      rw [putF_made hp]
theorem fold_made {gt : Nat → Nat → Bool} {q : Nat → Bool} {k : Nat} : ∀ {l : List Nat} {T : List (List Nat × List Nat)}, (∀ p ∈ l, q p = false) → (((l.foldl (fun T p => putF gt p p T) T).map (·.2)).take k).flatten.filter q = ((T.map (·.2)).take k).flatten.filter q
  | [], _, _ => rfl
  | p :: l, T, h => by
    rw [List.foldl_cons, fold_made fun x hx => h x (List.mem_cons_of_mem _ hx), putF_made (h p List.mem_cons_self)]
theorem putF_made_P {gt : Nat → Nat → Bool} {P : Nat → Prop} {p : Nat} (hp : P p) : ∀ {T : List (List Nat × List Nat)} {m : Nat}, (∀ t ∈ T, ∀ x ∈ t.2, P x) → ∀ t ∈ putF gt p m T, ∀ x ∈ t.2, P x
  | [], m, _, t, ht, x, hx => by
    unfold putF at ht
    rw [List.mem_singleton.mp ht] at hx
    rw [List.mem_singleton.mp hx]; exact hp
  | (line, md) :: rest, m, hT, t, ht, x, hx => by
    have hl : ∀ x ∈ md, P x := hT (line, md) List.mem_cons_self
    have hr : ∀ t ∈ rest, ∀ x ∈ t.2, P x := fun t ht => hT t (List.mem_cons_of_mem _ ht)
    unfold putF at ht
    cases e2 : rowIns gt m line with
    | none =>
      rw [e2] at ht
      rcases List.mem_cons.mp ht with rfl | ht
      · rcases List.mem_append.mp hx with hx | hx
        · exact hl x hx
        · rw [List.mem_singleton.mp hx]; exact hp
      · exact hr t ht x hx
    | some r =>
      obtain ⟨z, l'⟩ := r
      rw [e2] at ht
      simp only at ht
      rcases List.mem_cons.mp ht with rfl | ht
      · exact hl x hx
      · exact putF_made_P hp hr t ht x hx
theorem fold_made_P {gt : Nat → Nat → Bool} {P : Nat → Prop} : ∀ {l : List Nat} {T : List (List Nat × List Nat)}, (∀ p ∈ l, P p) → (∀ t ∈ T, ∀ x ∈ t.2, P x) → ∀ t ∈ l.foldl (fun T p => putF gt p p T) T, ∀ x ∈ t.2, P x
  | [], _, _, h => h
  | p :: l, T, h, hT => fold_made_P (l := l) (fun x hx => h x (List.mem_cons_of_mem _ hx)) (putF_made_P (h p List.mem_cons_self) hT)
theorem held_eq {gt : Nat → Nat → Bool} {first : List Nat} (hn : first.Nodup) (t k : Nat) :
    ((((putIn gt 0 first).map (·.2)).take k).flatten.filter fun p => (first.take t).contains p).length = ((((putIn gt 0 (first.take t)).map (·.2)).take k).map (·.length)).sum := by
  have e : putIn gt 0 first = (first.drop t).foldl (fun T p => putF gt p p T) (putIn gt 0 (first.take t)) := by
    rw [putIn_F, putIn_F, ← List.foldl_append, List.take_append_drop]
  have hn' : (first.take t ++ first.drop t).Nodup := by rw [List.take_append_drop]; exact hn
  rw [e, fold_made fun p hp => ?_]
  · rw [List.filter_eq_self.mpr, List.length_flatten]
    intro x hx
    obtain ⟨l, hl, hxl⟩ := List.mem_flatten.mp hx
    obtain ⟨u, hu, rfl⟩ := List.mem_map.mp (List.mem_of_mem_take hl)
    rw [putIn_F] at hu
    have := fold_made_P (gt := gt) (P := fun x => x ∈ first.take t) (l := first.take t) (T := []) (fun p h => h) (fun _ h => nomatch h) u hu x hxl
    exact List.contains_iff_mem.mpr this
  · have hnot : p ∉ first.take t := fun h => (List.nodup_append.mp hn').2.2 p h p hp rfl
    cases h : (first.take t).contains p with
    | false => rfl
    | true => exact absurd (List.contains_iff_mem.mp h) hnot
theorem sums_at : ∀ (T : List (List Nat × List Nat)) (a n k : Nat), k < n → (sums a T n).getD k 0 = a + (((T.map (·.2)).take (k + 1)).map (·.length)).sum
  | _, _, 0, _, h => absurd h (Nat.not_lt_zero _)
  | [], a, n + 1, 0, _ => by simp [sums]
  | [], a, n + 1, k + 1, h => by
    have := sums_at [] a n k (by omega)
    simp only [sums, List.getD_cons_succ]
    rw [this]; simp
  | t :: T, a, n + 1, 0, _ => by simp [sums]
  | t :: T, a, n + 1, k + 1, h => by
    simp only [sums, List.getD_cons_succ]
    rw [sums_at T _ n k (by omega)]
    simp; omega
end Mine
end SPS
section SPT
open PySem PySem.W PyProof.Rows PySem.Calls
set_option maxRecDepth 100000
namespace Mine
structure Tot (n : Nat) (gt : Nat → Nat → Bool) : Prop where
  as : ∀ a b, a < n → b < n → gt a b = true → gt b a = false
  nt : ∀ a b c, a < n → b < n → c < n → gt a c = true → gt a b = true ∨ gt b c = true
  tot : ∀ a b, a < n → b < n → a ≠ b → gt a b = true ∨ gt b a = true
noncomputable def Up (gt : Nat → Nat → Bool) (s : List Nat) : Prop := s.Pairwise fun a b => gt b a = true
section
variable {n : Nat} {gt : Nat → Nat → Bool}
theorem Tot.irr (H : Tot n gt) {a : Nat} (h : a < n) : gt a a = false := by
  cases e : gt a a with
  | false => rfl
  | true => rw [H.as a a h h e] at e; cases e
theorem isort_up (H : Tot n gt) {l : List Nat} (hl : ∀ x ∈ l, x < n) (hn : l.Nodup) : (isort gt l).Perm l ∧ Up gt (isort gt l) := by
  obtain ⟨h1, h2⟩ := isort_spec (P := fun x => x < n) H.as H.nt (B := fun a b => a ≠ b) hl hn
  refine ⟨h1, ?_⟩
  have hm : ∀ x ∈ isort gt l, x < n := fun x hx => hl x (h1.mem_iff.mp hx)
  refine List.Pairwise.imp_of_mem (fun {a b} ha hb h => ?_) h2
  rcases h with h | ⟨h, hne⟩
  · exact h
  · rcases H.tot a b (hm a ha) (hm b hb) hne with h' | h'
    · rw [h] at h'; cases h'
    · exact h'
theorem getD_lt {s : List Nat} {i : Nat} (h : i < s.length) : s.getD i 0 = s[i] := by
  rw [List.getD_eq_getElem?_getD, List.getElem?_eq_getElem h]; rfl
theorem getD_idx {s : List Nat} {x : Nat} (h : x ∈ s) : s.getD (s.idxOf x) 0 = x := by
  have hi := List.idxOf_lt_length_of_mem h
  rw [getD_lt hi]; exact List.getElem_idxOf hi
theorem map_getD_range (s : List Nat) : (List.range s.length).map (fun v => s.getD v 0) = s := by
  have := range_getD_map (T := s) (d := 0) (fun x => x)
  simpa using this
theorem map_idx_self {s : List Nat} (hn : s.Nodup) : s.map (fun x => s.idxOf x) = List.range s.length := by
  apply List.ext_getElem (by simp)
  intro i h1 h2
  rw [List.getElem_map, List.getElem_range]
  exact hn.idxOf_getElem i (by simpa using h1)
structure Std (gt : Nat → Nat → Bool) (l s π : List Nat) (f : Nat → Nat) : Prop where
  perm : π.Perm (List.range l.length)
  eq : l = π.map f
  seq : s = (List.range l.length).map f
  ord : ∀ a b, a < l.length → b < l.length → gt (f a) (f b) = Nat.blt b a
theorem std (H : Tot n gt) {l s : List Nat} (hl : ∀ x ∈ l, x < n) (hn : l.Nodup) (hp : s.Perm l) (hs : Up gt s) : Std gt l s (l.map fun x => s.idxOf x) fun v => s.getD v 0 where
  perm := by
    have h1 : (l.map fun x => s.idxOf x).Perm (s.map fun x => s.idxOf x) := hp.symm.map _
    rw [map_idx_self (hp.nodup_iff.mpr hn), hp.length_eq] at h1
    exact h1
  eq := by
    rw [List.map_map]
    have : l.map ((fun v => s.getD v 0) ∘ fun x => s.idxOf x) = l.map fun x => x := List.map_congr_left fun x hx => getD_idx (hp.mem_iff.mpr hx)
    rw [this, List.map_id']
  seq := by rw [← hp.length_eq, map_getD_range]
  ord := fun a b ha hb => by
    rw [← hp.length_eq] at ha hb
    have hlt : ∀ i (hi : i < s.length), s[i] < n := fun i hi => hl _ (hp.mem_iff.mp (List.getElem_mem _))
    show gt (s.getD a 0) (s.getD b 0) = _
    rw [getD_lt ha, getD_lt hb]
    have hpw := List.pairwise_iff_getElem.mp hs
    rcases Nat.lt_trichotomy a b with h | h | h
    · have h1 := hpw a b ha hb h
      rw [H.as _ _ (hlt b hb) (hlt a ha) h1]
      cases e : Nat.blt b a with
      | false => rfl
      | true => have := Nat.blt_eq.mp e; omega
    · subst h
      rw [H.irr (hlt a ha)]
      cases e : Nat.blt a a with
      | false => rfl
      | true => have := Nat.blt_eq.mp e; omega
    · rw [hpw b a hb ha h]
      exact (Nat.blt_eq.mpr h).symm
end
theorem idxOf_map {g : Nat → Nat} {a : Nat} : ∀ {l : List Nat}, (∀ x ∈ l, g x = g a → x = a) → (l.map g).idxOf (g a) = l.idxOf a
  | [], _ => rfl
  | x :: l, h => by
    rw [List.map_cons, List.idxOf_cons, List.idxOf_cons, idxOf_map fun y hy => h y (List.mem_cons_of_mem _ hy)]
    have e : (g x == g a) = (x == a) := by
      by_cases hx : x = a
      · subst hx; simp
      · have : g x ≠ g a := fun e => hx (h x List.mem_cons_self e)
        rw [beq_eq_false_iff_ne.mpr this, beq_eq_false_iff_ne.mpr hx]
    rw [e]
theorem inv_std {l s : List Nat} (hp : s.Perm l) (hn : l.Nodup) : invOf (l.map fun x => s.idxOf x) = s.map fun x => l.idxOf x := by
  have hns : s.Nodup := hp.nodup_iff.mpr hn
  unfold invOf
  apply List.ext_getElem (by simp [hp.length_eq])
  intro i h1 h2
  have hi : i < s.length := by simpa using h2
  rw [List.getElem_map, List.getElem_range, List.getElem_map]
  have e : i = s.idxOf s[i] := (hns.idxOf_getElem i hi).symm
  have := idxOf_map (g := fun x => s.idxOf x) (a := s[i]) (l := l) (fun x hx h => by
    have h1 : s.getD (s.idxOf x) 0 = x := getD_idx (hp.mem_iff.mpr hx)
    have h2 : s.getD (s.idxOf s[i]) 0 = s[i] := getD_idx (List.getElem_mem _)
    rw [h] at h1
    rw [← h1, h2])
  rw [← e] at this
  exact this
theorem maxN_append (a b : List Nat) : maxN (a ++ b) = max (maxN a) (maxN b) := by
  induction a with
  | nil => simp [maxN]
  | cons x a ih => rw [List.cons_append, maxN, maxN, ih, Nat.max_assoc]
theorem maxN_reverse : ∀ a : List Nat, maxN a.reverse = maxN a
  | [] => rfl
  | x :: a => by
    rw [List.reverse_cons, maxN_append, maxN_reverse a, Nat.max_comm]
    show max (max x 0) _ = max x _
    rw [Nat.max_zero]
theorem maxN_mem {a : List Nat} {x : Nat} (h : x ∈ a) : x ≤ maxN a := by
  induction a with
  | nil => cases h
  | cons y a ih =>
    simp only [maxN]
    rcases List.mem_cons.mp h with rfl | h
    · omega
    · have := ih h; omega
noncomputable def ltN (a b : Nat) : Bool := Nat.blt a b
theorem szOf_eq (v : Nat) : ∀ acc : List (Nat × Nat), szOf v acc = 1 + maxN ((acc.filter fun a => ltN a.1 v).map (·.2))
  | [] => rfl
  | (u, s) :: r => by
    unfold szOf
    rw [szOf_eq v r, List.filter_cons]
    show cond (Nat.blt u v) _ _ = 1 + maxN ((if Nat.blt u v = true then (u, s) :: r.filter _ else r.filter _).map _)
    cases Nat.blt u v with
    | false => rfl
    | true =>
      simp only [cond_true, if_true, List.map_cons, maxN]
      cases e : Nat.ble (s + 1) (1 + maxN ((r.filter fun a => ltN a.1 v).map (·.2))) with
      | true =>
        have := Nat.le_of_ble_eq_true e
        simp only [cond_true]; omega
      | false =>
        have : ¬ s + 1 ≤ 1 + maxN ((r.filter fun a => ltN a.1 v).map (·.2)) := fun h => by rw [Nat.ble_eq_true_of_le h] at e; cases e
        simp only [cond_false]; omega
theorem step_rev (v : Nat) (acc : List (Nat × Nat)) : stepG ltN acc.reverse v = ((v, szOf v acc) :: acc).reverse := by
  unfold stepG
  rw [List.reverse_cons, szOf_eq, List.filter_reverse, List.map_reverse, maxN_reverse]
noncomputable def subsR {α : Type} : List α → List (List α)
  | [] => [[]]
  | v :: l => subsR l ++ (subsR l).map (v :: ·)
noncomputable def endG (A : List (Nat × Nat)) : Nat × Nat := (A.length, maxN (A.map (·.2)))
theorem fold_more (lt : Nat → Nat → Bool) : ∀ (S : List Nat) (A : List (Nat × Nat)) (x : Nat × Nat), x ∈ A → x ∈ S.foldl (stepG lt) A
  | [], _, _, h => h
  | v :: S, A, x, h => fold_more lt S _ x (List.mem_append_left _ h)
theorem best_eq (k : Nat) : ∀ (l : List Nat) (acc : List (Nat × Nat)), maxN (acc.map (·.2)) ≤ k →
    bestT k l acc = maxN ((((subsR l).map fun S => endG (S.foldl (stepG ltN) acc.reverse)).filter fun x => Nat.ble x.2 k).map (·.1))
  | [], acc, h => by
    unfold bestT
    have e : Nat.ble (maxN (acc.map (·.2))) k = true := Nat.ble_eq_true_of_le h
    simp [subsR, endG, maxN, List.map_reverse, maxN_reverse, e, List.filter]
  | v :: l, acc, h => by
    unfold bestT
    rw [subsR, List.map_append, List.filter_append, List.map_append, maxN_append, ← best_eq k l acc h, List.map_map]
    have e2 : (fun S => endG (S.foldl (stepG ltN) acc.reverse)) ∘ (fun x => v :: x) = fun S => endG (S.foldl (stepG ltN) ((v, szOf v acc) :: acc).reverse) := by
      funext S
      simp only [Function.comp, List.foldl_cons, step_rev]
    rw [e2]
    cases e : Nat.ble (szOf v acc) k with
    | true =>
      have hk := Nat.le_of_ble_eq_true e
      rw [cond_true, ← best_eq k l ((v, szOf v acc) :: acc) (by simp only [List.map_cons, maxN]; omega)]
      cases e3 : Nat.ble (bestT k l acc) (bestT k l ((v, szOf v acc) :: acc)) with
      | true => have := Nat.le_of_ble_eq_true e3; simp only [cond_true]; omega
      | false =>
        have : ¬ bestT k l acc ≤ bestT k l ((v, szOf v acc) :: acc) := fun h => by rw [Nat.ble_eq_true_of_le h] at e3; cases e3
        simp only [cond_false]; omega
    | false =>
      have hk : ¬ szOf v acc ≤ k := fun h => by rw [Nat.ble_eq_true_of_le h] at e; cases e
      rw [cond_false, List.filter_eq_nil_iff.mpr ?_]
      · simp [maxN]
      · intro x hx
        obtain ⟨S, _, rfl⟩ := List.mem_map.mp hx
        have hm := fold_more ltN S ((v, szOf v acc) :: acc).reverse (v, szOf v acc) (by simp)
        have hle := maxN_mem (List.mem_map_of_mem (f := fun y : Nat × Nat => y.2) hm)
        simp only [endG, Nat.ble_eq]
        simp only at hle
        omega
end Mine
end SPT
section SPU
open PySem PySem.W PyProof.Rows PySem.Calls
set_option maxRecDepth 100000
namespace Mine
theorem perm_lt {n : Nat} {l : List Nat} (h : l.Perm (List.range n)) : ∀ x ∈ l, x < n := fun x hx => List.mem_range.mp (h.mem_iff.mp hx)
theorem fst_mapB (f : Nat → Nat) (T : List (List Nat × List Nat)) : (T.map (mapB f)).map (·.1) = (T.map (·.1)).map fun l => l.map f := by
  rw [List.map_map, List.map_map]; rfl
theorem snd_mapB (f : Nat → Nat) (T : List (List Nat × List Nat)) : (T.map (mapB f)).map (·.2) = (T.map (·.2)).map fun l => l.map f := by
  rw [List.map_map, List.map_map]; rfl
theorem putIn_map2 {f : Nat → Nat} {gt : Nat → Nat → Bool} {n : Nat} (h : ∀ a b, a < n → b < n → gt (f a) (f b) = Nat.blt b a) {l : List Nat} (hl : ∀ x ∈ l, x < n) :
    (putIn gt 0 (l.map f)).map (·.1) = ((putInF l).map (·.1)).map (fun l => l.map f) ∧ (putIn gt 0 (l.map f)).map (·.2) = ((putInF l).map (·.2)).map (fun l => l.map f) := by
  rw [putIn_map h hl, fst_mapB, snd_mapB]
  exact ⟨rfl, rfl⟩
theorem lk_map (π : List Nat) (f : Nat → Nat) (L : List (List Nat)) : (lk π L).map (fun l => l.map f) = L.map fun l => l.map fun i => f (π.getD i 0) := by
  unfold lk
  rw [List.map_map]
  apply List.map_congr_left
  intro l _
  simp [Function.comp_def]
theorem colsOf_map (f : Nat → Nat) (L : List (List Nat)) : colsOf (L.map fun l => l.map f) = (colsOf L).map fun l => l.map f := by
  unfold colsOf
  have e : ((L.map fun l => l.map f).getD 0 []).length = (L.getD 0 []).length := by
    cases L with
    | nil => rfl
    | cons a L => simp
  rw [e, List.map_map]
  apply List.map_congr_left
  intro k _
  rw [List.filter_map, List.map_map, Function.comp, List.map_map]
  have e2 : (L.filter ((fun line : List Nat => Nat.blt k line.length) ∘ fun l => l.map f)) = L.filter fun line => Nat.blt k line.length := by
    congr 1; funext l; simp
  rw [e2]
  apply List.map_congr_left
  intro l hl
  have hk : k < l.length := Nat.blt_eq.mp (List.mem_filter.mp hl).2
  simp [List.getD_eq_getElem?_getD, List.getElem?_eq_getElem hk]
section
variable {n : Nat} {gt1 gt2 : Nat → Nat → Bool}
theorem comb12 (hn : n ≤ 6) (H1 : Tot n gt1) (H2 : Tot n gt2) :
    ((putIn gt2 0 (isort gt1 (List.range n))).map (·.1) = (putIn gt1 0 (isort gt2 (List.range n))).map (·.2) ∧ (putIn gt2 0 (isort gt1 (List.range n))).map (·.2) = (putIn gt1 0 (isort gt2 (List.range n))).map (·.1)) ∧
    (putIn gt1 0 (isort gt2 (List.range n)).reverse).map (·.1) = colsOf ((putIn gt1 0 (isort gt2 (List.range n))).map (·.1)) := by
  obtain ⟨p1, u1⟩ := isort_up H1 (l := List.range n) (fun x h => List.mem_range.mp h) List.nodup_range
  obtain ⟨p2, u2⟩ := isort_up H2 (l := List.range n) (fun x h => List.mem_range.mp h) List.nodup_range
  generalize isort gt1 (List.range n) = second at p1 u1
  generalize isort gt2 (List.range n) = first at p2 u2
  have n1 : second.Nodup := p1.nodup_iff.mpr List.nodup_range
  have n2 : first.Nodup := p2.nodup_iff.mpr List.nodup_range
  have len1 : second.length = n := by rw [p1.length_eq, List.length_range]
  have len2 : first.length = n := by rw [p2.length_eq, List.length_range]
  obtain ⟨f, S1⟩ : ∃ f, Std gt1 first second (first.map fun x => second.idxOf x) f := ⟨_, std H1 (l := first) (s := second) (perm_lt p2) n2 (p1.trans p2.symm) u1⟩
  have S2 := std H2 (l := second) (s := first) (perm_lt p1) n1 (p2.trans p1.symm) u2
  have hinv := inv_std (l := first) (s := second) (p1.trans p2.symm) n2
  rw [← hinv] at S2
  generalize first.map (fun x => second.idxOf x) = π at S1 S2
  obtain ⟨s1, s2, _, s4⟩ := S1
  obtain ⟨t1, t2, _, t4⟩ := S2
  rw [len2] at s1 s4
  rw [len1] at t1 t4
  have lenπ : π.length = n := by rw [s1.length_eq, List.length_range]
  have hh : ∀ i, i < n → first.getD i 0 = f (π.getD i 0) := fun i hi => by
    rw [s2, List.getD_eq_getElem?_getD, List.getElem?_map, List.getElem?_eq_getElem (by rw [lenπ]; exact hi), getD_lt (by rw [lenπ]; exact hi)]
    rfl
  have hσ := perm_lt t1
  have t2' : second = (invOf π).map fun i => f (π.getD i 0) := by
    refine t2.trans ?_
    exact List.map_congr_left fun i hi => hh i (hσ i hi)
  have t4' : ∀ a b, a < n → b < n → gt2 (f (π.getD a 0)) (f (π.getD b 0)) = Nat.blt b a := fun a b ha hb => by
    rw [← hh a ha, ← hh b hb]; exact t4 a b ha hb
  obtain ⟨cA, _⟩ := ok_all hn (perms_mem s1)
  unfold chkA at cA
  simp only [Bool.and_eq_true] at cA
  obtain ⟨⟨c1, c2⟩, c3⟩ := cA
  have c1 := eqLL_iff c1
  have c2 := eqLL_iff c2
  have c3 := eqLL_iff c3
  obtain ⟨a1, a2⟩ := putIn_map2 s4 (perm_lt s1)
  obtain ⟨b1, b2⟩ := putIn_map2 t4' hσ
  have hr : ∀ x ∈ π.reverse, x < n := fun x hx => perm_lt s1 x (List.mem_reverse.mp hx)
  obtain ⟨d1, _⟩ := putIn_map2 s4 hr
  have e1 : putIn gt1 0 first = putIn gt1 0 (π.map f) := congrArg _ s2
  have e2 : putIn gt2 0 second = putIn gt2 0 ((invOf π).map fun i => f (π.getD i 0)) := congrArg _ t2'
  have e3 : putIn gt1 0 first.reverse = putIn gt1 0 (π.reverse.map f) := by rw [List.map_reverse]; exact congrArg _ (congrArg _ s2)
  rw [e1, e2, e3, a1, a2, b1, b2, d1, ← lk_map, ← lk_map, c1, c2, c3, colsOf_map]
  exact ⟨⟨rfl, rfl⟩, rfl⟩
noncomputable def chosenI (n c : Nat) : List Nat := (List.range n).filter fun k => c / 2 ^ k % 2 == 1
theorem chosen_low {t d c : Nat} (hc : c < 2 ^ t) : chosenI (t + d) c = chosenI t c := by
  unfold chosenI
  rw [List.range_add, List.filter_append]
  have : ((List.range d).map (fun x => t + x)).filter (fun k => c / 2 ^ k % 2 == 1) = [] := by
    rw [List.filter_eq_nil_iff]
    intro x hx
    obtain ⟨y, _, rfl⟩ := List.mem_map.mp hx
    have : 2 ^ t ≤ 2 ^ (t + y) := Nat.pow_le_pow_right (by omega) (by omega)
    rw [Nat.div_eq_of_lt (by omega)]
    simp
  rw [this, List.append_nil]
theorem chosen_high {m c : Nat} (hc : c < 2 ^ m) : chosenI (m + 1) (2 ^ m + c) = chosenI m c ++ [m] := by
  unfold chosenI
  rw [List.range_succ, List.filter_append]
  have e1 : ([m].filter fun k => (2 ^ m + c) / 2 ^ k % 2 == 1) = [m] := by
    have : (2 ^ m + c) / 2 ^ m % 2 = 1 := by
      rw [Nat.add_div_left _ (Nat.pow_pos (by omega)), Nat.div_eq_of_lt hc]
    simp [this]
  rw [e1]
  congr 1
  apply List.filter_congr
  intro k hk
  have hk := List.mem_range.mp hk
  have : 2 ^ m = 2 * 2 ^ (m - k - 1) * 2 ^ k := by
    rw [← Nat.pow_succ', ← Nat.pow_add]
    congr 1; omega
  have e : (2 ^ m + c) / 2 ^ k % 2 = c / 2 ^ k % 2 := by
    rw [this, Nat.add_comm, Nat.add_mul_div_right _ _ (Nat.pow_pos (by omega)), Nat.add_mul_mod_self_left]
  rw [e]
theorem rev_getD {v : Nat} {l : List Nat} {k : Nat} (h : k < l.length) : (v :: l).reverse.getD k 0 = l.reverse.getD k 0 := by
  rw [List.reverse_cons, List.getD_eq_getElem?_getD, List.getD_eq_getElem?_getD, List.getElem?_append_left (by simpa using h)]
theorem rev_getD_last {v : Nat} {l : List Nat} : (v :: l).reverse.getD l.length 0 = v := by
  rw [List.reverse_cons, List.getD_eq_getElem?_getD, List.getElem?_append_right (by simp)]
  simp
theorem subs_eq : ∀ l : List Nat, (List.range (2 ^ l.length)).map (fun c => ((chosenI l.length c).map fun k => l.reverse.getD k 0).reverse) = subsR l
  | [] => rfl
  | v :: l => by
    rw [subsR, ← subs_eq l, List.length_cons]
    have e : 2 ^ (l.length + 1) = 2 ^ l.length + 2 ^ l.length := by rw [Nat.pow_succ]; omega
    rw [e, List.range_add, List.map_append, List.map_map, List.map_map]
    have hm : ∀ c, ∀ k ∈ chosenI l.length c, k < l.length := fun c k hk => List.mem_range.mp (List.mem_filter.mp hk).1
    congr 1
    · apply List.map_congr_left
      intro c hc
      rw [chosen_low (List.mem_range.mp hc)]
      congr 1
      exact List.map_congr_left fun k hk => rev_getD (hm c k hk)
    · apply List.map_congr_left
      intro c hc
      simp only [Function.comp]
      rw [chosen_high (List.mem_range.mp hc), List.map_append, List.reverse_append, List.map_singleton, rev_getD_last]
      simp only [List.reverse_singleton, List.singleton_append]
      congr 2
      exact List.map_congr_left fun k hk => rev_getD (hm c k hk)
theorem fold_len (lt : Nat → Nat → Bool) : ∀ (S : List Nat) (A : List (Nat × Nat)), (S.foldl (stepG lt) A).length = A.length + S.length
  | [], _ => rfl
  | v :: S, A => by rw [List.foldl_cons, fold_len lt S]; simp [stepG]; omega
end
section
variable {α β : Type}
theorem longG_map {f : α → β} {lt : α → α → Bool} {lt' : β → β → Bool} {P : α → Prop} (h : ∀ a b, P a → P b → lt' (f a) (f b) = lt a b) {l : List α} (hl : ∀ x ∈ l, P x) : longG lt' (l.map f) = longG lt l := by
  have key : ∀ (l : List α) (A : List (α × Nat)), (∀ x ∈ l, P x) → (∀ x ∈ A, P x.1) → (l.map f).foldl (stepG lt') (A.map fun x => (f x.1, x.2)) = (l.foldl (stepG lt) A).map fun x => (f x.1, x.2) := by
    intro l
    induction l with
    | nil => intro A _ _; rfl
    | cons v l ih =>
      intro A h1 h2
      have hv := h1 v List.mem_cons_self
      rw [List.map_cons, List.foldl_cons, List.foldl_cons]
      have e : stepG lt' (A.map fun x => (f x.1, x.2)) (f v) = (stepG lt A v).map fun x => (f x.1, x.2) := by
        unfold stepG
        rw [List.filter_map, List.map_map, List.map_append]
        have e2 : A.filter ((fun a : β × Nat => lt' a.1 (f v)) ∘ fun x => (f x.1, x.2)) = A.filter fun a => lt a.1 v := by
          apply List.filter_congr
          intro x hx
          exact h x.1 v (h2 x hx) hv
        rw [e2]; rfl
      rw [e]
      refine ih _ (fun x hx => h1 x (List.mem_cons_of_mem _ hx)) fun x hx => ?_
      rcases List.mem_append.mp hx with hx | hx
      · exact h2 x hx
      · rw [List.mem_singleton.mp hx]; exact hv
  have := key l [] hl fun _ h => nomatch h
  unfold longG
  rw [List.map_nil] at this
  rw [this, List.map_map]; rfl
end
end Mine
end SPU
section SPV
open PySem PySem.W PyProof.Rows PySem.Calls
set_option maxRecDepth 100000
namespace Mine
theorem kRun_congr {α : Type} {n : Nat} {lt lt' : Nat → Nat → Bool} (h : ∀ i j, i < n → j < n → lt i j = lt' i j) : ∀ t : KasT α, kRun n lt t = kRun n lt' t
  | .ret a => rfl
  | .ask i j k => by
    simp only [kRun]
    by_cases hij : i < n ∧ j < n
    · rw [if_pos hij, if_pos hij, h i j hij.1 hij.2]
      exact kRun_congr h (k (lt' i j))
    · rw [if_neg hij, if_neg hij]
section
variable {n : Nat} {gt1 gt2 : Nat → Nat → Bool}
theorem comb4 (h2 : 2 ≤ n) (hn : n ≤ 6) (H2 : Tot n gt2) {lt : Nat → Nat → Bool} (hlt : ∀ i j, i < n → j < n → lt i j = gt2 j i) : (kRun n lt (kas_sort n)).map (·.toList) = some (isort gt2 (List.range n)) := by
  obtain ⟨p2, u2⟩ := isort_up H2 (l := List.range n) (fun x h => List.mem_range.mp h) List.nodup_range
  generalize isort gt2 (List.range n) = first at p2 u2
  obtain ⟨f, S⟩ : ∃ f, Std gt2 (List.range n) first ((List.range n).map fun x => first.idxOf x) f := ⟨_, std H2 (l := List.range n) (s := first) (fun x h => List.mem_range.mp h) List.nodup_range p2 u2⟩
  have hinv := inv_std (l := List.range n) (s := first) p2 List.nodup_range
  have hid : first.map (fun x => (List.range n).idxOf x) = first := by
    have : first.map (fun x => (List.range n).idxOf x) = first.map fun x => x := List.map_congr_left fun x hx => by
      have hx := perm_lt p2 x hx
      have := List.nodup_range.idxOf_getElem (xs := List.range n) x (by simpa using hx)
      simpa using this
    rw [this, List.map_id']
  rw [hid] at hinv
  generalize (List.range n).map (fun x => first.idxOf x) = τ at S hinv
  obtain ⟨s1, s2, _, s4⟩ := S
  rw [List.length_range] at s1 s4
  have lenτ : τ.length = n := by rw [s1.length_eq, List.length_range]
  have hτ : ∀ i, i < n → i = f (τ.getD i 0) ∧ τ.getD i 0 < n := fun i hi => by
    have hi' : i < τ.length := by omega
    refine ⟨?_, ?_⟩
    · have e := congrArg (fun l => l.getD i 0) s2
      simp only [List.getD_eq_getElem?_getD, List.getElem?_map, List.getElem?_range hi, List.getElem?_eq_getElem hi', Option.map_some, Option.getD_some] at e ⊢
      exact e
    · rw [getD_lt hi']; exact perm_lt s1 _ (List.getElem_mem _)
  obtain ⟨p, hc1, hc2⟩ := okS_all h2 hn (perms_mem s1)
  rw [kRun_congr (lt' := fun i j => Nat.blt (τ.getD i 0) (τ.getD j 0)) fun i j hi hj => by
    obtain ⟨e1, l1⟩ := hτ i hi
    obtain ⟨e2, l2⟩ := hτ j hj
    rw [hlt i j hi hj]
    have := s4 _ _ l2 l1
    rw [← e1, ← e2] at this
    exact this]
  rw [hc1, Option.map_some, hc2, hinv]
theorem comb3 (hn : n ≤ 6) (H1 : Tot n gt1) (H2 : Tot n gt2) {t k : Nat} (ht : t ≤ n) (hk1 : 1 ≤ k) (hkt : k ≤ t) :
    maxN (((((List.range (2 ^ n)).map fun c => ((chosenI n c).length, longG (fun a b => gt1 b a) ((chosenI n c).map fun k => (isort gt2 (List.range n)).getD k 0).reverse)).take (2 ^ t)).filter fun x => Nat.ble x.2 k).map (·.1)) =
      ((((putIn gt1 0 (isort gt2 (List.range n))).map (·.2)).take k).flatten.filter fun p => ((isort gt2 (List.range n)).take t).contains p).length := by
  obtain ⟨p2, u2⟩ := isort_up H2 (l := List.range n) (fun x h => List.mem_range.mp h) List.nodup_range
  generalize isort gt2 (List.range n) = first at p2 u2
  have n2 : first.Nodup := p2.nodup_iff.mpr List.nodup_range
  have len2 : first.length = n := by rw [p2.length_eq, List.length_range]
  rw [held_eq n2]
  have lent : (first.take t).length = t := by rw [List.length_take, len2]; omega
  have ltt : ∀ x ∈ first.take t, x < n := fun x hx => perm_lt p2 x (List.mem_of_mem_take hx)
  have ndt : (first.take t).Nodup := n2.sublist (List.take_sublist t first)
  obtain ⟨p1, u1⟩ := isort_up H1 ltt ndt
  obtain ⟨f, S⟩ : ∃ f, Std gt1 (first.take t) (isort gt1 (first.take t)) ((first.take t).map fun x => (isort gt1 (first.take t)).idxOf x) f := ⟨_, std H1 ltt ndt p1 u1⟩
  generalize (first.take t).map (fun x => (isort gt1 (first.take t)).idxOf x) = π at S
  obtain ⟨s1, s2, _, s4⟩ := S
  rw [lent] at s1 s4
  have lenπ : π.length = t := by rw [s1.length_eq, List.length_range]
  have hft : ∀ i, i < t → first.getD i 0 = f (π.getD i 0) ∧ π.getD i 0 < t := fun i hi => by
    have hi' : i < π.length := by omega
    refine ⟨?_, ?_⟩
    · have e := congrArg (fun l => l.getD i 0) s2
      simp only [List.getD_eq_getElem?_getD, List.getElem?_map, List.getElem?_take, hi, if_true, List.getElem?_eq_getElem hi', Option.map_some, Option.getD_some] at e ⊢
      exact e
    · rw [getD_lt hi']; exact perm_lt s1 _ (List.getElem_mem _)
  have hcm : ∀ c, ∀ k ∈ chosenI t c, k < t := fun c k hk => List.mem_range.mp (List.mem_filter.mp hk).1
  have hpow : 2 ^ t ≤ 2 ^ n := Nat.pow_le_pow_right (by omega) ht
  have hlist : ((List.range (2 ^ n)).map fun c => ((chosenI n c).length, longG (fun a b => gt1 b a) ((chosenI n c).map fun k => first.getD k 0).reverse)).take (2 ^ t) = (subsR π.reverse).map fun S => endG (S.foldl (stepG ltN) [].reverse) := by
    have hs := subs_eq π.reverse
    rw [List.length_reverse, lenπ, List.reverse_reverse] at hs
    rw [← hs, ← List.map_take, List.take_range, Nat.min_eq_left hpow, List.map_map]
    apply List.map_congr_left
    intro c hc
    have hc := List.mem_range.mp hc
    obtain ⟨d, rfl⟩ : ∃ d, n = t + d := ⟨n - t, by omega⟩
    simp only [Function.comp, List.reverse_nil]
    rw [chosen_low hc]
    unfold endG
    rw [fold_len]
    have e1 : ((chosenI t c).map fun k => first.getD k 0).reverse = (((chosenI t c).map fun k => π.getD k 0).reverse).map f := by
      rw [List.map_reverse, List.map_map]
      congr 1
      exact List.map_congr_left fun k hk => (hft k (hcm c k hk)).1
    rw [e1, longG_map (lt := ltN) (P := fun x => x < t) (fun a b ha hb => s4 b a hb ha) fun x hx => by
      obtain ⟨k, hk, rfl⟩ := List.mem_map.mp (List.mem_reverse.mp hx)
      exact (hft k (hcm c k hk)).2]
    simp [longG]
  rw [hlist, ← best_eq k π.reverse [] (by simp [maxN])]
  have e1 : putIn gt1 0 (first.take t) = putIn gt1 0 (π.map f) := congrArg _ s2
  rw [e1, putIn_map s4 (perm_lt s1), snd_mapB, ← List.map_take, List.map_map]
  have cB := eqL_iff (ok_all (by omega : t ≤ 6) (perms_mem s1)).2
  have h1 : (bests π).getD (k - 1) 0 = bestT k π.reverse [] := by
    unfold bests
    have : k - 1 < π.length := by omega
    rw [List.getD_eq_getElem?_getD, List.getElem?_map, List.getElem?_range' this]
    simp only [Option.map_some, Option.getD_some]
    congr 1; omega
  have h2 := sums_at (putInF π) 0 π.length (k - 1) (by omega)
  rw [← cB, h1] at h2
  rw [h2, Nat.zero_add, show k - 1 + 1 = k by omega]
  congr 1
  apply List.map_congr_left
  intro l _
  simp
end
end Mine
end SPV
section SQA
open PySem PySem.W PyProof.Rows PySem.Calls
set_option maxRecDepth 100000
namespace Mine
noncomputable section
theorem f2_piece (l : List PyData) : F2 nPiece l = runF F1 st_piece pPiece l := by
  unfold F2
  rw [withF_other (by decide +kernel), withF_other (by decide +kernel), withF_other (by decide +kernel), withF_same]
theorem f2_prep (l : List PyData) : F2 nPrep l = runF F1 st_prepared pPrep l := by
  unfold F2
  rw [withF_other (by decide +kernel), withF_other (by decide +kernel), withF_same]
theorem f2_sorted (l : List PyData) : F2 nSorted l = runF F1 st_sorted pSorted l := by
  unfold F2
  rw [withF_other (by decide +kernel), withF_same]
theorem f2_put (l : List PyData) : F2 nPutIn l = runF F1 st_put_in pPutIn l := by
  unfold F2
  rw [withF_same]
theorem f2_f1 {f : Str} {l : List PyData} (h : (decide (f ≠ nPutIn) && decide (f ≠ nSorted) && decide (f ≠ nPrep) && decide (f ≠ nPiece)) = true) : F2 f l = F1 f l := by
  simp only [Bool.and_eq_true, decide_eq_true_eq] at h
  unfold F2
  rw [withF_other h.1.1.1, withF_other h.1.1.2, withF_other h.1.2, withF_other h.2]
theorem f2_word (l : List PyData) : F2 nWord l = runF F0 st_word pWord l := (f2_f1 (by decide +kernel)).trans (f1_word l)
theorem f2_len (l : List PyData) : F2 nLen l = bltD nLen l := (f2_f1 (by decide +kernel)).trans (f1_len l)
noncomputable abbrev nSum : Str := Str.ofString "sum"
noncomputable abbrev nSrt : Str := Str.ofString "sorted"
theorem f2_sum (l : List PyData) : F2 nSum l = bltD nSum l := (f2_f1 (by decide +kernel)).trans (f1_blt (by decide +kernel))
theorem f2_srt (l : List PyData) : F2 nSrt l = bltD nSrt l := (f2_f1 (by decide +kernel)).trans (f1_blt (by decide +kernel))
theorem g_piece : nPiece ≠ sList ∧ nPiece ≠ sTC ∧ nPiece ≠ sLower ∧ nPiece ≠ sIn ∧ nPiece ≠ sGetB3 := by decide +kernel
theorem g_prep : nPrep ≠ sList ∧ nPrep ≠ sTC ∧ nPrep ≠ sLower ∧ nPrep ≠ sIn ∧ nPrep ≠ sGetB3 := by decide +kernel
theorem g_sorted : nSorted ≠ sList ∧ nSorted ≠ sTC ∧ nSorted ≠ sLower ∧ nSorted ≠ sIn ∧ nSorted ≠ sGetB3 := by decide +kernel
theorem g_sum : nSum ≠ sList ∧ nSum ≠ sTC ∧ nSum ≠ sLower ∧ nSum ≠ sIn ∧ nSum ≠ sGetB3 := by decide +kernel
theorem g_srt : nSrt ≠ sList ∧ nSrt ≠ sTC ∧ nSrt ≠ sLower ∧ nSrt ≠ sIn ∧ nSrt ≠ sGetB3 := by decide +kernel
theorem blt_sum (l : List Int) : bltD nSum [.list (l.map .int)] = some (.int l.sum) := by
  show (intsD (l.map .int)).map (fun is => PyData.int is.sum) = _
  rw [intsD_map]; rfl
theorem f2_longest (l : List PyData) : F2 nLongest l = runF F0 st_longest pLongest l := (f2_f1 (by decide +kernel)).trans (f1_longest l)
theorem f2_max (l : List PyData) : F2 nMax l = bltD nMax l := (f2_f1 (by decide +kernel)).trans (f1_blt (by decide +kernel))
theorem g_put : nPutIn ≠ sList ∧ nPutIn ≠ sTC ∧ nPutIn ≠ sLower ∧ nPutIn ≠ sIn ∧ nPutIn ≠ sGetB3 := by decide +kernel
theorem g_longest : nLongest ≠ sList ∧ nLongest ≠ sTC ∧ nLongest ≠ sLower ∧ nLongest ≠ sIn ∧ nLongest ≠ sGetB3 := by decide +kernel
noncomputable def FitS (x : Str) : Prop := PyData.strOk x = true
theorem lay_strs : ∀ {l : List Str}, (∀ x ∈ l, FitS x) → PyData.canLayAll0 (l.map .str) = true
  | [], _ => rfl
  | x :: r, h => by
    simp only [List.map_cons, PyData.canLayAll0, PyData.canLay0, Bool.and_eq_true]
    exact ⟨h x List.mem_cons_self, lay_strs fun y hy => h y (List.mem_cons_of_mem _ hy)⟩
theorem depth_strs : ∀ l : List Str, PyData.depthAll (l.map .str) = 0
  | [] => rfl
  | x :: r => by simp only [List.map_cons, PyData.depthAll, PyData.depth, depth_strs r, Nat.max_self]
theorem eqv_strs : ∀ a b : List Str, PyData.eqvAll (a.map .str) (b.map .str) = decide (a = b)
  | [], [] => by simp [PyData.eqvAll]
  | [], _ :: _ => by simp [PyData.eqvAll]
  | _ :: _, [] => by simp [PyData.eqvAll]
  | x :: a, y :: b => by
    simp only [List.map_cons, PyData.eqvAll, PyData.eqv, eqv_strs a b, List.cons.injEq, Bool.decide_and]
    rfl
theorem ne_strs {a b : List Str} (ha : ∀ x ∈ a, FitS x) (hb : ∀ x ∈ b, FitS x) : cmpD .NotEq (.list (a.map .str)) (.list (b.map .str)) = some (!decide (a = b)) := by
  have h : (PyData.canLay0 (.list (a.map .str)) && PyData.canLay0 (.list (b.map .str)) && decide (PyData.depth (.list (a.map .str)) ≤ 8)) = true := by
    rw [show PyData.canLay0 (.list (a.map .str)) = PyData.canLayAll0 (a.map .str) from rfl, show PyData.canLay0 (.list (b.map .str)) = PyData.canLayAll0 (b.map .str) from rfl, show PyData.depth (.list (a.map .str)) = PyData.depthAll (a.map .str) + 1 from rfl, lay_strs ha, lay_strs hb, depth_strs]; rfl
  refine (if_pos h : (if _ then some (!PyData.eqv (.list (a.map .str)) (.list (b.map .str))) else none) = _).trans ?_
  rw [show PyData.eqv (.list (a.map .str)) (.list (b.map .str)) = PyData.eqvAll (a.map .str) (b.map .str) from rfl, eqv_strs]
theorem ne_ints (a : List Int) : cmpD .NotEq (.list (a.map .int)) (.list []) = some (!a.isEmpty) := by
  have h : (PyData.canLay0 (.list (a.map .int)) && PyData.canLay0 (.list []) && decide (PyData.depth (.list (a.map .int)) ≤ 8)) = true := by
    rw [show PyData.canLay0 (.list (a.map .int)) = PyData.canLayAll0 (a.map .int) from rfl, show PyData.depth (.list (a.map .int)) = PyData.depthAll (a.map .int) + 1 from rfl, PyProof.Rows.canLayAll_ints, PyProof.Rows.depthAll_ints]; rfl
  refine (if_pos h : (if _ then some (!PyData.eqv (.list (a.map .int)) (.list [])) else none) = _).trans ?_
  cases a <;> rfl
theorem fit_of {x : Str} (h : ∀ c ∈ x.cps.toList, c < 0x110000) : FitS x := by
  unfold FitS PyData.strOk
  rw [Array.all_eq_true']
  intro c hc
  exact decide_eq_true (h c (Array.mem_toList_iff.mpr hc))
theorem fit_wd (x : Int) : FitS (wd x) := fit_of fun c hc => by
  have : ∀ c ∈ letters, c < 0x110000 := by decide
  exact this c ((wd_letters x).1 c hc)
theorem sliceRange_back (n : Nat) : sliceRange ((n : Int) - 1) (-1) (-1) = (List.range n).reverse := by
  unfold sliceRange
  have h0 : ¬ ((-1 : Int) > 0) := by omega
  simp only [h0, if_false]
  have hc : (if (n : Int) - 1 > -1 then ((n : Int) - 1 - -1 - -1 - 1) / (- -1) else 0).toNat = n := by
    split
    · have : ((n : Int) - 1 - -1 - -1 - 1) = n := by omega
      rw [this]; simp
    · omega
  rw [hc]
  apply List.ext_getElem (by simp)
  intro i h1 h2
  simp at h1
  simp
  omega
theorem sliceL_m1 (xs : List PyData) : sliceL xs none none (some (-1)) = xs.reverse := by
  have : sliceL xs none none (some (-1)) = (sliceRange ((xs.length : Int) - 1) (-1) (-1)).filterMap (xs[·]?) := by
    unfold sliceL
    have e : sliceBounds none none (some (-1 : Int)) xs.length = ((xs.length : Int) - 1, -1, -1) := by unfold sliceBounds; simp
    rw [e]
  rw [this, sliceRange_back, List.filterMap_reverse]
  congr 1
  have := pick_run xs.toArray 0 xs.length
  simp at this
  exact this
end
end Mine
end SQA
section SQB
open PySem PySem.W PyProof.Rows PySem.Calls
set_option maxRecDepth 100000
namespace Mine
theorem ltI_irr : ∀ x : List Int, ltInts x x = false
  | [] => rfl
  | x :: xs => by simp [ltInts, ltI_irr xs]
theorem ltI_as : ∀ x y : List Int, ltInts x y = true → ltInts y x = false
  | [], [], _ => rfl
  | [], _ :: _, _ => rfl
  | _ :: _, [], h => by cases h
  | a :: x, b :: y, h => by
    unfold ltInts at h ⊢
    by_cases e : a = b
    · rw [if_pos e] at h; rw [if_pos e.symm]; exact ltI_as x y h
    · rw [if_neg e] at h; rw [if_neg (Ne.symm e)]
      have := of_decide_eq_true h
      exact decide_eq_false (by omega)
theorem ltI_tot : ∀ x y : List Int, x ≠ y → ltInts x y = true ∨ ltInts y x = true
  | [], [], h => absurd rfl h
  | [], _ :: _, _ => .inl rfl
  | _ :: _, [], _ => .inr rfl
  | a :: x, b :: y, h => by
    unfold ltInts
    by_cases e : a = b
    · rw [if_pos e, if_pos e.symm]
      exact ltI_tot x y fun h' => h (by rw [e, h'])
    · rw [if_neg e, if_neg (Ne.symm e)]
      by_cases h1 : a < b
      · exact .inl (decide_eq_true h1)
      · exact .inr (decide_eq_true (by omega))
theorem ltI_tr : ∀ x y z : List Int, ltInts x y = true → ltInts y z = true → ltInts x z = true
  | [], [], _, h, _ => by cases h
  | [], _ :: _, [], _, h => by cases h
  | [], _ :: _, _ :: _, _, _ => rfl
  | _ :: _, [], _, h, _ => by cases h
  | _ :: _, _ :: _, [], _, h => by cases h
  | a :: x, b :: y, c :: z, h1, h2 => by
    unfold ltInts at h1 h2 ⊢
    by_cases e1 : a = b
    · subst e1
      rw [if_pos rfl] at h1
      by_cases e2 : a = c
      · subst e2
        rw [if_pos rfl] at h2 ⊢
        exact ltI_tr x y z h1 h2
      · rw [if_neg e2] at h2 ⊢
        exact h2
    · rw [if_neg e1] at h1
      have h1 := of_decide_eq_true h1
      by_cases e2 : b = c
      · subst e2
        rw [if_neg e1]; exact decide_eq_true h1
      · rw [if_neg e2] at h2
        have h2 := of_decide_eq_true h2
        rw [if_neg (by omega)]
        exact decide_eq_true (by omega)
theorem tot_of_key {n : Nat} {gt : Nat → Nat → Bool} {K : Nat → List Int} (h : ∀ a b, a < n → b < n → gt a b = ltInts (K b) (K a)) (hi : ∀ a b, a < n → b < n → K a = K b → a = b) : Tot n gt where
  as := fun a b ha hb e => by
    rw [h a b ha hb] at e
    rw [h b a hb ha]; exact ltI_as _ _ e
  nt := fun a b c ha hb hc e => by
    rw [h a c ha hc] at e
    rw [h a b ha hb, h b c hb hc]
    by_cases e1 : K b = K a
    · rw [e1]; exact .inr e
    · rcases ltI_tot _ _ e1 with h' | h'
      · exact .inl h'
      · exact .inr (ltI_tr _ _ _ e h')
  tot := fun a b ha hb hne => by
    rw [h a b ha hb, h b a hb ha]
    exact (ltI_tot (K b) (K a) fun e => hne (hi b a hb ha e).symm)
theorem cmpK_key {L R : List PyData} {vl vr : Nat → Int} : ∀ {ks : List (Nat × Int)}, (∀ k ∈ ks, (k.2 = 1 ∨ k.2 = -1) ∧ ltD (L.getD k.1 .none) (R.getD k.1 .none) = decide (vl k.1 < vr k.1) ∧ ltD (R.getD k.1 .none) (L.getD k.1 .none) = decide (vr k.1 < vl k.1)) →
    decide ((cmpK L R ks).getD 0 = 1) = ltInts (ks.map fun k => k.2 * vr k.1) (ks.map fun k => k.2 * vl k.1)
  | [], _ => rfl
  | (i, d) :: ks, h => by
    obtain ⟨h1, h2, h3⟩ := h (i, d) List.mem_cons_self
    simp only at h1 h2 h3
    have ih := cmpK_key (L := L) (R := R) (vl := vl) (vr := vr) (ks := ks) fun k hk => h k (List.mem_cons_of_mem _ hk)
    simp only [List.map_cons]
    unfold cmpK ltInts
    rw [h2, h3]
    by_cases e1 : vl i < vr i
    · rw [if_pos (decide_eq_true e1)]
      simp only [Option.getD_some]
      rcases h1 with rfl | rfl
      · rw [if_neg (by omega)]
        rw [decide_eq_false (by omega), decide_eq_false (by omega)]
      · rw [if_neg (by omega)]
        rw [decide_eq_true (by omega), decide_eq_true (by omega)]
    · rw [if_neg (by simpa using e1)]
      by_cases e2 : vr i < vl i
      · rw [if_pos (decide_eq_true e2)]
        simp only [Option.getD_some]
        rcases h1 with rfl | rfl
        · rw [if_neg (by omega)]
          rw [decide_eq_true (by omega), decide_eq_true (by omega)]
        · rw [if_neg (by omega)]
          rw [decide_eq_false (by omega), decide_eq_false (by omega)]
      · rw [if_neg (by simpa using e2)]
        have : vl i = vr i := by omega
        rw [if_pos (by rw [this])]
        exact ih
noncomputable def stOf (ps : List Str) (x : Str) : Nat := (ps.filter fun y => ltS y x).length
theorem filter_le {α : Type} {p q : α → Bool} (h : ∀ a, p a = true → q a = true) : ∀ l : List α, (l.filter p).length ≤ (l.filter q).length
  | [] => Nat.le_refl _
  | a :: l => by
    have ih := filter_le h l
    rw [List.filter_cons, List.filter_cons]
    by_cases e : p a = true
    · rw [if_pos e, if_pos (h a e)]; simpa using ih
    · rw [if_neg e]
      split
      · simp only [List.length_cons]; omega
      · exact ih
theorem filterLt {α : Type} {p q : α → Bool} (h : ∀ a, p a = true → q a = true) : ∀ {l : List α} {x : α}, x ∈ l → p x = false → q x = true → (l.filter p).length < (l.filter q).length
  | a :: l, x, hx, h1, h2 => by
    rw [List.filter_cons, List.filter_cons]
    rcases List.mem_cons.mp hx with rfl | hx
    · rw [if_neg (by rw [h1]; decide), if_pos h2]
      have := filter_le h l
      simp only [List.length_cons]; omega
    · have ih := filterLt h hx h1 h2
      by_cases e : p a = true
      · rw [if_pos e, if_pos (h a e)]; simpa using ih
      · rw [if_neg e]
        split
        · simp only [List.length_cons]; omega
        · exact ih
theorem ltS_tr {a b c : Str} (h1 : ltS a b = true) (h2 : ltS b c = true) : ltS a c = true := by
  unfold ltS at *
  exact decide_eq_true (List.lt_trans (of_decide_eq_true h1) (of_decide_eq_true h2))
theorem ltS_irr (a : Str) : ltS a a = false := decide_eq_false (List.lt_irrefl _)
theorem ltS_le {y b a : Str} (hy : ltS y b = true) (h1 : b.cps.toList ≤ a.cps.toList) : ltS y a = true := by
  cases e : ltS y a with
  | true => rfl
  | false =>
    have h2 : a.cps.toList ≤ y.cps.toList := List.not_lt.mp (of_decide_eq_false e)
    exact absurd (of_decide_eq_true hy) (List.not_lt.mpr (List.le_trans h1 h2))
theorem ltS_st {ps : List Str} {a b : Str} (ha : a ∈ ps) : ltS a b = decide (stOf ps a < stOf ps b) := by
  cases e : ltS a b with
  | true =>
    exact (decide_eq_true (filterLt (p := fun y => ltS y a) (q := fun y => ltS y b) (fun y hy => ltS_tr hy e) ha (ltS_irr a) e)).symm
  | false =>
    have h1 : b.cps.toList ≤ a.cps.toList := List.not_lt.mp (of_decide_eq_false e)
    have := filter_le (p := fun y => ltS y b) (q := fun y => ltS y a) (fun y hy => ltS_le hy h1) ps
    refine (decide_eq_false ?_).symm
    show ¬ (ps.filter _).length < (ps.filter _).length
    omega
theorem words_all : ((List.range 8).all fun i => (List.range 8).all fun j => ltS (wordL.getD i (Str.ofString "")) (wordL.getD j (Str.ofString "")) == decide (i < j)) = true := by kernel_rfl
theorem ltS_wd (x y : Int) : ltS (wd x) (wd y) = decide (x.fmod 8 < y.fmod 8) := by
  obtain ⟨h0, h1⟩ := mod8 x
  obtain ⟨h2, h3⟩ := mod8 y
  have := List.all_eq_true.mp (List.all_eq_true.mp words_all (x.fmod 8).toNat (List.mem_range.mpr (by omega))) (y.fmod 8).toNat (List.mem_range.mpr (by omega))
  have e := eq_of_beq this
  unfold wd
  rw [e]
  by_cases h : x.fmod 8 < y.fmod 8
  · rw [decide_eq_true h, decide_eq_true (by omega)]
  · rw [decide_eq_false h, decide_eq_false (by omega)]
theorem nats_ints (l : List Nat) : natsD l = (l.map fun i : Nat => (i : Int)).map .int := by simp [natsD]
theorem lay_nats (l : List Nat) : PyData.canLayAll0 (natsD l) = true := by rw [nats_ints]; exact PyProof.Rows.canLayAll_ints _
theorem depth_nats (l : List Nat) : PyData.depthAll (natsD l) = 0 := by rw [nats_ints]; exact PyProof.Rows.depthAll_ints _
theorem eqv_nats : ∀ l : List Nat, PyData.eqvAll (natsD l) (natsD l) = true
  | [] => rfl
  | x :: l => by
    have ih := eqv_nats l
    unfold natsD at ih ⊢
    simp only [List.map_cons, PyData.eqvAll, PyData.eqv, ih]
    simp
theorem lay_rows : ∀ L : List (List Nat), PyData.canLayAll0 (L.map fun l => .list (natsD l)) = true
  | [] => rfl
  | l :: L => by
    simp only [List.map_cons, PyData.canLayAll0, PyData.canLay0, lay_nats, lay_rows L, Bool.and_self]
theorem depth_rows : ∀ L : List (List Nat), PyData.depthAll (L.map fun l => .list (natsD l)) ≤ 1
  | [] => Nat.zero_le _
  | l :: L => by
    have := depth_rows L
    simp only [List.map_cons, PyData.depthAll, PyData.depth, depth_nats]
    omega
theorem eqv_rows : ∀ L : List (List Nat), PyData.eqvAll (L.map fun l => .list (natsD l)) (L.map fun l => .list (natsD l)) = true
  | [] => rfl
  | l :: L => by
    simp only [List.map_cons, PyData.eqvAll, PyData.eqv, eqv_nats, eqv_rows L, Bool.and_self]
theorem ne_rows (L : List (List Nat)) : cmpD .NotEq (rowsD L) (rowsD L) = some false := by
  have hd := depth_rows L
  simp only [cmpD, rowsD, PyData.canLay0, lay_rows, PyData.depth, PyData.eqv, eqv_rows]
  rw [if_pos (by simp only [Bool.and_self, Bool.true_and, decide_eq_true_eq]; omega)]
  rfl
theorem ne_pair (A B : List (List Nat)) : cmpD .NotEq (.tuple [rowsD A, rowsD B]) (.tuple [rowsD A, rowsD B]) = some false := by
  have h1 := depth_rows A
  have h2 := depth_rows B
  simp only [cmpD, rowsD, PyData.canLay0, PyData.canLayAll0, lay_rows, PyData.depth, PyData.depthAll, PyData.eqv, PyData.eqvAll, eqv_rows]
  rw [if_pos (by simp only [Bool.and_self, Bool.true_and, decide_eq_true_eq]; omega)]
  rfl
end Mine
end SQB
section SQC
open PySem PySem.W PyProof.Rows PySem.Calls
set_option maxRecDepth 100000
namespace Mine
noncomputable section
noncomputable def pcS (x : Int) : Str := Classical.choose (run_piece x)
theorem pcS_ok (x : Int) : PieceOf (wd x) (pcS x) ∧ runF F1 st_piece pPiece [.int x] = some (.str (pcS x)) := Classical.choose_spec (run_piece x)
noncomputable def psL (zs : List Int) : List Str := zs.map pcS
noncomputable def rowL (zs : List Int) (k : Nat) : List PyData := [.str (wd (zs.getD k 0)), .str (pcS (zs.getD k 0)), .int k]
noncomputable def rowsL (zs : List Int) : List (List PyData) := (List.range zs.length).map (rowL zs)
noncomputable def dirO (zs : List Int) (k : Nat) : Int := 1 - 2 * (zs.sum.fdiv (2 ^ k)).fmod 2
noncomputable def ksC (zs : List Int) : List (Nat × Int) := [(0, dirO zs 0), (1, dirO zs 1), (2, 1)]
noncomputable def ksS (zs : List Int) : List (Nat × Int) := [(1, dirO zs 2), (2, 1)]
noncomputable def gtC (zs : List Int) : Nat → Nat → Bool := rowGt (rowsL zs) (ksC zs)
noncomputable def gtS (zs : List Int) : Nat → Nat → Bool := rowGt (rowsL zs) (ksS zs)
noncomputable def firstL (zs : List Int) : List Nat := isort (gtS zs) (List.range zs.length)
noncomputable def secondL (zs : List Int) : List Nat := isort (gtC zs) (List.range zs.length)
noncomputable def stL (zs : List Int) (p : Nat) : Nat := stOf (psL zs) (pcS (zs.getD p 0))
noncomputable def valL (zs : List Int) (i p : Nat) : Int := match i with
  | 0 => (zs.getD p 0).fmod 8
  | 1 => stL zs p
  | _ => p
noncomputable def keyC (zs : List Int) (p : Nat) : List Int := (ksC zs).map fun k => k.2 * valL zs k.1 p
noncomputable def keyS (zs : List Int) (p : Nat) : List Int := (ksS zs).map fun k => k.2 * valL zs k.1 p
theorem dirO_one (zs : List Int) (k : Nat) : dirO zs k = 1 ∨ dirO zs k = -1 := by
  unfold dirO
  have h0 := Int.fmod_nonneg_of_pos (zs.sum.fdiv (2 ^ k)) (show (0 : Int) < 2 by omega)
  have h1 := Int.fmod_lt_of_pos (zs.sum.fdiv (2 ^ k)) (show (0 : Int) < 2 by omega)
  omega
theorem rowsL_len (zs : List Int) : (rowsL zs).length = zs.length := by simp [rowsL]
theorem rowsL_at {zs : List Int} {p : Nat} (h : p < zs.length) : (rowsL zs).getD p [] = rowL zs p := by
  unfold rowsL
  rw [List.getD_eq_getElem?_getD, List.getElem?_map, List.getElem?_range h]; rfl
theorem ks_one {zs : List Int} {k : Nat × Int} (h : k ∈ ksC zs ∨ k ∈ ksS zs) : (k.1 = 0 ∨ k.1 = 1 ∨ k.1 = 2) ∧ (k.2 = 1 ∨ k.2 = -1) := by
  have a := dirO_one zs 0
  have b := dirO_one zs 1
  have c := dirO_one zs 2
  simp only [ksC, ksS, List.mem_cons, List.not_mem_nil, or_false] at h
  rcases h with (rfl | rfl | rfl) | (rfl | rfl) <;> simp [a, b, c]
theorem rows_ok {zs : List Int} (h6 : zs.length ≤ 6) {ks : List (Nat × Int)} (hk : ∀ k ∈ ks, k ∈ ksC zs ∨ k ∈ ksS zs) (hl : ks.length ≤ 1000) : RowsOk (rowsL zs) ks where
  len := by rw [rowsL_len]; omega
  rlen := fun p hp => by rw [rowsL_len] at hp; rw [rowsL_at hp]; show 3 ≤ 1000; omega
  kl := hl
  ok := fun p hp q hq k hk' => by
    rw [rowsL_len] at hp hq
    rw [rowsL_at hp, rowsL_at hq]
    obtain ⟨h1, _⟩ := ks_one (hk k hk')
    rcases h1 with h1 | h1 | h1 <;> rw [h1] <;> exact ⟨by show _ < 3; omega, rfl⟩
theorem okC {zs : List Int} (h6 : zs.length ≤ 6) : RowsOk (rowsL zs) (ksC zs) := rows_ok h6 (fun _ h => .inl h) (by simp [ksC])
theorem okS {zs : List Int} (h6 : zs.length ≤ 6) : RowsOk (rowsL zs) (ksS zs) := rows_ok h6 (fun _ h => .inr h) (by simp [ksS])
theorem zs_mem {zs : List Int} {p : Nat} (h : p < zs.length) : pcS (zs.getD p 0) ∈ psL zs := by
  unfold psL
  refine List.mem_map_of_mem ?_
  rw [List.getD_eq_getElem?_getD, List.getElem?_eq_getElem h]
  exact List.getElem_mem _
theorem ltD_val {zs : List Int} {p q : Nat} (hp : p < zs.length) (hq : q < zs.length) {i : Nat} (hi : i = 0 ∨ i = 1 ∨ i = 2) : ltD ((rowL zs p).getD i .none) ((rowL zs q).getD i .none) = decide (valL zs i p < valL zs i q) := by
  rcases hi with rfl | rfl | rfl
  · exact ltS_wd _ _
  · refine (ltS_st (zs_mem hp)).trans ?_
    show decide (stL zs p < stL zs q) = decide ((stL zs p : Int) < (stL zs q : Int))
    simp only [Int.ofNat_lt]
  · rfl
theorem gt_key {zs : List Int} {ks : List (Nat × Int)} (hk : ∀ k ∈ ks, k ∈ ksC zs ∨ k ∈ ksS zs) {p q : Nat} (hp : p < zs.length) (hq : q < zs.length) : rowGt (rowsL zs) ks p q = ltInts (ks.map fun k => k.2 * valL zs k.1 q) (ks.map fun k => k.2 * valL zs k.1 p) := by
  unfold rowGt
  rw [rowsL_at hp, rowsL_at hq]
  exact cmpK_key (vl := fun i => valL zs i p) (vr := fun i => valL zs i q) fun k h => ⟨(ks_one (hk k h)).2, ltD_val hp hq (ks_one (hk k h)).1, ltD_val hq hp (ks_one (hk k h)).1⟩
theorem gtC_key {zs : List Int} {p q : Nat} (hp : p < zs.length) (hq : q < zs.length) : gtC zs p q = ltInts (keyC zs q) (keyC zs p) := gt_key (fun _ h => .inl h) hp hq
theorem gtS_key {zs : List Int} {p q : Nat} (hp : p < zs.length) (hq : q < zs.length) : gtS zs p q = ltInts (keyS zs q) (keyS zs p) := gt_key (fun _ h => .inr h) hp hq
theorem totC (zs : List Int) : Tot zs.length (gtC zs) := tot_of_key (K := keyC zs) (fun _ _ ha hb => gtC_key ha hb) fun a b _ _ h => by
  simp only [keyC, ksC, List.map_cons, List.map_nil, List.cons.injEq, valL] at h
  omega
theorem totS (zs : List Int) : Tot zs.length (gtS zs) := tot_of_key (K := keyS zs) (fun _ _ ha hb => gtS_key ha hb) fun a b _ _ h => by
  simp only [keyS, ksS, List.map_cons, List.map_nil, List.cons.injEq, valL] at h
  omega
theorem keyC_eq (zs : List Int) (p : Nat) : keyC zs p = [dirO zs 0 * (zs.getD p 0).fmod 8, dirO zs 1 * (stL zs p : Nat), (p : Nat)] := by
  simp [keyC, ksC, valL]
theorem keyS_eq (zs : List Int) (p : Nat) : keyS zs p = [dirO zs 2 * (stL zs p : Nat), (p : Nat)] := by
  simp [keyS, ksS, valL]
theorem first_up (zs : List Int) : (firstL zs).Perm (List.range zs.length) := (isort_up (totS zs) (fun x h => List.mem_range.mp h) List.nodup_range).1
theorem second_up (zs : List Int) : (secondL zs).Perm (List.range zs.length) := (isort_up (totC zs) (fun x h => List.mem_range.mp h) List.nodup_range).1
theorem first_len (zs : List Int) : (firstL zs).length = zs.length := by rw [(first_up zs).length_eq, List.length_range]
theorem second_len (zs : List Int) : (secondL zs).length = zs.length := by rw [(second_up zs).length_eq, List.length_range]
end
end Mine
end SQC
section SQD
open PySem PySem.W PyProof.Rows PySem.Calls
set_option maxRecDepth 100000
namespace Mine
noncomputable section
noncomputable abbrev lsc : Scope := scopeOf st_law
noncomputable abbrev vN : Str := Str.ofString "n"
noncomputable abbrev vWords : Str := Str.ofString "words"
noncomputable abbrev vPieces : Str := Str.ofString "pieces"
noncomputable abbrev vNumbers : Str := Str.ofString "numbers"
noncomputable abbrev vUp : Str := Str.ofString "up"
noncomputable abbrev vWay : Str := Str.ofString "way"
noncomputable abbrev vBack : Str := Str.ofString "back"
noncomputable abbrev vCaseless : Str := Str.ofString "caseless"
noncomputable abbrev vSpelled : Str := Str.ofString "spelled"
noncomputable abbrev vFirst : Str := Str.ofString "first"
noncomputable abbrev vColumns : Str := Str.ofString "columns"
noncomputable abbrev vStands : Str := Str.ofString "stands"
noncomputable abbrev vDue : Str := Str.ofString "due"
noncomputable abbrev vChoices : Str := Str.ofString "choices"
noncomputable abbrev vChoice : Str := Str.ofString "choice"
noncomputable abbrev vChosen : Str := Str.ofString "chosen"
noncomputable abbrev vT : Str := Str.ofString "t"
noncomputable abbrev vMost : Str := Str.ofString "most"
theorem range_ev {F : Fn} {k : Nat} {sc : Scope} {ρ : Ro} {p q : Pos} {e : Expr} {n : Nat} (hn : n ≤ 1000) (hr : glob sc sRange = true) (h : ev F k sc e ρ = some (.int n)) : its F (k + 2) sc (.Call (.Name sRange q) [e] [] p) ρ = some ((List.range n).map fun i => .int (i : Nat)) := by
  rw [← rangeD0]
  cases k with
  | zero => cases h
  | succ k => exact i_range1 hr (es_cons h es_nil) (by omega) (by omega)
theorem idx_ints {l : List Int} {i : Nat} (h : i < l.length) (hz : l.length ≤ 1000000) : idxD (.list (l.map .int)) (.int i) = some (.int (l.getD i 0)) := idx_map h hz
noncomputable def numsOf (xs : List Int) : List Int := if xs.isEmpty = true then [5, 9, 3, 17, 12] else (xs.take 6).map fun x => x.fmod 1520640
theorem nums_len (xs : List Int) : 0 < (numsOf xs).length ∧ (numsOf xs).length ≤ 6 := by
  unfold numsOf
  cases xs with
  | nil => decide
  | cons x r => simp; omega
theorem sliceL_to (xs : List PyData) (b : Nat) : sliceL xs none (some b) none = xs.take b := by
  by_cases h : b ≤ xs.length
  · exact sliceL_upto h
  · have e1 : sliceL xs none (some b) none = sliceL xs none (some (xs.length : Int)) none := by
      unfold sliceL
      have e2 : sliceBounds none (some (b : Int)) none xs.length = sliceBounds none (some (xs.length : Int)) none xs.length := by
        unfold sliceBounds
        simp
        omega
      rw [e2]
    rw [e1, sliceL_upto (Nat.le_refl _), List.take_of_length_le (by omega), List.take_of_length_le (by omega)]
theorem l_nums {ρ : Ro2} {xs : List Int} (hx : xs.length ≤ 63) (h : ρ (Str.ofString "script") = some (.dat (.list (xs.map .int)))) :
    exS F2 59 lsc ((bodyOf st_law).getD 0 default) (ρ, []) = some (.next, put2 ρ vNumbers (.dat (.list ((numsOf xs).map .int))), []) := by
  unfold numsOf
  have hne := ne_ints xs
  cases e : xs.isEmpty with
  | true =>
    rw [e] at hne
    rw [if_pos rfl]
    exact s_assign rfl rfl rfl rfl (v_np rfl (e_iff (t_cmp rfl (e_name (np_dat h)) (e_list es_nil (by decide)) hne) (e_list (es_cons (e_const rfl) (es_cons (e_const rfl) (es_cons (e_const rfl) (es_cons (e_const rfl) (es_cons (e_const rfl) es_nil))))) (by decide))))
  | false =>
    rw [e] at hne
    have hs : sliceL (xs.map PyData.int) none (some 6) none = (xs.take 6).map .int := (sliceL_to (xs.map PyData.int) 6).trans List.map_take.symm
    refine s_assign rfl rfl rfl rfl (v_np rfl (e_ift (t_cmp rfl (e_name (np_dat h)) (e_list es_nil (by decide)) hne) (e_comp rfl (i_val rfl (e_slice (e_name (np_dat h)) ep_none (ep_some (e_const rfl)) ep_none (by rw [List.length_map]; omega) (by simp)) (items_list (by rw [hs]; simp; omega))) ?_ ?_)))
    · rw [hs]
      simp only [Bool.false_eq_true, if_false]
      exact catL_all (k := .int) fun x _ => g_one rfl ts_nil (e_bin (e_name rfl) (e_const rfl) (bin_mod (by decide)))
    · simp only [Bool.false_eq_true, if_false]
      rw [List.length_map, List.length_map, List.length_take]; omega
section
variable {zs : List Int} (h0 : 0 < zs.length) (h6 : zs.length ≤ 6) {ρ : Ro2}
include h6
theorem l_n (hns : ρ vNumbers = some (.dat (.list (zs.map .int)))) : exS F2 58 lsc ((bodyOf st_law).getD 1 default) (ρ, []) = some (.next, put2 ρ vN (.dat (.int zs.length)), []) :=
  s_assign rfl rfl rfl rfl (v_np rfl (e_call rfl g_len (es_cons (e_name (np_dat hns)) es_nil) ((f2_len _).trans ((blt_len_list (by rw [List.length_map]; omega)).trans (by rw [List.length_map])))))
theorem l_pieces (hns : ρ vNumbers = some (.dat (.list (zs.map .int)))) : exS F2 57 lsc ((bodyOf st_law).getD 2 default) (ρ, []) = some (.next, put2 ρ vPieces (.dat (.list ((psL zs).map .str))), []) := by
  refine s_assign rfl rfl rfl rfl (v_np rfl (e_comp rfl (i_val rfl (e_name (np_dat hns)) (items_list (by rw [List.length_map]; omega))) ?_ (by unfold psL; rw [List.length_map, List.length_map]; omega)))
  exact catL_all (k := .str) fun x _ => g_one rfl ts_nil (e_call rfl g_piece (es_cons (e_name rfl) es_nil) ((f2_piece _).trans (pcS_ok x).2))
theorem l_words (hp : ρ vPieces = some (.dat (.list ((psL zs).map .str)))) : exS F2 56 lsc ((bodyOf st_law).getD 3 default) (ρ, []) = some (.next, put2 ρ vWords (.dat (.list ((zs.map wd).map .str))), []) := by
  refine s_assign rfl rfl rfl rfl (v_np rfl (e_comp rfl (i_val rfl (e_name (np_dat hp)) (items_list (by unfold psL; rw [List.length_map, List.length_map]; omega))) ?_ (by rw [List.length_map, List.length_map]; omega)))
  unfold psL
  rw [List.map_map]
  exact catL_all (k := .str) fun x _ => g_one rfl ts_nil (e_call rfl g_prep (es_cons (e_name rfl) es_nil) ((f2_prep _).trans (run_prepared (by have := (wd_letters x).2; omega) (pcS_ok x).1)))
theorem l_check (hns : ρ vNumbers = some (.dat (.list (zs.map .int)))) (hw : ρ vWords = some (.dat (.list ((zs.map wd).map .str)))) : exS F2 55 lsc ((bodyOf st_law).getD 4 default) (ρ, []) = some (.next, ρ, []) := by
  have hf : ∀ x ∈ zs.map wd, FitS x := fun x hx => by
    obtain ⟨z, _, rfl⟩ := List.mem_map.mp hx
    exact fit_wd z
  refine s_iff (t_cmp rfl (e_name (vw_dat hw)) (e_comp rfl (i_val rfl (e_name (vw_dat hns)) (items_list (by rw [List.length_map]; omega))) (catL_all (h := wd) (k := .str) fun x _ => g_one rfl ts_nil (e_call rfl g_word (es_cons (e_name rfl) es_nil) ((f2_word _).trans (run_word x)))) (by rw [List.length_map, List.length_map]; omega)) ?_) l_nil
  rw [ne_strs hf hf]; simp
theorem l_rows (hn : ρ vN = some (.dat (.int zs.length))) (hw : ρ vWords = some (.dat (.list ((zs.map wd).map .str)))) (hp : ρ vPieces = some (.dat (.list ((psL zs).map .str)))) :
    exS F2 54 lsc ((bodyOf st_law).getD 5 default) (ρ, []) = some (.next, put2 ρ sRows (.dat (.list ((rowsL zs).map .tuple))), []) := by
  refine s_assign rfl rfl rfl rfl (v_np rfl (e_comp rfl (range_ev (by omega) rfl (e_name (np_dat hn))) ?_ (by rw [List.length_map, rowsL_len]; omega)))
  unfold rowsL
  refine catL_all (k := .tuple) fun k hk => ?_
  have hk := List.mem_range.mp hk
  have hpl : (psL zs).length ≤ 1000000 := by unfold psL; rw [List.length_map]; omega
  have e1 : (zs.map wd).getD k (wd 0) = wd (zs.getD k 0) := by simp [List.getD_eq_getElem?_getD, List.getElem?_eq_getElem hk]
  have e2 : (psL zs).getD k (pcS 0) = pcS (zs.getD k 0) := by unfold psL; simp [List.getD_eq_getElem?_getD, List.getElem?_eq_getElem hk]
  refine g_one rfl ts_nil (e_tuple (es_cons (e_sub (e_name (np_dat hw)) (e_name rfl) ((idx_map (d := wd 0) (by rw [List.length_map]; exact hk) (by rw [List.length_map]; omega)).trans (by rw [e1]))) (es_cons (e_sub (e_name (np_dat hp)) (e_name rfl) ((idx_map (d := pcS 0) (by unfold psL; rw [List.length_map]; exact hk) hpl).trans (by rw [e2]))) (es_cons (e_name rfl) es_nil))) (by show 3 ≤ 1000000; omega))
theorem l_dirs (hns : ρ vNumbers = some (.dat (.list (zs.map .int)))) :
    exS F2 53 lsc ((bodyOf st_law).getD 6 default) (ρ, []) = some (.next, put2 (put2 (put2 ρ vUp (.dat (.int (dirO zs 0)))) vWay (.dat (.int (dirO zs 1)))) vBack (.dat (.int (dirO zs 2))), []) := by
  refine s_tup (d := .list (([0, 1, 2] : List Nat).map fun k => .int (dirO zs k))) rfl (e_comp rfl (i_range1 (k := 3) rfl (es_cons (e_const rfl) es_nil) (by decide) (by decide)) ?_ (by simp)) rfl
  have e : rangeD 0 3 = ([0, 1, 2] : List Nat).map fun k => .int (k : Nat) := rfl
  rw [e]
  have e3 : ([0, 1, 2] : List Nat).map (fun k => PyData.int (dirO zs k)) = (([0, 1, 2] : List Nat).map fun k => dirO zs k).map .int := rfl
  rw [e3]
  refine catL_all (k := .int) fun k hk => ?_
  have hk3 : k < 3 := by
    simp only [List.mem_cons, List.not_mem_nil, or_false] at hk
    omega
  have hpw : ((2 : Int) ^ k ≠ 0) ∧ ((2 : Int) ^ k).natAbs < 1073741824 := by
    have : k = 0 ∨ k = 1 ∨ k = 2 := by omega
    rcases this with rfl | rfl | rfl <;> decide
  have hb : (zs.sum.fdiv (2 ^ k)).fmod 2 = 0 ∨ (zs.sum.fdiv (2 ^ k)).fmod 2 = 1 := by
    have h0 := Int.fmod_nonneg_of_pos (zs.sum.fdiv (2 ^ k)) (show (0 : Int) < 2 by omega)
    have h1 := Int.fmod_lt_of_pos (zs.sum.fdiv (2 ^ k)) (show (0 : Int) < 2 by omega)
    omega
  refine g_one rfl ts_nil (e_bin (e_const rfl) (e_bin (e_const rfl) (e_bin (e_bin (e_call rfl g_sum (es_cons (e_name (np_dat hns)) es_nil) ((f2_sum _).trans (blt_sum zs))) (e_bin (e_const rfl) (e_name rfl) (bin_pow (by omega) (by decide))) (bin_fdiv hpw)) (e_const rfl) (bin_mod (by decide))) (show binD .Mult (.int 2) (.int ((zs.sum.fdiv (2 ^ k)).fmod 2)) = some (.int (2 * (zs.sum.fdiv (2 ^ k)).fmod 2)) from ?_)) rfl)
  rcases hb with h | h <;> rw [h] <;> rfl
theorem l_caseless (h1 : ρ vUp = some (.dat (.int (dirO zs 0)))) (h2 : ρ vWay = some (.dat (.int (dirO zs 1)))) :
    exS F2 52 lsc ((bodyOf st_law).getD 7 default) (ρ, []) = some (.next, put2 ρ vCaseless (.dat (.list ((ksC zs).map keyD))), []) :=
  s_assign rfl rfl rfl rfl (v_np rfl (e_list (es_cons (e_tuple (es_cons (e_const rfl) (es_cons (e_name (np_dat h1)) es_nil)) (by simp)) (es_cons (e_tuple (es_cons (e_const rfl) (es_cons (e_name (np_dat h2)) es_nil)) (by simp)) (es_cons (e_tuple (es_cons (e_const rfl) (es_cons (e_const rfl) es_nil)) (by simp)) es_nil))) (by show 3 ≤ 1000000; omega)))
theorem l_spelled (h3 : ρ vBack = some (.dat (.int (dirO zs 2)))) :
    exS F2 51 lsc ((bodyOf st_law).getD 8 default) (ρ, []) = some (.next, put2 ρ vSpelled (.dat (.list ((ksS zs).map keyD))), []) :=
  s_assign rfl rfl rfl rfl (v_np rfl (e_list (es_cons (e_tuple (es_cons (e_const rfl) (es_cons (e_name (np_dat h3)) es_nil)) (by simp)) (es_cons (e_tuple (es_cons (e_const rfl) (es_cons (e_const rfl) es_nil)) (by simp)) es_nil)) (by show 2 ≤ 1000000; omega)))
theorem l_first (hr : ρ sRows = some (.dat (.list ((rowsL zs).map .tuple)))) (hs : ρ vSpelled = some (.dat (.list ((ksS zs).map keyD)))) :
    exS F2 50 lsc ((bodyOf st_law).getD 9 default) (ρ, []) = some (.next, put2 ρ vFirst (.dat (.list (natsD (firstL zs)))), []) := by
  have := run_sorted (okS h6) (by rw [rowsL_len]; omega)
  rw [rowsL_len] at this
  exact s_assign rfl rfl rfl rfl (v_np rfl (e_call rfl g_sorted (es_cons (e_name (np_dat hr)) (es_cons (e_name (np_dat hs)) es_nil)) ((f2_sorted _).trans this)))
end
end
end Mine
end SQD
section SQE
open PySem PySem.W PyProof.Rows PySem.Calls
set_option maxRecDepth 100000
namespace Mine
noncomputable section
noncomputable def TL (zs : List Int) : List (List Nat × List Nat) := putIn (gtC zs) 0 (firstL zs)
noncomputable def keptL (zs : List Int) : List (List Nat) := (TL zs).map (·.1)
noncomputable def madeL (zs : List Int) : List (List Nat) := (TL zs).map (·.2)
theorem putIn_tok {R : Nat} {gt : Nat → Nat → Bool} : ∀ {ps : List Nat}, (∀ p ∈ ps, p < R) → Tok R ps.length (putIn gt 0 ps) := by
  have key : ∀ (ps : List Nat) (T : List (List Nat × List Nat)) (N : Nat), (∀ p ∈ ps, p < R) → Tok R N T → Tok R (N + ps.length) (ps.foldl (fun T p => putKM gt 0 p p T) T) := by
    intro ps
    induction ps with
    | nil => intro T N _ h; exact h
    | cons p ps ih =>
      intro T N h hT
      have := ih (putKM gt 0 p p T) (N + 1) (fun q hq => h q (List.mem_cons_of_mem _ hq)) (hT.put (h p List.mem_cons_self))
      rw [List.length_cons, show N + (ps.length + 1) = N + 1 + ps.length by omega]
      exact this
  intro ps h
  have := key ps [] 0 h ⟨Nat.le_refl _, fun _ h => nomatch h⟩
  rw [Nat.zero_add] at this
  exact this
theorem putKM_ne {gt : Nat → Nat → Bool} {d p : Nat} : ∀ {T : List (List Nat × List Nat)} {m : Nat}, 0 < (putKM gt d p m T).length
  | [], m => by unfold putKM; simp
  | (l, md) :: r, m => by
    unfold putKM
    split <;> simp
theorem putIn_ne {gt : Nat → Nat → Bool} {ps : List Nat} (h : 0 < ps.length) : 0 < (putIn gt 0 ps).length := by
  obtain ⟨l, x, rfl⟩ : ∃ l x, ps = l ++ [x] := ⟨ps.dropLast, ps.getLast (List.length_pos_iff.mp h), (List.dropLast_concat_getLast _).symm⟩
  unfold putIn
  rw [List.foldl_append]
  exact putKM_ne
section
variable {zs : List Int} (h0 : 0 < zs.length) (h6 : zs.length ≤ 6) {ρ : Ro2}
theorem TL_tok (zs : List Int) : Tok zs.length zs.length (TL zs) := by
  have := putIn_tok (gt := gtC zs) (perm_lt (first_up zs))
  rw [first_len] at this
  exact this
include h0 in
theorem kept_pos : 0 < (keptL zs).length := by
  unfold keptL TL
  rw [List.length_map]
  exact putIn_ne (by rw [first_len]; exact h0)
include h6 in
theorem kept_len : (keptL zs).length ≤ 6 ∧ ∀ l ∈ keptL zs, l.length ≤ 6 := by
  obtain ⟨h1, h2⟩ := TL_tok zs
  refine ⟨by unfold keptL; rw [List.length_map]; omega, fun l hl => ?_⟩
  obtain ⟨t, ht, rfl⟩ := List.mem_map.mp hl
  have := (h2 t ht).1; omega
include h6 in
theorem made_len : (madeL zs).length ≤ 6 ∧ ∀ l ∈ madeL zs, l.length ≤ 6 := by
  obtain ⟨h1, h2⟩ := TL_tok zs
  refine ⟨by unfold madeL; rw [List.length_map]; omega, fun l hl => ?_⟩
  obtain ⟨t, ht, rfl⟩ := List.mem_map.mp hl
  have := (h2 t ht).2.1; omega
include h6
theorem put_first : F2 nPutIn [.list (natsD (firstL zs)), .list ((rowsL zs).map .tuple), .list ((ksC zs).map keyD)] = some (.tuple [rowsD (keptL zs), rowsD (madeL zs)]) :=
  (f2_put _).trans (run_put (okC h6) (ps := firstL zs) (fun p hp => by rw [rowsL_len]; exact perm_lt (first_up zs) p hp) (by rw [first_len]; omega))
theorem put_second : F2 nPutIn [.list (natsD (secondL zs)), .list ((rowsL zs).map .tuple), .list ((ksS zs).map keyD)] = some (.tuple [rowsD (madeL zs), rowsD (keptL zs)]) := by
  obtain ⟨⟨c1, c2⟩, _⟩ := comb12 h6 (totC zs) (totS zs)
  have := run_put (okS h6) (ps := secondL zs) (fun p hp => by rw [rowsL_len]; exact perm_lt (second_up zs) p hp) (by rw [second_len]; omega)
  have e1 : (putIn (rowGt (rowsL zs) (ksS zs)) 0 (secondL zs)).map (·.1) = madeL zs := c1
  have e2 : (putIn (rowGt (rowsL zs) (ksS zs)) 0 (secondL zs)).map (·.2) = keptL zs := c2
  rw [e1, e2] at this
  exact (f2_put _).trans this
theorem put_rev : ∃ M, F2 nPutIn [.list (natsD (firstL zs)).reverse, .list ((rowsL zs).map .tuple), .list ((ksC zs).map keyD)] = some (.tuple [rowsD (colsOf (keptL zs)), M]) := by
  obtain ⟨_, c3⟩ := comb12 h6 (totC zs) (totS zs)
  have := run_put (okC h6) (ps := (firstL zs).reverse) (fun p hp => by rw [rowsL_len]; exact perm_lt (first_up zs) p (List.mem_reverse.mp hp)) (by rw [List.length_reverse, first_len]; omega)
  have e1 : (putIn (rowGt (rowsL zs) (ksC zs)) 0 (firstL zs).reverse).map (·.1) = colsOf (keptL zs) := c3
  rw [e1] at this
  have e2 : (natsD (firstL zs)).reverse = natsD (firstL zs).reverse := by unfold natsD; rw [List.map_reverse]
  rw [e2]
  exact ⟨_, (f2_put _).trans this⟩
theorem l_put (hf : ρ vFirst = some (.dat (.list (natsD (firstL zs))))) (hr : ρ sRows = some (.dat (.list ((rowsL zs).map .tuple)))) (hc : ρ vCaseless = some (.dat (.list ((ksC zs).map keyD)))) :
    exS F2 49 lsc ((bodyOf st_law).getD 10 default) (ρ, []) = some (.next, put2 (put2 ρ sKept (.dat (rowsD (keptL zs)))) sMade (.dat (rowsD (madeL zs))), []) :=
  s_tup rfl (e_call rfl g_put (es_cons (e_name (np_dat hf)) (es_cons (e_name (np_dat hr)) (es_cons (e_name (np_dat hc)) es_nil))) (put_first h6)) rfl
theorem l_swap (hr : ρ sRows = some (.dat (.list ((rowsL zs).map .tuple)))) (hc : ρ vCaseless = some (.dat (.list ((ksC zs).map keyD)))) (hs : ρ vSpelled = some (.dat (.list ((ksS zs).map keyD)))) (hk : ρ sKept = some (.dat (rowsD (keptL zs)))) (hm : ρ sMade = some (.dat (rowsD (madeL zs)))) :
    exS F2 48 lsc ((bodyOf st_law).getD 11 default) (ρ, []) = some (.next, ρ, []) := by
  have hsec := run_sorted (okC h6) (by rw [rowsL_len]; omega)
  rw [rowsL_len] at hsec
  exact s_iff (t_cmp rfl (e_call rfl g_put (es_cons (e_call rfl g_sorted (es_cons (e_name (vw_dat hr)) (es_cons (e_name (vw_dat hc)) es_nil)) ((f2_sorted _).trans hsec)) (es_cons (e_name (vw_dat hr)) (es_cons (e_name (vw_dat hs)) es_nil))) (put_second h6)) (e_tuple (es_cons (e_name (vw_dat hm)) (es_cons (e_name (vw_dat hk)) es_nil)) (by simp)) (ne_pair _ _)) l_nil
include h0 in
theorem l_cols (hk : ρ sKept = some (.dat (rowsD (keptL zs)))) :
    exS F2 47 lsc ((bodyOf st_law).getD 12 default) (ρ, []) = some (.next, put2 ρ vColumns (.dat (rowsD (colsOf (keptL zs)))), []) := by
  obtain ⟨k1, k2⟩ := kept_len h6
  have hpos := kept_pos h0
  have hl0 : ((keptL zs).getD 0 []).length ≤ 6 := by
    rw [List.getD_eq_getElem?_getD, List.getElem?_eq_getElem hpos]
    exact k2 _ (List.getElem_mem _)
  have hidx : idxD (rowsD (keptL zs)) (.int 0) = some (.list (natsD ((keptL zs).getD 0 []))) := idx_map (k := 0) hpos (by omega)
  have hz : (((colsOf (keptL zs)).map fun l => PyData.list (natsD l))).length ≤ 1000000 := by rw [List.length_map]; unfold colsOf; rw [List.length_map, List.length_range]; omega
  refine s_assign rfl rfl rfl rfl (v_np rfl (e_comp rfl (range_ev (n := ((keptL zs).getD 0 []).length) (by omega) rfl (e_call rfl g_len (es_cons (e_sub (e_name (np_dat hk)) (e_const rfl) hidx) es_nil) ((f2_len _).trans ((blt_len_list (by rw [natsD_length]; omega)).trans (by rw [natsD_length]))))) ?_ hz))
  unfold colsOf
  refine catL_all (k := fun l => PyData.list (natsD l)) fun k _ => ?_
  have hin : natsD (((keptL zs).filter fun line => Nat.blt k line.length).map fun line => line.getD k 0) = ((keptL zs).filter fun line => Nat.blt k line.length).map fun line => .int (line.getD k 0 : Nat) := by simp [natsD]
  refine g_one rfl ts_nil (e_comp rfl (i_val rfl (e_name (np_dat hk)) (items_list (by rw [List.length_map]; omega))) ?_ (by
    rw [natsD_length, List.length_map]
    have := List.length_filter_le (fun line : List Nat => Nat.blt k line.length) (keptL zs)
    omega))
  rw [hin]
  refine catL_filter fun l hl => ?_
  have hl6 := k2 l hl
  cases e : Nat.blt k l.length with
  | true =>
    have hlt := Nat.blt_eq.mp e
    rw [if_pos rfl]
    refine g_one rfl (ts_t (t_cmp rfl (e_name rfl) (e_call rfl g_len (es_cons (e_name rfl) es_nil) ((f2_len _).trans ((blt_len_list (by rw [natsD_length]; omega)).trans (by rw [natsD_length])))) ?_) ts_nil) (e_sub (e_name rfl) (e_name rfl) (idx_nats hlt (by omega)))
    rw [lt_int', decide_eq_true (by omega)]
  | false =>
    have hlt : ¬ k < l.length := fun h => by rw [Nat.blt_eq.mpr h] at e; cases e
    rw [if_neg Bool.false_ne_true]
    refine g_no rfl (ts_f (t_cmp rfl (e_name rfl) (e_call rfl g_len (es_cons (e_name rfl) es_nil) ((f2_len _).trans ((blt_len_list (by rw [natsD_length]; omega)).trans (by rw [natsD_length])))) ?_))
    rw [lt_int', decide_eq_false (by omega)]
theorem l_ifcols (hf : ρ vFirst = some (.dat (.list (natsD (firstL zs))))) (hr : ρ sRows = some (.dat (.list ((rowsL zs).map .tuple)))) (hc : ρ vCaseless = some (.dat (.list ((ksC zs).map keyD)))) (hcol : ρ vColumns = some (.dat (rowsD (colsOf (keptL zs))))) :
    exS F2 46 lsc ((bodyOf st_law).getD 13 default) (ρ, []) = some (.next, ρ, []) := by
  obtain ⟨M, hM⟩ := put_rev h6
  rw [← sliceL_m1] at hM
  exact s_iff (t_cmp rfl (e_sub (e_call rfl g_put (es_cons (e_slice (e_name (vw_dat hf)) ep_none ep_none (ep_some (e_neg (e_const rfl))) (by rw [natsD_length, first_len]; omega) (by simp)) (es_cons (e_name (vw_dat hr)) (es_cons (e_name (vw_dat hc)) es_nil))) hM) (e_const rfl) (show idxD (.tuple [rowsD (colsOf (keptL zs)), M]) (.int 0) = some (rowsD (colsOf (keptL zs))) from rfl)) (e_name (vw_dat hcol)) (ne_rows _)) l_nil
end
end
end Mine
end SQE
section SQF
open PySem PySem.W PyProof.Rows PySem.Calls
set_option maxRecDepth 100000
namespace Mine
noncomputable section
theorem bin_mul {a b : Int} (h : a = 1 ∨ a = -1) : binD .Mult (.int a) (.int b) = some (.int (a * b)) := by
  simp only [binD]
  rw [if_pos (by rcases h with rfl | rfl <;> decide)]
theorem lt_str' (a b : Str) : cmpD .Lt (.str a) (.str b) = some (ltS a b) := rfl
noncomputable def stsL (zs : List Int) : List Nat := (psL zs).map (stOf (psL zs))
theorem psL_len (zs : List Int) : (psL zs).length = zs.length := by unfold psL; rw [List.length_map]
theorem stsL_len (zs : List Int) : (stsL zs).length = zs.length := by unfold stsL; rw [List.length_map, psL_len]
theorem stsL_at {zs : List Int} {p : Nat} (h : p < zs.length) : (stsL zs).getD p 0 = stL zs p := by
  unfold stsL stL
  have hp : p < (psL zs).length := by rw [psL_len]; exact h
  rw [List.getD_eq_getElem?_getD, List.getElem?_map, List.getElem?_eq_getElem hp]
  simp [psL, List.getD_eq_getElem?_getD, List.getElem?_eq_getElem h]
theorem tupsD_map : ∀ {l : List (List Int)}, (∀ x ∈ l, x ≠ []) → tupsD (l.map tupD) = some l
  | [], _ => rfl
  | x :: l, h => by
    have ih := tupsD_map (l := l) fun y hy => h y (List.mem_cons_of_mem _ hy)
    simp only [List.map_cons]
    show (intsD (x.map .int)).bind (fun is => if is = [] then none else (tupsD (l.map tupD)).map (is :: ·)) = _
    rw [intsD_map, Option.bind_some, if_neg (h x List.mem_cons_self), ih]; rfl
theorem blt_srt {l : List (List Int)} {p : List Nat} (hl : ∀ x ∈ l, x ≠ []) (h64 : l.length < 64) (hp : sortP l.length l = some p) : bltD nSrt [.list (l.map tupD)] = some (.list (p.map fun i => (l.map tupD).getD i .none)) := by
  have e : bltD nSrt [.list (l.map tupD)] = (tupsD (l.map tupD)).bind fun is => if (l.map tupD).length < 64 then (sortP (l.map tupD).length is).map fun p => .list (p.map fun i => (l.map tupD).getD i .none) else none := by kernel_rfl
  rw [e, tupsD_map hl, Option.bind_some, List.length_map, if_pos h64, hp]; rfl
section
variable {zs : List Int} (h0 : 0 < zs.length) (h6 : zs.length ≤ 6) {ρ : Ro2}
include h6
include h0 in
theorem sort_pairs : sortP zs.length ((List.range zs.length).map (keyS zs)) = some (firstL zs) := by
  unfold sortP
  by_cases h2 : zs.length < 2
  · rw [if_pos h2]
    have e : zs.length = 1 := by omega
    have hp := first_up zs
    rw [e] at hp ⊢
    have : (firstL zs).Perm [0] := hp
    rw [List.perm_singleton.mp this]; rfl
  · rw [if_neg h2]
    refine comb4 (by omega) h6 (totS zs) fun i j hi hj => ?_
    unfold ltAt
    have e : ∀ i, i < zs.length → ((List.range zs.length).map (keyS zs)).getD i [] = keyS zs i := fun i hi => by
      rw [List.getD_eq_getElem?_getD, List.getElem?_map, List.getElem?_range hi]; rfl
    rw [e i hi, e j hj, gtS_key hj hi]
theorem l_stands (hp : ρ vPieces = some (.dat (.list ((psL zs).map .str)))) :
    exS F2 45 lsc ((bodyOf st_law).getD 14 default) (ρ, []) = some (.next, put2 ρ vStands (.dat (.list (natsD (stsL zs)))), []) := by
  have hz : (psL zs).length ≤ 6 := by rw [psL_len]; exact h6
  have hits : itemsD (.list ((psL zs).map .str)) = some ((psL zs).map .str) := items_list (by rw [List.length_map]; omega)
  refine s_assign rfl rfl rfl rfl (v_np rfl (e_comp rfl (i_val rfl (e_name (np_dat hp)) hits) ?_ (by rw [natsD_length, stsL_len]; omega)))
  unfold stsL
  have hn : natsD ((psL zs).map (stOf (psL zs))) = ((psL zs).map (stOf (psL zs))).map fun i => .int (i : Nat) := rfl
  rw [hn]
  refine catL_all (k := fun i : Nat => PyData.int i) fun x _ => ?_
  have hfl := List.length_filter_le (fun y => ltS y x) (psL zs)
  refine g_one rfl ts_nil (e_call rfl g_len (es_cons (e_comp (ds := ((psL zs).filter fun y => ltS y x).map .str) rfl (i_val rfl (e_name (np_dat hp)) hits) ?_ (by rw [List.length_map]; omega)) es_nil) ((f2_len _).trans ((blt_len_list (by rw [List.length_map]; omega)).trans (by rw [List.length_map]; rfl))))
  refine catL_filter fun y _ => ?_
  cases e : ltS y x with
  | true =>
    rw [if_pos rfl]
    exact g_one rfl (ts_t (t_cmp rfl (e_name rfl) (e_name rfl) ((lt_str' y x).trans (by rw [e]))) ts_nil) (e_name rfl)
  | false =>
    rw [if_neg Bool.false_ne_true]
    exact g_no rfl (ts_f (t_cmp rfl (e_name rfl) (e_name rfl) ((lt_str' y x).trans (by rw [e]))))
include h0 in
theorem l_due (hn : ρ vN = some (.dat (.int zs.length))) (hb : ρ vBack = some (.dat (.int (dirO zs 2)))) (hs : ρ vStands = some (.dat (.list (natsD (stsL zs))))) :
    exS F2 44 lsc ((bodyOf st_law).getD 15 default) (ρ, []) = some (.next, put2 ρ vDue (.dat (.list (natsD (firstL zs)))), []) := by
  have hsort := blt_srt (l := (List.range zs.length).map (keyS zs)) (p := firstL zs) (fun x hx => by
    obtain ⟨p, _, rfl⟩ := List.mem_map.mp hx
    rw [keyS_eq]; simp) (by rw [List.length_map, List.length_range]; omega) (by rw [List.length_map, List.length_range]; exact sort_pairs h0 h6)
  have hres : (firstL zs).map (fun i => (((List.range zs.length).map (keyS zs)).map tupD).getD i .none) = (firstL zs).map fun i => tupD (keyS zs i) := List.map_congr_left fun i hi => by
    have hi := perm_lt (first_up zs) i hi
    rw [List.getD_eq_getElem?_getD, List.getElem?_map, List.getElem?_map, List.getElem?_range hi]; rfl
  rw [hres] at hsort
  refine s_assign rfl rfl rfl rfl (v_np rfl (e_comp rfl (i_val rfl (e_call rfl g_srt (es_cons (e_comp rfl (range_ev (by omega) rfl (e_name (np_dat hn))) (catL_all (h := keyS zs) (k := tupD) fun k hk => ?_) (by rw [List.length_map, List.length_map, List.length_range]; omega)) es_nil) ((f2_srt _).trans hsort)) (items_list (by rw [List.length_map, first_len]; omega))) ?_ (by rw [natsD_length, first_len]; omega)))
  · have hk := List.mem_range.mp hk
    rw [keyS_eq]
    refine g_one rfl ts_nil (e_tuple (es_cons (e_bin (e_name (np_dat hb)) (e_sub (e_name (np_dat hs)) (e_name rfl) (idx_nats (by rw [stsL_len]; exact hk) (by rw [stsL_len]; omega))) ?_) (es_cons (e_name rfl) es_nil)) (by simp))
    rw [stsL_at hk]
    exact bin_mul (dirO_one zs 2)
  · have hnn : natsD (firstL zs) = ((firstL zs).map fun i => i).map fun i : Nat => .int i := by rw [List.map_id']; rfl
    rw [hnn]
    refine catL_all (k := fun i : Nat => PyData.int i) fun i _ => ?_
    rw [keyS_eq]
    exact g_one rfl ts_nil (e_name rfl)
noncomputable def rankL (zs : List Int) : List (List Int) := (firstL zs).map (keyC zs)
theorem l_ranks (hns : ρ vNumbers = some (.dat (.list (zs.map .int)))) (hu : ρ vUp = some (.dat (.int (dirO zs 0)))) (hw : ρ vWay = some (.dat (.int (dirO zs 1)))) (hs : ρ vStands = some (.dat (.list (natsD (stsL zs))))) (hd : ρ vDue = some (.dat (.list (natsD (firstL zs))))) :
    exS F2 43 lsc ((bodyOf st_law).getD 16 default) (ρ, []) = some (.next, put2 ρ sRanks (.dat (.list ((rankL zs).map tupD))), []) := by
  refine s_assign rfl rfl rfl rfl (v_np rfl (e_comp rfl (i_val rfl (e_name (np_dat hd)) (items_list (by rw [natsD_length, first_len]; omega))) ?_ (by unfold rankL; rw [List.length_map, List.length_map, first_len]; omega)))
  unfold rankL natsD
  refine catL_all (k := tupD) fun p hp => ?_
  have hp := perm_lt (first_up zs) p hp
  rw [keyC_eq]
  refine g_one rfl ts_nil (e_tuple (es_cons (e_bin (e_name (np_dat hu)) (e_bin (e_sub (e_name (np_dat hns)) (e_name rfl) (idx_ints hp (by omega))) (e_const rfl) (bin_mod (by decide))) (bin_mul (dirO_one zs 0))) (es_cons (e_bin (e_name (np_dat hw)) (e_sub (e_name (np_dat hs)) (e_name rfl) (idx_nats (by rw [stsL_len]; exact hp) (by rw [stsL_len]; omega))) ?_) (es_cons (e_name rfl) es_nil))) (by simp))
  rw [stsL_at hp]
  exact bin_mul (dirO_one zs 1)
end
end
end Mine
end SQF
section SQG
open PySem PySem.W PyProof.Rows PySem.Calls
set_option maxRecDepth 100000
namespace Mine
noncomputable section
noncomputable abbrev chFor : Stmt := (bodyOf st_law).getD 18 default
noncomputable def chL (zs : List Int) (c : Nat) : List (List Int) := (chosenI zs.length c).map fun k => (rankL zs).getD k []
noncomputable def pairN (zs : List Int) (c : Nat) : Nat × Nat := ((chosenI zs.length c).length, longG (fun a b => gtC zs b a) ((chosenI zs.length c).map fun k => (firstL zs).getD k 0).reverse)
noncomputable def pairD (x : Nat × Nat) : PyData := .tuple [.int x.1, .int x.2]
noncomputable def sgC (zs : List Int) (c : Nat) : Sg := [(List.range c).map fun c => .d (pairD (pairN zs c))]
theorem chosen_mem {n c k : Nat} (h : k ∈ chosenI n c) : k < n := List.mem_range.mp (List.mem_filter.mp h).1
theorem chosen_len (n c : Nat) : (chosenI n c).length ≤ n := by
  have := List.length_filter_le (fun k => c / 2 ^ k % 2 == 1) (List.range n)
  rw [List.length_range] at this
  exact this
theorem chL_eq (zs : List Int) (c : Nat) : chL zs c = ((chosenI zs.length c).map fun k => (firstL zs).getD k 0).map (keyC zs) := by
  unfold chL rankL
  rw [List.map_map]
  refine List.map_congr_left fun k hk => ?_
  have hk : k < (firstL zs).length := by rw [first_len]; exact chosen_mem hk
  simp [List.getD_eq_getElem?_getD, List.getElem?_eq_getElem hk]
theorem first_at_lt (zs : List Int) {k : Nat} (hk : k < zs.length) : (firstL zs).getD k 0 < zs.length := by
  have hk' : k < (firstL zs).length := by rw [first_len]; exact hk
  rw [getD_lt hk']; exact perm_lt (first_up zs) _ (List.getElem_mem _)
theorem chL_long (zs : List Int) (c : Nat) : longG ltInts (chL zs c).reverse = (pairN zs c).2 := by
  rw [chL_eq, ← List.map_reverse]
  refine longG_map (P := fun p => p < zs.length) (fun a b ha hb => (gtC_key hb ha).symm) fun x hx => ?_
  obtain ⟨k, hk, rfl⟩ := List.mem_map.mp (List.mem_reverse.mp hx)
  exact first_at_lt zs (chosen_mem hk)
theorem chL_len (zs : List Int) (c : Nat) : (chL zs c).length = (pairN zs c).1 := by unfold chL pairN; rw [List.length_map]
theorem bit_eq (c k : Nat) : (((c : Int).fdiv (2 ^ k)).fmod 2 == 1) = (c / 2 ^ k % 2 == 1) := by
  have e1 : ((2 : Int) ^ k) = ((2 ^ k : Nat) : Int) := by simp
  have e2 : (c : Int).fdiv ((2 ^ k : Nat) : Int) = ((c / 2 ^ k : Nat) : Int) := by
    rw [Int.fdiv_eq_ediv_of_nonneg _ (Int.natCast_nonneg _)]; rfl
  have e3 : (((c / 2 ^ k : Nat) : Int)).fmod 2 = ((c / 2 ^ k % 2 : Nat) : Int) := by
    rw [Int.fmod_eq_emod_of_nonneg _ (by omega)]; rfl
  rw [e1, e2, e3]
  cases h : (c / 2 ^ k % 2 == 1) with
  | true =>
    have := eq_of_beq h
    rw [this]; rfl
  | false =>
    have : ¬ c / 2 ^ k % 2 = 1 := fun e => by rw [e] at h; cases h
    exact beq_eq_false_iff_ne.mpr (by omega)
section
variable {zs : List Int} (h0 : 0 < zs.length) (h6 : zs.length ≤ 6)
include h6
theorem l_chosen {ρ : Ro2} {σ : Sg} {c : Nat} (hn : ρ vN = some (.dat (.int zs.length))) (hr : ρ sRanks = some (.dat (.list ((rankL zs).map tupD)))) (hc : ρ vChoice = some (.dat (.int c))) :
    exS F2 39 lsc ((forBody chFor).getD 0 default) (ρ, σ) = some (.next, put2 ρ vChosen (.dat (.list ((chL zs c).map tupD))), σ) := by
  have hlen := chosen_len zs.length c
  refine s_assign rfl rfl rfl rfl (v_np rfl (e_comp rfl (range_ev (by omega) rfl (e_name (np_dat hn))) ?_ (by unfold chL; rw [List.length_map, List.length_map]; omega)))
  unfold chL
  rw [List.map_map]
  refine catL_filter (k := tupD ∘ fun k => (rankL zs).getD k []) fun k hk => ?_
  have hk := List.mem_range.mp hk
  have hpw : ((2 : Int) ^ k ≠ 0) ∧ ((2 : Int) ^ k).natAbs < 1073741824 := by
    have : k = 0 ∨ k = 1 ∨ k = 2 ∨ k = 3 ∨ k = 4 ∨ k = 5 := by omega
    rcases this with rfl | rfl | rfl | rfl | rfl | rfl <;> decide
  have ht := (eq_int (((c : Int).fdiv (2 ^ k)).fmod 2) 1).trans (by rw [bit_eq])
  have hrl : k < (rankL zs).length := by unfold rankL; rw [List.length_map, first_len]; exact hk
  cases e : (c / 2 ^ k % 2 == 1) with
  | true =>
    rw [e] at ht
    rw [if_pos rfl]
    exact g_one rfl (ts_t (t_cmp rfl (e_bin (e_bin (e_name (np_dat hc)) (e_bin (e_const rfl) (e_name rfl) (bin_pow (by omega) (by decide))) (bin_fdiv hpw)) (e_const rfl) (bin_mod (by decide))) (e_const rfl) ht) ts_nil) (e_sub (e_name (np_dat hr)) (e_name rfl) (idx_map hrl (by unfold rankL; rw [List.length_map, first_len]; omega)))
  | false =>
    rw [e] at ht
    rw [if_neg Bool.false_ne_true]
    exact g_no rfl (ts_f (t_cmp rfl (e_bin (e_bin (e_name (np_dat hc)) (e_bin (e_const rfl) (e_name rfl) (bin_pow (by omega) (by decide))) (bin_fdiv hpw)) (e_const rfl) (bin_mod (by decide))) (e_const rfl) ht))
omit h6 in
theorem sgC_succ (zs : List Int) (c : Nat) : (sgC zs c).set 0 (((List.range c).map fun c => It.d (pairD (pairN zs c))) ++ [.d (pairD (pairN zs c))]) = sgC zs (c + 1) := by
  unfold sgC
  rw [List.range_succ, List.map_append]; rfl
theorem ch_for : ∀ (j c : Nat) (ρ : Ro2), c + j ≤ 64 → ρ vN = some (.dat (.int zs.length)) → ρ sRanks = some (.dat (.list ((rankL zs).map tupD))) → ρ vChoices = some (.ptr 0) →
    ∃ ρ', forL (forF F2 40 lsc (forTg chFor) (forBody chFor)) ((List.range' c j).map fun i => .int (i : Nat)) (ρ, sgC zs c) = some (.next, ρ', sgC zs (c + j)) ∧ ∀ x, x ≠ vChoice → x ≠ vChosen → ρ' x = ρ x
  | 0, c, ρ, _, _, _, _ => ⟨ρ, rfl, fun _ _ _ => rfl⟩
  | j + 1, c, ρ, hj, hn, hr, hch => by
    have s1 := l_chosen h6 (ρ := put2 ρ vChoice (.dat (.int c))) (σ := sgC zs c) (c := c) hn hr rfl
    have hlen := chosen_len zs.length c
    have hcl : (chL zs c).length ≤ 6 := by rw [chL_len]; show (chosenI _ _).length ≤ 6; omega
    have hrev : sliceL ((chL zs c).map tupD) none none (some (-1)) = (chL zs c).reverse.map tupD := by rw [sliceL_m1, List.map_reverse]
    have hlon : F2 nLongest [.list (sliceL ((chL zs c).map tupD) none none (some (-1)))] = some (.int ((pairN zs c).2 : Nat)) := by
      rw [hrev, ← chL_long]
      exact (f2_longest _).trans (run_longest (by rw [List.length_reverse]; omega))
    obtain ⟨ρ', r1, r2⟩ := ch_for j (c + 1) (put2 (put2 ρ vChoice (.dat (.int c))) vChosen (.dat (.list ((chL zs c).map tupD)))) (by omega) hn hr hch
    have hz : ((chL zs c).map tupD).length ≤ 1000000 := by rw [List.length_map]; omega
    refine ⟨ρ', f_next (Option.bind_eq_some_iff.mpr ⟨_, rfl, l_next s1 (l_next (s_app rfl (r := put2 (put2 ρ vChoice (.dat (.int c))) vChosen (.dat (.list ((chL zs c).map tupD)))) hch ((pu_it (d := pairD (pairN zs c)) (its := (List.range c).map fun c => It.d (pairD (pairN zs c))) rfl (by rw [List.length_map, List.length_range]; omega) rfl (v_np rfl (e_tuple (es_cons (e_call rfl g_len (es_cons (e_name rfl) es_nil) ((f2_len _).trans ((blt_len_list hz).trans (by rw [List.length_map, chL_len])))) (es_cons (e_call rfl g_longest (es_cons (e_slice (e_name rfl) ep_none ep_none (ep_some (e_neg (e_const rfl))) hz (by simp)) es_nil) hlon) es_nil)) (by show 2 ≤ 1000000; omega)))).trans (by rw [sgC_succ]))) l_nil)⟩) ?_, fun x h1 h2 => ?_⟩
    · rw [show c + (j + 1) = c + 1 + j by omega]; exact r1
    · exact (r2 x h1 h2).trans ((if_neg h2).trans (if_neg h1))
end
end
end Mine
end SQG
section SQH
open PySem PySem.W PyProof.Rows PySem.Calls
set_option maxRecDepth 100000
namespace Mine
noncomputable section
noncomputable abbrev tFor : Stmt := (bodyOf st_law).getD 19 default
noncomputable abbrev kFor : Stmt := (forBody tFor).getD 0 default
theorem le_int' (a b : Int) : cmpD .LtE (.int a) (.int b) = some (decide (a ≤ b)) := rfl
theorem in_nats (l : List Nat) (p : Nat) : cmpD .In (.int p) (.list (natsD l)) = some (l.contains p) := by
  show ((intsD (natsD l)).bind fun is => some (is.any (· == (p : Int)))) = _
  rw [intsD_nats, Option.bind_some]
  congr 1
  induction l with
  | nil => rfl
  | cons x l ih =>
    rw [List.map_cons, List.any_cons, ih, List.contains_cons]
    congr 1
    by_cases h : x = p
    · subst h; simp
    · rw [beq_eq_false_iff_ne.mpr (Ne.symm h), beq_eq_false_iff_ne.mpr (by omega)]
theorem flat_nats (P : Nat → Bool) : ∀ L : List (List Nat), (L.flatMap fun l => natsD (l.filter P)) = natsD (L.flatten.filter P)
  | [] => rfl
  | l :: L => by
    rw [List.flatMap_cons, flat_nats P L, List.flatten_cons, List.filter_append, natsD_append]
theorem view_choices (zs : List Int) (c : Nat) : viewP (sgC zs c) 0 = some (.list ((List.range c).map fun c => pairD (pairN zs c))) := by
  unfold viewP
  show Option.map _ (((List.range c).map fun c => It.d (pairD (pairN zs c))).mapM (viewIt (sgC zs c))) = _
  have h : (List.range c).mapM (viewIt (sgC zs c) ∘ fun c => It.d (pairD (pairN zs c))) = some ((List.range c).map fun c => pairD (pairN zs c)) := mapM_all (g := fun c => pairD (pairN zs c)) fun i _ => rfl
  rw [List.mapM_map, h]
  rfl
noncomputable def mostN (zs : List Int) (t k : Nat) : Nat := maxN (((((List.range (2 ^ zs.length)).map (pairN zs)).take (2 ^ t)).filter fun x => Nat.ble x.2 k).map (·.1))
structure FinEnv (ρ : Ro2) (zs : List Int) : Prop where
  choices : ρ vChoices = some (.ptr 0)
  made : ρ sMade = some (.dat (rowsD (madeL zs)))
  due : ρ vDue = some (.dat (.list (natsD (firstL zs))))
  n : ρ vN = some (.dat (.int zs.length))
theorem pow64 {t : Nat} (h : t ≤ 6) : 2 ^ t ≤ 64 := by
  have : 2 ^ t ≤ 2 ^ 6 := Nat.pow_le_pow_right (by omega) h
  exact this
theorem ble_dec (a b : Nat) : decide ((a : Int) ≤ (b : Int)) = Nat.ble a b := by
  cases h : Nat.ble a b with
  | true => exact decide_eq_true (by have := Nat.le_of_ble_eq_true h; omega)
  | false => exact decide_eq_false fun h' => by rw [Nat.ble_eq_true_of_le (by omega)] at h; cases h
section
variable {zs : List Int} (h0 : 0 < zs.length) (h6 : zs.length ≤ 6)
include h6
theorem l_most {ρ : Ro2} {t k : Nat} (E : FinEnv ρ zs) (ht : t ≤ zs.length) (hT : ρ vT = some (.dat (.int t))) (hK : ρ sK = some (.dat (.int k))) :
    exS F2 36 lsc ((forBody kFor).getD 0 default) (ρ, sgC zs (2 ^ zs.length)) = some (.next, put2 ρ vMost (.dat (.int (mostN zs t k : Nat))), sgC zs (2 ^ zs.length)) := by
  have hN := pow64 h6
  have h2t := pow64 (show t ≤ 6 by omega)
  have hpw : ((2 : Int) ^ t) = ((2 ^ t : Nat) : Int) := by simp
  have hcl : ((List.range (2 ^ zs.length)).map fun c => pairD (pairN zs c)).length ≤ 1000000 := by rw [List.length_map, List.length_range]; omega
  have hsl : sliceL ((List.range (2 ^ zs.length)).map fun c => pairD (pairN zs c)) none (some ((2 : Int) ^ t)) none = (((List.range (2 ^ zs.length)).map (pairN zs)).take (2 ^ t)).map pairD := by
    rw [hpw, sliceL_to, List.map_take, List.map_map]; rfl
  have hfl : ((((List.range (2 ^ zs.length)).map (pairN zs)).take (2 ^ t)).filter fun x => Nat.ble x.2 k).length ≤ 1000 := by
    have a := List.length_filter_le (fun x : Nat × Nat => Nat.ble x.2 k) (((List.range (2 ^ zs.length)).map (pairN zs)).take (2 ^ t))
    have b : (((List.range (2 ^ zs.length)).map (pairN zs)).take (2 ^ t)).length ≤ 2 ^ t := by rw [List.length_take]; omega
    omega
  have hne : ((((List.range (2 ^ zs.length)).map (pairN zs)).take (2 ^ t)).filter fun x => Nat.ble x.2 k).map (·.1) ≠ [] := by
    have hm : pairN zs 0 ∈ ((List.range (2 ^ zs.length)).map (pairN zs)).take (2 ^ t) := by
      rw [← List.map_take, List.take_range]
      refine List.mem_map_of_mem (List.mem_range.mpr ?_)
      have a : 0 < 2 ^ t := Nat.pow_pos (by omega)
      have b : 0 < 2 ^ zs.length := Nat.pow_pos (by omega)
      omega
    have hz : (pairN zs 0).2 = 0 := by
      have e : chosenI zs.length 0 = [] := by
        unfold chosenI
        rw [List.filter_eq_nil_iff]
        intro k _
        rw [Nat.zero_div]; decide
      unfold pairN
      rw [e]; rfl
    have hm2 : pairN zs 0 ∈ (((List.range (2 ^ zs.length)).map (pairN zs)).take (2 ^ t)).filter fun x => Nat.ble x.2 k := List.mem_filter.mpr ⟨hm, by rw [hz]; exact Nat.ble_eq_true_of_le (Nat.zero_le _)⟩
    exact List.ne_nil_of_mem (List.mem_map_of_mem hm2)
  have hmax : F2 nMax [.list (natsD (((((List.range (2 ^ zs.length)).map (pairN zs)).take (2 ^ t)).filter fun x => Nat.ble x.2 k).map (·.1)))] = some (.int (mostN zs t k : Nat)) := by
    refine (f2_max _).trans ((blt_max (intsD_nats _) fun h => hne (List.map_eq_nil_iff.mp h)).trans ?_)
    rw [maxI_nat]; rfl
  have hds : natsD (((((List.range (2 ^ zs.length)).map (pairN zs)).take (2 ^ t)).filter fun x => Nat.ble x.2 k).map (·.1)) = ((((List.range (2 ^ zs.length)).map (pairN zs)).take (2 ^ t)).filter fun x => Nat.ble x.2 k).map fun x => .int x.1 := by
    unfold natsD; rw [List.map_map]; rfl
  refine s_assign rfl rfl rfl rfl (v_vw rfl (e_call rfl g_max (es_cons (e_comp rfl (i_val rfl (e_slice (e_name (vw_ptr E.choices (view_choices zs _))) ep_none (ep_some (e_bin (e_const rfl) (e_name (vw_dat hT)) (bin_pow (by omega) (by decide)))) ep_none hcl (by simp)) (items_list (by rw [hsl, List.length_map, List.length_take]; omega))) ?_ (by rw [natsD_length, List.length_map]; omega)) es_nil) hmax) rfl)
  rw [hsl, hds]
  refine catL_filter (g := pairD) (k := fun x => PyData.int x.1) fun x _ => ?_
  have hle := (le_int' (x.2 : Nat) (k : Nat)).trans (by rw [ble_dec])
  cases e : Nat.ble x.2 k with
  | true =>
    rw [e] at hle
    rw [if_pos rfl]
    exact g_one rfl (ts_t (t_cmp rfl (e_name rfl) (e_name (vw_dat hK)) hle) ts_nil) (e_name rfl)
  | false =>
    rw [e] at hle
    rw [if_neg Bool.false_ne_true]
    exact g_no rfl (ts_f (t_cmp rfl (e_name rfl) (e_name (vw_dat hK)) hle))
theorem most_held {t k : Nat} (ht : t ≤ zs.length) (hk1 : 1 ≤ k) (hkt : k ≤ t) : mostN zs t k = (((madeL zs).take k).flatten.filter fun p => ((firstL zs).take t).contains p).length :=
  comb3 h6 (totC zs) (totS zs) ht hk1 hkt
theorem l_held {ρ : Ro2} {σ : Sg} {t k m : Nat} (hmade : ρ sMade = some (.dat (rowsD (madeL zs)))) (hdue : ρ vDue = some (.dat (.list (natsD (firstL zs))))) (hT : ρ vT = some (.dat (.int t))) (hK : ρ sK = some (.dat (.int k))) (hM : ρ vMost = some (.dat (.int m)))
    (hm : m = (((madeL zs).take k).flatten.filter fun p => ((firstL zs).take t).contains p).length) :
    exS F2 35 lsc ((forBody kFor).getD 1 default) (ρ, σ) = some (.next, ρ, σ) := by
  obtain ⟨m1, m2⟩ := made_len h6
  have hsl : sliceL ((madeL zs).map fun l => PyData.list (natsD l)) none (some (k : Int)) none = ((madeL zs).take k).map fun l => .list (natsD l) := by rw [sliceL_to, List.map_take]
  have hsd : sliceL (natsD (firstL zs)) none (some (t : Int)) none = natsD ((firstL zs).take t) := by rw [sliceL_to]; unfold natsD; rw [List.map_take]
  have hmlen : ((madeL zs).map fun l => PyData.list (natsD l)).length ≤ 1000000 := by rw [List.length_map]; omega
  have hflen : (natsD (firstL zs)).length ≤ 1000000 := by rw [natsD_length, first_len]; omega
  have htk : ∀ l ∈ (madeL zs).take k, l.length ≤ 6 := fun l hl => m2 l (List.mem_of_mem_take hl)
  have hsum : ∀ L : List (List Nat), L.length ≤ 6 → (∀ l ∈ L, l.length ≤ 6) → L.flatten.length ≤ 6 * L.length := fun L => by
    induction L with
    | nil => intro _ _; simp
    | cons l L ih =>
      intro h1 h2
      have := ih (by simp at h1; omega) fun x hx => h2 x (List.mem_cons_of_mem _ hx)
      have := h2 l List.mem_cons_self
      rw [List.flatten_cons, List.length_append, List.length_cons]; omega
  have hfl : ((madeL zs).take k).length ≤ 6 := by rw [List.length_take]; omega
  have hf2 := hsum _ hfl htk
  have hf3 := List.length_filter_le (fun p => ((firstL zs).take t).contains p) ((madeL zs).take k).flatten
  have hdl : (natsD (((madeL zs).take k).flatten.filter fun p => ((firstL zs).take t).contains p)).length ≤ 1000000 := by rw [natsD_length]; omega
  refine s_iff (t_cmp rfl (e_call rfl g_len (es_cons (e_comp2 rfl (i_val rfl (e_slice (e_name (vw_dat hmade)) ep_none (ep_some (e_name (vw_dat hK))) ep_none hmlen (by simp)) (items_list (by rw [hsl, List.length_map]; omega))) ?_ hdl) es_nil) ((f2_len _).trans ((blt_len_list hdl).trans (by rw [natsD_length])))) (e_name (vw_dat hM)) ?_) l_nil
  · rw [hsl, ← flat_nats]
    refine catL_map fun l hl => ?_
    have hl6 := htk l hl
    refine g_two rfl ts_nil (i_val rfl (e_name rfl) (items_list (by rw [natsD_length]; omega))) ?_
    unfold natsD
    refine catL_filter fun p _ => ?_
    have hin := in_nats ((firstL zs).take t) p
    rw [← hsd] at hin
    cases e : ((firstL zs).take t).contains p with
    | true =>
      rw [e] at hin
      rw [if_pos rfl]
      exact g_one rfl (ts_t (t_cmp rfl (e_name rfl) (e_slice (e_name (vw_dat hdue)) ep_none (ep_some (e_name (vw_dat hT))) ep_none hflen (by simp)) hin) ts_nil) (e_name rfl)
    | false =>
      rw [e] at hin
      rw [if_neg Bool.false_ne_true]
      exact g_no rfl (ts_f (t_cmp rfl (e_name rfl) (e_slice (e_name (vw_dat hdue)) ep_none (ep_some (e_name (vw_dat hT))) ep_none hflen (by simp)) hin))
  · rw [ne_int, hm]; simp
end
end
end Mine
end SQH
section SQI
open PySem PySem.W PyProof.Rows PySem.Calls
set_option maxRecDepth 100000
namespace Mine
noncomputable section
theorem FinEnv.put {ρ : Ro2} {zs : List Int} (E : FinEnv ρ zs) {x : Str} {v : V2} (h1 : vChoices ≠ x) (h2 : sMade ≠ x) (h3 : vDue ≠ x) (h4 : vN ≠ x) : FinEnv (put2 ρ x v) zs :=
  ⟨(if_neg h1).trans E.choices, (if_neg h2).trans E.made, (if_neg h3).trans E.due, (if_neg h4).trans E.n⟩
theorem range1_nats (t : Nat) : rangeD 1 ((t : Int) + 1) = natsD (List.range' 1 t) := by
  unfold rangeD natsD
  have : ((t : Int) + 1 - 1).toNat = t := by omega
  rw [this, List.range'_eq_map_range, List.map_map]
  refine List.map_congr_left fun i _ => ?_
  simp
section
variable {zs : List Int} (h0 : 0 < zs.length) (h6 : zs.length ≤ 6)
include h6
theorem k_for {t : Nat} (ht : t ≤ zs.length) : ∀ (ks : List Nat) (ρ : Ro2), (∀ k ∈ ks, 1 ≤ k ∧ k ≤ t) → FinEnv ρ zs → ρ vT = some (.dat (.int t)) →
    ∃ ρ', forL (forF F2 37 lsc (forTg kFor) (forBody kFor)) (natsD ks) (ρ, sgC zs (2 ^ zs.length)) = some (.next, ρ', sgC zs (2 ^ zs.length)) ∧ FinEnv ρ' zs
  | [], ρ, _, E, _ => ⟨ρ, rfl, E⟩
  | k :: ks, ρ, hk, E, hT => by
    obtain ⟨k1, k2⟩ := hk k List.mem_cons_self
    have E1 : FinEnv (put2 ρ sK (.dat (.int k))) zs := E.put (by decide +kernel) (by decide +kernel) (by decide +kernel) (by decide +kernel)
    have T1 : put2 ρ sK (.dat (.int k)) vT = some (.dat (.int t)) := hT
    have s1 := l_most h6 E1 ht T1 (k := k) rfl
    have E2 : FinEnv (put2 (put2 ρ sK (.dat (.int k))) vMost (.dat (.int (mostN zs t k : Nat)))) zs := E1.put (by decide +kernel) (by decide +kernel) (by decide +kernel) (by decide +kernel)
    have T2 : put2 (put2 ρ sK (.dat (.int k))) vMost (.dat (.int (mostN zs t k : Nat))) vT = some (.dat (.int t)) := hT
    have s2 := l_held (σ := sgC zs (2 ^ zs.length)) h6 E2.made E2.due T2 (k := k) rfl rfl (most_held h6 ht k1 k2)
    obtain ⟨ρ', r1, r2⟩ := k_for ht ks _ (fun q hq => hk q (List.mem_cons_of_mem _ hq)) E2 T2
    exact ⟨ρ', f_next (Option.bind_eq_some_iff.mpr ⟨_, rfl, l_next s1 (l_next s2 l_nil)⟩) r1, r2⟩
theorem t_for : ∀ (ts : List Nat) (ρ : Ro2), (∀ t ∈ ts, t ≤ zs.length) → FinEnv ρ zs →
    ∃ ρ', forL (forF F2 39 lsc (forTg tFor) (forBody tFor)) (natsD ts) (ρ, sgC zs (2 ^ zs.length)) = some (.next, ρ', sgC zs (2 ^ zs.length)) ∧ FinEnv ρ' zs
  | [], ρ, _, E => ⟨ρ, rfl, E⟩
  | t :: ts, ρ, ht, E => by
    have ht1 := ht t List.mem_cons_self
    have E1 : FinEnv (put2 ρ vT (.dat (.int t))) zs := E.put (by decide +kernel) (by decide +kernel) (by decide +kernel) (by decide +kernel)
    obtain ⟨ρ1, w1, E2⟩ := k_for h6 ht1 (List.range' 1 t) (put2 ρ vT (.dat (.int t))) (fun k hk => by rw [List.mem_range'_1] at hk; omega) E1 rfl
    obtain ⟨ρ2, r1, r2⟩ := t_for ts ρ1 (fun q hq => ht q (List.mem_cons_of_mem _ hq)) E2
    rw [← range1_nats] at w1
    exact ⟨ρ2, f_next (Option.bind_eq_some_iff.mpr ⟨_, rfl, l_next (s_for (i_range2 rfl (es_cons (e_const rfl) (es_cons (e_bin (e_name rfl) (e_const rfl) (bin_add _ _)) es_nil)) (by omega) (by omega) (by omega) (by omega)) rfl w1) l_nil⟩) r1, r2⟩
theorem l_choices {ρ : Ro2} (hn : ρ vN = some (.dat (.int zs.length))) (hr : ρ sRanks = some (.dat (.list ((rankL zs).map tupD)))) (hch : ρ vChoices = some (.ptr 0)) :
    ∃ ρ', exS F2 41 lsc chFor (ρ, sgC zs 0) = some (.next, ρ', sgC zs (2 ^ zs.length)) ∧ ∀ x, x ≠ vChoice → x ≠ vChosen → ρ' x = ρ x := by
  have hN := pow64 h6
  obtain ⟨ρ', r1, r2⟩ := ch_for h6 (2 ^ zs.length) 0 ρ (by omega) hn hr hch
  rw [Nat.zero_add, range'_zero] at r1
  have hpw : ((2 : Int) ^ zs.length) = ((2 ^ zs.length : Nat) : Int) := by simp
  refine ⟨ρ', s_for (range_ev (n := 2 ^ zs.length) (by omega) rfl (e_bin (e_const rfl) (e_name (np_dat hn)) ?_)) rfl r1, r2⟩
  rw [← hpw]
  exact bin_pow (by omega) (by decide)
theorem l_final {ρ : Ro2} (E : FinEnv ρ zs) : ∃ ρ', exS F2 40 lsc tFor (ρ, sgC zs (2 ^ zs.length)) = some (.next, ρ', sgC zs (2 ^ zs.length)) := by
  obtain ⟨ρ', r1, _⟩ := t_for h6 (List.range' 1 zs.length) ρ (fun t ht => by rw [List.mem_range'_1] at ht; omega) E
  rw [← range1_nats] at r1
  exact ⟨ρ', s_for (i_range2 rfl (es_cons (e_const rfl) (es_cons (e_bin (e_name (np_dat E.n)) (e_const rfl) (bin_add _ _)) es_nil)) (by omega) (by omega) (by omega) (by omega)) rfl r1⟩
end
theorem law_plain (xs : List Int) (h : xs.length ≤ 63) : runF F2 st_law [Str.ofString "script"] [.list (xs.map .int)] = some (.bool true) := by
  obtain ⟨h0, h6⟩ := nums_len xs
  have s0 := l_nums (ρ := bindAll [Str.ofString "script"] [.list (xs.map .int)] fun _ => none) h rfl
  generalize numsOf xs = zs at h0 h6 s0
  generalize hr0 : put2 (bindAll [Str.ofString "script"] [.list (xs.map .int)] fun _ => none) vNumbers (.dat (.list (zs.map .int))) = ρ1 at s0
  have a1 : ρ1 vNumbers = some (.dat (.list (zs.map .int))) := by subst hr0; rfl
  have s1 := l_n h6 a1
  have s2 := l_pieces h6 (ρ := put2 ρ1 vN (.dat (.int zs.length))) a1
  have s3 := l_words h6 (ρ := put2 (put2 ρ1 vN (.dat (.int zs.length))) vPieces (.dat (.list ((psL zs).map .str)))) rfl
  generalize hr3 : put2 (put2 (put2 ρ1 vN (.dat (.int zs.length))) vPieces (.dat (.list ((psL zs).map .str)))) vWords (.dat (.list ((zs.map wd).map .str))) = ρ4 at s3
  have b1 : ρ4 vNumbers = some (.dat (.list (zs.map .int))) := by subst hr3; exact a1
  have b2 : ρ4 vN = some (.dat (.int zs.length)) := by subst hr3; rfl
  have b3 : ρ4 vPieces = some (.dat (.list ((psL zs).map .str))) := by subst hr3; rfl
  have b4 : ρ4 vWords = some (.dat (.list ((zs.map wd).map .str))) := by subst hr3; rfl
  have s4 := l_check h6 b1 b4
  have s5 := l_rows h6 b2 b4 b3
  have s6 := l_dirs h6 (ρ := put2 ρ4 sRows (.dat (.list ((rowsL zs).map .tuple)))) b1
  generalize hr6 : put2 (put2 (put2 (put2 ρ4 sRows (.dat (.list ((rowsL zs).map .tuple)))) vUp (.dat (.int (dirO zs 0)))) vWay (.dat (.int (dirO zs 1)))) vBack (.dat (.int (dirO zs 2))) = ρ7 at s6
  have c1 : ρ7 vNumbers = some (.dat (.list (zs.map .int))) := by subst hr6; exact b1
  have c2 : ρ7 vN = some (.dat (.int zs.length)) := by subst hr6; exact b2
  have c3 : ρ7 vPieces = some (.dat (.list ((psL zs).map .str))) := by subst hr6; exact b3
  have c5 : ρ7 sRows = some (.dat (.list ((rowsL zs).map .tuple))) := by subst hr6; rfl
  have c6 : ρ7 vUp = some (.dat (.int (dirO zs 0))) := by subst hr6; rfl
  have c7 : ρ7 vWay = some (.dat (.int (dirO zs 1))) := by subst hr6; rfl
  have c8 : ρ7 vBack = some (.dat (.int (dirO zs 2))) := by subst hr6; rfl
  have s7 := l_caseless h6 c6 c7
  have s8 := l_spelled h6 (ρ := put2 ρ7 vCaseless (.dat (.list ((ksC zs).map keyD)))) c8
  have s9 := l_first h6 (ρ := put2 (put2 ρ7 vCaseless (.dat (.list ((ksC zs).map keyD)))) vSpelled (.dat (.list ((ksS zs).map keyD)))) c5 rfl
  generalize hr9 : put2 (put2 (put2 ρ7 vCaseless (.dat (.list ((ksC zs).map keyD)))) vSpelled (.dat (.list ((ksS zs).map keyD)))) vFirst (.dat (.list (natsD (firstL zs)))) = ρ10 at s9
  have d1 : ρ10 vNumbers = some (.dat (.list (zs.map .int))) := by subst hr9; exact c1
  have d2 : ρ10 vN = some (.dat (.int zs.length)) := by subst hr9; exact c2
  have d3 : ρ10 vPieces = some (.dat (.list ((psL zs).map .str))) := by subst hr9; exact c3
  have d5 : ρ10 sRows = some (.dat (.list ((rowsL zs).map .tuple))) := by subst hr9; exact c5
  have d6 : ρ10 vUp = some (.dat (.int (dirO zs 0))) := by subst hr9; exact c6
  have d7 : ρ10 vWay = some (.dat (.int (dirO zs 1))) := by subst hr9; exact c7
  have d8 : ρ10 vBack = some (.dat (.int (dirO zs 2))) := by subst hr9; exact c8
  have d9 : ρ10 vCaseless = some (.dat (.list ((ksC zs).map keyD))) := by subst hr9; rfl
  have d10 : ρ10 vSpelled = some (.dat (.list ((ksS zs).map keyD))) := by subst hr9; rfl
  have d11 : ρ10 vFirst = some (.dat (.list (natsD (firstL zs)))) := by subst hr9; rfl
  have s10 := l_put h6 d11 d5 d9
  generalize hr10 : put2 (put2 ρ10 sKept (.dat (rowsD (keptL zs)))) sMade (.dat (rowsD (madeL zs))) = ρ11 at s10
  have e1 : ρ11 vNumbers = some (.dat (.list (zs.map .int))) := by subst hr10; exact d1
  have e2 : ρ11 vN = some (.dat (.int zs.length)) := by subst hr10; exact d2
  have e3 : ρ11 vPieces = some (.dat (.list ((psL zs).map .str))) := by subst hr10; exact d3
  have e5 : ρ11 sRows = some (.dat (.list ((rowsL zs).map .tuple))) := by subst hr10; exact d5
  have e6 : ρ11 vUp = some (.dat (.int (dirO zs 0))) := by subst hr10; exact d6
  have e7 : ρ11 vWay = some (.dat (.int (dirO zs 1))) := by subst hr10; exact d7
  have e8 : ρ11 vBack = some (.dat (.int (dirO zs 2))) := by subst hr10; exact d8
  have e9 : ρ11 vCaseless = some (.dat (.list ((ksC zs).map keyD))) := by subst hr10; exact d9
  have e10 : ρ11 vSpelled = some (.dat (.list ((ksS zs).map keyD))) := by subst hr10; exact d10
  have e11 : ρ11 vFirst = some (.dat (.list (natsD (firstL zs)))) := by subst hr10; exact d11
  have e12 : ρ11 sKept = some (.dat (rowsD (keptL zs))) := by subst hr10; rfl
  have e13 : ρ11 sMade = some (.dat (rowsD (madeL zs))) := by subst hr10; rfl
  have s11 := l_swap h6 e5 e9 e10 e12 e13
  have s12 := l_cols h0 h6 e12
  have s13 := l_ifcols h6 (ρ := put2 ρ11 vColumns (.dat (rowsD (colsOf (keptL zs))))) e11 e5 e9 rfl
  have s14 := l_stands h6 (ρ := put2 ρ11 vColumns (.dat (rowsD (colsOf (keptL zs))))) e3
  generalize hr14 : put2 (put2 ρ11 vColumns (.dat (rowsD (colsOf (keptL zs))))) vStands (.dat (.list (natsD (stsL zs)))) = ρ15 at s14
  have f1 : ρ15 vNumbers = some (.dat (.list (zs.map .int))) := by subst hr14; exact e1
  have f2 : ρ15 vN = some (.dat (.int zs.length)) := by subst hr14; exact e2
  have f6 : ρ15 vUp = some (.dat (.int (dirO zs 0))) := by subst hr14; exact e6
  have f7 : ρ15 vWay = some (.dat (.int (dirO zs 1))) := by subst hr14; exact e7
  have f8 : ρ15 vBack = some (.dat (.int (dirO zs 2))) := by subst hr14; exact e8
  have f13 : ρ15 sMade = some (.dat (rowsD (madeL zs))) := by subst hr14; exact e13
  have f14 : ρ15 vStands = some (.dat (.list (natsD (stsL zs)))) := by subst hr14; rfl
  have s15 := l_due h0 h6 f2 f8 f14
  have s16 := l_ranks h6 (ρ := put2 ρ15 vDue (.dat (.list (natsD (firstL zs))))) f1 f6 f7 f14 rfl
  generalize hr16 : put2 (put2 ρ15 vDue (.dat (.list (natsD (firstL zs))))) sRanks (.dat (.list ((rankL zs).map tupD))) = ρ17 at s16
  have g2 : ρ17 vN = some (.dat (.int zs.length)) := by subst hr16; exact f2
  have g13 : ρ17 sMade = some (.dat (rowsD (madeL zs))) := by subst hr16; exact f13
  have g15 : ρ17 vDue = some (.dat (.list (natsD (firstL zs)))) := by subst hr16; rfl
  have g16 : ρ17 sRanks = some (.dat (.list ((rankL zs).map tupD))) := by subst hr16; rfl
  have s17 : exS F2 42 lsc ((bodyOf st_law).getD 17 default) (ρ17, []) = some (.next, put2 ρ17 vChoices (.ptr 0), sgC zs 0) := s_new rfl rfl
  obtain ⟨ρ19, s18, ag⟩ := l_choices h6 (ρ := put2 ρ17 vChoices (.ptr 0)) g2 g16 rfl
  have E : FinEnv ρ19 zs := ⟨(ag _ (by decide +kernel) (by decide +kernel)).trans rfl, (ag _ (by decide +kernel) (by decide +kernel)).trans g13, (ag _ (by decide +kernel) (by decide +kernel)).trans g15, (ag _ (by decide +kernel) (by decide +kernel)).trans g2⟩
  obtain ⟨ρ20, s19⟩ := l_final h6 E
  exact run_of rfl (l_next s0 (l_next s1 (l_next s2 (l_next s3 (l_next s4 (l_next s5 (l_next s6 (l_next s7 (l_next s8 (l_next s9 (l_next s10 (l_next s11 (l_next s12 (l_next s13 (l_next s14 (l_next s15 (l_next s16 (l_next s17 (l_next s18 (l_next s19 (l_ret (s_ret (e_const rfl)))))))))))))))))))))))
end
end Mine
end SQI
section SXA2
open PySem PySem.W PyProof.Rows PySem.Calls
open Mine
set_option maxRecDepth 100000
namespace Mine
theorem said1 : OpenLaw.wellSaid PySem.Challenge.rw_mr0250_02 = true := by kernel_rfl
end Mine
set_option maxRecDepth 100000 in
set_option maxHeartbeats 0 in
theorem PySem.Challenge.cw_mr0250_02_holds : PySem.Challenge.rw_mr0250_02.Holds := by
  refine holds_law said1 fun said => ?_
  refine PySem.W.holds_open (q := qq) (loose := lse) (Xt := Xt0) (XP := fun _ _ => True) (Yf := Yf0) (Ya := Ya0) (YP := says1) (N := 20000) left1 says_of says_keeps (fun _ _ => trivial) (fun _ _ _ _ _ => trivial) (by rfl) (by rfl) (by rfl) (fun _ _ => recFacts_nil rfl) (by rfl) (by first | assumption | decide +kernel) (by decide +kernel) ⟨rfl, rfl, rfl, rfl, rfl, by decide +kernel⟩ ?hw ?hc
  case hw => w_witness2
  case hc =>
    intro w s₀ s₁ mg mb G y fa o pm cd doc dV kV ho hd hcd hD hmg hg args vals as hpre hlay hrd hwl hlo
    have hfa : fa = 161 := by
      have e1 := ns_fun G.T.g (ns_of (y 3 _ rfl) (keys3 w.params)) (Str.ofString "law")
      have e2 : mg (Str.ofString "law") = some (.ref fa) := hmg
      rw [e2] at e1
      have e3 : nsFind (dictEs (oC_3 w.params)) (Str.ofString "law") = some (.ref 161) := by kernel_rfl
      rw [e3] at e1
      cases e1; rfl
    subst hfa
    clear ho hd hcd hD hmg hrd hlo
    have key : ∃ xs : List Int, xs.length ≤ 63 ∧ args = [.list (xs.map .int)] := pre_args hpre
    obtain ⟨xs, hxs, rfl⟩ := key
    cases hwl with
    | cons h1 h2 =>
      cases h2
      cases h1 with
      | list hget hall =>
        rename_i a vs
        have r : Rps (fun _ => False) s₁.heap (xs.map .int) vs := by
          clear hget hpre hlay hxs
          induction xs generalizing vs with
          | nil => cases hall; simp only [List.map_nil, Rps]
          | cons x xs ih =>
            cases hall with
            | cons hx hr =>
              cases hx
              simp only [List.map_cons, Rps]
              exact ⟨_, _, rfl, rp_int, ih hr⟩
        refine wpAny_mono (law_call w (law_plain xs hxs) callerA s₁ (fun _ => False) [.ref a] _ (AOk.caller.mono (by decide)) y (fun _ h => h.elim) ?_) (fun v s' q => ?_) fun _ _ e => e
        · simp only [Rps, Rp]
          exact ⟨_, [], rfl, ⟨a, vs, rfl, fun h => h, ⟨0, hget⟩, r⟩, rfl⟩
        · obtain ⟨q1, h', tk, rfl, kk⟩ := q
          simp only [Rp] at q1
          subst q1
          refine ⟨.inl ⟨.bool true, .bool true, [], rfl, fun _ => rfl, .bool true, by kernel_rfl, fun _ => ⟨List.nodup_nil, fun _ h => nomatch h⟩⟩, ?_, rfl, ?_⟩
          · exact .of_keep kk
          · exact .of_eq hg
end SXA2
