import PyProof.Rows.All
import Wide.All
import OpenK.AllK
import Wide.FinOn
import PySem.Challenge.RW_mr0241_01
set_option Elab.async false

section
open PySem PySem.W PyProof.Rows
set_option Elab.async false
namespace Mine
/-- a tree that runs, in `b` steps of the top's run, from a state to a state, whatever follows -/
def Go (p : Program) (w : World) (n₀ : Nat) (ann : Option Value) {α : Type} (x : Sem α) (q : Pos) (s : Shared) (a : α) (q' : Pos) (s' : Shared) (b : Nat) : Prop :=
  ∀ (K : α → Sem Fin) (H : Value → Sem Fin) (gd : Bool → Bool) (lv : List Value → List Value) (c : Code) (f : Frame) (B : List Frame) (N : Nat) (r : Shared),
    topRun treeTable p w n₀ ann N s' ⟨K a, c, q', f :: B⟩ = some r → topRun treeTable p w n₀ ann (b + N) s ⟨x.wrap K H gd lv, c, q, f :: B⟩ = some r

section
variable {p : Program} {w : World} {n₀ : Nat} {ann : Option Value} {α β : Type} {q q' q'' : Pos} {s s' s'' : Shared} {b b' : Nat}

theorem go_le {x : Sem α} {a : α} (h : Go p w n₀ ann x q s a q' s' b) (hb : b ≤ b') : Go p w n₀ ann x q s a q' s' b' := by
  intro K H gd lv c f B N r hN
  have := topRun_mono (b' - b) _ _ _ _ (h K H gd lv c f B N r hN)
  rwa [show b + N + (b' - b) = b' + N by omega] at this
theorem go_pure {a : α} : Go p w n₀ ann (Sem.pure a) q s a q s 0 := by
  intro K H gd lv c f B N r hN
  rw [Nat.zero_add]; exact hN
theorem go_pure' {a : α} : Go p w n₀ ann (Pure.pure a : Sem α) q s a q s 0 := go_pure
theorem go_bind {x : Sem α} {f : α → Sem β} {a : α} {y : β} (h1 : Go p w n₀ ann x q s a q' s' b) (h2 : Go p w n₀ ann (f a) q' s' y q'' s'' b') :
    Go p w n₀ ann (x >>= f) q s y q'' s'' (b + b') := by
  intro K H gd lv c fr B N r hN
  rw [Sem.bind_eq_wrap', Sem.wrap_wrap]
  have := h1 (fun a => (f a).wrap K H gd lv) (fun e => ((.raise e : Sem β)).wrap K H gd lv) (fun g => gd g) (fun l => lv l) c fr B (b' + N) r (h2 K H gd lv c fr B N r hN)
  rw [Nat.add_assoc]; exact this
theorem go_keep {x : Sem α} {a : α} {vs : List Value} (h : Go p w n₀ ann x q s a q' s' b) : Go p w n₀ ann (x.keep vs) q s a q' s' b := by
  intro K H gd lv c f B N r hN
  rw [Sem.keep_eq_wrap, Sem.wrap_wrap]
  exact h _ _ _ _ c f B N r hN
theorem go_holding {x : Sem α} {a : α} {vs : List Value} (h : Go p w n₀ ann x q s a q' s' b) : Go p w n₀ ann (holding vs x) q s a q' s' b := by
  unfold PySem.holding
  split
  · exact h
  · exact go_keep h
theorem go_onRaise {x : Sem α} {a : α} {k : Value → Sem Unit} (h : Go p w n₀ ann x q s a q' s' b) : Go p w n₀ ann (x.onRaise k) q s a q' s' b := by
  intro K H gd lv c f B N r hN
  rw [Sem.onRaise_eq_wrap, Sem.wrap_wrap]
  exact h _ _ _ _ c f B N r hN
theorem go_tryCatch {x : Sem α} {a : α} {k : Value → Sem α} (h : Go p w n₀ ann x q s a q' s' b) : Go p w n₀ ann (x.tryCatch k) q s a q' s' b := by
  intro K H gd lv c f B N r hN
  rw [Sem.tryCatch_eq_wrap, Sem.wrap_wrap]
  exact h _ _ _ _ c f B N r hN
theorem go_rule {t : String} : Go p w n₀ ann (PySem.rule t) q s () q s 1 := by
  intro K H gd lv c f B N r hN
  obtain ⟨heap, gens, drawn, toks, os⟩ := s
  rw [Nat.add_comm]
  exact hN
theorem go_at {p' : Pos} : Go p w n₀ ann (PySem.standAt p') q s () p' s 1 := by
  intro K H gd lv c f B N r hN
  obtain ⟨heap, gens, drawn, toks, os⟩ := s
  rw [Nat.add_comm]
  exact hN
theorem go_point : Go p w n₀ ann PySem.point q s () q s 1 := by
  intro K H gd lv c f B N r hN
  obtain ⟨heap, gens, drawn, toks, os⟩ := s
  rw [Nat.add_comm]
  exact hN
theorem go_fresh : Go p w n₀ ann PySem.fresh q s s.toks q { s with toks := s.toks + 1 } 1 := by
  intro K H gd lv c f B N r hN
  obtain ⟨heap, gens, drawn, toks, os⟩ := s
  rw [Nat.add_comm]
  exact hN
theorem go_ask : Go p w n₀ ann PySem.ask q s ⟨p, w.params⟩ q s 1 := by
  intro K H gd lv c f B N r hN
  obtain ⟨heap, gens, drawn, toks, os⟩ := s
  rw [Nat.add_comm]
  exact hN
theorem go_alloc {o : Obj} : Go p w n₀ ann (PySem.alloc o) q s s.heap.objs.size q { s with heap := s.heap.push o } 1 := by
  intro K H gd lv c f B N r hN
  obtain ⟨heap, gens, drawn, toks, os⟩ := s
  rw [Nat.add_comm]
  exact hN
theorem go_loadPart {a : Addr} {o : Obj} {part : Option Value} (ho : s.heap.get? a = some o) : Go p w n₀ ann (PySem.loadPart a part) q s o q s 1 := by
  intro K H gd lv c f B N r hN
  obtain ⟨heap, gens, drawn, toks, os⟩ := s
  rw [Nat.add_comm]
  show (match step (denote treeTable) p w ⟨heap, gens, drawn, toks, os⟩ ⟨.load a part fun x => K x, c, q, f :: B⟩ with | .go s' t' => topRun treeTable p w n₀ ann N s' t' | .halt _ _ => none) = some r
  simp only [step]
  rw [ho]
  exact hN
theorem go_load {a : Addr} {o : Obj} (ho : s.heap.get? a = some o) : Go p w n₀ ann (PySem.load a) q s o q s 1 := go_loadPart (part := none) ho
theorem go_updatePart {a : Addr} {o : Obj} {part : Option Value} {g : Obj → Obj} (ho : s.heap.get? a = some o) (ha : n₀ ≤ a) :
    Go p w n₀ ann (PySem.updatePart a part g) q s () q { s with heap := s.heap.update a g } 1 := by
  intro K H gd lv c f B N r hN
  obtain ⟨heap, gens, drawn, toks, os⟩ := s
  rw [Nat.add_comm]
  have ok : stepOk n₀ ann ⟨.update a part g fun x => K x, c, q, f :: B⟩ = true := by
    simp only [stepOk]
    have : Nat.ble n₀ a = true := Nat.ble_eq_true_of_le ha
    rw [this]; rfl
  show (match stepOk n₀ ann ⟨.update a part g fun x => K x, c, q, f :: B⟩ with | false => none | true => match step (denote treeTable) p w ⟨heap, gens, drawn, toks, os⟩ ⟨.update a part g fun x => K x, c, q, f :: B⟩ with | .go s' t' => topRun treeTable p w n₀ ann N s' t' | .halt _ _ => none) = some r
  rw [ok]
  simp only [step]
  rw [ho]
  exact hN
theorem go_mkInt {i : Int} : Go p w n₀ ann (PySem.mkInt i) q s (.int i s.toks) q { s with toks := s.toks + 1 } 1 := go_bind (b := 1) (b' := 0) go_fresh go_pure'
theorem go_mkText {x : Str} : Go p w n₀ ann (PySem.mkText x) q s (.str x s.toks) q { s with toks := s.toks + 1 } 1 := go_bind (b := 1) (b' := 0) go_fresh go_pure'
end
end Mine

end

section
open PySem PySem.W PyProof.Rows
set_option Elab.async false
namespace Mine
theorem hash_steps (p : Program) (w : World) (n₀ : Nat) (ann : Option Value) (heap : Heap) (gens : Array GenState) (drawn : Drawn) (toks : Nat) (os : OsState) (k : Int) (t : Tok) (h : Option Value) (g : Bool) (l : List Value) (kk : Result → Sem Fin) (c : Code) (q : Pos) (f : Frame) (B : List Frame) (N : Nat) :
    topRun treeTable p w n₀ ann (N + 4) ⟨heap, gens, drawn, toks, os⟩ ⟨.call (.call (.builtin "int.__hash__") ⟨[.int k t], []⟩) h g l kk, c, q, f :: B⟩ =
    topRun treeTable p w n₀ ann N ⟨heap, gens, drawn, toks + 1, os⟩ ⟨kk (.ok (.ret (.int (rawHash k) toks))), c, q, f :: B⟩ := by
  rw [PySem.W.Fast.te14082659384304107361, PySem.W.Fast.te14364793385576792824]
  kernel_rfl

abbrev dObj (es : List DictEntry) (ep : Nat) : Obj := { cls := .type "dict", data := .dict es.toArray ep }
section
variable {p : Program} {w : World} {n₀ : Nat} {ann : Option Value} {α β : Type} {q q' q'' : Pos} {s s' s'' : Shared} {b b' : Nat}
theorem go_callHash {k : Int} {t : Tok} : Go p w n₀ ann (PySem.call (.builtin "int.__hash__") [.int k t]) q s (.int (rawHash k) s.toks) q { s with toks := s.toks + 1 } 4 := by
  intro K H gd lv c f B N r hN
  obtain ⟨heap, gens, drawn, toks, os⟩ := s
  rw [Nat.add_comm]
  exact (hash_steps p w n₀ ann heap gens drawn toks os k t none (gd false) (lv []) _ c q f B N).trans hN
theorem go_specialOf_int {k : Int} {t : Tok} : Go p w n₀ ann (specialOf (.int k t) "__hash__") q s (some (.builtin "int.__hash__")) q s 0 := by
  unfold specialOf
  refine go_bind (b := 0) (b' := 0) (a := .type "int") go_pure' ?_
  rw [slot_int_hash.lookup]
  exact go_pure'
theorem go_pyHash {k : Int} {t : Tok} (h0 : 0 ≤ k) (h1 : k < 2 ^ 61 - 1) : Go p w n₀ ann (PySem.pyHash (.int k t)) q s k q { s with toks := s.toks + 1 } 5 := by
  have hr : rawHash k = k := by
    simp only [rawHash]
    have h3 : ((2 ^ 61 - 1 : Nat) : Int) = 2305843009213693951 := by decide
    have h4 : (2 ^ 61 - 1 : Int) = 2305843009213693951 := by decide
    have h2 : ((k.natAbs : Int) % ((2 ^ 61 - 1 : Nat) : Int)) = k := by rw [h3]; rw [h4] at h1; omega
    rw [h2]
    simp only [if_neg (show ¬ k < 0 by omega)]
    rw [if_neg (by rw [beq_iff_eq]; omega)]
  show Go p w n₀ ann (pyHashByItsType (.int k t)) q s k q { s with toks := s.toks + 1 } 5
  unfold pyHashByItsType
  refine go_bind (q' := q) (s' := s) (b := 0) (b' := 5) (a := ()) ?_ ?_
  · rw [cRoomFor, if_neg (by show ¬ false = true; exact Bool.false_ne_true)]; exact go_pure'
  refine go_bind (b := 0) (b' := 5) go_specialOf_int ?_
  show Go p w n₀ ann (if (some (Value.builtin "int.__hash__") == some Value.none) = true then _ else _) q s k q _ 5
  rw [if_neg (by rw [beq_builtin_none]; exact Bool.false_ne_true)]
  refine go_bind (b := 0) (b' := 5) go_specialOf_int ?_
  show Go p w n₀ ann (callSpecialIfBoundUnlessNone? (.int k t) "__hash__" _ >>= _) q s k q _ 5
  refine go_bind (q' := q) (s' := { s with toks := s.toks + 1 }) (b := 5) (b' := 0) (a := some (.int (rawHash k) s.toks)) ?_ ?_
  · unfold callSpecialIfBoundUnlessNone?
    refine go_holding (go_bind (q' := q) (s' := s) (b := 1) (b' := 4) (a := some (.builtin "int.__hash__", [.int k t])) ?_ ?_)
    · unfold bindSpecialIfBound?
      refine go_bind (b := 0) (b' := 1) go_specialOf_int ?_
      dsimp only
      refine go_bind (b := 1) (b' := 0) go_ask ?_
      rw [slot_int_hash.bind]
      have : Go p w n₀ ann (do return some (← (pure (Value.builtin "int.__hash__", [Value.int k t]) : Sem (Value × List Value)))) q s (some (.builtin "int.__hash__", [.int k t])) q s 0 :=
        go_bind (b := 0) (b' := 0) go_pure' go_pure'
      split
      · exact this
      · exact go_tryCatch this
    · dsimp only
      rw [if_neg (by rw [show (Value.builtin "int.__hash__" == Value.none) = false from rfl]; exact Bool.false_ne_true)]
      exact go_bind (b := 4) (b' := 0) go_callHash go_pure'
  · dsimp only
    unfold pyHashByItsType.reduced
    rw [hr, if_pos (by rw [Bool.and_eq_true]; exact ⟨decide_eq_true (by omega), decide_eq_true (by omega)⟩)]
    rw [if_neg (by rw [beq_iff_eq]; omega)]
    exact go_pure'
theorem places_nil {es : List DictEntry} {h : Int} (hno : ∀ e ∈ es, e.hash ≠ h) : placesWithHash es.toArray.size (fun i => es.toArray[i]?.map (·.hash)) h = [] := by
  unfold placesWithHash
  rw [List.filter_eq_nil_iff]
  intro i hi
  dsimp only
  rw [List.getElem?_toArray]
  cases e : es[i]? with
  | none => simp
  | some x =>
    have := hno x (List.mem_of_getElem? e)
    simpa using this
theorem go_dictEntries {d : Addr} {es : List DictEntry} {ep : Nat} {part : Option Value} (ho : s.heap.get? d = some (dObj es ep)) : Go p w n₀ ann (PySem.dictEntries d part) q s es.toArray q s 1 := by
  unfold PySem.dictEntries
  exact go_bind (b := 1) (b' := 0) (go_loadPart ho) go_pure'
theorem go_dictEpoch {d : Addr} {es : List DictEntry} {ep : Nat} {part : Option Value} (ho : s.heap.get? d = some (dObj es ep)) : Go p w n₀ ann (PySem.dictEpoch d part) q s ep q s 1 := by
  unfold PySem.dictEpoch
  exact go_bind (b := 1) (b' := 0) (go_loadPart ho) go_pure'
theorem go_dictFind {d : Addr} {es : List DictEntry} {ep : Nat} {k h : Int} {t : Tok} (ho : s.heap.get? d = some (dObj es ep)) (hno : ∀ e ∈ es, e.hash ≠ h) :
    Go p w n₀ ann (PySem.dictFind d (.int k t) h) q s none q s 1 := by
  unfold PySem.dictFind
  refine go_holding (go_bind (b := 1) (b' := 0) (go_dictEntries ho) ?_)
  dsimp only
  rw [places_nil hno]
  simp only [List.filterMap_nil, List.all_cons, List.all_nil, carriedByValue, Bool.and_self, if_true]
  unfold dictWalkPlain
  exact go_bind (b := 0) (b' := 0) (a := (none, ())) go_pure' go_pure'
theorem go_pushKey {d : Addr} {es : List DictEntry} {ep : Nat} {part : Option Value} {e : DictEntry} (ho : s.heap.get? d = some (dObj es ep)) (ha : n₀ ≤ d) (hz : es.length < 1000) :
    Go p w n₀ ann (updateDictKeys d (·.push e) part) q s () q { s with heap := s.heap.update d fun _ => dObj (es ++ [e]) (ep + 1) } 3 := by
  unfold updateDictKeys
  refine go_bind (b := 1) (b' := 2) (go_loadPart ho) ?_
  have up : s.heap.update d (Obj.mapDictKeys (·.push e)) = s.heap.update d fun _ => dObj (es ++ [e]) (ep + 1) := by
    obtain ⟨⟨objs, life⟩, gens, drawn, toks, os⟩ := s
    show Heap.mk _ _ = Heap.mk _ _
    congr 1
    apply Array.ext_getElem?
    intro i
    rw [Array.getElem?_modify, Array.getElem?_modify]
    split
    · rename_i hi
      subst hi
      have : objs[d]? = some (dObj es ep) := by
        unfold Heap.get? at ho
        dsimp only at ho
        split at ho
        · cases ho
        · exact ho
      rw [this]
      simp [Obj.mapDictKeys]
    · rfl
  have get' : (s.heap.update d fun _ => dObj (es ++ [e]) (ep + 1)).get? d = some (dObj (es ++ [e]) (ep + 1)) := Heap.get?_update_self _ ho rfl
  dsimp only
  refine go_bind (b := 1) (b' := 1) (go_updatePart ho ha) ?_
  rw [up]
  unfold lookBehind
  refine go_bind (b := 1) (b' := 0) (go_loadPart get') ?_
  have : (Data.dict (es ++ [e]).toArray (ep + 1)).pastItsLine = none := by
    show (if _ > _ then _ else _) = none
    rw [if_neg]
    rw [List.size_toArray, List.length_append, List.length_singleton]
    have : sizeLine = 16777216 := by decide
    omega
  dsimp only
  rw [this]
  exact go_pure'
theorem go_dictSet {d : Addr} {es : List DictEntry} {ep : Nat} {k : Int} {t : Tok} {v : Value} (ho : s.heap.get? d = some (dObj es ep)) (ha : n₀ ≤ d) (hz : es.length < 1000) (h0 : 0 ≤ k) (h1 : k < 2 ^ 61 - 1) (hno : ∀ e ∈ es, e.hash ≠ k) :
    Go p w n₀ ann (PySem.dictSet d (.int k t) v) q s () q { s with heap := s.heap.update d fun _ => dObj (es ++ [⟨k, .int k t, v⟩]) (ep + 1), toks := s.toks + 1 } 10 := by
  unfold PySem.dictSet
  refine go_holding (go_bind (b := 5) (b' := 5) (go_pyHash h0 h1) ?_)
  unfold dictSetHashed
  refine go_holding (go_bind (b := 1) (b' := 4) (go_dictFind (s := { s with toks := s.toks + 1 }) ho hno) ?_)
  dsimp only
  exact go_bind (b := 1) (b' := 3) go_rule (go_pushKey (s := { s with toks := s.toks + 1 }) ho ha hz)
theorem go_dictPut {d : Addr} {es : List DictEntry} {ep : Nat} {k : Int} {t : Tok} {v : Value} (ho : s.heap.get? d = some (dObj es ep)) (ha : n₀ ≤ d) (hz : es.length < 1000) (hno : ∀ e ∈ es, e.hash ≠ k) :
    Go p w n₀ ann (PySem.dictPut d k (.int k t) v) q s () q { s with heap := s.heap.update d fun _ => dObj (es ++ [⟨k, .int k t, v⟩]) (ep + 1) } 4 := by
  unfold PySem.dictPut
  refine go_bind (b := 1) (b' := 3) (go_dictFind ho hno) ?_
  dsimp only
  exact go_pushKey ho ha hz
end
end Mine

end

section
open PySem PySem.W PyProof.Rows
set_option Elab.async false
namespace Mine
theorem upd_upd (h : Heap) (d : Addr) (o₁ o₂ : Obj) : (h.update d fun _ => o₁).update d (fun _ => o₂) = h.update d fun _ => o₂ := by
  obtain ⟨objs, life⟩ := h
  show Heap.mk _ _ = Heap.mk _ _
  congr 1
  apply Array.ext_getElem?
  intro i
  simp only [Array.getElem?_modify]
  split
  · cases objs[i]? <;> rfl
  · rfl
theorem objs_of_get {h : Heap} {d : Addr} {o : Obj} (ho : h.get? d = some o) : h.objs[d]? = some o := by
  unfold Heap.get? at ho
  split at ho
  · cases ho
  · exact ho
theorem upd_same {h : Heap} {d : Addr} {o : Obj} (ho : h.get? d = some o) : (h.update d fun _ => o) = h := by
  have ho' := objs_of_get ho
  obtain ⟨objs, life⟩ := h
  show Heap.mk _ _ = Heap.mk _ _
  congr 1
  apply Array.ext_getElem?
  intro i
  simp only [Array.getElem?_modify]
  split
  · rename_i e; subst e; rw [show objs[d]? = some o from ho']; rfl
  · rfl
theorem push_upd (h : Heap) (o o' : Obj) : ((h.push o).update h.objs.size fun _ => o') = h.push o' := by
  obtain ⟨objs, life⟩ := h
  show Heap.mk _ _ = Heap.mk _ _
  congr 1
  apply Array.ext_getElem?
  intro i
  simp only [Array.getElem?_modify, Array.getElem?_push]
  split
  · rename_i e; subst e; simp
  · rename_i e; simp [Ne.symm e]
/-- an item of a display: an int and a text -/
def item (pos : Pos) (kv : Int × Str) : Sem Value × Sem Value := (mkInt kv.1, do let x ← mkText kv.2; standAt pos; pure x)
def ents (t : Nat) : List (Int × Str) → List DictEntry
  | [] => []
  | (k, v) :: r => ⟨k, .int k t, .str v (t + 1)⟩ :: ents (t + 3) r
def ents2 (t : Nat) : List (Int × Str) → List DictEntry
  | [] => []
  | (k, v) :: r => ⟨k, .int k t, .str v (t + 1)⟩ :: ents2 (t + 2) r
def ents2v (t : Nat) : List (Int × Str) → List (Value × Value)
  | [] => []
  | (k, v) :: r => (.int k t, .str v (t + 1)) :: ents2v (t + 2) r
def okKeys (l : List (Int × Str)) : Prop := (∀ x ∈ l, 0 ≤ x.1 ∧ x.1 < 2 ^ 61 - 1) ∧ (l.map (·.1)).Nodup
theorem ents_hash : ∀ (l : List (Int × Str)) (t : Nat), (ents t l).map (·.hash) = l.map (·.1)
  | [], _ => rfl
  | (k, v) :: r, t => by simp only [ents, List.map_cons, ents_hash r]
theorem ents2_hash : ∀ (l : List (Int × Str)) (t : Nat), (ents2 t l).map (·.hash) = l.map (·.1)
  | [], _ => rfl
  | (k, v) :: r, t => by simp only [ents2, List.map_cons, ents2_hash r]
theorem ents_len : ∀ (l : List (Int × Str)) (t : Nat), (ents t l).length = l.length
  | [], _ => rfl
  | (k, v) :: r, t => by simp only [ents, List.length_cons, ents_len r]
theorem ents2_len : ∀ (l : List (Int × Str)) (t : Nat), (ents2 t l).length = l.length
  | [], _ => rfl
  | (k, v) :: r, t => by simp only [ents2, List.length_cons, ents2_len r]
section
variable {p : Program} {w : World} {n₀ : Nat} {ann : Option Value} {α β : Type} {q q' q'' : Pos} {s s' s'' : Shared} {b b' : Nat}
theorem go_to {α : Type} {x : Sem α} {a : α} {b : Nat} (h : Go p w n₀ ann x q s a q' s' b) (e : s' = s'') (eb : b = b') : Go p w n₀ ann x q s a q' s'' b' := by subst e; subst eb; exact h
theorem go_item {pos : Pos} {k : Int} {v : Str} {d : Addr} {es : List DictEntry} {ep : Nat} (ho : s.heap.get? d = some (dObj es ep)) (ha : n₀ ≤ d) (hz : es.length < 1000) (h0 : 0 ≤ k) (h1 : k < 2 ^ 61 - 1) (hno : ∀ e ∈ es, e.hash ≠ k) :
    Go p w n₀ ann (do let kv ← (item pos (k, v)).1; let vv ← holding [kv] (item pos (k, v)).2; holding [kv, vv] (dictSet d kv vv)) q s () pos
      { s with heap := s.heap.update d fun _ => dObj (es ++ [⟨k, .int k s.toks, .str v (s.toks + 1)⟩]) (ep + 1), toks := s.toks + 3 } 13 := by
  refine go_bind (b := 1) (b' := 12) go_mkInt ?_
  refine go_bind (b := 2) (b' := 10) (go_holding (go_bind (b := 1) (b' := 1) go_mkText (go_bind (b := 1) (b' := 0) go_at go_pure'))) ?_
  exact go_holding (go_dictSet (s := { s with toks := s.toks + 1 + 1 }) ho ha hz h0 h1 hno)
theorem go_sub {pos : Pos} {d : Addr} (ha : n₀ ≤ d) : ∀ (l : List (Int × Str)) (es : List DictEntry) (ep : Nat) (s : Shared), s.heap.get? d = some (dObj es ep) → es.length + l.length < 1000 → okKeys l → (∀ e ∈ es, ∀ x ∈ l, e.hash ≠ x.1) →
    Go p w n₀ ann (forIn (l.map (item pos)) PUnit.unit fun x (_ : PUnit) => (do
      let kv ← x.1
      let vv ← holding [kv] x.2
      holding [kv, vv] (dictSet d kv vv)
      pure (ForInStep.yield PUnit.unit) : Sem (ForInStep PUnit))) pos s PUnit.unit pos
      { s with heap := s.heap.update d fun _ => dObj (es ++ ents s.toks l) (ep + l.length), toks := s.toks + 3 * l.length } (13 * l.length)
  | [], es, ep, s, ho, _, _, _ => by
    simp only [List.map_nil, List.forIn_nil, ents, List.append_nil, List.length_nil, Nat.add_zero, Nat.mul_zero]
    rw [upd_same ho]
    exact go_pure'
  | (k, v) :: r, es, ep, s, ho, hz, hk, hno => by
    have hkk : 0 ≤ k ∧ k < 2 ^ 61 - 1 := hk.1 (k, v) List.mem_cons_self
    have hnd := List.nodup_cons.mp hk.2
    simp only [List.length_cons] at hz
    rw [List.map_cons, List.forIn_cons]
    have step := go_item (p := p) (w := w) (ann := ann) (q := pos) (pos := pos) (v := v) ho ha (by omega) hkk.1 hkk.2 (fun e he => hno e he _ List.mem_cons_self)
    have ho' : (s.heap.update d fun _ => dObj (es ++ [⟨k, .int k s.toks, .str v (s.toks + 1)⟩]) (ep + 1)).get? d = some (dObj (es ++ [⟨k, .int k s.toks, .str v (s.toks + 1)⟩]) (ep + 1)) := Heap.get?_update_self _ ho rfl
    have rest := go_sub (pos := pos) ha r (es ++ [⟨k, .int k s.toks, .str v (s.toks + 1)⟩]) (ep + 1) { s with heap := s.heap.update d fun _ => dObj (es ++ [⟨k, .int k s.toks, .str v (s.toks + 1)⟩]) (ep + 1), toks := s.toks + 3 } ho'
      (by rw [List.length_append, List.length_singleton]; omega) ⟨fun x hx => hk.1 x (List.mem_cons_of_mem _ hx), hnd.2⟩ (fun e he x hx => by
        rcases List.mem_append.mp he with he | he
        · exact hno e he x (List.mem_cons_of_mem _ hx)
        · rw [List.mem_singleton] at he
          subst he
          intro q
          exact hnd.1 (List.mem_map.mpr ⟨x, hx, (show k = x.1 from q).symm⟩))
    have one : Go p w n₀ ann (do
        let kv ← (item pos (k, v)).1
        let vv ← holding [kv] (item pos (k, v)).2
        holding [kv, vv] (dictSet d kv vv)
        pure (ForInStep.yield PUnit.unit) : Sem (ForInStep PUnit)) pos s (ForInStep.yield PUnit.unit) pos
        { s with heap := s.heap.update d fun _ => dObj (es ++ [⟨k, .int k s.toks, .str v (s.toks + 1)⟩]) (ep + 1), toks := s.toks + 3 } 13 := by
      have := go_bind (f := fun _ => (pure (ForInStep.yield PUnit.unit) : Sem (ForInStep PUnit))) (b := 13) (b' := 0) step go_pure'
      simpa only [bind_assoc] using this
    refine go_to (go_bind one rest) ?_ ?_
    · simp only [upd_upd, List.append_assoc, List.singleton_append, ents, List.length_cons]
      rw [show ep + 1 + r.length = ep + (r.length + 1) by omega, show s.toks + 3 + 3 * r.length = s.toks + 3 * (r.length + 1) by omega]
    · simp only [List.length_cons]; omega
theorem go_subDict17 {pos : Pos} {l : List (Int × Str)} (hn : n₀ ≤ s.heap.objs.size) (hl : 15 < l.length) (hz : l.length < 1000) (hk : okKeys l) :
    Go p w n₀ ann (subDict (l.map (item pos))) pos s s.heap.objs.size pos { s with heap := s.heap.push (dObj (ents s.toks l) l.length), toks := s.toks + 3 * l.length } (2 + 13 * l.length) := by
  unfold subDict
  refine go_to (go_bind (b := 1) (b' := 1 + 13 * l.length) go_alloc ?_) rfl (by omega)
  rw [if_neg (by rw [List.length_map]; omega)]
  have ho : (s.heap.push (dObj [] 0)).get? s.heap.objs.size = some (dObj [] 0) := Heap.get?_push_size _ rfl
  have loop := go_sub (p := p) (w := w) (ann := ann) (pos := pos) hn l [] 0 { s with heap := s.heap.push (dObj [] 0) } ho (by simpa using hz) hk (fun e he => nomatch he)
  refine go_to (go_bind (b := 1 + 13 * l.length) (b' := 0) (go_holding (go_bind (b := 1) (b' := 13 * l.length) go_rule (go_bind (b := 13 * l.length) (b' := 0) loop go_pure'))) go_pure') ?_ (by omega)
  simp only [push_upd, List.nil_append, Nat.zero_add]
theorem go_evalPairs {pos : Pos} : ∀ (l : List (Int × Str)) (s : Shared),
    Go p w n₀ ann (evalPairs (l.map (item pos))) pos s (ents2v s.toks l) pos { s with toks := s.toks + 2 * l.length } (3 * l.length)
  | [], s => go_pure'
  | (k, v) :: r, s => by
    rw [List.map_cons]
    show Go p w n₀ ann (do
      let kv ← (item pos (k, v)).1
      let vv ← holding [kv] (item pos (k, v)).2
      return (kv, vv) :: (← holding [kv, vv] (evalPairs (r.map (item pos))))) pos s _ pos _ _
    refine go_to (go_bind (b := 1) (b' := 2 + 3 * r.length) go_mkInt (go_bind (b := 2) (b' := 3 * r.length) (go_holding (go_bind (b := 1) (b' := 1) go_mkText (go_bind (b := 1) (b' := 0) go_at go_pure')))
      (go_bind (b := 3 * r.length) (b' := 0) (go_holding (go_evalPairs r _)) go_pure'))) ?_ ?_
    · simp only [List.length_cons]
      rw [show s.toks + 1 + 1 + 2 * r.length = s.toks + 2 * (r.length + 1) by omega]
    · simp only [List.length_cons]; omega
theorem go_sets {pos : Pos} {d : Addr} (ha : n₀ ≤ d) : ∀ (l : List (Int × Str)) (t : Nat) (es : List DictEntry) (ep : Nat) (s : Shared), s.heap.get? d = some (dObj es ep) → es.length + l.length < 1000 → okKeys l → (∀ e ∈ es, ∀ x ∈ l, e.hash ≠ x.1) →
    Go p w n₀ ann (forIn (ents2v t l) PUnit.unit fun x (_ : PUnit) => (do
      dictSet d x.1 x.2
      pure (ForInStep.yield PUnit.unit) : Sem (ForInStep PUnit))) pos s PUnit.unit pos
      { s with heap := s.heap.update d fun _ => dObj (es ++ ents2 t l) (ep + l.length), toks := s.toks + l.length } (10 * l.length)
  | [], t, es, ep, s, ho, _, _, _ => by
    simp only [ents2v, List.forIn_nil, ents2, List.append_nil, List.length_nil, Nat.add_zero, Nat.mul_zero]
    rw [upd_same ho]
    exact go_pure'
  | (k, v) :: r, t, es, ep, s, ho, hz, hk, hno => by
    have hkk : 0 ≤ k ∧ k < 2 ^ 61 - 1 := hk.1 (k, v) List.mem_cons_self
    have hnd := List.nodup_cons.mp hk.2
    simp only [List.length_cons] at hz
    simp only [ents2v]
    rw [List.forIn_cons]
    have step := go_dictSet (p := p) (w := w) (ann := ann) (q := pos) (t := t) (v := .str v (t + 1)) ho ha (by omega) hkk.1 hkk.2 (fun e he => hno e he _ List.mem_cons_self)
    have ho' : (s.heap.update d fun _ => dObj (es ++ [⟨k, .int k t, .str v (t + 1)⟩]) (ep + 1)).get? d = some (dObj (es ++ [⟨k, .int k t, .str v (t + 1)⟩]) (ep + 1)) := Heap.get?_update_self _ ho rfl
    have rest := go_sets (pos := pos) ha r (t + 2) (es ++ [⟨k, .int k t, .str v (t + 1)⟩]) (ep + 1) { s with heap := s.heap.update d fun _ => dObj (es ++ [⟨k, .int k t, .str v (t + 1)⟩]) (ep + 1), toks := s.toks + 1 } ho'
      (by rw [List.length_append, List.length_singleton]; omega) ⟨fun x hx => hk.1 x (List.mem_cons_of_mem _ hx), hnd.2⟩ (fun e he x hx => by
        rcases List.mem_append.mp he with he | he
        · exact hno e he x (List.mem_cons_of_mem _ hx)
        · rw [List.mem_singleton] at he
          subst he
          intro q
          exact hnd.1 (List.mem_map.mpr ⟨x, hx, (show k = x.1 from q).symm⟩))
    have one := go_bind (f := fun _ => (pure (ForInStep.yield PUnit.unit) : Sem (ForInStep PUnit))) (b := 10) (b' := 0) step go_pure'
    refine go_to (go_bind one rest) ?_ ?_
    · simp only [upd_upd, List.append_assoc, List.singleton_append, ents2, List.length_cons]
      rw [show ep + 1 + r.length = ep + (r.length + 1) by omega, show s.toks + 1 + r.length = s.toks + (r.length + 1) by omega]
    · simp only [List.length_cons]; omega
theorem go_subDict15 {pos : Pos} {l : List (Int × Str)} (hn : n₀ ≤ s.heap.objs.size) (hl : l.length ≤ 15) (hk : okKeys l) :
    Go p w n₀ ann (subDict (l.map (item pos))) pos s s.heap.objs.size pos { s with heap := s.heap.push (dObj (ents2 s.toks l) l.length), toks := s.toks + 3 * l.length } (1 + 13 * l.length) := by
  unfold subDict
  refine go_to (go_bind (b := 1) (b' := 13 * l.length) go_alloc ?_) rfl (by omega)
  rw [if_pos (by rw [List.length_map]; omega)]
  have ho : (s.heap.push (dObj [] 0)).get? s.heap.objs.size = some (dObj [] 0) := Heap.get?_push_size _ rfl
  have ev := go_evalPairs (p := p) (w := w) (n₀ := n₀) (ann := ann) (pos := pos) l { s with heap := s.heap.push (dObj [] 0) }
  have loop := go_sets (p := p) (w := w) (ann := ann) (pos := pos) hn l s.toks [] 0 { s with heap := s.heap.push (dObj [] 0), toks := s.toks + 2 * l.length } ho (by simp only [List.length_nil]; omega) hk (fun e he => nomatch he)
  refine go_to (go_bind (b := 13 * l.length) (b' := 0) (go_holding (go_to (b := 3 * l.length + 10 * l.length) (go_bind ev (go_holding (go_bind (b := 10 * l.length) (b' := 0) loop go_pure'))) rfl (by omega))) go_pure') ?_ (by omega)
  simp only [push_upd, List.nil_append, Nat.zero_add]
  rw [show s.toks + 2 * l.length + l.length = s.toks + 3 * l.length by omega]
end
end Mine

end

section
open PySem PySem.W PyProof.Rows
set_option Elab.async false
namespace Mine
def intEnts (fs : List DictEntry) : Prop := ∀ e ∈ fs, ∃ k t, e.key = .int k t ∧ e.hash = k
theorem ents_int : ∀ (l : List (Int × Str)) (t : Nat), intEnts (ents t l)
  | [], _ => fun _ he => nomatch he
  | (k, v) :: r, t => fun e he => by
    rcases List.mem_cons.mp he with rfl | he
    · exact ⟨k, t, rfl, rfl⟩
    · exact ents_int r _ e he
theorem ents2_int : ∀ (l : List (Int × Str)) (t : Nat), intEnts (ents2 t l)
  | [], _ => fun _ he => nomatch he
  | (k, v) :: r, t => fun e he => by
    rcases List.mem_cons.mp he with rfl | he
    · exact ⟨k, t, rfl, rfl⟩
    · exact ents2_int r _ e he
theorem entEta {e : DictEntry} {k : Int} (h : e.hash = k) : (⟨k, e.key, e.val⟩ : DictEntry) = e := by subst h; rfl
section
variable {p : Program} {w : World} {n₀ : Nat} {ann : Option Value} {α β : Type} {q q' q'' : Pos} {s s' s'' : Shared} {b b' : Nat}
theorem go_typeOf {a : Addr} {es : List DictEntry} {ep : Nat} (ho : s.heap.get? a = some (dObj es ep)) : Go p w n₀ ann (typeOf (.ref a)) q s (.type "dict") q s 1 :=
  go_bind (b := 1) (b' := 0) (go_loadPart ho) go_pure'
theorem sub_dict_dict : isSubtype (.type "dict") (.type "dict") = pure true := by rw [isSubtype_type]; kernel_rfl
theorem get_upd_ne {h : Heap} {d a : Addr} {o o' : Obj} (hne : a ≠ d) (ho : h.get? a = some o) : (h.update d fun _ => o').get? a = some o := (Heap.get?_update_ne _ _ _ _ hne).trans ho
theorem go_mergeLoop {d a : Addr} {fs : List DictEntry} {m : Nat} (ha : n₀ ≤ d) (hne : a ≠ d) (hi : intEnts fs) (hnd : (fs.map (·.hash)).Nodup) (es₀ : List DictEntry) (ep₀ : Nat) (hz : es₀.length + fs.length < 1000) (hno : ∀ e ∈ es₀, ∀ x ∈ fs, e.hash ≠ x.hash) :
    ∀ (n i : Nat) (s : Shared), i + n = fs.length → s.heap.get? d = some (dObj (es₀ ++ fs.take i) (ep₀ + i)) → s.heap.get? a = some (dObj fs m) →
    Go p w n₀ ann (forIn (List.range' i n) PUnit.unit fun i (_ : PUnit) => (do
      let x ← dictEntries a
      match x[i]? with
        | some e => do
          holding [e.key, e.val] (dictPut d e.hash e.key e.val)
          let x ← dictEpoch a
          if (x != m) = true then do
            let _ ← (unsupported "dict.changed-during-merge" : Sem PUnit)
            pure (ForInStep.yield PUnit.unit)
          else pure (ForInStep.yield PUnit.unit)
        | _ => unsupported "dict.changed-during-merge" : Sem (ForInStep PUnit))) q s PUnit.unit q
      { s with heap := s.heap.update d fun _ => dObj (es₀ ++ fs) (ep₀ + fs.length) } (6 * n)
  | 0, i, s, hin, hd, _ => by
    simp only [List.range'_zero, List.forIn_nil]
    have : i = fs.length := by omega
    subst this
    rw [List.take_length] at hd
    rw [upd_same hd]
    exact go_pure'
  | n + 1, i, s, hin, hd, hA => by
    have hlt : i < fs.length := by omega
    obtain ⟨k, t, hk1, hk2⟩ := hi fs[i] (List.getElem_mem hlt)
    rw [List.range'_succ, List.forIn_cons]
    have hzz : (es₀ ++ fs.take i).length < 1000 := by rw [List.length_append, List.length_take]; omega
    have hnot : ∀ e ∈ es₀ ++ fs.take i, e.hash ≠ k := by
      intro e he
      rcases List.mem_append.mp he with he | he
      · rw [← hk2]; exact hno e he _ (List.getElem_mem hlt)
      · rw [← hk2]
        obtain ⟨j, hj, rfl⟩ := List.mem_iff_getElem.mp he
        rw [List.length_take] at hj
        rw [List.getElem_take]
        intro q
        have := (List.getElem_inj (xs := fs.map (·.hash)) (h₀ := by rw [List.length_map]; omega) (h₁ := by rw [List.length_map]; omega) hnd (i := j) (j := i)).mp (by simpa using q)
        omega
    have put := go_dictPut (p := p) (w := w) (ann := ann) (q := q) (t := t) (v := fs[i].val) hd ha hzz hnot
    have e1 : es₀ ++ fs.take i ++ [⟨k, .int k t, fs[i].val⟩] = es₀ ++ fs.take (i + 1) := by
      rw [List.append_assoc, List.take_succ_eq_append_getElem hlt]
      congr 3
      rw [← hk1]
      exact entEta hk2
    rw [e1] at put
    have hd' : (s.heap.update d fun _ => dObj (es₀ ++ fs.take (i + 1)) (ep₀ + i + 1)).get? d = some (dObj (es₀ ++ fs.take (i + 1)) (ep₀ + (i + 1))) := Heap.get?_update_self _ hd rfl
    have hA' : (s.heap.update d fun _ => dObj (es₀ ++ fs.take (i + 1)) (ep₀ + i + 1)).get? a = some (dObj fs m) := get_upd_ne hne hA
    have rest := go_mergeLoop ha hne hi hnd es₀ ep₀ hz hno n (i + 1) { s with heap := s.heap.update d fun _ => dObj (es₀ ++ fs.take (i + 1)) (ep₀ + i + 1) } (by omega) hd' hA'
    have one : Go p w n₀ ann (do
      let x ← dictEntries a
      match x[i]? with
        | some e => do
          holding [e.key, e.val] (dictPut d e.hash e.key e.val)
          let x ← dictEpoch a
          if (x != m) = true then do
            let _ ← (unsupported "dict.changed-during-merge" : Sem PUnit)
            pure (ForInStep.yield PUnit.unit)
          else pure (ForInStep.yield PUnit.unit)
        | _ => unsupported "dict.changed-during-merge" : Sem (ForInStep PUnit)) q s (ForInStep.yield PUnit.unit) q
        { s with heap := s.heap.update d fun _ => dObj (es₀ ++ fs.take (i + 1)) (ep₀ + i + 1) } 6 := by
      refine go_bind (b := 1) (b' := 5) (go_dictEntries hA) ?_
      rw [List.getElem?_toArray, List.getElem?_eq_getElem hlt]
      dsimp only
      rw [hk1, hk2]
      refine go_bind (b := 4) (b' := 1) (go_holding put) ?_
      refine go_bind (b := 1) (b' := 0) (go_dictEpoch hA') ?_
      rw [if_neg (by simp)]
      exact go_pure'
    refine go_to (go_bind one rest) ?_ (by omega)
    simp only [upd_upd]
theorem go_merge {d a : Addr} {es fs : List DictEntry} {ep m : Nat} (hd : s.heap.get? d = some (dObj es ep)) (hA : s.heap.get? a = some (dObj fs m)) (ha : n₀ ≤ d) (hne : a ≠ d) (hs : a ≠ sysModules) (he : es ≠ []) (hi : intEnts fs) (hnd : (fs.map (·.hash)).Nodup)
    (hz : es.length + fs.length < 1000) (hno : ∀ e ∈ es, ∀ x ∈ fs, e.hash ≠ x.hash) :
    Go p w n₀ ann (mergeMapping d (.ref a) false) q s () q { s with heap := s.heap.update d fun _ => dObj (es ++ fs) (ep + fs.length) } (5 + 6 * fs.length) := by
  unfold mergeMapping
  have h1 : Go p w n₀ ann (isInstance (.ref a) (.type "dict")) q s true q s 1 := by
    unfold isInstance
    refine go_bind (b := 1) (b' := 0) (go_typeOf hA) ?_
    rw [sub_dict_dict]; exact go_pure'
  have h2 : Go p w n₀ ann (specialOf (.ref a) "__iter__") q s (some (.builtin "dict.__iter__")) q s 1 := by
    unfold specialOf
    refine go_bind (b := 1) (b' := 0) (go_typeOf hA) ?_
    rw [F.slot_dict_iter.lookup]; exact go_pure'
  refine go_to (go_bind (b := 1) (b' := 4 + 6 * fs.length) h1 ?_) rfl (by omega)
  rw [if_pos rfl]
  refine go_to (go_bind (b := 1) (b' := 3 + 6 * fs.length) h2 ?_) rfl (by omega)
  have e3 : (some (Value.builtin "dict.__iter__") == some (Value.builtin "dict.__iter__")) = true := by simp
  rw [e3]
  refine go_to (go_bind (b := 0) (b' := 3 + 6 * fs.length) go_pure' ?_) rfl (by omega)
  dsimp only
  rw [if_neg (by simpa using hs)]
  refine go_to (go_bind (b := 1) (b' := 2 + 6 * fs.length) (go_dictEntries hd) ?_) rfl (by omega)
  rw [if_neg (by simpa using he)]
  refine go_to (go_bind (b := 1) (b' := 1 + 6 * fs.length) (go_dictEntries hA) ?_) rfl (by omega)
  refine go_bind (b := 1) (b' := 6 * fs.length) (go_dictEpoch hA) ?_
  rw [List.size_toArray, List.range_eq_range']
  have loop := go_mergeLoop (p := p) (w := w) (ann := ann) (q := q) ha hne hi hnd es ep hz hno fs.length 0 s (by omega) (by simpa using hd) hA
  exact go_bind (b := 6 * fs.length) (b' := 0) loop go_pure'
end
end Mine

end

section
open PySem PySem.W PyProof.Rows
set_option Elab.async false
namespace Mine
abbrev Run := List (Sem Value × Sem Value)
def flushS (run : Run) (main : Option Addr) : Sem (Option Addr) :=
  if run.isEmpty = true then pure main
  else match main with
    | none => do
      let x ← subDict run
      pure (some x)
    | some d => do
      let sub ← holding [Value.ref d] (subDict run)
      (holding [Value.ref d, Value.ref sub] (mergeMapping d (Value.ref sub) false)).onRaise fun x => do
          let _ ← holding [Value.ref d, x] (runValue (Code.builtin "proto.let_go" { }))
          pure ()
      pure (some d)
abbrev StepF := Option (Sem Value) × Sem Value → Option Addr × Run → Sem (ForInStep (Option Addr × Run))
def okStep (pos : Pos) (f : StepF) : Prop := ∀ kv main run, f (some (item pos kv).1, (item pos kv).2) (main, run) =
  if ((run ++ [item pos kv]).length == 17) = true then do
    let main ← flushS (run ++ [item pos kv]) main
    pure (ForInStep.yield (main, []))
  else pure (ForInStep.yield (main, run ++ [item pos kv]))
abbrev itO (pos : Pos) (kv : Int × Str) : Option (Sem Value) × Sem Value := (some (item pos kv).1, (item pos kv).2)
/-- a heap, one object behind it, and more behind that one -/
def hp (h : Heap) (main : Obj) (subs : List Obj) : Heap := ⟨h.objs ++ (main :: subs).toArray, h.life⟩
theorem hp_size (h : Heap) (m : Obj) (subs : List Obj) : (hp h m subs).objs.size = h.objs.size + 1 + subs.length := by
  unfold hp; simp only [Array.size_append, List.size_toArray, List.length_cons]; omega
theorem push_hp (h : Heap) (m : Obj) : h.push m = hp h m [] := by
  obtain ⟨objs, life⟩ := h
  show Heap.mk _ _ = Heap.mk _ _
  congr 1
theorem hp_push (h : Heap) (m o : Obj) (subs : List Obj) : (hp h m subs).push o = hp h m (subs ++ [o]) := by
  unfold hp
  show Heap.mk _ _ = Heap.mk _ _
  congr 1
  simp
theorem hp_main (h : Heap) (es : List DictEntry) (ep : Nat) (subs : List Obj) : (hp h (dObj es ep) subs).get? h.objs.size = some (dObj es ep) := by
  unfold Heap.get? hp
  simp
theorem hp_upd (h : Heap) (m m' : Obj) (subs : List Obj) : ((hp h m subs).update h.objs.size fun _ => m') = hp h m' subs := by
  unfold hp
  show Heap.mk _ _ = Heap.mk _ _
  congr 1
  apply Array.ext_getElem?
  intro i
  simp only [Array.getElem?_modify, Array.getElem?_append, List.getElem?_toArray]
  split
  · rename_i e; subst e; simp
  · rename_i e
    split
    · rfl
    · rename_i e'
      obtain ⟨j, hj⟩ : ∃ j, i - h.objs.size = j + 1 := ⟨i - h.objs.size - 1, by omega⟩
      rw [hj]; rfl
theorem ents_app : ∀ (a b : List (Int × Str)) (t : Nat), ents t (a ++ b) = ents t a ++ ents (t + 3 * a.length) b
  | [], b, t => rfl
  | (k, v) :: r, b, t => by
    simp only [List.cons_append, ents, ents_app r b, List.length_cons]
    congr 3; omega
def subsOf (t : Nat) : List (List (Int × Str)) → List Obj
  | [] => []
  | c :: r => dObj (ents t c) c.length :: subsOf (t + 3 * c.length) r
theorem okKeys.left {a b : List (Int × Str)} (h : okKeys (a ++ b)) : okKeys a := ⟨fun x hx => h.1 x (List.mem_append_left _ hx), by have := h.2; rw [List.map_append] at this; exact (List.nodup_append.mp this).1⟩
theorem okKeys.right {a b : List (Int × Str)} (h : okKeys (a ++ b)) : okKeys b := ⟨fun x hx => h.1 x (List.mem_append_right _ hx), by have := h.2; rw [List.map_append] at this; exact (List.nodup_append.mp this).2.1⟩
theorem okKeys.apart {a b : List (Int × Str)} (h : okKeys (a ++ b)) : ∀ x ∈ a.map (·.1), ∀ y ∈ b.map (·.1), x ≠ y := by
  have := h.2; rw [List.map_append] at this; exact fun x hx y hy => (List.nodup_append.mp this).2.2 x hx y hy
theorem forIn_acc {pos : Pos} {f : StepF} (hf : okStep pos f) (main : Option Addr) (rest : List (Option (Sem Value) × Sem Value)) : ∀ (c r : List (Int × Str)), r.length + c.length < 17 →
    forIn (c.map (itO pos) ++ rest) (main, r.map (item pos)) f = forIn rest (main, (r ++ c).map (item pos)) f
  | [], r, _ => by simp
  | x :: c, r, h => by
    simp only [List.length_cons] at h
    rw [List.map_cons, List.cons_append, List.forIn_cons]
    show (f (some (item pos x).1, (item pos x).2) (main, r.map (item pos)) >>= _) = _
    rw [hf, if_neg (by simp; omega), pure_bind]
    have := forIn_acc hf main rest c (r ++ [x]) (by simp; omega)
    simpa using this
section
variable {p : Program} {w : World} {n₀ : Nat} {ann : Option Value} {α β : Type} {q q' q'' : Pos} {s s' s'' : Shared} {b b' : Nat}
theorem go_flushMain {pos : Pos} {h : Heap} {done c : List (Int × Str)} {main : List DictEntry} {fs : List DictEntry} {subs : List Obj} {nf : Nat} (hn : n₀ ≤ h.objs.size) (hs : 1 < h.objs.size) (hh : s.heap = hp h (dObj main done.length) subs) (hm : main.map (·.hash) = done.map (·.1)) (hd : done ≠ [])
    (hlen : done.length + c.length < 1000) (hk : okKeys (done ++ c)) (hc : c ≠ []) (hfl : fs.map (·.hash) = c.map (·.1)) (hfi : intEnts fs) (hfn : nf = c.length)
    (hsub : Go p w n₀ ann (subDict (c.map (item pos))) pos s s.heap.objs.size pos { s with heap := s.heap.push (dObj fs nf), toks := s.toks + 3 * c.length } b) :
    Go p w n₀ ann (flushS (c.map (item pos)) (some h.objs.size)) pos s (some h.objs.size) pos
      { s with heap := hp h (dObj (main ++ fs) (done ++ c).length) (subs ++ [dObj fs nf]), toks := s.toks + 3 * c.length } (b + (5 + 6 * c.length)) := by
  unfold flushS
  rw [if_neg (by simpa using hc)]
  dsimp only
  refine go_bind (go_holding hsub) ?_
  have hl : fs.length = c.length := by have := congrArg List.length hfl; simpa using this
  have hml : main.length = done.length := by have := congrArg List.length hm; simpa using this
  have e1 : s.heap.push (dObj fs nf) = hp h (dObj main done.length) (subs ++ [dObj fs nf]) := by rw [hh, hp_push]
  have ea : s.heap.objs.size = h.objs.size + 1 + subs.length := by rw [hh, hp_size]
  have hA : (s.heap.push (dObj fs nf)).get? s.heap.objs.size = some (dObj fs nf) := Heap.get?_push_size _ rfl
  have hD : (s.heap.push (dObj fs nf)).get? h.objs.size = some (dObj main done.length) := by rw [e1]; exact hp_main ..
  have mg := go_merge (p := p) (w := w) (ann := ann) (q := pos) (s := { s with heap := s.heap.push (dObj fs nf), toks := s.toks + 3 * c.length }) hD hA hn (by rw [ea]; exact Nat.ne_of_gt (by omega)) (by show s.heap.objs.size ≠ 1; omega)
    (by intro e; rw [e] at hml; exact hd (List.length_eq_zero_iff.mp (by simpa using hml.symm))) hfi (by rw [hfl]; exact hk.right.2) (by omega)
    (fun e he x hx => by
      have h1 : e.hash ∈ done.map (·.1) := by rw [← hm]; exact List.mem_map_of_mem he
      have h2 : x.hash ∈ c.map (·.1) := by rw [← hfl]; exact List.mem_map_of_mem hx
      exact hk.apart _ h1 _ h2)
  rw [hl] at mg
  refine go_to (go_bind (b := 5 + 6 * c.length) (b' := 0) (go_onRaise (go_holding mg)) go_pure') ?_ (by omega)
  dsimp only
  rw [e1, hp_upd, List.length_append]
theorem go_chunks {pos : Pos} {f : StepF} (hf : okStep pos f) {h : Heap} {t₀ : Nat} (hn : n₀ ≤ h.objs.size) (hs : 1 < h.objs.size) : ∀ (cs : List (List (Int × Str))) (done : List (Int × Str)) (subs : List Obj) (rest : List (Option (Sem Value) × Sem Value)) (s : Shared) (r : Option Addr × Run) (s' : Shared) (b : Nat),
    (∀ c ∈ cs, c.length = 17) → done ≠ [] → s.heap = hp h (dObj (ents t₀ done) done.length) subs → s.toks = t₀ + 3 * done.length → okKeys (done ++ cs.flatten) → (done ++ cs.flatten).length < 1000 →
    Go p w n₀ ann (forIn rest (some h.objs.size, []) f) pos { s with heap := hp h (dObj (ents t₀ (done ++ cs.flatten)) (done ++ cs.flatten).length) (subs ++ subsOf (t₀ + 3 * done.length) cs), toks := t₀ + 3 * (done ++ cs.flatten).length } r pos s' b →
    Go p w n₀ ann (forIn (cs.flatten.map (itO pos) ++ rest) (some h.objs.size, []) f) pos s r pos s' (330 * cs.length + b)
  | [], done, subs, rest, s, r, s', b, _, _, hh, ht, _, _, fin => by
    simp only [List.flatten_nil, List.append_nil, List.map_nil, List.nil_append, subsOf, List.length_nil, Nat.mul_zero, Nat.zero_add] at fin ⊢
    rw [← hh, ← ht] at fin
    exact fin
  | c :: cs, done, subs, rest, s, r, s', b, h17, hd, hh, ht, hk, hl, fin => by
    have hc : c.length = 17 := h17 c List.mem_cons_self
    have hk' : okKeys ((done ++ c) ++ cs.flatten) := by simpa using hk
    have hkc : okKeys (done ++ c) := hk'.left
    have hl' : ((done ++ c) ++ cs.flatten).length < 1000 := by simpa using hl
    have hl2 : (done ++ c).length < 1000 := by rw [List.length_append] at hl'; omega
    obtain ⟨c', x, rfl⟩ : ∃ c' x, c = c' ++ [x] := ⟨c.dropLast, c.getLast (by intro e; rw [e] at hc; cases hc), (List.dropLast_concat_getLast _).symm⟩
    have hc' : c'.length = 16 := by simpa using hc
    have e0 : ((c' ++ [x]) :: cs).flatten.map (itO pos) ++ rest = c'.map (itO pos) ++ (itO pos x :: (cs.flatten.map (itO pos) ++ rest)) := by simp
    rw [e0]
    have acc := forIn_acc hf (some h.objs.size) (itO pos x :: (cs.flatten.map (itO pos) ++ rest)) c' [] (by simp; omega)
    rw [List.map_nil] at acc
    rw [acc, List.nil_append, List.forIn_cons]
    show Go p w n₀ ann (f (some (item pos x).1, (item pos x).2) (some h.objs.size, c'.map (item pos)) >>= _) pos s r pos s' _
    have e2 : c'.map (item pos) ++ [item pos x] = (c' ++ [x]).map (item pos) := by simp
    rw [hf, e2, if_pos (by simp; omega), bind_assoc]
    have sub := go_subDict17 (p := p) (w := w) (ann := ann) (n₀ := n₀) (s := s) (pos := pos) (l := c' ++ [x]) (by rw [hh, hp_size]; omega) (by omega) (by omega) hkc.right
    have fl := go_flushMain (p := p) (w := w) (ann := ann) (pos := pos) (done := done) (main := ents t₀ done) hn hs hh (ents_hash ..) hd (by rw [← List.length_append]; exact hl2) hkc (by simp) (ents_hash ..) (ents_int _ _) rfl sub
    have e3 : ents t₀ done ++ ents s.toks (c' ++ [x]) = ents t₀ (done ++ (c' ++ [x])) := by rw [ents_app done, ht]
    rw [e3] at fl
    have nxt := go_chunks hf hn hs cs (done ++ (c' ++ [x])) (subs ++ [dObj (ents s.toks (c' ++ [x])) (c' ++ [x]).length]) rest { s with heap := hp h (dObj (ents t₀ (done ++ (c' ++ [x]))) (done ++ (c' ++ [x])).length) (subs ++ [dObj (ents s.toks (c' ++ [x])) (c' ++ [x]).length]), toks := s.toks + 3 * (c' ++ [x]).length } r s' b
      (fun d hd => h17 d (List.mem_cons_of_mem _ hd)) (by simp) rfl (by dsimp only; rw [ht, List.length_append (as := done)]; omega) hk' hl' (by
        have e4 : done ++ (c' ++ [x]) ++ cs.flatten = done ++ ((c' ++ [x]) :: cs).flatten := by simp
        rw [e4]
        have e5 : subs ++ [dObj (ents s.toks (c' ++ [x])) (c' ++ [x]).length] ++ subsOf (t₀ + 3 * (done ++ (c' ++ [x])).length) cs = subs ++ subsOf (t₀ + 3 * done.length) ((c' ++ [x]) :: cs) := by
          rw [List.append_assoc]
          simp only [subsOf, List.singleton_append, ht]
          rw [show t₀ + 3 * (done ++ (c' ++ [x])).length = t₀ + 3 * done.length + 3 * (c' ++ [x]).length by rw [List.length_append (as := done)]; omega]
        rw [e5]
        exact fin)
    refine go_to (go_bind fl (go_bind (b := 0) go_pure' nxt)) rfl ?_
    simp only [List.length_cons, hc]
    omega
end
end Mine

end

section
open PySem PySem.W PyProof.Rows
set_option Elab.async false
namespace Mine
section
variable {p : Program} {w : World} {n₀ : Nat} {ann : Option Value} {α β : Type} {q q' q'' : Pos} {s s' s'' : Shared} {b b' : Nat}
theorem go_display {pos : Pos} {c₀ last : List (Int × Str)} {cs : List (List (Int × Str))} (hn : n₀ ≤ s.heap.objs.size) (hs : 1 < s.heap.objs.size) (h0 : c₀.length = 17) (h17 : ∀ c ∈ cs, c.length = 17) (hl : last.length ≤ 15) (hl0 : last ≠ [])
    (hk : okKeys ((c₀ ++ cs.flatten) ++ last)) (hz : ((c₀ ++ cs.flatten) ++ last).length < 1000) :
    Go p w n₀ ann (dictDisplay (((c₀ ++ cs.flatten) ++ last).map (itO pos))) pos s (.ref s.heap.objs.size) pos
      { s with heap := hp s.heap (dObj (ents s.toks (c₀ ++ cs.flatten) ++ ents2 (s.toks + 3 * (c₀ ++ cs.flatten).length) last) ((c₀ ++ cs.flatten) ++ last).length) (subsOf (s.toks + 51) cs ++ [dObj (ents2 (s.toks + 3 * (c₀ ++ cs.flatten).length) last) last.length]), toks := s.toks + 3 * (c₀ ++ cs.flatten).length + 3 * last.length }
      (223 + (330 * cs.length + (6 + 19 * last.length))) := by
  unfold dictDisplay
  dsimp only
  have key : ∀ f : StepF, okStep pos f → Go p w n₀ ann (forIn (((c₀ ++ cs.flatten) ++ last).map (itO pos)) (none, []) f >>= fun r => (flushS r.2 r.1 >>= fun x => match x with | some d => pure (Value.ref d) | none => newDict)) pos s (.ref s.heap.objs.size) pos
      { s with heap := hp s.heap (dObj (ents s.toks (c₀ ++ cs.flatten) ++ ents2 (s.toks + 3 * (c₀ ++ cs.flatten).length) last) ((c₀ ++ cs.flatten) ++ last).length) (subsOf (s.toks + 51) cs ++ [dObj (ents2 (s.toks + 3 * (c₀ ++ cs.flatten).length) last) last.length]), toks := s.toks + 3 * (c₀ ++ cs.flatten).length + 3 * last.length }
      (223 + (330 * cs.length + (6 + 19 * last.length))) := by
    intro f hf
    have hk1 : okKeys (c₀ ++ cs.flatten) := hk.left
    have hz1 : (c₀ ++ cs.flatten).length < 1000 := by rw [List.length_append (as := c₀ ++ cs.flatten)] at hz; omega
    obtain ⟨c', x, rfl⟩ : ∃ c' x, c₀ = c' ++ [x] := ⟨c₀.dropLast, c₀.getLast (by intro e; rw [e] at h0; cases h0), (List.dropLast_concat_getLast _).symm⟩
    have hc' : c'.length = 16 := by simpa using h0
    -- the last, short run
    have lastLoop : forIn (last.map (itO pos)) ((some s.heap.objs.size, []) : Option Addr × Run) f = pure (some s.heap.objs.size, last.map (item pos)) := by
      have := forIn_acc hf (some s.heap.objs.size) [] last [] (by simp; omega)
      rw [List.append_nil, List.map_nil] at this
      rw [this, List.forIn_nil, List.nil_append]
    let S2 : Shared := { s with heap := hp s.heap (dObj (ents s.toks ((c' ++ [x]) ++ cs.flatten)) ((c' ++ [x]) ++ cs.flatten).length) ([] ++ subsOf (s.toks + 3 * (c' ++ [x]).length) cs), toks := s.toks + 3 * ((c' ++ [x]) ++ cs.flatten).length }
    have fin : Go p w n₀ ann (forIn (last.map (itO pos)) ((some s.heap.objs.size, []) : Option Addr × Run) f) pos S2 (some s.heap.objs.size, last.map (item pos)) pos S2 0 := by
      rw [lastLoop]; exact go_pure'
    have sub0 := go_subDict17 (p := p) (w := w) (ann := ann) (n₀ := n₀) (s := s) (pos := pos) (l := c' ++ [x]) hn (by omega) (by omega) hk1.left
    have chunks := go_chunks (p := p) (w := w) (ann := ann) (n₀ := n₀) (pos := pos) hf (h := s.heap) (t₀ := s.toks) hn hs cs (c' ++ [x]) [] (last.map (itO pos)) { s with heap := hp s.heap (dObj (ents s.toks (c' ++ [x])) (c' ++ [x]).length) [], toks := s.toks + 3 * (c' ++ [x]).length } _ _ 0
      h17 (by simp) rfl rfl hk1 hz1 fin
    have e0 : ((c' ++ [x]) ++ cs.flatten ++ last).map (itO pos) = c'.map (itO pos) ++ (itO pos x :: (cs.flatten.map (itO pos) ++ last.map (itO pos))) := by simp
    have acc := forIn_acc hf none (itO pos x :: (cs.flatten.map (itO pos) ++ last.map (itO pos))) c' [] (by simp; omega)
    rw [List.map_nil] at acc
    have e2 : c'.map (item pos) ++ [item pos x] = (c' ++ [x]).map (item pos) := by simp
    have loop : Go p w n₀ ann (forIn (((c' ++ [x]) ++ cs.flatten ++ last).map (itO pos)) ((none, []) : Option Addr × Run) f) pos s (some s.heap.objs.size, last.map (item pos)) pos S2 (223 + (330 * cs.length + 0)) := by
      rw [e0, acc, List.nil_append, List.forIn_cons]
      show Go p w n₀ ann (f (some (item pos x).1, (item pos x).2) (none, c'.map (item pos)) >>= _) pos s _ pos _ _
      rw [hf, e2, if_pos (by simp; omega), bind_assoc]
      have fl : Go p w n₀ ann (flushS ((c' ++ [x]).map (item pos)) none) pos s (some s.heap.objs.size) pos { s with heap := hp s.heap (dObj (ents s.toks (c' ++ [x])) (c' ++ [x]).length) [], toks := s.toks + 3 * (c' ++ [x]).length } (223) := by
        unfold flushS
        rw [if_neg (by simp)]
        dsimp only
        refine go_to (go_bind (b' := 0) sub0 go_pure') ?_ (by omega)
        rw [push_hp]
      exact go_bind fl (go_le (go_bind (b := 0) (b' := 330 * cs.length + 0) go_pure' chunks) (by omega))
    have sub1 := go_subDict15 (p := p) (w := w) (ann := ann) (n₀ := n₀) (s := S2) (pos := pos) (l := last) (by show n₀ ≤ (hp _ _ _).objs.size; rw [hp_size]; omega) hl hk.right
    have fl := go_flushMain (p := p) (w := w) (ann := ann) (pos := pos) (s := S2) (h := s.heap) (done := (c' ++ [x]) ++ cs.flatten) (c := last) (main := ents s.toks ((c' ++ [x]) ++ cs.flatten)) hn hs rfl (ents_hash ..) (by simp)
      (by rw [← List.length_append]; exact hz) hk hl0 (ents2_hash ..) (ents2_int _ _) rfl sub1
    refine go_to (go_bind loop (go_bind (b' := 0) fl go_pure')) ?_ (by omega)
    simp only [S2, List.nil_append, h0]
  exact key _ (fun kv main run => rfl)
end
end Mine

end

section
open PySem PySem.W PyProof.Rows
set_option Elab.async false
namespace Mine
def envT (p : Program) : Env := { scope := p.main.scope, locals := mainNs, globals := mainNs, cells := [], code := .ref 13, frame := some 14 }
def kOf : Option Expr → Option Int
  | some (.Constant (.int k) _ _) => some k
  | _ => none
def vOf : Expr → Option Str
  | .Constant (.str v) _ _ => some v
  | _ => none
theorem kOf_spec {e : Option Expr} {k : Int} (h : kOf e = some k) : ∃ a b, e = some (.Constant (.int k) a b) := by
  unfold kOf at h
  split at h
  · cases h; exact ⟨_, _, rfl⟩
  · cases h
theorem vOf_spec {e : Expr} {k : Str} (h : vOf e = some k) : ∃ a b, e = .Constant (.str k) a b := by
  unfold vOf at h
  split at h
  · cases h; exact ⟨_, _, rfl⟩
  · cases h
def constPairs : List (Option Expr) → List Expr → Option (List (Int × Str))
  | [], [] => some []
  | k :: ks, v :: vs => match kOf k, vOf v, constPairs ks vs with
    | some k, some v, some r => some ((k, v) :: r)
    | _, _, _ => none
  | _, _ => none
theorem constPairs_eval (env : Env) (pos : Pos) : ∀ (ks : List (Option Expr)) (vs : List Expr) (l : List (Int × Str)), constPairs ks vs = some l →
    (evalEachOpt ks env).zip ((evalEach vs env).map fun v => do let x ← v; standAt pos; pure x) = l.map (itO pos)
  | [], [], l, h => by cases h; rfl
  | [], _ :: _, l, h => by simp [constPairs] at h
  | _ :: _, [], l, h => by simp [constPairs] at h
  | k :: ks, v :: vs, l, h => by
    unfold constPairs at h
    split at h
    · rename_i k' v' r h1 h2 h3
      cases h
      obtain ⟨_, _, rfl⟩ := kOf_spec h1
      obtain ⟨_, _, rfl⟩ := vOf_spec h2
      have := constPairs_eval env pos ks vs r h3
      simp only [evalEachOpt, evalEach, List.map_cons, List.zip_cons_cons, this]
      rfl
    · cases h
section
variable {p : Program} {w : World} {n₀ : Nat} {ann : Option Value} {α β : Type} {q q' q'' : Pos} {s s' s'' : Shared} {b b' : Nat}
theorem go_updateMain {o : Obj} {part : Option Value} {g : Obj → Obj} (ho : s.heap.get? mainNs = some o) :
    Go p w n₀ ann (PySem.updatePart mainNs part g) q s () q { s with heap := s.heap.update mainNs g } 1 := by
  intro K H gd lv c f B N r hN
  obtain ⟨heap, gens, drawn, toks, os⟩ := s
  rw [Nat.add_comm]
  have ok : stepOk n₀ ann ⟨.update mainNs part g fun x => K x, c, q, f :: B⟩ = true := by
    simp only [stepOk]
    simp [Thread.calm, Thread.atCollectorCode, Thread.yieldsInsideHandler]
  show (match stepOk n₀ ann ⟨.update mainNs part g fun x => K x, c, q, f :: B⟩ with | false => none | true => match step (denote treeTable) p w ⟨heap, gens, drawn, toks, os⟩ ⟨.update mainNs part g fun x => K x, c, q, f :: B⟩ with | .go s' t' => topRun treeTable p w n₀ ann N s' t' | .halt _ _ => none) = some r
  rw [ok]
  simp only [step]
  rw [ho]
  exact hN
theorem go_nsSetMain {name : Str} {v : Value} {es : Array DictEntry} {n : Nat} (ho : s.heap.get? mainNs = some ⟨.type "dict", none, .dict es n, #[]⟩) (hr : aRefKeyMayBeTheName name es = false) :
    Go p w n₀ ann (nsSet mainNs name v) q s () q { s with heap := s.heap.update mainNs (Obj.putName name (PyData.keyHash w.params name) (.str name s.toks) v), toks := s.toks + 1 } 4 := by
  unfold nsSet strHash
  refine go_bind (b := 1) (b' := 3) (go_bind (b := 1) (b' := 0) go_ask go_pure') ?_
  refine go_bind (b := 1) (b' := 2) go_mkText ?_
  refine go_bind (b := 1) (b' := 1) (go_loadPart (s := { s with toks := s.toks + 1 }) ho) ?_
  dsimp only
  rw [hr, if_neg Bool.false_ne_true]
  exact go_updateMain (s := { s with toks := s.toks + 1 }) ho
theorem go_tail {env : Env} {x : Str} {v : Value} {pos' : Pos} {es : Array DictEntry} {n : Nat} (hst : storeName env x v = nsSet mainNs x v) (ho : s.heap.get? mainNs = some ⟨.type "dict", none, .dict es n, #[]⟩) (hr : aRefKeyMayBeTheName x es = false) :
    Go p w n₀ ann (do standAt pos'; bindName env x v; pure Flow.next) q s Flow.next pos' { s with heap := s.heap.update mainNs (Obj.putName x (PyData.keyHash w.params x) (.str x s.toks) v), toks := s.toks + 1 } 7 := by
  refine go_bind (b := 1) (b' := 6) go_at ?_
  unfold bindName
  rw [hst]
  exact go_bind (b := 6) (b' := 0) (go_bind (b := 1) (b' := 5) (go_holding go_point) (go_bind (b := 4) (b' := 1) (go_nsSetMain ho hr) go_point)) go_pure'
theorem go_dictStmt {env : Env} {x : Str} {pos pos' pos₀ : Pos} {ks : List (Option Expr)} {vs : List Expr} {c₀ last : List (Int × Str)} {cs : List (List (Int × Str))} {es : Array DictEntry} {n : Nat}
    (hsw : swapsWith (.Dict ks vs pos) (some (.Name x pos')) pos₀.line env = pure false) (hst : ∀ v, storeName env x v = nsSet mainNs x v) (hl : constPairs ks vs = some ((c₀ ++ cs.flatten) ++ last))
    (hn : n₀ ≤ s.heap.objs.size) (hs : mainNs < s.heap.objs.size) (h0 : c₀.length = 17) (h17 : ∀ c ∈ cs, c.length = 17) (hl15 : last.length ≤ 15) (hl0 : last ≠ []) (hk : okKeys ((c₀ ++ cs.flatten) ++ last)) (hz : ((c₀ ++ cs.flatten) ++ last).length < 1000)
    (ho : s.heap.get? mainNs = some ⟨.type "dict", none, .dict es n, #[]⟩) (hr : aRefKeyMayBeTheName x es = false) :
    Go p w n₀ ann (exec (.Assign [.Name x pos'] (.Dict ks vs pos) pos₀) env) q s Flow.next pos'
      { s with heap := ((hp s.heap (dObj (ents s.toks (c₀ ++ cs.flatten) ++ ents2 (s.toks + 3 * (c₀ ++ cs.flatten).length) last) ((c₀ ++ cs.flatten) ++ last).length) (subsOf (s.toks + 51) cs ++ [dObj (ents2 (s.toks + 3 * (c₀ ++ cs.flatten).length) last) last.length])).update mainNs
          (Obj.putName x (PyData.keyHash w.params x) (.str x (s.toks + 3 * (c₀ ++ cs.flatten).length + 3 * last.length)) (.ref s.heap.objs.size))), toks := s.toks + 3 * (c₀ ++ cs.flatten).length + 3 * last.length + 1 }
      (9 + (223 + (330 * cs.length + (6 + 19 * last.length)))) := by
  have ev : eval (.Dict ks vs pos) env = (do standAt pos; dictDisplay (((c₀ ++ cs.flatten) ++ last).map (itO pos))) := by
    rw [← constPairs_eval env pos ks vs _ hl]; rfl
  rw [exec_Assign_Name env x pos' _ pos₀ hsw, ev]
  refine go_to (go_bind (b := 1) (b' := 8 + (223 + (330 * cs.length + (6 + 19 * last.length)))) go_at ?_) rfl (by omega)
  have disp := go_display (p := p) (w := w) (ann := ann) (n₀ := n₀) (s := s) (pos := pos) (c₀ := c₀) (cs := cs) (last := last) hn (Nat.lt_trans (by decide : 1 < mainNs) hs) h0 h17 hl15 hl0 hk hz
  refine go_to (go_bind (b := 1 + (223 + (330 * cs.length + (6 + 19 * last.length)))) (b' := 7) (go_bind (b := 1) go_at disp) ?_) rfl (by omega)
  have ho' : (hp s.heap (dObj (ents s.toks (c₀ ++ cs.flatten) ++ ents2 (s.toks + 3 * (c₀ ++ cs.flatten).length) last) ((c₀ ++ cs.flatten) ++ last).length) (subsOf (s.toks + 51) cs ++ [dObj (ents2 (s.toks + 3 * (c₀ ++ cs.flatten).length) last) last.length])).get? mainNs = some ⟨.type "dict", none, .dict es n, #[]⟩ := by
    have := objs_of_get ho
    unfold Heap.get? hp
    rw [Array.getElem?_append_left hs, this]
  exact go_tail (hst _) ho' hr
end
end Mine

end

section
open PySem PySem.W PyProof.Rows
set_option Elab.async false
set_option maxRecDepth 100000
set_option maxHeartbeats 0
set_option linter.unusedVariables false
lay_quick PySem.Challenge.pw_mr0241_01
namespace Mine
noncomputable section
abbrev pw : Program := PySem.Challenge.pw_mr0241_01
def fnD (p : Program) (i : Nat) (pm cd : Value) (g : Addr) : Data := match p.main.body[i]? with
  | some (.FunctionDef name args body _ _ _ scope _ _ _) => .func { name := name, qualname := name, params := args, body := .stmts body, scope := scope, globals := g, closure := [], defaults := .none, kwdefaults := .none, pyModule := pm, code := cd }
  | _ => .plain
def dictKs (p : Program) : List (Option Expr) := match (p.main.body[5]? : Option Stmt) with
  | some (Stmt.Assign _ (Expr.Dict ks _ _) _) => ks
  | _ => []
def dictVs (p : Program) : List Expr := match (p.main.body[5]? : Option Stmt) with
  | some (Stmt.Assign _ (Expr.Dict _ vs _) _) => vs
  | _ => []
def dPairs (p : Program) : List (Int × Str) := (constPairs (dictKs p) (dictVs p)).getD []
def dFirst (p : Program) : List (Int × Str) := (dPairs p).take 17
def dChunk (p : Program) (j : Nat) : List (Int × Str) := ((dPairs p).drop (17 * (j + 1))).take 17
def dChunks (p : Program) : List (List (Int × Str)) := (List.range 37).map (dChunk p)
def dLast (p : Program) : List (Int × Str) := (dPairs p).drop 646
def dMain (p : Program) : Obj := dObj (ents 266 (dFirst p ++ (dChunks p).flatten) ++ ents2 2204 (dLast p)) 650
def dSub (p : Program) (j : Nat) : Obj := if j = 37 then dObj (ents2 2204 (dLast p)) 4 else dObj (ents (266 + 51 * (j + 1)) (dChunk p j)) 17
def ob11A (p : Program) (P : Params) : Obj := ⟨(.type "tuple"), none, (.seq (List.toArray []) 0), (List.toArray [])⟩
def ob12A (p : Program) (P : Params) : Obj := ⟨.none, none, (.fields (List.toArray [])), (List.toArray [])⟩
def ob13A (p : Program) (P : Params) : Obj := ⟨(.type "code"), none, (.fields (List.toArray [(.str ⟨#[60, 109, 111, 100, 117, 108, 101, 62]⟩ 182), (.str ⟨#[60, 109, 111, 100, 117, 108, 101, 62]⟩ 183), (.str ⟨#[47, 99, 108, 97, 105, 109, 47, 99, 117, 116, 46, 112, 121]⟩ 184), (.int 1 0), (.int 0 0), (.int 0 0), (.int 0 0), (.int 0 0), (.ref 11), (.bool false), (.int 181 0), (.ref 12), .none, .none, .none, .none, (.int 185 0), (.int 1 0), (.str ⟨#[47, 99, 108, 97, 105, 109, 47, 99, 117, 116, 46, 112, 121]⟩ 186)])), (List.toArray [])⟩
def ob14A (p : Program) (P : Params) : Obj := ⟨(.type "frame"), none, .plain, (List.toArray [some (.ref 13), some (.ref 3), some (.ref 3), none, some (.str ⟨#[95, 95, 109, 97, 105, 110, 95, 95]⟩ 164), none, some (.ref 0)])⟩
def ob3B (p : Program) (P : Params) : Obj := ⟨(.type "dict"), none, (.dict (List.toArray [⟨PyData.keyHash P ⟨#[95, 95, 110, 97, 109, 101, 95, 95]⟩, (.str ⟨#[95, 95, 110, 97, 109, 101, 95, 95]⟩ 165), (.str ⟨#[99, 112, 121, 51, 49, 51, 46, 115, 116, 114, 105, 110, 103, 112, 114, 101, 112]⟩ 197)⟩, ⟨PyData.keyHash P ⟨#[95, 95, 100, 111, 99, 95, 95]⟩, (.str ⟨#[95, 95, 100, 111, 99, 95, 95]⟩ 166), .none⟩, ⟨PyData.keyHash P ⟨#[95, 95, 112, 97, 99, 107, 97, 103, 101, 95, 95]⟩, (.str ⟨#[95, 95, 112, 97, 99, 107, 97, 103, 101, 95, 95]⟩ 167), .none⟩, ⟨PyData.keyHash P ⟨#[95, 95, 108, 111, 97, 100, 101, 114, 95, 95]⟩, (.str ⟨#[95, 95, 108, 111, 97, 100, 101, 114, 95, 95]⟩ 168), (.builtin "__main__.__loader__#opaque")⟩, ⟨PyData.keyHash P ⟨#[95, 95, 115, 112, 101, 99, 95, 95]⟩, (.str ⟨#[95, 95, 115, 112, 101, 99, 95, 95]⟩ 169), .none⟩, ⟨PyData.keyHash P ⟨#[95, 95, 97, 110, 110, 111, 116, 97, 116, 105, 111, 110, 115, 95, 95]⟩, (.str ⟨#[95, 95, 97, 110, 110, 111, 116, 97, 116, 105, 111, 110, 115, 95, 95]⟩ 170), (.ref 6)⟩, ⟨PyData.keyHash P ⟨#[95, 95, 98, 117, 105, 108, 116, 105, 110, 115, 95, 95]⟩, (.str ⟨#[95, 95, 98, 117, 105, 108, 116, 105, 110, 115, 95, 95]⟩ 171), (.ref 4)⟩, ⟨PyData.keyHash P ⟨#[95, 95, 102, 105, 108, 101, 95, 95]⟩, (.str ⟨#[95, 95, 102, 105, 108, 101, 95, 95]⟩ 173), (.str ⟨#[47, 99, 108, 97, 105, 109, 47, 99, 117, 116, 46, 112, 121]⟩ 172)⟩, ⟨PyData.keyHash P ⟨#[95, 95, 99, 97, 99, 104, 101, 100, 95, 95]⟩, (.str ⟨#[95, 95, 99, 97, 99, 104, 101, 100, 95, 95]⟩ 174), .none⟩, ⟨PyData.keyHash P ⟨#[102, 117, 110, 99, 95, 115, 116, 100, 95, 115, 116, 114, 105, 110, 103]⟩, (.str ⟨#[102, 117, 110, 99, 95, 115, 116, 100, 95, 115, 116, 114, 105, 110, 103]⟩ 196), (.ref 21)⟩, ⟨PyData.keyHash P ⟨#[98, 49, 95, 115, 101, 116]⟩, (.str ⟨#[98, 49, 95, 115, 101, 116]⟩ 258), (.ref 29)⟩, ⟨PyData.keyHash P ⟨#[105, 110, 95, 116, 97, 98, 108, 101, 95, 98, 49]⟩, (.str ⟨#[105, 110, 95, 116, 97, 98, 108, 101, 95, 98, 49]⟩ 265), (.ref 39)⟩]) 12), (List.toArray [])⟩
def ob12B (p : Program) (P : Params) : Obj := ⟨.none, none, (.fields (List.toArray [(.int 2 0), (.int 0 0), (.ref 20), (.int 13 0), (.int 0 0), (.ref 38)])), (List.toArray [])⟩
def ob15B (p : Program) (P : Params) : Obj := ⟨(.type "tuple"), none, (.seq (List.toArray []) 0), (List.toArray [])⟩
def ob16B (p : Program) (P : Params) : Obj := ⟨.none, none, (.fields (List.toArray [])), (List.toArray [])⟩
def ob17B (p : Program) (P : Params) : Obj := ⟨(.type "tuple"), none, (.seq (List.toArray [(.str ⟨#[102, 117, 110, 99, 95, 110, 97, 109, 101]⟩ 192), (.str ⟨#[110, 97, 109, 101]⟩ 193)]) 0), (List.toArray [])⟩
def ob18B (p : Program) (P : Params) : Obj := ⟨(.type "tuple"), none, (.seq (List.toArray []) 0), (List.toArray [])⟩
def ob19B (p : Program) (P : Params) : Obj := ⟨.none, none, (fnD p 1 .none .none 0), (List.toArray [])⟩
def ob20B (p : Program) (P : Params) : Obj := ⟨(.type "code"), none, (.fields (List.toArray [(.str ⟨#[102, 117, 110, 99, 95, 115, 116, 100, 95, 115, 116, 114, 105, 110, 103]⟩ 189), (.str ⟨#[102, 117, 110, 99, 95, 115, 116, 100, 95, 115, 116, 114, 105, 110, 103]⟩ 190), (.str ⟨#[47, 99, 108, 97, 105, 109, 47, 99, 117, 116, 46, 112, 121]⟩ 191), (.int 2 0), (.int 1 0), (.int 0 0), (.int 0 0), (.int 3 0), (.ref 15), (.bool true), (.int 181 0), (.ref 16), .none, (.ref 17), (.ref 18), (.ref 19), (.int 194 0), (.int 2 0), (.str ⟨#[47, 99, 108, 97, 105, 109, 47, 99, 117, 116, 46, 112, 121]⟩ 195)])), (List.toArray [])⟩
def ob21B (p : Program) (P : Params) : Obj := ⟨(.type "function"), none, (fnD p 1 (.str ⟨#[99, 112, 121, 51, 49, 51, 46, 112, 115, 116, 97, 116, 115]⟩ 187) (.ref 20) 3), (List.toArray [])⟩
def ob22B (p : Program) (P : Params) : Obj := ⟨(.type "list"), none, (.seq (List.toArray [(.int 173 199), (.int 847 200), (.int 6150 201), (.int 6155 202), (.int 6156 203), (.int 6157 204), (.int 8203 205), (.int 8204 206), (.int 8205 207), (.int 8288 208), (.int 65279 209)]) 0), (List.toArray [])⟩
def ob23B (p : Program) (P : Params) : Obj := ⟨(.type "range"), none, (.fields (List.toArray [(.int 65024 210), (.int 65040 211), (.int 1 212)])), (List.toArray [])⟩
def ob24B (p : Program) (P : Params) : Obj := ⟨(.type "list"), none, (.seq (List.toArray [(.int 65024 215), (.int 65025 216), (.int 65026 217), (.int 65027 218), (.int 65028 219), (.int 65029 220), (.int 65030 221), (.int 65031 222), (.int 65032 223), (.int 65033 224), (.int 65034 225), (.int 65035 226), (.int 65036 227), (.int 65037 228), (.int 65038 229), (.int 65039 230)]) 18), (List.toArray [])⟩
def ob25B (p : Program) (P : Params) : Obj := ⟨(.type "range_iterator"), none, (.fields (List.toArray [(.int 65040 0), (.int 0 0), (.int 1 0)])), (List.toArray [])⟩
def ob26B (p : Program) (P : Params) : Obj := ⟨(.type "tuple"), none, (.seq (List.toArray []) 0), (List.toArray [])⟩
def ob27B (p : Program) (P : Params) : Obj := ⟨(.type "StopIteration"), none, (.fields (List.toArray [(.ref 26), .none, .none, .none, (.bool false), .none])), (List.toArray [])⟩
def ob28B (p : Program) (P : Params) : Obj := ⟨(.type "list"), none, (.seq (List.toArray [(.int 173 199), (.int 847 200), (.int 6150 201), (.int 6155 202), (.int 6156 203), (.int 6157 204), (.int 8203 205), (.int 8204 206), (.int 8205 207), (.int 8288 208), (.int 65279 209), (.int 65024 215), (.int 65025 216), (.int 65026 217), (.int 65027 218), (.int 65028 219), (.int 65029 220), (.int 65030 221), (.int 65031 222), (.int 65032 223), (.int 65033 224), (.int 65034 225), (.int 65035 226), (.int 65036 227), (.int 65037 228), (.int 65038 229), (.int 65039 230)]) 0), (List.toArray [])⟩
def ob29B (p : Program) (P : Params) : Obj := ⟨(.type "set"), none, (.set (List.toArray [(65024, (.int 65024 215)), (65025, (.int 65025 216)), (65026, (.int 65026 217)), (65027, (.int 65027 218)), (65028, (.int 65028 219)), (65029, (.int 65029 220)), (6150, (.int 6150 201)), (65030, (.int 65030 221)), (65031, (.int 65031 222)), (65032, (.int 65032 223)), (65033, (.int 65033 224)), (6155, (.int 6155 202)), (6156, (.int 6156 203)), (6157, (.int 6157 204)), (8203, (.int 8203 205)), (8204, (.int 8204 206)), (8205, (.int 8205 207)), (65034, (.int 65034 225)), (65035, (.int 65035 226)), (65036, (.int 65036 227)), (65037, (.int 65037 228)), (65038, (.int 65038 229)), (65039, (.int 65039 230)), (173, (.int 173 199)), (847, (.int 847 200)), (8288, (.int 8288 208)), (65279, (.int 65279 209))]) 29 ⟨127, #[0, 1, 2, 3, 4, 5, 6, 7, 8, 9, 10, 11, 12, 13, 14, 15, 16, 17, 18, 19, 20, 21, 22, 45, 79, 96, 127], #[], 0, (!P.followText "set-order"), 2, true⟩), (List.toArray [])⟩
def ob30B (p : Program) (P : Params) : Obj := ⟨(.type "list_iterator"), none, (.fields (List.toArray [.none, (.int 27 0)])), (List.toArray [])⟩
def ob31B (p : Program) (P : Params) : Obj := ⟨(.type "tuple"), none, (.seq (List.toArray []) 0), (List.toArray [])⟩
def ob32B (p : Program) (P : Params) : Obj := ⟨(.type "StopIteration"), none, (.fields (List.toArray [(.ref 31), .none, .none, .none, (.bool false), .none])), (List.toArray [])⟩
def ob33B (p : Program) (P : Params) : Obj := ⟨(.type "tuple"), none, (.seq (List.toArray []) 0), (List.toArray [])⟩
def ob34B (p : Program) (P : Params) : Obj := ⟨.none, none, (.fields (List.toArray [])), (List.toArray [])⟩
def ob35B (p : Program) (P : Params) : Obj := ⟨(.type "tuple"), none, (.seq (List.toArray [(.str ⟨#[99, 111, 100, 101]⟩ 262)]) 0), (List.toArray [])⟩
def ob36B (p : Program) (P : Params) : Obj := ⟨(.type "tuple"), none, (.seq (List.toArray []) 0), (List.toArray [])⟩
def ob37B (p : Program) (P : Params) : Obj := ⟨.none, none, (fnD p 4 .none .none 0), (List.toArray [])⟩
def ob38B (p : Program) (P : Params) : Obj := ⟨(.type "code"), none, (.fields (List.toArray [(.str ⟨#[105, 110, 95, 116, 97, 98, 108, 101, 95, 98, 49]⟩ 259), (.str ⟨#[105, 110, 95, 116, 97, 98, 108, 101, 95, 98, 49]⟩ 260), (.str ⟨#[47, 99, 108, 97, 105, 109, 47, 99, 117, 116, 46, 112, 121]⟩ 261), (.int 13 0), (.int 1 0), (.int 0 0), (.int 0 0), (.int 3 0), (.ref 33), (.bool true), (.int 181 0), (.ref 34), .none, (.ref 35), (.ref 36), (.ref 37), (.int 263 0), (.int 13 0), (.str ⟨#[47, 99, 108, 97, 105, 109, 47, 99, 117, 116, 46, 112, 121]⟩ 264)])), (List.toArray [])⟩
def ob39B (p : Program) (P : Params) : Obj := ⟨(.type "function"), none, (fnD p 4 (.str ⟨#[99, 112, 121, 51, 49, 51, 46, 115, 116, 114, 105, 110, 103, 112, 114, 101, 112]⟩ 197) (.ref 38) 3), (List.toArray [])⟩
def ob3C (p : Program) (P : Params) : Obj := ⟨(.type "dict"), none, (.dict (List.toArray [⟨PyData.keyHash P ⟨#[95, 95, 110, 97, 109, 101, 95, 95]⟩, (.str ⟨#[95, 95, 110, 97, 109, 101, 95, 95]⟩ 165), (.str ⟨#[99, 112, 121, 51, 49, 51, 46, 115, 116, 114, 105, 110, 103, 112, 114, 101, 112]⟩ 197)⟩, ⟨PyData.keyHash P ⟨#[95, 95, 100, 111, 99, 95, 95]⟩, (.str ⟨#[95, 95, 100, 111, 99, 95, 95]⟩ 166), .none⟩, ⟨PyData.keyHash P ⟨#[95, 95, 112, 97, 99, 107, 97, 103, 101, 95, 95]⟩, (.str ⟨#[95, 95, 112, 97, 99, 107, 97, 103, 101, 95, 95]⟩ 167), .none⟩, ⟨PyData.keyHash P ⟨#[95, 95, 108, 111, 97, 100, 101, 114, 95, 95]⟩, (.str ⟨#[95, 95, 108, 111, 97, 100, 101, 114, 95, 95]⟩ 168), (.builtin "__main__.__loader__#opaque")⟩, ⟨PyData.keyHash P ⟨#[95, 95, 115, 112, 101, 99, 95, 95]⟩, (.str ⟨#[95, 95, 115, 112, 101, 99, 95, 95]⟩ 169), .none⟩, ⟨PyData.keyHash P ⟨#[95, 95, 97, 110, 110, 111, 116, 97, 116, 105, 111, 110, 115, 95, 95]⟩, (.str ⟨#[95, 95, 97, 110, 110, 111, 116, 97, 116, 105, 111, 110, 115, 95, 95]⟩ 170), (.ref 6)⟩, ⟨PyData.keyHash P ⟨#[95, 95, 98, 117, 105, 108, 116, 105, 110, 115, 95, 95]⟩, (.str ⟨#[95, 95, 98, 117, 105, 108, 116, 105, 110, 115, 95, 95]⟩ 171), (.ref 4)⟩, ⟨PyData.keyHash P ⟨#[95, 95, 102, 105, 108, 101, 95, 95]⟩, (.str ⟨#[95, 95, 102, 105, 108, 101, 95, 95]⟩ 173), (.str ⟨#[47, 99, 108, 97, 105, 109, 47, 99, 117, 116, 46, 112, 121]⟩ 172)⟩, ⟨PyData.keyHash P ⟨#[95, 95, 99, 97, 99, 104, 101, 100, 95, 95]⟩, (.str ⟨#[95, 95, 99, 97, 99, 104, 101, 100, 95, 95]⟩ 174), .none⟩, ⟨PyData.keyHash P ⟨#[102, 117, 110, 99, 95, 115, 116, 100, 95, 115, 116, 114, 105, 110, 103]⟩, (.str ⟨#[102, 117, 110, 99, 95, 115, 116, 100, 95, 115, 116, 114, 105, 110, 103]⟩ 196), (.ref 21)⟩, ⟨PyData.keyHash P ⟨#[98, 49, 95, 115, 101, 116]⟩, (.str ⟨#[98, 49, 95, 115, 101, 116]⟩ 258), (.ref 29)⟩, ⟨PyData.keyHash P ⟨#[105, 110, 95, 116, 97, 98, 108, 101, 95, 98, 49]⟩, (.str ⟨#[105, 110, 95, 116, 97, 98, 108, 101, 95, 98, 49]⟩ 265), (.ref 39)⟩, ⟨PyData.keyHash P ⟨#[98, 51, 95, 101, 120, 99, 101, 112, 116, 105, 111, 110, 115]⟩, (.str ⟨#[98, 51, 95, 101, 120, 99, 101, 112, 116, 105, 111, 110, 115]⟩ 2216), (.ref 40)⟩]) 13), (List.toArray [])⟩
def ob3D (p : Program) (P : Params) : Obj := ⟨(.type "dict"), none, (.dict (List.toArray [⟨PyData.keyHash P ⟨#[95, 95, 110, 97, 109, 101, 95, 95]⟩, (.str ⟨#[95, 95, 110, 97, 109, 101, 95, 95]⟩ 165), (.str ⟨#[108, 97, 119, 95, 109, 114, 48, 50, 52, 49, 95, 48, 49]⟩ 2225)⟩, ⟨PyData.keyHash P ⟨#[95, 95, 100, 111, 99, 95, 95]⟩, (.str ⟨#[95, 95, 100, 111, 99, 95, 95]⟩ 166), .none⟩, ⟨PyData.keyHash P ⟨#[95, 95, 112, 97, 99, 107, 97, 103, 101, 95, 95]⟩, (.str ⟨#[95, 95, 112, 97, 99, 107, 97, 103, 101, 95, 95]⟩ 167), .none⟩, ⟨PyData.keyHash P ⟨#[95, 95, 108, 111, 97, 100, 101, 114, 95, 95]⟩, (.str ⟨#[95, 95, 108, 111, 97, 100, 101, 114, 95, 95]⟩ 168), (.builtin "__main__.__loader__#opaque")⟩, ⟨PyData.keyHash P ⟨#[95, 95, 115, 112, 101, 99, 95, 95]⟩, (.str ⟨#[95, 95, 115, 112, 101, 99, 95, 95]⟩ 169), .none⟩, ⟨PyData.keyHash P ⟨#[95, 95, 97, 110, 110, 111, 116, 97, 116, 105, 111, 110, 115, 95, 95]⟩, (.str ⟨#[95, 95, 97, 110, 110, 111, 116, 97, 116, 105, 111, 110, 115, 95, 95]⟩ 170), (.ref 6)⟩, ⟨PyData.keyHash P ⟨#[95, 95, 98, 117, 105, 108, 116, 105, 110, 115, 95, 95]⟩, (.str ⟨#[95, 95, 98, 117, 105, 108, 116, 105, 110, 115, 95, 95]⟩ 171), (.ref 4)⟩, ⟨PyData.keyHash P ⟨#[95, 95, 102, 105, 108, 101, 95, 95]⟩, (.str ⟨#[95, 95, 102, 105, 108, 101, 95, 95]⟩ 173), (.str ⟨#[47, 99, 108, 97, 105, 109, 47, 99, 117, 116, 46, 112, 121]⟩ 172)⟩, ⟨PyData.keyHash P ⟨#[95, 95, 99, 97, 99, 104, 101, 100, 95, 95]⟩, (.str ⟨#[95, 95, 99, 97, 99, 104, 101, 100, 95, 95]⟩ 174), .none⟩, ⟨PyData.keyHash P ⟨#[102, 117, 110, 99, 95, 115, 116, 100, 95, 115, 116, 114, 105, 110, 103]⟩, (.str ⟨#[102, 117, 110, 99, 95, 115, 116, 100, 95, 115, 116, 114, 105, 110, 103]⟩ 196), (.ref 21)⟩, ⟨PyData.keyHash P ⟨#[98, 49, 95, 115, 101, 116]⟩, (.str ⟨#[98, 49, 95, 115, 101, 116]⟩ 258), (.ref 29)⟩, ⟨PyData.keyHash P ⟨#[105, 110, 95, 116, 97, 98, 108, 101, 95, 98, 49]⟩, (.str ⟨#[105, 110, 95, 116, 97, 98, 108, 101, 95, 98, 49]⟩ 265), (.ref 39)⟩, ⟨PyData.keyHash P ⟨#[98, 51, 95, 101, 120, 99, 101, 112, 116, 105, 111, 110, 115]⟩, (.str ⟨#[98, 51, 95, 101, 120, 99, 101, 112, 116, 105, 111, 110, 115]⟩ 2216), (.ref 40)⟩, ⟨PyData.keyHash P ⟨#[109, 97, 112, 95, 116, 97, 98, 108, 101, 95, 98, 51]⟩, (.str ⟨#[109, 97, 112, 95, 116, 97, 98, 108, 101, 95, 98, 51]⟩ 2224), (.ref 85)⟩, ⟨PyData.keyHash P ⟨#[95, 108, 97, 119, 95, 103, 114, 101, 97, 116]⟩, (.str ⟨#[95, 108, 97, 119, 95, 103, 114, 101, 97, 116]⟩ 2235), (.ref 92)⟩, ⟨PyData.keyHash P ⟨#[95, 108, 97, 119, 95, 117, 110, 115, 101, 101, 110]⟩, (.str ⟨#[95, 108, 97, 119, 95, 117, 110, 115, 101, 101, 110]⟩ 2242), (.ref 99)⟩, ⟨PyData.keyHash P ⟨#[95, 108, 97, 119, 95, 112, 114, 101, 112, 97, 114, 101, 100]⟩, (.str ⟨#[95, 108, 97, 119, 95, 112, 114, 101, 112, 97, 114, 101, 100]⟩ 2248), (.ref 104)⟩, ⟨PyData.keyHash P ⟨#[95, 108, 97, 119, 95, 102, 117, 110, 99, 116, 105, 111, 110]⟩, (.str ⟨#[95, 108, 97, 119, 95, 102, 117, 110, 99, 116, 105, 111, 110]⟩ 2254), (.ref 109)⟩, ⟨PyData.keyHash P ⟨#[95, 108, 97, 119, 95, 98, 101, 116, 119, 101, 101, 110]⟩, (.str ⟨#[95, 108, 97, 119, 95, 98, 101, 116, 119, 101, 101, 110]⟩ 2263), (.ref 116)⟩, ⟨PyData.keyHash P ⟨#[95, 108, 97, 119, 95, 114, 101, 97, 100]⟩, (.str ⟨#[95, 108, 97, 119, 95, 114, 101, 97, 100]⟩ 2277), (.ref 123)⟩, ⟨PyData.keyHash P ⟨#[108, 97, 119]⟩, (.str ⟨#[108, 97, 119]⟩ 2283), (.ref 128)⟩]) 21), (List.toArray [])⟩
def ob12D (p : Program) (P : Params) : Obj := ⟨.none, none, (.fields (List.toArray [(.int 2 0), (.int 0 0), (.ref 20), (.int 13 0), (.int 0 0), (.ref 38), (.int 16 0), (.int 0 0), (.ref 84), (.int 22 0), (.int 0 0), (.ref 91), (.int 27 0), (.int 0 0), (.ref 98), (.int 29 0), (.int 0 0), (.ref 103), (.int 31 0), (.int 0 0), (.ref 108), (.int 37 0), (.int 0 0), (.ref 115), (.int 39 0), (.int 0 0), (.ref 122), (.int 53 0), (.int 0 0), (.ref 127)])), (List.toArray [])⟩
def ob79D (p : Program) (P : Params) : Obj := ⟨(.type "tuple"), none, (.seq (List.toArray []) 0), (List.toArray [])⟩
def ob80D (p : Program) (P : Params) : Obj := ⟨.none, none, (.fields (List.toArray [])), (List.toArray [])⟩
def ob81D (p : Program) (P : Params) : Obj := ⟨(.type "tuple"), none, (.seq (List.toArray [(.str ⟨#[99, 111, 100, 101]⟩ 2220), (.str ⟨#[114]⟩ 2221)]) 0), (List.toArray [])⟩
def ob82D (p : Program) (P : Params) : Obj := ⟨(.type "tuple"), none, (.seq (List.toArray []) 0), (List.toArray [])⟩
def ob83D (p : Program) (P : Params) : Obj := ⟨.none, none, (fnD p 6 .none .none 0), (List.toArray [])⟩
def ob84D (p : Program) (P : Params) : Obj := ⟨(.type "code"), none, (.fields (List.toArray [(.str ⟨#[109, 97, 112, 95, 116, 97, 98, 108, 101, 95, 98, 51]⟩ 2217), (.str ⟨#[109, 97, 112, 95, 116, 97, 98, 108, 101, 95, 98, 51]⟩ 2218), (.str ⟨#[47, 99, 108, 97, 105, 109, 47, 99, 117, 116, 46, 112, 121]⟩ 2219), (.int 16 0), (.int 1 0), (.int 0 0), (.int 0 0), (.int 3 0), (.ref 79), (.bool true), (.int 181 0), (.ref 80), .none, (.ref 81), (.ref 82), (.ref 83), (.int 2222 0), (.int 16 0), (.str ⟨#[47, 99, 108, 97, 105, 109, 47, 99, 117, 116, 46, 112, 121]⟩ 2223)])), (List.toArray [])⟩
def ob85D (p : Program) (P : Params) : Obj := ⟨(.type "function"), none, (fnD p 6 (.str ⟨#[99, 112, 121, 51, 49, 51, 46, 115, 116, 114, 105, 110, 103, 112, 114, 101, 112]⟩ 197) (.ref 84) 3), (List.toArray [])⟩
def ob86D (p : Program) (P : Params) : Obj := ⟨(.type "tuple"), none, (.seq (List.toArray []) 0), (List.toArray [])⟩
def ob87D (p : Program) (P : Params) : Obj := ⟨.none, none, (.fields (List.toArray [])), (List.toArray [])⟩
def ob88D (p : Program) (P : Params) : Obj := ⟨(.type "tuple"), none, (.seq (List.toArray [(.str ⟨#[108, 101, 116, 116, 101, 114]⟩ 2230), (.str ⟨#[102, 111, 114, 109]⟩ 2231), (.str ⟨#[97, 108, 112, 104, 97, 98, 101, 116]⟩ 2232)]) 0), (List.toArray [])⟩
def ob89D (p : Program) (P : Params) : Obj := ⟨(.type "tuple"), none, (.seq (List.toArray []) 0), (List.toArray [])⟩
def ob90D (p : Program) (P : Params) : Obj := ⟨.none, none, (fnD p 8 .none .none 0), (List.toArray [])⟩
def ob91D (p : Program) (P : Params) : Obj := ⟨(.type "code"), none, (.fields (List.toArray [(.str ⟨#[95, 108, 97, 119, 95, 103, 114, 101, 97, 116]⟩ 2227), (.str ⟨#[95, 108, 97, 119, 95, 103, 114, 101, 97, 116]⟩ 2228), (.str ⟨#[47, 99, 108, 97, 105, 109, 47, 99, 117, 116, 46, 112, 121]⟩ 2229), (.int 22 0), (.int 2 0), (.int 0 0), (.int 0 0), (.int 3 0), (.ref 86), (.bool true), (.int 181 0), (.ref 87), .none, (.ref 88), (.ref 89), (.ref 90), (.int 2233 0), (.int 22 0), (.str ⟨#[47, 99, 108, 97, 105, 109, 47, 99, 117, 116, 46, 112, 121]⟩ 2234)])), (List.toArray [])⟩
def ob92D (p : Program) (P : Params) : Obj := ⟨(.type "function"), none, (fnD p 8 (.str ⟨#[108, 97, 119, 95, 109, 114, 48, 50, 52, 49, 95, 48, 49]⟩ 2225) (.ref 91) 3), (List.toArray [])⟩
def ob93D (p : Program) (P : Params) : Obj := ⟨(.type "tuple"), none, (.seq (List.toArray []) 0), (List.toArray [])⟩
def ob94D (p : Program) (P : Params) : Obj := ⟨.none, none, (.fields (List.toArray [])), (List.toArray [])⟩
def ob95D (p : Program) (P : Params) : Obj := ⟨(.type "tuple"), none, (.seq (List.toArray [(.str ⟨#[107]⟩ 2239)]) 0), (List.toArray [])⟩
def ob96D (p : Program) (P : Params) : Obj := ⟨(.type "tuple"), none, (.seq (List.toArray []) 0), (List.toArray [])⟩
def ob97D (p : Program) (P : Params) : Obj := ⟨.none, none, (fnD p 9 .none .none 0), (List.toArray [])⟩
def ob98D (p : Program) (P : Params) : Obj := ⟨(.type "code"), none, (.fields (List.toArray [(.str ⟨#[95, 108, 97, 119, 95, 117, 110, 115, 101, 101, 110]⟩ 2236), (.str ⟨#[95, 108, 97, 119, 95, 117, 110, 115, 101, 101, 110]⟩ 2237), (.str ⟨#[47, 99, 108, 97, 105, 109, 47, 99, 117, 116, 46, 112, 121]⟩ 2238), (.int 27 0), (.int 1 0), (.int 0 0), (.int 0 0), (.int 3 0), (.ref 93), (.bool true), (.int 181 0), (.ref 94), .none, (.ref 95), (.ref 96), (.ref 97), (.int 2240 0), (.int 27 0), (.str ⟨#[47, 99, 108, 97, 105, 109, 47, 99, 117, 116, 46, 112, 121]⟩ 2241)])), (List.toArray [])⟩
def ob99D (p : Program) (P : Params) : Obj := ⟨(.type "function"), none, (fnD p 9 (.str ⟨#[108, 97, 119, 95, 109, 114, 48, 50, 52, 49, 95, 48, 49]⟩ 2225) (.ref 98) 3), (List.toArray [])⟩
def ob100D (p : Program) (P : Params) : Obj := ⟨(.type "tuple"), none, (.seq (List.toArray []) 0), (List.toArray [])⟩
def ob101D (p : Program) (P : Params) : Obj := ⟨.none, none, (.fields (List.toArray [])), (List.toArray [])⟩
def ob102D (p : Program) (P : Params) : Obj := ⟨.none, none, (fnD p 10 .none .none 0), (List.toArray [])⟩
def ob103D (p : Program) (P : Params) : Obj := ⟨(.type "code"), none, (.fields (List.toArray [(.str ⟨#[95, 108, 97, 119, 95, 112, 114, 101, 112, 97, 114, 101, 100]⟩ 2243), (.str ⟨#[95, 108, 97, 119, 95, 112, 114, 101, 112, 97, 114, 101, 100]⟩ 2244), (.str ⟨#[47, 99, 108, 97, 105, 109, 47, 99, 117, 116, 46, 112, 121]⟩ 2245), (.int 29 0), (.int 1 0), (.int 0 0), (.int 0 0), (.int 3 0), (.ref 100), (.bool true), (.int 181 0), (.ref 101), .none, .none, .none, (.ref 102), (.int 2246 0), (.int 29 0), (.str ⟨#[47, 99, 108, 97, 105, 109, 47, 99, 117, 116, 46, 112, 121]⟩ 2247)])), (List.toArray [])⟩
def ob104D (p : Program) (P : Params) : Obj := ⟨(.type "function"), none, (fnD p 10 (.str ⟨#[108, 97, 119, 95, 109, 114, 48, 50, 52, 49, 95, 48, 49]⟩ 2225) (.ref 103) 3), (List.toArray [])⟩
def ob105D (p : Program) (P : Params) : Obj := ⟨(.type "tuple"), none, (.seq (List.toArray []) 0), (List.toArray [])⟩
def ob106D (p : Program) (P : Params) : Obj := ⟨.none, none, (.fields (List.toArray [])), (List.toArray [])⟩
def ob107D (p : Program) (P : Params) : Obj := ⟨.none, none, (fnD p 11 .none .none 0), (List.toArray [])⟩
def ob108D (p : Program) (P : Params) : Obj := ⟨(.type "code"), none, (.fields (List.toArray [(.str ⟨#[95, 108, 97, 119, 95, 102, 117, 110, 99, 116, 105, 111, 110]⟩ 2249), (.str ⟨#[95, 108, 97, 119, 95, 102, 117, 110, 99, 116, 105, 111, 110]⟩ 2250), (.str ⟨#[47, 99, 108, 97, 105, 109, 47, 99, 117, 116, 46, 112, 121]⟩ 2251), (.int 31 0), (.int 2 0), (.int 0 0), (.int 0 0), (.int 3 0), (.ref 105), (.bool true), (.int 181 0), (.ref 106), .none, .none, .none, (.ref 107), (.int 2252 0), (.int 31 0), (.str ⟨#[47, 99, 108, 97, 105, 109, 47, 99, 117, 116, 46, 112, 121]⟩ 2253)])), (List.toArray [])⟩
def ob109D (p : Program) (P : Params) : Obj := ⟨(.type "function"), none, (fnD p 11 (.str ⟨#[108, 97, 119, 95, 109, 114, 48, 50, 52, 49, 95, 48, 49]⟩ 2225) (.ref 108) 3), (List.toArray [])⟩
def ob110D (p : Program) (P : Params) : Obj := ⟨(.type "tuple"), none, (.seq (List.toArray []) 0), (List.toArray [])⟩
def ob111D (p : Program) (P : Params) : Obj := ⟨.none, none, (.fields (List.toArray [])), (List.toArray [])⟩
def ob112D (p : Program) (P : Params) : Obj := ⟨(.type "tuple"), none, (.seq (List.toArray [(.str ⟨#[116, 101, 120, 116]⟩ 2258), (.str ⟨#[111, 112, 101, 110, 105, 110, 103]⟩ 2259), (.str ⟨#[99, 108, 111, 115, 105, 110, 103]⟩ 2260)]) 0), (List.toArray [])⟩
def ob113D (p : Program) (P : Params) : Obj := ⟨(.type "tuple"), none, (.seq (List.toArray []) 0), (List.toArray [])⟩
def ob114D (p : Program) (P : Params) : Obj := ⟨.none, none, (fnD p 12 .none .none 0), (List.toArray [])⟩
def ob115D (p : Program) (P : Params) : Obj := ⟨(.type "code"), none, (.fields (List.toArray [(.str ⟨#[95, 108, 97, 119, 95, 98, 101, 116, 119, 101, 101, 110]⟩ 2255), (.str ⟨#[95, 108, 97, 119, 95, 98, 101, 116, 119, 101, 101, 110]⟩ 2256), (.str ⟨#[47, 99, 108, 97, 105, 109, 47, 99, 117, 116, 46, 112, 121]⟩ 2257), (.int 37 0), (.int 3 0), (.int 0 0), (.int 0 0), (.int 3 0), (.ref 110), (.bool true), (.int 181 0), (.ref 111), .none, (.ref 112), (.ref 113), (.ref 114), (.int 2261 0), (.int 37 0), (.str ⟨#[47, 99, 108, 97, 105, 109, 47, 99, 117, 116, 46, 112, 121]⟩ 2262)])), (List.toArray [])⟩
def ob116D (p : Program) (P : Params) : Obj := ⟨(.type "function"), none, (fnD p 12 (.str ⟨#[108, 97, 119, 95, 109, 114, 48, 50, 52, 49, 95, 48, 49]⟩ 2225) (.ref 115) 3), (List.toArray [])⟩
def ob117D (p : Program) (P : Params) : Obj := ⟨(.type "tuple"), none, (.seq (List.toArray []) 0), (List.toArray [])⟩
def ob118D (p : Program) (P : Params) : Obj := ⟨.none, none, (.fields (List.toArray [])), (List.toArray [])⟩
def ob119D (p : Program) (P : Params) : Obj := ⟨(.type "tuple"), none, (.seq (List.toArray [(.str ⟨#[115, 104, 111, 119, 110]⟩ 2267), (.str ⟨#[102, 111, 117, 110, 100]⟩ 2268), (.str ⟨#[107]⟩ 2269), (.str ⟨#[102, 114, 111, 110, 116]⟩ 2270), (.str ⟨#[99, 111, 108, 111, 110]⟩ 2271), (.str ⟨#[108, 105, 110, 101]⟩ 2272), (.str ⟨#[102, 105, 103, 117, 114, 101, 115]⟩ 2273), (.str ⟨#[112, 108, 97, 105, 110]⟩ 2274)]) 0), (List.toArray [])⟩
def ob120D (p : Program) (P : Params) : Obj := ⟨(.type "tuple"), none, (.seq (List.toArray []) 0), (List.toArray [])⟩
def ob121D (p : Program) (P : Params) : Obj := ⟨.none, none, (fnD p 13 .none .none 0), (List.toArray [])⟩
def ob122D (p : Program) (P : Params) : Obj := ⟨(.type "code"), none, (.fields (List.toArray [(.str ⟨#[95, 108, 97, 119, 95, 114, 101, 97, 100]⟩ 2264), (.str ⟨#[95, 108, 97, 119, 95, 114, 101, 97, 100]⟩ 2265), (.str ⟨#[47, 99, 108, 97, 105, 109, 47, 99, 117, 116, 46, 112, 121]⟩ 2266), (.int 39 0), (.int 1 0), (.int 0 0), (.int 0 0), (.int 3 0), (.ref 117), (.bool true), (.int 181 0), (.ref 118), .none, (.ref 119), (.ref 120), (.ref 121), (.int 2275 0), (.int 39 0), (.str ⟨#[47, 99, 108, 97, 105, 109, 47, 99, 117, 116, 46, 112, 121]⟩ 2276)])), (List.toArray [])⟩
def ob123D (p : Program) (P : Params) : Obj := ⟨(.type "function"), none, (fnD p 13 (.str ⟨#[108, 97, 119, 95, 109, 114, 48, 50, 52, 49, 95, 48, 49]⟩ 2225) (.ref 122) 3), (List.toArray [])⟩
def ob124D (p : Program) (P : Params) : Obj := ⟨(.type "tuple"), none, (.seq (List.toArray []) 0), (List.toArray [])⟩
def ob125D (p : Program) (P : Params) : Obj := ⟨.none, none, (.fields (List.toArray [])), (List.toArray [])⟩
def ob126D (p : Program) (P : Params) : Obj := ⟨.none, none, (fnD p 14 .none .none 0), (List.toArray [])⟩
def ob127D (p : Program) (P : Params) : Obj := ⟨(.type "code"), none, (.fields (List.toArray [(.str ⟨#[108, 97, 119]⟩ 2278), (.str ⟨#[108, 97, 119]⟩ 2279), (.str ⟨#[47, 99, 108, 97, 105, 109, 47, 99, 117, 116, 46, 112, 121]⟩ 2280), (.int 53 0), (.int 1 0), (.int 0 0), (.int 0 0), (.int 3 0), (.ref 124), (.bool true), (.int 181 0), (.ref 125), .none, .none, .none, (.ref 126), (.int 2281 0), (.int 53 0), (.str ⟨#[47, 99, 108, 97, 105, 109, 47, 99, 117, 116, 46, 112, 121]⟩ 2282)])), (List.toArray [])⟩
def ob128D (p : Program) (P : Params) : Obj := ⟨(.type "function"), none, (fnD p 14 (.str ⟨#[108, 97, 119, 95, 109, 114, 48, 50, 52, 49, 95, 48, 49]⟩ 2225) (.ref 127) 3), (List.toArray [])⟩
def objsA (p : Program) (P : Params) : List Obj := [boot_o_0 P, boot_o_1 P, boot_o_2 P, boot_o_3 P, boot_o_4 P, boot_o_5 P, boot_o_6 P, boot_o_7 P, boot_o_8 P, boot_o_9 P, boot_o_10 P, ob11A p P, ob12A p P, ob13A p P, ob14A p P]
def objsB (p : Program) (P : Params) : List Obj := [boot_o_0 P, boot_o_1 P, boot_o_2 P, ob3B p P, boot_o_4 P, boot_o_5 P, boot_o_6 P, boot_o_7 P, boot_o_8 P, boot_o_9 P, boot_o_10 P, ob11A p P, ob12B p P, ob13A p P, ob14A p P, ob15B p P, ob16B p P, ob17B p P, ob18B p P, ob19B p P, ob20B p P, ob21B p P, ob22B p P, ob23B p P, ob24B p P, ob25B p P, ob26B p P, ob27B p P, ob28B p P, ob29B p P, ob30B p P, ob31B p P, ob32B p P, ob33B p P, ob34B p P, ob35B p P, ob36B p P, ob37B p P, ob38B p P, ob39B p P]
def objsC (p : Program) (P : Params) : List Obj := [boot_o_0 P, boot_o_1 P, boot_o_2 P, ob3C p P, boot_o_4 P, boot_o_5 P, boot_o_6 P, boot_o_7 P, boot_o_8 P, boot_o_9 P, boot_o_10 P, ob11A p P, ob12B p P, ob13A p P, ob14A p P, ob15B p P, ob16B p P, ob17B p P, ob18B p P, ob19B p P, ob20B p P, ob21B p P, ob22B p P, ob23B p P, ob24B p P, ob25B p P, ob26B p P, ob27B p P, ob28B p P, ob29B p P, ob30B p P, ob31B p P, ob32B p P, ob33B p P, ob34B p P, ob35B p P, ob36B p P, ob37B p P, ob38B p P, ob39B p P, dMain p, dSub p 0, dSub p 1, dSub p 2, dSub p 3, dSub p 4, dSub p 5, dSub p 6, dSub p 7, dSub p 8, dSub p 9, dSub p 10, dSub p 11, dSub p 12, dSub p 13, dSub p 14, dSub p 15, dSub p 16, dSub p 17, dSub p 18, dSub p 19, dSub p 20, dSub p 21, dSub p 22, dSub p 23, dSub p 24, dSub p 25, dSub p 26, dSub p 27, dSub p 28, dSub p 29, dSub p 30, dSub p 31, dSub p 32, dSub p 33, dSub p 34, dSub p 35, dSub p 36, dSub p 37]
def objsD (p : Program) (P : Params) : List Obj := [boot_o_0 P, boot_o_1 P, boot_o_2 P, ob3D p P, boot_o_4 P, boot_o_5 P, boot_o_6 P, boot_o_7 P, boot_o_8 P, boot_o_9 P, boot_o_10 P, ob11A p P, ob12D p P, ob13A p P, ob14A p P, ob15B p P, ob16B p P, ob17B p P, ob18B p P, ob19B p P, ob20B p P, ob21B p P, ob22B p P, ob23B p P, ob24B p P, ob25B p P, ob26B p P, ob27B p P, ob28B p P, ob29B p P, ob30B p P, ob31B p P, ob32B p P, ob33B p P, ob34B p P, ob35B p P, ob36B p P, ob37B p P, ob38B p P, ob39B p P, dMain p, dSub p 0, dSub p 1, dSub p 2, dSub p 3, dSub p 4, dSub p 5, dSub p 6, dSub p 7, dSub p 8, dSub p 9, dSub p 10, dSub p 11, dSub p 12, dSub p 13, dSub p 14, dSub p 15, dSub p 16, dSub p 17, dSub p 18, dSub p 19, dSub p 20, dSub p 21, dSub p 22, dSub p 23, dSub p 24, dSub p 25, dSub p 26, dSub p 27, dSub p 28, dSub p 29, dSub p 30, dSub p 31, dSub p 32, dSub p 33, dSub p 34, dSub p 35, dSub p 36, dSub p 37, ob79D p P, ob80D p P, ob81D p P, ob82D p P, ob83D p P, ob84D p P, ob85D p P, ob86D p P, ob87D p P, ob88D p P, ob89D p P, ob90D p P, ob91D p P, ob92D p P, ob93D p P, ob94D p P, ob95D p P, ob96D p P, ob97D p P, ob98D p P, ob99D p P, ob100D p P, ob101D p P, ob102D p P, ob103D p P, ob104D p P, ob105D p P, ob106D p P, ob107D p P, ob108D p P, ob109D p P, ob110D p P, ob111D p P, ob112D p P, ob113D p P, ob114D p P, ob115D p P, ob116D p P, ob117D p P, ob118D p P, ob119D p P, ob120D p P, ob121D p P, ob122D p P, ob123D p P, ob124D p P, ob125D p P, ob126D p P, ob127D p P, ob128D p P]
-- toks A 187 B 266 C 2217 D 2284

def codeT (p : Program) : Code := .body (behindTheImports p) (envT p)
def HA (p : Program) (P : Params) : Heap := ⟨⟨objsA p P⟩, {}⟩
def HB (p : Program) (P : Params) : Heap := ⟨⟨objsB p P⟩, {}⟩
def HC (p : Program) (P : Params) : Heap := ⟨⟨objsC p P⟩, {}⟩
def HD (p : Program) (P : Params) : Heap := ⟨⟨objsD p P⟩, {}⟩
abbrev q0 : Pos := ⟨0, 0, 0, 0⟩
abbrev annT : Option Value := some (.ref 6)
theorem pre_go : ∀ w : World, (fun os => topGo treeTable pw w 11 annT 12 ⟨boot_heap w.params, Array.mk [], boot_drawn, boot_toks, os⟩ (topStub pw)) =
    fun os => some (⟨HA pw w.params, Array.mk [], boot_drawn, 187, os⟩, ⟨denote treeTable (codeT pw), codeT pw, q0, [topFrame q0]⟩) := by
  intro w
  unfold pw
  rw [PySem.W.Fast.te15667345088766844465, PySem.W.Fast.te14364793385576792824, PySem.W.Fast.te11892475500146522536, PySem.W.Fast.te9825827541071483010]
  kernel_rfl
theorem block_go : ∀ w : World, (fun os => segRun treeTable pw w 11 annT 1 1 ⟨HA pw w.params, Array.mk [], boot_drawn, 187, os⟩ (blockOf (behindTheImports pw) (envT pw) (codeT pw) q0 [topFrame q0])) =
    fun os => some (.next, ⟨HA pw w.params, Array.mk [], boot_drawn, 187, os⟩, codeT pw, q0) := by
  intro w
  unfold pw
  rw [PySem.W.Fast.te14374325043358763698, PySem.W.Fast.te14364793385576792824, PySem.W.Fast.te9825827541071483010]
  kernel_rfl
theorem stB_go : ∀ w : World, (fun os => segRun treeTable pw w 11 annT 1 1076 ⟨HA pw w.params, Array.mk [], boot_drawn, 187, os⟩ (piecesOf (pw.main.body.take 5) (envT pw) (codeT pw) q0 [topFrame q0])) =
    fun os => some (.next, ⟨HB pw w.params, Array.mk [], boot_drawn, 266, os⟩, codeT pw, ⟨13, 0, 14, 30⟩) := by
  refine byRow2 "special-get-raises" ?_ ?_
  · intro w
    unfold pw
    rw [PySem.W.Fast.te14374325043358763698, PySem.W.Fast.te14364793385576792824, PySem.W.Fast.te9825827541071483010]
    kernel_rfl
  · intro w
    unfold pw
    rw [PySem.W.Fast.te14374325043358763698, PySem.W.Fast.te14364793385576792824, PySem.W.Fast.te9825827541071483010]
    kernel_rfl
theorem stD_go : ∀ w : World, (fun os => segRun treeTable pw w 11 annT 1 245 ⟨HC pw w.params, Array.mk [], boot_drawn, 2217, os⟩ (piecesOf (pw.main.body.drop 6) (envT pw) (codeT pw) ⟨15, 0, 15, 13⟩ [topFrame q0])) =
    fun os => some (.next, ⟨HD pw w.params, Array.mk [], boot_drawn, 2284, os⟩, codeT pw, ⟨53, 0, 77, 15⟩) := by
  intro w
  unfold pw
  rw [PySem.W.Fast.te14374325043358763698, PySem.W.Fast.te14364793385576792824, PySem.W.Fast.te9825827541071483010]
  kernel_rfl
theorem fin_go : ∀ w : World, (fun os => topRun treeTable pw w 11 annT 2 ⟨HD pw w.params, Array.mk [], boot_drawn, 2284, os⟩ ⟨doneF .next, codeT pw, ⟨53, 0, 77, 15⟩, [topFrame q0]⟩) =
    fun os => some ⟨HD pw w.params, Array.mk [], boot_drawn, 2284, os⟩ := by
  intro w
  unfold pw
  rw [PySem.W.Fast.te14082659384304107361, PySem.W.Fast.te14364793385576792824, PySem.W.Fast.te9825827541071483010]
  kernel_rfl
end
end Mine

end

section
open PySem PySem.W PyProof.Rows
set_option Elab.async false
set_option maxRecDepth 100000
set_option maxHeartbeats 0
namespace Mine
noncomputable section
def st6 : Stmt := (pw.main.body[5]?).getD (.Pass q0)
def rising : List Int → Bool
  | [] => true
  | [_] => true
  | a :: b :: r => decide (a < b) && rising (b :: r)
theorem rising_lt : ∀ (l : List Int) (a : Int), rising (a :: l) = true → ∀ b ∈ l, a < b
  | [], _, _ => fun _ h => nomatch h
  | c :: r, a, h => fun b hb => by
    simp only [rising, Bool.and_eq_true, decide_eq_true_eq] at h
    rcases List.mem_cons.mp hb with rfl | hb
    · exact h.1
    · exact Int.lt_trans h.1 (rising_lt r c h.2 b hb)
theorem rising_tail {a : Int} {l : List Int} (h : rising (a :: l) = true) : rising l = true := by
  cases l with
  | nil => rfl
  | cons b r => simp only [rising, Bool.and_eq_true] at h; exact h.2
theorem rising_nodup : ∀ (l : List Int), rising l = true → l.Nodup
  | [], _ => .nil
  | a :: l, h => List.nodup_cons.mpr ⟨fun hm => Int.lt_irrefl _ (rising_lt l a h a hm), rising_nodup l (rising_tail h)⟩
def inRange (l : List Int) : Bool := l.all fun k => decide (0 ≤ k) && decide (k < 2305843009213693951)
theorem okKeys_of {l : List (Int × Str)} (h1 : rising (l.map (·.1)) = true) (h2 : inRange (l.map (·.1)) = true) : okKeys l := by
  refine ⟨fun x hx => ?_, rising_nodup _ h1⟩
  have := List.all_eq_true.mp h2 x.1 (List.mem_map_of_mem hx)
  simp only [Bool.and_eq_true, decide_eq_true_eq] at this
  exact ⟨this.1, Int.lt_of_lt_of_le this.2 (by decide)⟩
theorem pairs_eq : constPairs (dictKs pw) (dictVs pw) = some ((dFirst pw ++ (dChunks pw).flatten) ++ dLast pw) := by
  unfold pw
  rw [PySem.W.Fast.te9825827541071483010]
  kernel_rfl
theorem keys_ok : okKeys ((dFirst pw ++ (dChunks pw).flatten) ++ dLast pw) := by
  have e := pairs_eq
  have k1 : ((constPairs (dictKs pw) (dictVs pw)).map fun l => rising (l.map (·.1)) && inRange (l.map (·.1))) = some true := by
    unfold pw
    rw [PySem.W.Fast.te9825827541071483010]
    kernel_rfl
  rw [e, Option.map_some, Option.some.injEq, Bool.and_eq_true] at k1
  exact okKeys_of k1.1 k1.2
theorem lens : ((dFirst pw).length, (dChunks pw).map List.length, (dLast pw).length, (dFirst pw ++ (dChunks pw).flatten).length) = (17, List.replicate 37 17, 4, 646) := by
  unfold pw
  rw [PySem.W.Fast.te9825827541071483010]
  kernel_rfl
theorem body_split : behindTheImports pw = pw.main.body.take 5 ++ (Stmt.Assign [Expr.Name "b3_exceptions" ⟨15, 0, 15, 13⟩] (Expr.Dict (dictKs pw) (dictVs pw) ⟨15, 16, 15, 8704⟩) ⟨15, 0, 15, 8704⟩ :: pw.main.body.drop 6) := by
  unfold pw
  rw [PySem.W.Fast.te9825827541071483010]
  kernel_rfl
theorem swaps_no : swapsWith (Expr.Dict (dictKs pw) (dictVs pw) ⟨15, 16, 15, 8704⟩) (some (Expr.Name "b3_exceptions" ⟨15, 0, 15, 13⟩)) 15 (envT pw) = pure false := by
  kernel_rfl
theorem store_main (v : Value) : storeName (envT pw) "b3_exceptions" v = nsSet mainNs "b3_exceptions" v := by
  unfold pw
  rw [PySem.W.Fast.te9825827541071483010]
  kernel_rfl
def nsB (P : Params) : Array DictEntry × Nat := match (ob3B pw P).data with
  | .dict es n => (es, n)
  | _ => (#[], 0)
theorem nsB_get (P : Params) : (HB pw P).get? mainNs = some ⟨.type "dict", none, .dict (nsB P).1 (nsB P).2, #[]⟩ := by
  kernel_rfl
theorem nsB_ref (P : Params) : aRefKeyMayBeTheName "b3_exceptions" (nsB P).1 = false := by
  kernel_rfl
theorem heapC (P : Params) : ((hp (HB pw P) (dObj (ents 266 (dFirst pw ++ (dChunks pw).flatten) ++ ents2 2204 (dLast pw)) 650) (subsOf 317 (dChunks pw) ++ [dObj (ents2 2204 (dLast pw)) 4])).update mainNs
          (Obj.putName "b3_exceptions" (PyData.keyHash P "b3_exceptions") (.str "b3_exceptions" 2216) (.ref 40))) = HC pw P := by
  kernel_rfl
end
end Mine

end

section
open PySem PySem.W PyProof.Rows
set_option Elab.async false
set_option maxRecDepth 100000
set_option maxHeartbeats 0
namespace Mine
noncomputable section
theorem chunk17 : ∀ c ∈ dChunks pw, c.length = 17 := by
  have := congrArg (fun x => x.2.1) lens
  dsimp only at this
  intro c hc
  have h := List.mem_map_of_mem (f := List.length) hc
  rw [this] at h
  exact List.eq_of_mem_replicate h
abbrev bEnd : Nat := 245 + 2
abbrev b6 : Nat := 9 + (223 + (330 * 37 + (6 + 19 * 4)))
theorem run_top (w : World) (os : OsState) : topRun treeTable pw w 11 annT (12 + (1 + (1076 + (b6 + (245 + 2))))) ⟨boot_heap w.params, Array.mk [], boot_drawn, boot_toks, os⟩ (topStub pw) = some ⟨HD pw w.params, Array.mk [], boot_drawn, 2284, os⟩ := by
  refine go_top (congrFun (pre_go w) os) ?_
  refine piece_block (env := envT pw) (b := behindTheImports pw) (c := codeT pw) (congrFun (block_go w) os) ?_
  rw [show restOf (behindTheImports pw) (envT pw) (codeT pw) q0 [topFrame q0] = restOf (pw.main.body.take 5 ++ (Stmt.Assign [Expr.Name "b3_exceptions" ⟨15, 0, 15, 13⟩] (Expr.Dict (dictKs pw) (dictVs pw) ⟨15, 16, 15, 8704⟩) ⟨15, 0, 15, 8704⟩ :: pw.main.body.drop 6)) (envT pw) (codeT pw) q0 [topFrame q0] from congrArg (fun l => restOf l (envT pw) (codeT pw) q0 [topFrame q0]) body_split]
  refine piece_app (congrFun (stB_go w) os) ?_
  have l1 := congrArg (fun x => x.1) lens
  have l3 := congrArg (fun x => x.2.2.1) lens
  have l4 := congrArg (fun x => x.2.2.2) lens
  have l2 : (dChunks pw).length = 37 := by have := congrArg (fun x => x.2.1.length) lens; simpa using this
  dsimp only at l1 l3 l4
  have g6 := go_dictStmt (p := pw) (w := w) (n₀ := 11) (ann := annT) (q := ⟨13, 0, 14, 30⟩) (s := ⟨HB pw w.params, Array.mk [], boot_drawn, 266, os⟩) (env := envT pw) (x := "b3_exceptions") (pos := ⟨15, 16, 15, 8704⟩) (pos' := ⟨15, 0, 15, 13⟩) (pos₀ := ⟨15, 0, 15, 8704⟩)
    (ks := dictKs pw) (vs := dictVs pw) (c₀ := dFirst pw) (last := dLast pw) (cs := dChunks pw) swaps_no store_main pairs_eq (by show 11 ≤ 40; decide) (by show 3 < 40; decide) l1 chunk17 (by rw [l3]; decide) (by intro e; rw [e] at l3; cases l3) keys_ok
    (by rw [List.length_append, l3, l4]; decide) (nsB_get w.params) (nsB_ref w.params)
  have fin : topRun treeTable pw w 11 annT (245 + 2) ⟨HC pw w.params, Array.mk [], boot_drawn, 2217, os⟩ (restOf (pw.main.body.drop 6) (envT pw) (codeT pw) ⟨15, 0, 15, 13⟩ [topFrame q0]) = some ⟨HD pw w.params, Array.mk [], boot_drawn, 2284, os⟩ := by
    have h := piece_app (rest := []) (congrFun (stD_go w) os) (piece_nil (congrFun (fin_go w) os))
    rwa [List.append_nil] at h
  rw [l2, l3, l4, List.length_append, l3, l4] at g6
  dsimp only at g6
  have hC := heapC w.params
  rw [show (HB pw w.params).objs.size = 40 from rfl] at g6
  rw [show (266 + 3 * 646 + 3 * 4 : Nat) = 2216 from rfl, show (266 + 3 * 646 : Nat) = 2204 from rfl, show (266 + 51 : Nat) = 317 from rfl, show (646 + 4 : Nat) = 650 from rfl, hC] at g6
  unfold restOf
  rw [execs_cons_wrap]
  exact g6 _ _ _ _ _ _ _ _ _ fin
end
end Mine

end

section
open PySem PySem.W PyProof.Rows
set_option Elab.async false
set_option maxRecDepth 100000
set_option maxHeartbeats 0
namespace Mine
noncomputable section
def qv (p : Program) : Program := view p [1, 3, 4, 5, 6, 8, 9, 10, 11, 12, 13, 14]
def looseL : List Str := ["b1_set", "b3_exceptions"]
def KF (P : Params) : Frag := [(3, ob3D pw P), (29, ob29B pw P), (40, dMain pw)]
def hookL : Hook := kHook KF [3, 29, 40] (fun _ => rfl)
theorem open_boot : ∀ w : World, (fencedOpening treeTable pw w 30000).map (fun s => (s.heap, s.gens, s.drawn, s.toks)) = some (boot_heap w.params, Array.mk [], boot_drawn, boot_toks) :=
  boot_open (by kernel_rfl) (by decide) (fun s => by kernel_rfl)
theorem size_boot : ∀ w : World, ((boot_heap w.params).isNs mainGlobals && (Array.mk [] : Array GenState).size == 0, (boot_heap w.params).objs.size, (boot_heap w.params).nsMap mainGlobals "__annotations__") = (true, 11, annT) := by
  intro w; kernel_rfl
theorem looks_D : ∀ w : World, (fun os => ((staticsOk (importedModules pw.main.body) (boot_heap w.params) (HD pw w.params) && namesBound pw (HD pw w.params) && gensDone ⟨HD pw w.params, Array.mk [], boot_drawn, 2284, os⟩ && laidKept (boot_heap w.params) (HD pw w.params)),
        openSeen (qv pw) looseL (importedModules pw.main.body) (fun s => xlAt (qv pw) [] s && recOk [] s) true ⟨HD pw w.params, Array.mk [], boot_drawn, 2284, os⟩, [3, 29, 40].map (HD pw w.params).get?)) =
      fun _ => (true, openGood (qv pw) looseL, (KF w.params).map fun p => some p.2) := by
  intro w
  unfold KF pw
  rw [PySem.W.Fast.te4187177175401517315, PySem.W.Fast.te9825827541071483010]
  kernel_rfl
end
end Mine

end

section
open PySem PySem.W PyProof.Rows
set_option Elab.async false
set_option maxRecDepth 100000
set_option maxHeartbeats 0
namespace Mine
noncomputable section
theorem left_top : LeftO pw (qv pw) looseL (fun s => xlAt (qv pw) [] s && recOk [] s) hookL.obs hookL.val 30000 :=
  LeftO.of_pieces open_boot size_boot run_top (by decide) looks_D
abbrev rwL : OpenLaw := PySem.Challenge.rw_mr0241_01
def lawRec : DefRec := match defOf (qv pw) "law" with
  | some x => x.1
  | none => ⟨"law", ⟨[], [], none, [], [], none, []⟩, [], pw.main.scope, q0⟩
theorem law_def : defOf (qv pw) "law" = some (lawRec, []) := by
  unfold lawRec pw
  rw [PySem.W.Fast.te9825827541071483010]
  kernel_rfl
theorem law_theDef : pw.theDef "law" = some (lawRec.params, lawRec.body, lawRec.scope) := by
  unfold lawRec pw
  rw [PySem.W.Fast.te9825827541071483010]
  kernel_rfl
theorem law_kw : kwWritten? lawRec.params.kwonlyargs lawRec.params.kw_defaults = some [] := by
  unfold lawRec pw
  rw [PySem.W.Fast.te9825827541071483010]
  kernel_rfl
theorem hd (call : WalkO (qv pw) looseL (XL (qv pw) []) hookL.says rwL.row.toRowW lawRec [] fun f vs => PySem.call f vs) : PySem.Challenge.rw_mr0241_01.Holds := by
  o_law
  refine PySem.W.holds_open (r := rwL.row) (q := qv pw) (loose := looseL) (Xt := fun s => xlAt (qv pw) [] s && recOk [] s) (XP := XL (qv pw) []) (Yf := hookL.obs) (Ya := hookL.val) (YP := hookL.says) (d := lawRec) (kwd := []) (N := 30000) left_top hookL.of hookL.keeps
    (fun s e => xl_of s (Bool.and_eq_true_iff.mp e).1) XL.keeps law_def law_theDef law_kw (fun s e => recFacts_of (Bool.and_eq_true_iff.mp e).2) (by rfl) (by assumption) (by decide +kernel) ⟨rfl, rfl, rfl, rfl, rfl, by decide +kernel⟩ ?hw call
  case hw => exact ⟨[.list []], by decide +kernel, by decide +kernel⟩
end
end Mine

end

section
open PySem PySem.W PySem.Spec PyProof.Rows
set_option Elab.async false
set_option linter.unusedVariables false
namespace Mine
/-! a small logic over data: values are read as data, addresses that may turn are struck out -/
def mask (X : List Addr) (h : Heap) : Heap := ⟨h.objs.mapIdx fun i o => if i ∈ X then { o with data := .freed } else o, h.life⟩
theorem mask_get (X : List Addr) (h : Heap) (b : Addr) : (mask X h).get? b = if b ∈ X then none else h.get? b := by
  unfold Heap.get? mask
  simp only [Array.getElem?_mapIdx]
  cases e : h.objs[b]? with
  | none => simp
  | some o =>
    by_cases hb : b ∈ X
    · simp [hb]
    · simp [hb]
def Is (X : List Addr) (h : Heap) (v : Value) (d : PyData) : Prop := ∃ as, Reads (mask X h) v d as
def IsAll (X : List Addr) (h : Heap) (vs : List Value) (ds : List PyData) : Prop := ∃ as, ReadsAll (mask X h) vs ds as
section
variable {X Y : List Addr} {h h' : Heap} {v : Value} {vs : List Value} {d : PyData} {ds : List PyData}
theorem mask_keeps (k : ∀ b o, b ∉ X → h.get? b = some o → b ∉ Y ∧ h'.get? b = some o) : ∀ b o, (mask X h).get? b = some o → (mask Y h').get? b = some o := by
  intro b o e
  rw [mask_get] at e ⊢
  split at e
  · cases e
  · rename_i hb
    obtain ⟨h1, h2⟩ := k b o hb e
    rw [if_neg h1, h2]
theorem Is.mono (i : Is X h v d) (k : ∀ b o, b ∉ X → h.get? b = some o → b ∉ Y ∧ h'.get? b = some o) : Is Y h' v d := i.imp fun _ r => Reads.keeps (mask_keeps k) r
theorem IsAll.mono (i : IsAll X h vs ds) (k : ∀ b o, b ∉ X → h.get? b = some o → b ∉ Y ∧ h'.get? b = some o) : IsAll Y h' vs ds := i.imp fun _ r => ReadsAll.keeps (mask_keeps k) r
theorem Is.grow (i : Is X h v d) (k : ∀ b o, h.get? b = some o → h'.get? b = some o) : Is X h' v d := i.mono fun b o hb e => ⟨hb, k b o e⟩
theorem IsAll.grow (i : IsAll X h vs ds) (k : ∀ b o, h.get? b = some o → h'.get? b = some o) : IsAll X h' vs ds := i.mono fun b o hb e => ⟨hb, k b o e⟩
theorem mask_sub : ∀ b o, (mask X h).get? b = some o → h.get? b = some o := fun b o e => by
  rw [mask_get] at e; split at e
  · cases e
  · exact e
theorem Is.reads (i : Is X h v d) : ∃ as, Reads h v d as := i.imp fun _ r => Reads.keeps mask_sub r
theorem IsAll.reads (i : IsAll X h vs ds) : ∃ as, ReadsAll h vs ds as := i.imp fun _ r => ReadsAll.keeps mask_sub r
theorem is_none : Is X h .none .none := ⟨_, .none⟩
theorem is_bool {b : Bool} : Is X h (.bool b) (.bool b) := ⟨_, .bool b⟩
theorem is_int {i : Int} {t : Tok} : Is X h (.int i t) (.int i) := ⟨_, .int i t⟩
theorem is_str {x : Str} {t : Tok} : Is X h (.str x t) (.str x) := ⟨_, .str x t⟩
theorem Is.int {i : Int} (e : Is X h v (.int i)) : ∃ t, v = .int i t := by obtain ⟨_, r⟩ := e; cases r; exact ⟨_, rfl⟩
theorem Is.str {x : Str} (e : Is X h v (.str x)) : ∃ t, v = .str x t := by obtain ⟨_, r⟩ := e; cases r; exact ⟨_, rfl⟩
theorem Is.bool {b : Bool} (e : Is X h v (.bool b)) : v = .bool b := by obtain ⟨_, r⟩ := e; cases r; rfl
theorem Is.none (e : Is X h v .none) : v = .none := by obtain ⟨_, r⟩ := e; cases r; rfl
theorem isAll_nil : IsAll X h [] [] := ⟨_, .nil⟩
theorem isAll_cons (i : Is X h v d) (j : IsAll X h vs ds) : IsAll X h (v :: vs) (d :: ds) := by
  obtain ⟨_, r⟩ := i; obtain ⟨_, q⟩ := j; exact ⟨_, .cons r q⟩
theorem IsAll.cons_inv {ds : List PyData} (j : IsAll X h vs (d :: ds)) : ∃ v r, vs = v :: r ∧ Is X h v d ∧ IsAll X h r ds := by
  obtain ⟨_, q⟩ := j; cases q with | cons a b => exact ⟨_, _, rfl, ⟨_, a⟩, ⟨_, b⟩⟩
theorem IsAll.nil_inv (j : IsAll X h vs []) : vs = [] := by obtain ⟨_, q⟩ := j; cases q; rfl
theorem IsAll.length : ∀ {vs : List Value} {ds : List PyData}, IsAll X h vs ds → vs.length = ds.length
  | vs, [], j => by rw [j.nil_inv]; rfl
  | vs, d :: ds, j => by obtain ⟨v, r, rfl, _, q⟩ := j.cons_inv; simp [q.length]
theorem Is.tup (e : Is X h v (.tuple ds)) : ∃ a vs, v = .ref a ∧ a ∉ X ∧ IsTup h a vs.toArray ∧ IsAll X h vs ds := by
  obtain ⟨_, r⟩ := e
  cases r with
  | tuple ho hc hd q =>
    rename_i a o vs n
    rw [mask_get] at ho
    split at ho
    · cases ho
    · rename_i hb
      exact ⟨a, vs.toList, rfl, hb, ⟨o, ho, hc, n, by simpa using hd⟩, _, q⟩
theorem Is.lst (e : Is X h v (.list ds)) : ∃ a vs, v = .ref a ∧ a ∉ X ∧ h.IsList a vs.toArray ∧ IsAll X h vs ds := by
  obtain ⟨_, r⟩ := e
  cases r with
  | list ho hc hd q =>
    rename_i a o vs n _
    rw [mask_get] at ho
    split at ho
    · cases ho
    · rename_i hb
      exact ⟨a, vs.toList, rfl, hb, ⟨o, ho, hc, n, by simpa using hd⟩, _, q⟩
theorem is_tup {a : Addr} (ht : IsTup h a vs.toArray) (hx : a ∉ X) (q : IsAll X h vs ds) : Is X h (.ref a) (.tuple ds) := by
  obtain ⟨o, ho, hc, n, hd⟩ := ht
  obtain ⟨_, q⟩ := q
  exact ⟨_, .tuple (by rw [mask_get, if_neg hx, ho]) hc hd (by simpa using q)⟩
theorem is_lst {a : Addr} (ht : h.IsList a vs.toArray) (hx : a ∉ X) (q : IsAll X h vs ds) : Is X h (.ref a) (.list ds) := by
  obtain ⟨o, ho, hc, n, hd⟩ := ht
  obtain ⟨_, q⟩ := q
  exact ⟨_, .list (by rw [mask_get, if_neg hx, ho]) hc hd (by simpa using q)⟩
theorem IsAll.get : ∀ {vs : List Value} {ds : List PyData}, IsAll X h vs ds → ∀ (i : Nat) d, ds[i]? = some d → ∃ v, vs[i]? = some v ∧ Is X h v d
  | vs, [], j, i, d, e => by simp at e
  | vs, d' :: ds, j, i, d, e => by
    obtain ⟨v, r, rfl, a, q⟩ := j.cons_inv
    cases i with
    | zero => simp at e; subst e; exact ⟨v, rfl, a⟩
    | succ i => simpa using q.get i d (by simpa using e)
end
/-- all that stood stands -/
def Grow (s s' : Shared) : Prop := (∃ h' tk, s' = { s with heap := h', toks := tk }) ∧ ∀ b o, s.heap.get? b = some o → s'.heap.get? b = some o
theorem Grow.refl (s : Shared) : Grow s s := ⟨⟨s.heap, s.toks, rfl⟩, fun _ _ e => e⟩
theorem Grow.trans {a b c : Shared} (x : Grow a b) (y : Grow b c) : Grow a c := by
  obtain ⟨⟨h1, t1, rfl⟩, k1⟩ := x
  obtain ⟨⟨h2, t2, rfl⟩, k2⟩ := y
  exact ⟨⟨h2, t2, rfl⟩, fun b o e => k2 b o (k1 b o e)⟩
theorem Grow.toks {s : Shared} {k : Nat} : Grow s { s with toks := k } := ⟨⟨s.heap, k, rfl⟩, fun _ _ e => e⟩
theorem Grow.mk' {s : Shared} {h' : Heap} {k : Nat} (hk : ∀ b o, s.heap.get? b = some o → h'.get? b = some o) : Grow s { s with heap := h', toks := k } := ⟨⟨h', k, rfl⟩, hk⟩
abbrev No : Value → Shared → Prop := fun _ _ => False
/-- the run of a tree from a state to data, all that stood standing -/
def To (w : World) (A : Around) (X : List Addr) (t : Sem Value) (d : PyData) (s : Shared) : Prop :=
  wpAny (model pw w) A t (fun v s' => Grow s s' ∧ Is X s'.heap v d) No s
structure Ev (w : World) (A : Around) (env : Env) (X : List Addr) (C : Shared → Prop) (e : Expr) (d : PyData) : Prop where
  run : ∀ s, C s → To w A X (eval e env) d s
def Closed (C : Shared → Prop) : Prop := ∀ s s', C s → Grow s s' → C s'
section
variable {w : World} {A : Around} {env : Env} {X : List Addr} {C : Shared → Prop} {s : Shared} {d d₁ d₂ : PyData}
theorem ev_int {i : Int} {k : Nat} {p : Pos} : Ev w A env X C (.Constant (.int i) k p) (.int i) := ⟨fun s _ => wpAny_Constant_int ⟨.toks, is_int⟩⟩
theorem ev_strC {x : Str} {k : Nat} {p : Pos} : Ev w A env X C (.Constant (.str x) k p) (.str x) := ⟨fun s _ => wpAny_Constant_str ⟨.toks, is_str⟩⟩
theorem ev_none {k : Nat} {p : Pos} : Ev w A env X C (.Constant .none k p) .none := ⟨fun s _ => Constant_none ⟨.refl s, is_none⟩⟩
theorem ev_true {b : Bool} {k : Nat} {p : Pos} : Ev w A env X C (.Constant (.bool b) k p) (.bool b) := ⟨fun s _ => Constant_bool ⟨.refl s, is_bool⟩⟩
theorem ev_binop {l r : Expr} {op : Operator} {p : Pos} (hC : Closed C) (h1 : Ev w A env X C l d₁) (h2 : Ev w A env X C r d₂)
    (ho : ∀ s a b, C s → Is X s.heap a d₁ → Is X s.heap b d₂ → To w A X (binaryOp op a b) d s) : Ev w A env X C (.BinOp l op r p) d := ⟨fun s hs =>
  wpAny_BinOp (wpAny_mono (h1.run s hs) (fun a s1 ⟨g1, i1⟩ => wpAny_mono (h2.run s1 (hC s s1 hs g1)) (fun b s2 ⟨g2, i2⟩ =>
    wpAny_mono (ho s2 a b (hC s s2 hs (g1.trans g2)) (i1.grow g2.2) i2) (fun v s3 ⟨g3, i3⟩ => ⟨(g1.trans g2).trans g3, i3⟩) fun _ _ h => h) fun _ _ h => h) fun _ _ h => h)⟩
theorem ev_cmp {l r : Expr} {op : CmpOp} {p : Pos} (hC : Closed C) (h1 : Ev w A env X C l d₁) (h2 : Ev w A env X C r d₂)
    (ho : ∀ s a b, C s → Is X s.heap a d₁ → Is X s.heap b d₂ → To w A X (compareOp op a b) d s) (hm : behindInMarks op r = false := by with_unfolding_all rfl) : Ev w A env X C (.Compare l [op] [r] p) d := ⟨fun s hs =>
  wpAny_Compare1 (wpAny_mono (h1.run s hs) (fun a s1 ⟨g1, i1⟩ => wpAny_mono (h2.run s1 (hC s s1 hs g1)) (fun b s2 ⟨g2, i2⟩ =>
    wpAny_mono (ho s2 a b (hC s s2 hs (g1.trans g2)) (i1.grow g2.2) i2) (fun v s3 ⟨g3, i3⟩ => ⟨(g1.trans g2).trans g3, i3⟩) fun _ _ h => h) fun _ _ h => h) fun _ _ h => h) hm⟩
/-- a test's outcome -/
structure Tst (w : World) (A : Around) (env : Env) (C : Shared → Prop) (e : Expr) (b : Bool) : Prop where
  run : ∀ s, C s → wpAny (model pw w) A (isTrue e env (eval e env)) (fun c s' => Grow s s' ∧ c = b) No s
theorem tst_plain {e : Expr} {b : Bool} (h : Ev w A env X C e (.bool b)) (he : ∀ whole, isTrue e env whole = (do let v ← whole; standAt e.pos; holding [v] (truthy v)) := by intro; rfl) : Tst w A env C e b := ⟨fun s hs =>
  isTrue_plain (wpAny_mono (h.run s hs) (fun v s1 ⟨g, i⟩ => by obtain rfl := i.bool; exact wpAny_truthy_bool ⟨g, rfl⟩) fun _ _ h => h) (he _)⟩
theorem tst_cmp {l r : Expr} {op : CmpOp} {p : Pos} {b : Bool} (h : Ev w A env X C (.Compare l [op] [r] p) (.bool b)) : Tst w A env C (.Compare l [op] [r] p) b := ⟨fun s hs => by
  have := h.run s hs
  show wpAny (model pw w) A (isTrue (.Compare l [op] [r] p) env (eval (.Compare l [op] [r] p) env)) _ _ s
  have e : isTrue (.Compare l [op] [r] p) env (eval (.Compare l [op] [r] p) env) = (do let c ← eval (.Compare l [op] [r] p) env; holding [c] (truthy c)) := by
    rw [isTrue_Compare1, eval_Compare1]
    simp only [bind_assoc]
  rw [e]
  exact wpAny_bind (wpAny_mono this (fun v s1 ⟨g, i⟩ => by obtain rfl := i.bool; exact wpAny_holding (wpAny_truthy_bool ⟨g, rfl⟩)) fun _ _ h => h)⟩
theorem tst_not {e : Expr} {p : Pos} {b : Bool} (h : Tst w A env C e b) : Tst w A env C (.UnaryOp .Not e p) (!b) := ⟨fun s hs =>
  isTrue_not (wpAny_mono (h.run s hs) (fun c s1 ⟨g, i⟩ => ⟨g, by rw [i]⟩) fun _ _ h => h)⟩
theorem tst_and {e e₂ : Expr} {p : Pos} {b c : Bool} (hC : Closed C) (h : Tst w A env C e b) (h2 : b = true → Tst w A env C e₂ c) : Tst w A env C (.BoolOp .And [e, e₂] p) (b && c) := ⟨fun s hs => by
  refine isTrue_and (wpAny_mono (h.run s hs) (fun b' s1 ⟨g, i⟩ => ?_) fun _ _ h => h)
  subst i
  cases b' with
  | false => exact ⟨g, rfl⟩
  | true =>
    rw [if_pos rfl]
    refine isTrue_and (wpAny_mono ((h2 rfl).run s1 (hC s s1 hs g)) (fun c' s2 ⟨g2, i2⟩ => ?_) fun _ _ h => h)
    subst i2
    cases c' with
    | false => exact ⟨g.trans g2, rfl⟩
    | true => rw [if_pos rfl]; exact isTrue_and_nil ⟨g.trans g2, rfl⟩⟩
theorem ev_ifexp {t b e : Expr} {p : Pos} {c : Bool} (hC : Closed C) (h : Tst w A env C t c) (h1 : c = true → Ev w A env X C b d) (h2 : c = false → Ev w A env X C e d) : Ev w A env X C (.IfExp t b e p) d := ⟨fun s hs => by
  refine IfExp_ (wpAny_mono (h.run s hs) (fun c' s1 ⟨g, i⟩ => ?_) fun _ _ h => h)
  subst i
  cases c' with
  | false => rw [if_neg Bool.false_ne_true]; exact wpAny_mono ((h2 rfl).run s1 (hC s s1 hs g)) (fun v s2 ⟨g2, i2⟩ => ⟨g.trans g2, i2⟩) fun _ _ h => h
  | true => rw [if_pos rfl]; exact wpAny_mono ((h1 rfl).run s1 (hC s s1 hs g)) (fun v s2 ⟨g2, i2⟩ => ⟨g.trans g2, i2⟩) fun _ _ h => h⟩
theorem ev_and {e e₂ : Expr} {p : Pos} {b c : Bool} (hC : Closed C) (h : Ev w A env X C e (.bool b)) (h2 : b = true → Ev w A env X C e₂ (.bool c)) : Ev w A env X C (.BoolOp .And [e, e₂] p) (.bool (b && c)) := ⟨fun s hs => by
  refine BoolOp_and (wpAny_mono (h.run s hs) (fun v s1 ⟨g, i⟩ => ?_) fun _ _ h => h)
  obtain rfl := i.bool
  refine wpAny_truthy_bool ?_
  cases b with
  | false => exact ⟨g, is_bool⟩
  | true => rw [if_pos rfl]; exact BoolOp_one (wpAny_mono ((h2 rfl).run s1 (hC s s1 hs g)) (fun v s2 ⟨g2, i2⟩ => ⟨g.trans g2, by simpa using i2⟩) fun _ _ h => h)⟩
theorem ev_or {e e₂ : Expr} {p : Pos} {b c : Bool} (hC : Closed C) (h : Ev w A env X C e (.bool b)) (h2 : b = false → Ev w A env X C e₂ (.bool c)) : Ev w A env X C (.BoolOp .Or [e, e₂] p) (.bool (b || c)) := ⟨fun s hs => by
  refine BoolOp_or (wpAny_mono (h.run s hs) (fun v s1 ⟨g, i⟩ => ?_) fun _ _ h => h)
  obtain rfl := i.bool
  refine wpAny_truthy_bool ?_
  cases b with
  | true => exact ⟨g, is_bool⟩
  | false => rw [if_neg Bool.false_ne_true]; exact BoolOp_one (wpAny_mono ((h2 rfl).run s1 (hC s s1 hs g)) (fun v s2 ⟨g2, i2⟩ => ⟨g.trans g2, by simpa using i2⟩) fun _ _ h => h)⟩
theorem ev_not {e : Expr} {p : Pos} {b : Bool} (h : Ev w A env X C e (.bool b)) : Ev w A env X C (.UnaryOp .Not e p) (.bool (!b)) := ⟨fun s hs =>
  UnaryOp_ (wpAny_mono (h.run s hs) (fun v s1 ⟨g, i⟩ => by obtain rfl := i.bool; exact not_of (wpAny_truthy_bool ⟨g, is_bool⟩)) fun _ _ h => h)⟩
end
end Mine

end

section
open PySem PySem.W PySem.Spec PyProof.Rows
set_option Elab.async false
set_option linter.unusedVariables false
set_option maxRecDepth 100000
namespace Mine
/-- what the module's top left -/
structure Bs (w : World) (mg mb : Str → Option Value) (hb : Heap) : Prop where
  T : ∃ mean, Top (qv pw) (looseW (qv pw) looseL) mean mg mb hb
  K : (KF w.params).In hb
def AOk (k : Nat) (A : Around) : Prop := A.handled = none ∧ A.depth + 10 * k ≤ 900 ∧ A.units + 100 * k ≤ 9000
theorem AOk.deeper {k : Nat} {A : Around} (h : AOk (k + 1) A) (env : Env) : AOk k (A.deeper env) := by
  obtain ⟨h1, h2, h3⟩ := h
  refine ⟨h1, ?_, ?_⟩
  · rw [depth_deeper]; omega
  · rw [units_deeper]; omega
theorem AOk.mono {k j : Nat} {A : Around} (h : AOk k A) (hj : j ≤ k) : AOk j A := by
  obtain ⟨h1, h2, h3⟩ := h
  exact ⟨h1, by omega, by omega⟩
theorem AOk.room {k : Nat} {A : Around} (h : AOk k A) : A.depth < recursionLimit := by
  have := h.2.1; show A.depth < 1000; omega
theorem AOk.units {k : Nat} {A : Around} (h : AOk (k + 1) A) : A.units + 65 < cLine := by
  have := h.2.2; show _ < 9900; omega
def XOk (X : List Addr) (s : Shared) : Prop := ∀ a ∈ X, ∃ o, s.heap.get? a = some o
def Holds (hb : Heap) (s : Shared) : Prop := ∀ b o, hb.get? b = some o → s.heap.get? b = some o
/-- a def of the text, by its name: from data to data -/
structure Con (w : World) (mg : Str → Option Value) (hb : Heap) (k : Nat) (n : Str) (ds : List PyData) (d : PyData) : Prop where
  run : ∀ f, mg n = some (.ref f) → ∀ A X s vs, AOk k A → Holds hb s → XOk X s → IsAll X s.heap vs ds → To w A X (call (.ref f) vs) d s
/-- a frame between two statements -/
structure Cx (hb : Heap) (env : Env) (X : List Addr) (δ : List (Str × PyData)) (sE s : Shared) : Prop where
  grow : Grow sE s
  base : Holds hb s
  xok : XOk X s
  ns : ∃ m, s.heap.Ns env.locals m ∧ ∀ x d, δ.lookup x = some d → env.kindOf x = some .local → ∃ v, m x = some v ∧ Is X s.heap v d
  cel : ∀ x d, δ.lookup x = some d → env.kindOf x = some .cell → ∃ c v, env.cells.lookup x = some c ∧ s.heap.IsCell c (some v) ∧ Is X s.heap v d
theorem Cx.closed {hb : Heap} {env : Env} {X : List Addr} {δ : List (Str × PyData)} {sE : Shared} : Closed (Cx hb env X δ sE) := fun s s' c g =>
  ⟨c.grow.trans g, fun b o e => g.2 b o (c.base b o e), fun a ha => (c.xok a ha).imp fun o e => g.2 a o e,
   let ⟨m, h1, h2⟩ := c.ns; ⟨m, h1.keeps g.2, fun x d e1 e2 => (h2 x d e1 e2).imp fun v h => ⟨h.1, h.2.grow g.2⟩⟩,
   fun x d e1 e2 => let ⟨c', v, h1, h2, h3⟩ := c.cel x d e1 e2; ⟨c', v, h1, h2.keeps g.2, h3.grow g.2⟩⟩
section
variable {w : World} {mg mb : Str → Option Value} {hb : Heap} {A : Around} {env : Env} {X : List Addr} {δ : List (Str × PyData)} {sE s : Shared} {d d₁ d₂ : PyData} {C : Shared → Prop}
theorem ev_loc {x : Str} {p : Pos} (hδ : δ.lookup x = some d) (hk : env.kindOf x = some .local) (hf : env.scope.kind = .function) (hd : (x == ("__debug__" : Str)) = false := by decide) :
    Ev w A env X (Cx hb env X δ sE) (.Name x p) d := ⟨fun s c => by
  obtain ⟨m, h1, h2⟩ := c.ns
  obtain ⟨v, h3, h4⟩ := h2 x d hδ hk
  exact wpAny_Name (wpAny_loadName_local hf hk h1 h3 ⟨.refl s, h4⟩) hd⟩
theorem ev_cell {x : Str} {p : Pos} (hδ : δ.lookup x = some d) (hk : env.kindOf x = some .cell) (hf : env.scope.kind = .function) (hd : (x == ("__debug__" : Str)) = false := by decide) :
    Ev w A env X (Cx hb env X δ sE) (.Name x p) d := ⟨fun s c => by
  obtain ⟨c', v, h1, h2, h3⟩ := c.cel x d hδ hk
  exact wpAny_Name (wpAny_loadName_cell hf hk h1 h2 ⟨.refl s, h3⟩) hd⟩
/-- a name that is no datum -/
structure Nm (w : World) (A : Around) (env : Env) (C : Shared → Prop) (e : Expr) (v : Value) : Prop where
  run : ∀ s, C s → ∀ (Q : Value → Shared → Prop), Q v s → wpAny (model pw w) A (eval e env) Q No s
theorem nm_glob {x : Str} {p : Pos} {v : Value} (B : Bs w mg mb hb) (hv : mg x = some v) (hk : env.kindOf x = some .globalImplicit) (hf : env.scope.kind = .function) (hg : env.globals = mainGlobals) (hd : (x == ("__debug__" : Str)) = false := by decide) :
    Nm w A env (Cx hb env X δ sE) (.Name x p) v := ⟨fun s c Q hQ => by
  obtain ⟨_, T⟩ := B.T
  exact Calls.Name_function_global hf hk (Calls.loadGlobal_global (by rw [hg]; exact T.g.keeps c.base) hv hQ) hd⟩
theorem nm_built {x : Str} {p : Pos} {v : Value} (B : Bs w mg mb hb) (hm : mg x = none) (hv : bootBuiltins x = some v) (hn : x ≠ "__name__") (hk : env.kindOf x = some .globalImplicit) (hf : env.scope.kind = .function) (hg : env.globals = mainGlobals) (hbn : env.builtins = builtinsNs)
    (hd : (x == ("__debug__" : Str)) = false := by decide) : Nm w A env (Cx hb env X δ sE) (.Name x p) v := ⟨fun s c Q hQ => by
  obtain ⟨_, T⟩ := B.T
  exact Calls.Name_function_global hf hk (Calls.loadGlobal_builtin (by rw [hg]; exact T.g.keeps c.base) hm (by rw [hbn]; exact T.b.keeps c.base) ((T.builtins x hn).trans hv) hQ) hd⟩
/-- arguments -/
structure EvL (w : World) (A : Around) (env : Env) (X : List Addr) (C : Shared → Prop) (pos : Pos) (es : List Expr) (ds : List PyData) : Prop where
  run : ∀ s, C s → wpAny (model pw w) A (spliced (backTo pos (starEach es env))) (fun vs s' => Grow s s' ∧ IsAll X s'.heap vs ds) No s
theorem evL_nil {pos : Pos} : EvL w A env X C pos [] [] := ⟨fun s _ => args_nil ⟨.refl s, isAll_nil⟩⟩
theorem evL_cons {pos : Pos} {e : Expr} {es : List Expr} {ds : List PyData} (hC : Closed C) (h : Ev w A env X C e d) (hr : EvL w A env X C pos es ds) (he : starEach (e :: es) env = (false, eval e env) :: starEach es env := by rfl) :
    EvL w A env X C pos (e :: es) (d :: ds) := ⟨fun s hs =>
  args_cons (wpAny_mono (h.run s hs) (fun v s1 ⟨g, i⟩ => wpAny_mono (hr.run s1 (hC s s1 hs g)) (fun vs s2 ⟨g2, j⟩ => ⟨g.trans g2, isAll_cons (i.grow g2.2) j⟩) fun _ _ h => h) fun _ _ h => h) he⟩
theorem ev_callB {f e : Expr} {es : List Expr} {pos : Pos} {id : String} {ds : List PyData} (hC : Closed C) (hn : Nm w A env C f (.builtin id)) (ha : EvL w A env X C pos (e :: es) ds)
    (ho : ∀ s vs, C s → IsAll X s.heap vs ds → To w A X (call (.builtin id) vs) d s) (he : starEach (e :: es) env = (false, eval e env) :: starEach es env := by rfl) (hp : (backTo pos (starEach es env)).any (·.1) = false := by rfl)
    (hq : eval (.Call f (e :: es) [] pos) env = (do callWith pos (← eval f env) [] (backTo pos (starEach (e :: es) env)) (backToKw pos (keywordEach [] env))) := by rfl) :
    Ev w A env X C (.Call f (e :: es) [] pos) d := ⟨fun s hs =>
  Call_ (hn.run s hs _ (callWith_builtin1 (wpAny_mono (ha.run s hs) (fun vs s1 ⟨g, i⟩ => wpAny_mono (ho s1 vs (hC s s1 hs g) i) (fun v s2 ⟨g2, j⟩ => ⟨g.trans g2, j⟩) fun _ _ h => h) fun _ _ h => h) he hp)) hq⟩
theorem ev_callT {f e : Expr} {es : List Expr} {pos : Pos} {T : String} {ds : List PyData} (hC : Closed C) (hn : Nm w A env C f (.type T)) (ha : EvL w A env X C pos (e :: es) ds)
    (ho : ∀ s vs, C s → IsAll X s.heap vs ds → To w A X (call (.type T) vs) d s) (he : starEach (e :: es) env = (false, eval e env) :: starEach es env := by rfl) (hp : (backTo pos (starEach es env)).any (·.1) = false := by rfl)
    (hq : eval (.Call f (e :: es) [] pos) env = (do callWith pos (← eval f env) [] (backTo pos (starEach (e :: es) env)) (backToKw pos (keywordEach [] env))) := by rfl) :
    Ev w A env X C (.Call f (e :: es) [] pos) d := ⟨fun s hs =>
  Call_ (hn.run s hs _ (PyProof.Rows.callWith_type1 (wpAny_mono (ha.run s hs) (fun vs s1 ⟨g, i⟩ => wpAny_mono (ho s1 vs (hC s s1 hs g) i) (fun v s2 ⟨g2, j⟩ => ⟨g.trans g2, j⟩) fun _ _ h => h) fun _ _ h => h) he hp)) hq⟩
/-- a call of a def of the text -/
theorem ev_own {n : Str} {np : Pos} {e : Expr} {es : List Expr} {pos : Pos} {ds : List PyData} {k : Nat} (B : Bs w mg mb hb) (hA : AOk k A) (hcon : Con w mg hb k n ds d) (hrec : ∃ r ∈ recsOf (qv pw), r.name = n)
    (hk : env.kindOf n = some .globalImplicit) (hf : env.scope.kind = .function) (hg : env.globals = mainGlobals)
    (ha : EvL w A env X (Cx hb env X δ sE) pos (e :: es) ds) (hd : (n == ("__debug__" : Str)) = false := by decide) (he : starEach (e :: es) env = (false, eval e env) :: starEach es env := by rfl)
    (hq : eval (.Call (.Name n np) (e :: es) [] pos) env = (do callWith pos (← eval (.Name n np) env) [] (backTo pos (starEach (e :: es) env)) (backToKw pos (keywordEach [] env))) := by rfl) :
    Ev w A env X (Cx hb env X δ sE) (.Call (.Name n np) (e :: es) [] pos) d := ⟨fun s c => by
  obtain ⟨_, T⟩ := B.T
  obtain ⟨r, hr, rfl⟩ := hrec
  obtain ⟨a, o, pm, code, doc, h1, h2, h3, h4⟩ := T.fn r hr
  refine Call_ ((nm_glob B h1 hk hf hg hd).run s c _ (callWith_def (o := o) h3 (wpAny_mono (ha.run s c) (fun vs s1 ⟨g, i⟩ => ?_) fun _ _ h => h) he)) hq
  have c1 := Cx.closed s s1 c g
  exact ⟨c1.base a o h2, wpAny_mono (hcon.run a h1 A X s1 vs hA c1.base c1.xok i) (fun v s2 ⟨g2, j⟩ => ⟨g.trans g2, j⟩) fun _ _ h => h⟩⟩
end
end Mine

end

section
open PySem PySem.W PySem.Spec PyProof.Rows
set_option Elab.async false
set_option linter.unusedVariables false
set_option maxRecDepth 100000
namespace Mine
structure EnvOk (hb : Heap) (env : Env) (X : List Addr) (sE : Shared) : Prop where
  kind : env.scope.kind = .function
  glob : env.globals = mainGlobals
  bn : env.builtins = builtinsNs
  LX : env.locals ∈ X
  Lnew : sE.heap.get? env.locals = none
  baseE : Holds hb sE
  apart : ∀ x c, env.cells.lookup x = some c → c ≠ env.locals
structure Ex (w : World) (A : Around) (env : Env) (C : Shared → Prop) (l : List Stmt) (P : Flow → Shared → Prop) : Prop where
  run : ∀ s, C s → wpAny (model pw w) A (execs l env) P No s
def Thru (C : Shared → Prop) (P : Flow → Shared → Prop) : Flow → Shared → Prop := fun f s => match f with
  | .next => C s
  | f => P f s
def RetP (X : List Addr) (sE : Shared) (d : PyData) : Flow → Shared → Prop := fun f s => ∃ v, f = .ret v ∧ Grow sE s ∧ Is X s.heap v d
section
variable {w : World} {mg mb : Str → Option Value} {hb : Heap} {A : Around} {env : Env} {X : List Addr} {δ : List (Str × PyData)} {sE s : Shared} {d d₁ d₂ : PyData} {C C' : Shared → Prop} {P : Flow → Shared → Prop} {rest : List Stmt}
theorem Cx.store {x : Str} {v : Value} {m : Str → Option Value} {h' : Heap} {tk : Nat} (O : EnvOk hb env X sE) (c : Cx hb env X δ sE s) (i : Is X s.heap v d) (hm : s.heap.Ns env.locals m)
    (hl : ∀ y d, δ.lookup y = some d → env.kindOf y = some .local → ∃ v, m y = some v ∧ Is X s.heap v d) (hkx : env.kindOf x = some .local)
    (hn : h'.Ns env.locals (fun y => if y = x then some v else m y)) (hs : Heap.SameBut env.locals s.heap h') : Cx hb env X ((x, d) :: δ) sE { s with heap := h', toks := tk } := by
  have ne : ∀ b o, sE.heap.get? b = some o → b ≠ env.locals := fun b o e q => by rw [q, O.Lnew] at e; cases e
  have im : ∀ {v d}, Is X s.heap v d → Is X h' v d := fun i => i.mono fun b o hb e => ⟨hb, (hs.2 b (fun q => hb (q ▸ O.LX))).trans e⟩
  refine ⟨⟨?_, fun b o e => (hs.2 b (ne b o e)).trans (c.grow.2 b o e)⟩, fun b o e => (hs.2 b (ne b o (O.baseE b o e))).trans (c.base b o e), fun a ha => ?_, ⟨_, hn, fun y d' e1 e2 => ?_⟩, fun y d' e1 e2 => ?_⟩
  · obtain ⟨⟨h1, t1, rfl⟩, _⟩ := c.grow; exact ⟨h', tk, rfl⟩
  · by_cases q : a = env.locals
    · obtain ⟨o, _, _, ho, _⟩ := hn; exact ⟨o, q ▸ ho⟩
    · obtain ⟨o, ho⟩ := c.xok a ha; exact ⟨o, (hs.2 a q).trans ho⟩
  · rw [List.lookup_cons] at e1
    cases hq : y == x with
    | true =>
      rw [hq] at e1
      cases e1
      exact ⟨v, by rw [if_pos (beq_iff_eq.mp hq)], im i⟩
    | false =>
      rw [hq] at e1
      obtain ⟨v', h1, h2⟩ := hl y d' e1 e2
      exact ⟨v', by rw [if_neg (by simpa using hq)]; exact h1, im h2⟩
  · rw [List.lookup_cons] at e1
    cases hq : y == x with
    | true => rw [beq_iff_eq.mp hq, hkx] at e2; cases e2
    | false =>
      rw [hq] at e1
      obtain ⟨c', v', h1, ⟨o, ho, hd⟩, h3⟩ := c.cel y d' e1 e2
      exact ⟨c', v', h1, ⟨o, (hs.2 c' (O.apart y c' h1)).trans ho, hd⟩, im h3⟩
theorem ex_store {x : Str} {v : Value} {Q : Unit → Shared → Prop} (O : EnvOk hb env X sE) (c : Cx hb env X δ sE s) (i : Is X s.heap v d) (hk : env.kindOf x = some .local)
    (h : ∀ s', Cx hb env X ((x, d) :: δ) sE s' → Q () s') : wpAny (model pw w) A (storeName env x v) Q No s := by
  obtain ⟨m, h1, h2⟩ := c.ns
  refine wpAny_storeName_local hk h1 (fun h' hn hs => h _ (c.store O i h1 h2 hk hn hs)) ?_
  rw [O.kind]; rfl
theorem ex_nil (h : ∀ s, C s → P .next s) : Ex w A env C [] P := ⟨fun s c => wpAny_execs_nil (h s c)⟩
theorem ex_assign {x : Str} {px pos : Pos} {e : Expr} (O : EnvOk hb env X sE) (h : Ev w A env X (Cx hb env X δ sE) e d) (hk : env.kindOf x = some .local) (hr : Ex w A env (Cx hb env X ((x, d) :: δ) sE) rest P)
    (hs : swapsWith e (some (.Name x px)) pos.line env = pure false := by rfl) : Ex w A env (Cx hb env X δ sE) (.Assign [.Name x px] e pos :: rest) P := ⟨fun s c =>
  wpAny_execs_cons (wpAny_Assign_Name (wpAny_mono (h.run s c) (fun v s1 ⟨g, i⟩ => ex_store O (Cx.closed s s1 c g) i hk fun s' c' => hr.run s' c') fun _ _ h => h) hs)⟩
theorem ex_if {t : Expr} {body orelse : List Stmt} {p : Pos} {b : Bool} (hC : Closed C) (ht : Tst w A env C t b) (h1 : b = true → Ex w A env C body (Thru C' P)) (h2 : b = false → Ex w A env C orelse (Thru C' P))
    (hr : Ex w A env C' rest P) : Ex w A env C (.If t body orelse p :: rest) P := ⟨fun s c => by
  refine wpAny_execs_cons (wpAny_If (wpAny_mono (ht.run s c) (fun b' s1 ⟨g, i⟩ => ?_) fun _ _ h => h))
  subst i
  have thru : ∀ f s', Thru C' P f s' → (match f with | .next => wpAny (model pw w) A (execs rest env) P No s' | f => P f s') := fun f s' h => by
    cases f with
    | next => exact hr.run s' h
    | brk => exact h
    | cont => exact h
    | ret v => exact h
  cases b' with
  | false => rw [if_neg Bool.false_ne_true]; exact wpAny_mono ((h2 rfl).run s1 (hC s s1 c g)) thru fun _ _ h => h
  | true => rw [if_pos rfl]; exact wpAny_mono ((h1 rfl).run s1 (hC s s1 c g)) thru fun _ _ h => h⟩
theorem ex_ret {e : Expr} {p : Pos} (h : Ev w A env X C e d) (hp : ∀ s s' v, C s → Grow s s' → Is X s'.heap v d → P (.ret v) s') : Ex w A env C (.Return (some e) p :: rest) P := ⟨fun s c =>
  wpAny_execs_cons (wpAny_Return_some (wpAny_mono (h.run s c) (fun v s1 ⟨g, i⟩ => hp s s1 v c g i) fun _ _ h => h))⟩
theorem is_tail {L : Addr} {h : Heap} {v : Value} (i : Is (L :: X) h v d) : Is X h v d := i.mono fun b o hb e => ⟨fun q => hb (List.mem_cons_of_mem _ q), e⟩
theorem ex_retF {e : Expr} {p : Pos} {L : Addr} (h : Ev w A env (L :: X) (Cx hb env (L :: X) δ sE) e d) : Ex w A env (Cx hb env (L :: X) δ sE) (.Return (some e) p :: rest) (RetP X sE d) :=
  ex_ret h fun s s' v c g i => ⟨v, rfl, c.grow.trans g, is_tail i⟩
theorem con_plain {r : DefRec} {k : Nat} {names : List Str} {ds : List PyData} (B : Bs w mg mb hb) (hr : r ∈ recsOf (qv pw)) (hlen : names.length = ds.length)
    (hbind : ∀ pm cd doc (vs : List Value), vs.length = names.length → bindArgs (Calls.docDef r.name r.params r.body r.scope pm cd doc) ⟨vs, []⟩ = pure (names.zip vs))
    (hloc : ∀ n ∈ names, r.scope.names.lookup n = some .local) (hnd : names.Nodup)
    (hco : r.scope.isCoroutine = false) (hgen : r.scope.isGenerator = false) (hk : r.scope.kind = .function) (hcell : ∀ x ∈ r.scope.names, x.2 ≠ .cell)
    (hbody : ∀ A L a cd X sE, AOk k A → EnvOk hb (envOf r.name r.scope L a cd) (L :: X) sE →
      Ex w A (envOf r.name r.scope L a cd) (Cx hb (envOf r.name r.scope L a cd) (L :: X) (names.zip ds) sE) r.body (RetP X sE d)) : Con w mg hb (k + 1) r.name ds d := by
  refine ⟨?_⟩
  intro f hf A X s vs hA hs hx hi
  obtain ⟨_, T⟩ := B.T
  obtain ⟨a, o, pm, code, doc, h1, h2, h3, h4⟩ := T.fn r hr
  have : a = f := by rw [h1] at hf; cases hf; rfl
  subst this
  have hvl : vs.length = names.length := by rw [hi.length, hlen]
  refine wpAny_call (call_plain_ret (binds := names.zip vs) hA.room (hs a o h2) h3 (T.nolimit.keeps hs) (h4.keeps hs) (hbind pm code doc vs hvl) (fun x hx => hloc x.1 (List.of_mem_zip hx).1) (fun h₁ F => ?_) hco hgen hk hcell)
  have Lnone : s.heap.get? s.heap.objs.size = none := by
    cases q : s.heap.get? s.heap.objs.size with
    | none => rfl
    | some o => exact absurd (Heap.lt_size q) (Nat.lt_irrefl _)
  have O : EnvOk hb (envOf r.name r.scope s.heap.objs.size a code) (s.heap.objs.size :: X) s := ⟨hk, rfl, rfl, List.mem_cons_self, Lnone, hs, fun x c e => by cases e⟩
  have lk : ∀ (names : List Str) (vs : List Value) (ds : List PyData), names.Nodup → IsAll X s.heap vs ds → ∀ y d', (names.zip ds).lookup y = some d' → ∃ v, (names.zip vs).reverse.lookup y = some v ∧ Is X s.heap v d' := by
    intro names
    induction names with
    | nil => intro vs ds _ _ y d' e; cases ds <;> cases e
    | cons n ns ih =>
      intro vs ds hnd hi y d' e
      cases ds with
      | nil => cases e
      | cons d0 ds =>
        obtain ⟨v, r, rfl, i, j⟩ := hi.cons_inv
        obtain ⟨hn, hnd'⟩ := List.nodup_cons.mp hnd
        rw [List.zip_cons_cons, List.lookup_cons] at e
        rw [List.zip_cons_cons, List.reverse_cons, List.lookup_append]
        cases hq : y == n with
        | true =>
          rw [hq] at e
          cases e
          have hno : (ns.zip r).reverse.lookup y = none := by
            rw [List.lookup_eq_none_iff]
            intro p hp
            have := (List.of_mem_zip (List.mem_reverse.mp hp)).1
            rw [bne_iff_ne]
            rintro rfl
            exact hn (beq_iff_eq.mp hq ▸ this)
          rw [hno, List.lookup_cons, hq]
          exact ⟨v, rfl, i⟩
        | false =>
          rw [hq] at e
          obtain ⟨v', h1, h2⟩ := ih r ds hnd' j y d' e
          rw [h1]
          exact ⟨v', rfl, h2⟩
  have im : ∀ {v d}, Is X s.heap v d → Is (s.heap.objs.size :: X) h₁ v d := fun i => i.mono fun b o hb e => ⟨fun q => by
    rcases List.mem_cons.mp q with rfl | q
    · exact absurd (Heap.lt_size e) (Nat.lt_irrefl _)
    · exact hb q, F.keep b o e⟩
  have c : Cx hb (envOf r.name r.scope s.heap.objs.size a code) (s.heap.objs.size :: X) (names.zip ds) s { s with heap := h₁, toks := s.toks + (names.zip vs).length } := by
    refine ⟨.mk' F.keep, fun b o e => F.keep b o (hs b o e), fun b hb => ?_, ⟨_, F.ns, fun y d' e1 e2 => ?_⟩, fun y d' e1 e2 => ?_⟩
    · rcases List.mem_cons.mp hb with rfl | hb
      · obtain ⟨o, _, _, ho, _⟩ := F.ns; exact ⟨o, ho⟩
      · obtain ⟨o, ho⟩ := hx b hb; exact ⟨o, F.keep b o ho⟩
    · obtain ⟨v, h1, h2⟩ := lk names vs ds hnd hi y d' e1; exact ⟨v, h1, im h2⟩
    · exfalso
      exact hcell (y, .cell) (by
        have : r.scope.names.lookup y = some .cell := e2
        exact mem_of_lookup this) rfl
  refine wpAny_mono ((hbody _ _ a code X s (hA.deeper _) O).run _ c) (fun fl s' h => ?_) fun _ _ h => h
  obtain ⟨v, rfl, g, i⟩ := h
  exact ⟨g, i⟩
end
end Mine

end

section
open PySem PySem.W PySem.Spec PyProof.Rows PySem.SeqAt
set_option Elab.async false
set_option linter.unusedVariables false
set_option maxRecDepth 100000
namespace Mine
section
variable {w : World} {mg mb : Str → Option Value} {hb : Heap} {A : Around} {env : Env} {X : List Addr} {δ : List (Str × PyData)} {sE s : Shared} {d d₁ d₂ : PyData} {C : Shared → Prop} {e e₁ e₂ : Expr} {p p' : Pos} {i j : Int} {x y : Str}
theorem bim {op : CmpOp} (h : (match op with | .In | .NotIn => false | _ => true) = true) : behindInMarks op e = false := by
  cases op <;> first | (exfalso; exact Bool.noConfusion h) | (cases e <;> first | rfl | (simp [behindInMarks]))
-- ints
theorem ev_add (hC : Closed C) (h1 : Ev w A env X C e₁ (.int i)) (h2 : Ev w A env X C e₂ (.int j)) : Ev w A env X C (.BinOp e₁ .Add e₂ p) (.int (i + j)) :=
  ev_binop hC h1 h2 fun s a b c ia ib => by obtain ⟨_, rfl⟩ := ia.int; obtain ⟨_, rfl⟩ := ib.int; exact PyProof.Rows.add_int ⟨.toks, is_int⟩
theorem ev_sub (hC : Closed C) (h1 : Ev w A env X C e₁ (.int i)) (h2 : Ev w A env X C e₂ (.int j)) : Ev w A env X C (.BinOp e₁ .Sub e₂ p) (.int (i - j)) :=
  ev_binop hC h1 h2 fun s a b c ia ib => by obtain ⟨_, rfl⟩ := ia.int; obtain ⟨_, rfl⟩ := ib.int; exact PyProof.Rows.sub_int ⟨.toks, is_int⟩
theorem ev_mul (hC : Closed C) (h1 : Ev w A env X C e₁ (.int i)) (h2 : Ev w A env X C e₂ (.int j)) (hm : IntMulOk i j) : Ev w A env X C (.BinOp e₁ .Mult e₂ p) (.int (i * j)) :=
  ev_binop hC h1 h2 fun s a b c ia ib => by obtain ⟨_, rfl⟩ := ia.int; obtain ⟨_, rfl⟩ := ib.int; exact PySem.P.mul_int ⟨.toks, is_int⟩ hm
theorem ev_div (hC : Closed C) (h1 : Ev w A env X C e₁ (.int i)) (h2 : Ev w A env X C e₂ (.int j)) (hj : j ≠ 0) (hp : Builtin.divisionGoesByPylong i j = false) : Ev w A env X C (.BinOp e₁ .FloorDiv e₂ p) (.int (i.fdiv j)) :=
  ev_binop hC h1 h2 fun s a b c ia ib => by obtain ⟨_, rfl⟩ := ia.int; obtain ⟨_, rfl⟩ := ib.int; exact PyProof.Rows.floordiv_int hj ⟨.toks, is_int⟩ (.inl hp)
theorem ev_mod (hC : Closed C) (h1 : Ev w A env X C e₁ (.int i)) (h2 : Ev w A env X C e₂ (.int j)) (hj : j ≠ 0) : Ev w A env X C (.BinOp e₁ .Mod e₂ p) (.int (i.fmod j)) :=
  ev_binop hC h1 h2 fun s a b c ia ib => by obtain ⟨_, rfl⟩ := ia.int; obtain ⟨_, rfl⟩ := ib.int; exact PyProof.Rows.mod_int hj ⟨.toks, is_int⟩
theorem ev_pow (hC : Closed C) (h1 : Ev w A env X C e₁ (.int i)) (h2 : Ev w A env X C e₂ (.int j)) (h0 : 0 ≤ j) (hj : j ≤ 1000000) (hi : i.natAbs < 2 ^ 64) : Ev w A env X C (.BinOp e₁ .Pow e₂ p) (.int (i ^ j.toNat)) :=
  ev_binop hC h1 h2 fun s a b c ia ib => by obtain ⟨_, rfl⟩ := ia.int; obtain ⟨_, rfl⟩ := ib.int; exact PyProof.Rows.pow_int_small h0 hj hi ⟨.toks, is_int⟩
theorem ev_eqI (hC : Closed C) (h1 : Ev w A env X C e₁ (.int i)) (h2 : Ev w A env X C e₂ (.int j)) : Ev w A env X C (.Compare e₁ [.Eq] [e₂] p) (.bool (i == j)) :=
  ev_cmp hC h1 h2 (fun s a b c ia ib => by obtain ⟨_, rfl⟩ := ia.int; obtain ⟨_, rfl⟩ := ib.int; exact PyProof.Rows.eq_int ⟨.refl s, is_bool⟩) (bim rfl)
theorem ev_gtI (hC : Closed C) (h1 : Ev w A env X C e₁ (.int i)) (h2 : Ev w A env X C e₂ (.int j)) : Ev w A env X C (.Compare e₁ [.Gt] [e₂] p) (.bool (decide (j < i))) :=
  ev_cmp hC h1 h2 (fun s a b c ia ib => by obtain ⟨_, rfl⟩ := ia.int; obtain ⟨_, rfl⟩ := ib.int; exact PyProof.Rows.gt_int ⟨.refl s, is_bool⟩) (bim rfl)
-- texts
theorem ev_cat (hC : Closed C) (h1 : Ev w A env X C e₁ (.str x)) (h2 : Ev w A env X C e₂ (.str y)) (hz : x.length + y.length ≤ sizeLine) : Ev w A env X C (.BinOp e₁ .Add e₂ p) (.str (x ++ y)) :=
  ev_binop hC h1 h2 fun s a b c ia ib => by obtain ⟨_, rfl⟩ := ia.str; obtain ⟨_, rfl⟩ := ib.str; exact PyProof.Rows.add_str (fun t' tk => ⟨.toks, is_str⟩) hz
theorem ev_eqS (hC : Closed C) (h1 : Ev w A env X C e₁ (.str x)) (h2 : Ev w A env X C e₂ (.str y)) : Ev w A env X C (.Compare e₁ [.Eq] [e₂] p) (.bool (x == y)) :=
  ev_cmp hC h1 h2 (fun s a b c ia ib => by obtain ⟨_, rfl⟩ := ia.str; obtain ⟨_, rfl⟩ := ib.str; exact PyProof.Rows.eq_str ⟨.refl s, is_bool⟩) (bim rfl)
theorem ev_neS (hC : Closed C) (h1 : Ev w A env X C e₁ (.str x)) (h2 : Ev w A env X C e₂ (.str y)) : Ev w A env X C (.Compare e₁ [.NotEq] [e₂] p) (.bool (x != y)) :=
  ev_cmp hC h1 h2 (fun s a b c ia ib => by obtain ⟨_, rfl⟩ := ia.str; obtain ⟨_, rfl⟩ := ib.str; exact PyProof.Rows.ne_str ⟨.refl s, is_bool⟩) (bim rfl)
-- data compared
theorem ev_eqD (hC : Closed C) (hu : A.units + 65 < cLine) (h1 : Ev w A env X C e₁ d₁) (h2 : Ev w A env X C e₂ d₂) (s1 : shaped d₁ = true) (s2 : shaped d₂ = true) : Ev w A env X C (.Compare e₁ [.Eq] [e₂] p) (.bool (PyData.eqv d₁ d₂)) :=
  ev_cmp hC h1 h2 (fun s a b c ia ib => by obtain ⟨_, ra⟩ := ia.reads; obtain ⟨_, rb⟩ := ib.reads; exact eq_dataH ra rb s1 s2 (by omega) ⟨.refl s, is_bool⟩) (bim rfl)
theorem ev_neD (hC : Closed C) (hu : A.units + 65 < cLine) (h1 : Ev w A env X C e₁ d₁) (h2 : Ev w A env X C e₂ d₂) (s1 : shaped d₁ = true) (s2 : shaped d₂ = true) : Ev w A env X C (.Compare e₁ [.NotEq] [e₂] p) (.bool (!PyData.eqv d₁ d₂)) :=
  ev_cmp hC h1 h2 (fun s a b c ia ib => by obtain ⟨_, ra⟩ := ia.reads; obtain ⟨_, rb⟩ := ib.reads; exact ne_dataH ra rb s1 s2 (by omega) ⟨.refl s, is_bool⟩) (bim rfl)
theorem ev_inD {ds : List PyData} (hC : Closed C) (hu : A.units + 65 < cLine) (h1 : Ev w A env X C e₁ d₁) (h2 : Ev w A env X C e₂ (.list ds)) (s1 : shaped d₁ = true) (s2 : shaped (.list ds) = true) (hm : ∀ z ∈ ds, noMix z d₁ = true) (hx : behindInMarks .In e₂ = false := by with_unfolding_all rfl) :
    Ev w A env X C (.Compare e₁ [.In] [e₂] p) (.bool (decide (countIn d₁ ds ≠ 0))) :=
  ev_cmp hC h1 h2 (fun s a b c ia ib => by obtain ⟨_, ra⟩ := ia.reads; obtain ⟨_, rb⟩ := ib.reads; exact in_list_dataH rb ra s2 s1 hu hm ⟨.refl s, is_bool⟩) hx
theorem ev_isNotNone {b : Bool} (hC : Closed C) (h1 : Ev w A env X C e₁ d) (hd : (d = .none ∧ b = false) ∨ ((∃ x, d = .str x) ∧ b = true)) : Ev w A env X C (.Compare e₁ [.IsNot] [.Constant .none 0 p'] p) (.bool b) :=
  ev_cmp hC h1 ev_none (fun s a b' c ia ib => by
    obtain rfl := ib.none
    rcases hd with ⟨rfl, rfl⟩ | ⟨⟨x, rfl⟩, rfl⟩
    · obtain rfl := ia.none; exact wpAny_isNot_self rfl ⟨.refl s, is_bool⟩
    · obtain ⟨_, rfl⟩ := ia.str; exact wpAny_isNot_other rfl (by intro q; cases q) ⟨.refl s, is_bool⟩) rfl
-- displays
theorem xnew {a : Addr} {h : Heap} (hx : ∀ a ∈ X, ∃ o, h.get? a = some o) : h.objs.size ∉ X := fun q => by obtain ⟨o, ho⟩ := hx _ q; exact absurd (Heap.lt_size ho) (Nat.lt_irrefl _)
theorem ev_tuple {es : List Expr} {k : Nat} {ds : List PyData} (hX : ∀ s, C s → XOk X s) (hC : Closed C) (h : EvL w A env X C p es ds) (hz : ds.length ≤ 1000) : Ev w A env X C (.Tuple es k p) (.tuple ds) := ⟨fun s hs => by
  refine Tuple_ (wpAny_mono (h.run s hs) (fun vs s1 ⟨g, i⟩ => ?_) fun _ _ h => h)
  have hlen := i.length
  refine wpAny_newObj_type ?_ ?_
  · have hk : ∀ b o, s1.heap.get? b = some o → (s1.heap.push ({ cls := .type "tuple", data := .seq vs.toArray } : Obj)).get? b = some o := fun b o e => Heap.get?_push_of_some _ e
    have hn : s1.heap.objs.size ∉ X := xnew (a := 0) (hX s1 (hC s s1 hs g))
    exact ⟨g.trans (.mk' (k := s1.toks) hk), is_tup (vs := vs) ⟨_, Heap.get?_push_size _ rfl, rfl, 0, rfl⟩ hn (i.grow hk)⟩
  · show vs.toArray.size ≤ sizeLine
    rw [List.size_toArray, sizeLine_eq]; omega⟩
theorem ev_list {es : List Expr} {ds : List PyData} (hX : ∀ s, C s → XOk X s) (hC : Closed C) (h : EvL w A env X C p es ds) (hz : ds.length ≤ 1000) : Ev w A env X C (.List es p) (.list ds) := ⟨fun s hs => by
  refine List_ (wpAny_mono (h.run s hs) (fun vs s1 ⟨g, i⟩ => ?_) fun _ _ h => h)
  have hlen := i.length
  refine wpAny_newObj_type ?_ ?_
  · have hk : ∀ b o, s1.heap.get? b = some o → (s1.heap.push ({ cls := .type "list", data := .seq vs.toArray } : Obj)).get? b = some o := fun b o e => Heap.get?_push_of_some _ e
    have hn : s1.heap.objs.size ∉ X := xnew (a := 0) (hX s1 (hC s s1 hs g))
    exact ⟨g.trans (.mk' (k := s1.toks) hk), is_lst (vs := vs) ⟨_, Heap.get?_push_size _ rfl, rfl, 0, rfl⟩ hn (i.grow hk)⟩
  · show vs.toArray.size ≤ sizeLine
    rw [List.size_toArray, sizeLine_eq]; omega⟩
-- cuts of texts
def EvP (w : World) (A : Around) (env : Env) (X : List Addr) (C : Shared → Prop) (e : Option Expr) (l : Option Int) : Prop := match e, l with
  | none, none => True
  | some e, some i => Ev w A env X C e (.int i)
  | _, _ => False
theorem evP_run {eo : Option Expr} {l : Option Int} (h : EvP w A env X C eo l) (s : Shared) (hs : C s) : wpAny (model pw w) A (evalPart eo env) (fun v s' => Grow s s' ∧ ∃ q : Option (Int × Tok), v = partValue q ∧ q.map (·.1) = l) No s := by
  cases eo with
  | none => cases l with
    | none => exact evalPart_none_step ⟨.refl s, none, rfl, rfl⟩
    | some => exact h.elim
  | some e => cases l with
    | none => exact h.elim
    | some i => exact evalPart_some_step (wpAny_mono (show To w A X (eval e env) (.int i) s from Ev.run (d := .int i) (e := e) h s hs) (fun v s1 ⟨g, q⟩ => by obtain ⟨t, rfl⟩ := q.int; exact ⟨g, some (i, t), rfl, rfl⟩) fun _ _ h => h)
theorem ev_cut {v : Expr} {lo up : Option Expr} {l u : Option Int} (hC : Closed C) (h : Ev w A env X C v (.str x)) (hl : EvP w A env X C lo l) (hu : EvP w A env X C up u) (hz : x.length ≤ 1000000) (ht : ∀ z t r, letTemporaryGo v (.str z t) r = pure ()) :
    Ev w A env X C (.Subscript v (.Slice lo up none p') p) (.str (Txt.slice x l u)) := ⟨fun s hs => by
  refine Subscript_ (wpAny_mono (h.run s hs) (fun o s1 ⟨g1, i1⟩ => ?_) fun _ _ h => h)
  obtain ⟨t, rfl⟩ := i1.str
  have c1 := hC s s1 hs g1
  refine wpAny_Slice (wpAny_mono (evP_run hl s1 c1) (fun vl s2 ⟨g2, ql, e1, e1'⟩ => wpAny_mono (evP_run hu s2 (hC s1 s2 c1 g2)) (fun vu s3 ⟨g3, qu, e2, e2'⟩ => evalPart_none_step ?_) fun _ _ h => h) fun _ _ h => h)
  subst e1 e2 e1' e2'
  have hk : ∀ b o, s3.heap.get? b = some o → (s3.heap.push ({ cls := .type "slice", data := .fields #[partValue ql, partValue qu, .none] } : Obj)).get? b = some o := fun b o e => Heap.get?_push_of_some _ e
  refine tail_of_ItemOn (ops := [.ref s3.heap.objs.size, .str x t]) ⟨"str", _, F.slot_str_getitem.lookup, typeIs_str _ _ _, ?_⟩ rfl (ht x t)
  refine wpAny_getItem_str_slice (l := ql) (u := qu) (st := none) ⟨_, Heap.get?_push_size _ rfl, rfl, rfl⟩ rfl ?_
  refine post_val_or_str ⟨Nat.le_trans (Txt.slice_le x _ _) (by rw [sizeLine_eq]; omega), fun t' k => ⟨?_, is_str⟩⟩
  exact ((g1.trans g2).trans g3).trans (.mk' hk)⟩
end
end Mine

end

section
open PySem PySem.W PySem.Spec PyProof.Rows PySem.SeqAt
set_option Elab.async false
set_option linter.unusedVariables false
set_option maxRecDepth 100000
namespace Mine
noncomputable section
def dRecP (p : Program) (i : Nat) : DefRec := match (p.main.body[i]? : Option Stmt) with
  | some (Stmt.FunctionDef n a b _ _ _ sc _ _ pos) => ⟨n, a, b, sc, pos⟩
  | _ => ⟨"", ⟨[], [], none, [], [], none, []⟩, [], p.main.scope, q0⟩
theorem recs_eq : recsOf (qv pw) = [dRecP pw 1, dRecP pw 4, dRecP pw 6, dRecP pw 8, dRecP pw 9, dRecP pw 10, dRecP pw 11, dRecP pw 12, dRecP pw 13, dRecP pw 14] := by
  unfold pw
  rw [PySem.W.Fast.te9825827541071483010]
  kernel_rfl
end
section
variable {w : World} {mg mb : Str → Option Value} {hb : Heap} {A : Around} {env : Env} {X : List Addr} {δ : List (Str × PyData)} {sE s : Shared} {d d₁ d₂ : PyData} {C : Shared → Prop} {e e₁ e₂ : Expr} {p p' : Pos} {i j : Int} {x y : Str}
theorem ev_neg (h1 : Ev w A env X C e (.int i)) : Ev w A env X C (.UnaryOp .USub e p) (.int (-i)) := ⟨fun s hs =>
  UnaryOp_ (wpAny_mono (h1.run s hs) (fun v s1 ⟨g, q⟩ => by obtain ⟨_, rfl⟩ := q.int; exact PyProof.Rows.neg_int ⟨g.trans .toks, is_int⟩) fun _ _ h => h)⟩
/-- between, as the law's helper says it -/
def betw (x o c : Str) : Bool := (Txt.slice x none (some 1) == o) && (Txt.slice x (some (-1)) none == c)
theorem con_between (B : Bs w mg mb hb) (k : Nat) (x o c : Str) (hx : x.length ≤ 1000000) : Con w mg hb (k + 1) (dRecP pw 12).name [.str x, .str o, .str c] (.bool (betw x o c)) := by
  refine con_plain (names := ["text", "opening", "closing"]) B (by rw [recs_eq]; simp) rfl ?_ ?_ ?_ rfl rfl rfl ?_ ?_
  · intro pm cd doc vs hl
    obtain ⟨a, b, c, rfl⟩ : ∃ a b c, vs = [a, b, c] := by
      match vs, hl with
      | [a, b, c], _ => exact ⟨a, b, c, rfl⟩
    kernel_rfl
  · decide +kernel
  · decide +kernel
  · decide +kernel
  · intro A L a cd X sE hA O
    refine ex_retF (ev_and Cx.closed ?_ fun _ => ?_)
    · refine ev_eqS Cx.closed (ev_cut Cx.closed (ev_loc rfl rfl rfl) trivial ev_int hx (fun _ _ _ => rfl)) (ev_loc rfl rfl rfl)
    · refine ev_eqS Cx.closed (ev_cut Cx.closed (ev_loc rfl rfl rfl) (ev_neg ev_int) trivial hx (fun _ _ _ => rfl)) (ev_loc rfl rfl rfl)
end
end Mine

end

section
open PySem PySem.W PySem.Spec PyProof.Rows PySem.SeqAt
set_option Elab.async false
set_option linter.unusedVariables false
set_option maxRecDepth 100000
namespace Mine
section
variable {w : World} {mg mb : Str → Option Value} {hb : Heap} {A : Around} {env : Env} {X : List Addr} {δ : List (Str × PyData)} {sE s : Shared} {d d₁ d₂ : PyData} {C : Shared → Prop} {e e₁ e₂ : Expr} {p p' : Pos} {i j : Int} {x y : Str}
/-- the method of a text, found -/
def GmS (w : World) (A : Around) (name : Str) (id : String) : Prop := ∀ (x : Str) (t : Tok) (pl : Sem Bool) (s : Shared) (Q : Value × List Value → Shared → Prop), Q (.builtin id, [.str x t]) s → wpAny (model pw w) A (getMethod (.str x t) name pl) Q No s
theorem ev_meth {o : Expr} {name : Str} {id : String} {apos pos : Pos} {e : Expr} {es : List Expr} {pl : Sem Bool} {ds : List PyData} (hC : Closed C) (ho : Ev w A env X C o (.str x)) (hg : GmS w A name id) (ha : EvL w A env X C pos (e :: es) ds)
    (hc : ∀ s t vs, C s → IsAll X s.heap vs ds → To w A X (call (.builtin id) (.str x t :: vs)) d s)
    (he : eval (.Call (.Attribute o name apos) (e :: es) [] pos) env = (do
      let ov ← eval o env
      standAt apos.atName
      let (f, first) ← holding [ov] (getMethod ov name pl)
      callWith pos f first (backTo pos (starEach (e :: es) env)) []) := by rfl)
    (he' : starEach (e :: es) env = (false, eval e env) :: starEach es env := by rfl) (hp : (backTo pos (starEach es env)).any (·.1) = false := by rfl) :
    Ev w A env X C (.Call (.Attribute o name apos) (e :: es) [] pos) d := ⟨fun s hs =>
  MethodCall_ (wpAny_mono (ho.run s hs) (fun ov s1 ⟨g1, i1⟩ => by
    obtain ⟨t, rfl⟩ := i1.str
    have c1 := hC s s1 hs g1
    refine hg x t pl s1 _ (callWith_method1 (wpAny_mono (ha.run s1 c1) (fun vs s2 ⟨g2, j⟩ => wpAny_mono (hc s2 t vs (hC s1 s2 c1 g2) j) (fun v s3 ⟨g3, q⟩ => ⟨(g1.trans g2).trans g3, q⟩) fun _ _ h => h) fun _ _ h => h) he' hp)) fun _ _ h => h) he⟩
theorem ev_meth0 {o : Expr} {name : Str} {id : String} {apos pos : Pos} {pl : Sem Bool} (hC : Closed C) (ho : Ev w A env X C o (.str x)) (hg : GmS w A name id)
    (hc : ∀ s t, C s → To w A X (call (.builtin id) [.str x t]) d s)
    (he : eval (.Call (.Attribute o name apos) [] [] pos) env = (do
      let ov ← eval o env
      standAt apos.atName
      let (f, first) ← holding [ov] (getMethod ov name pl)
      callWith pos f first (backTo pos (starEach [] env)) []) := by rfl) :
    Ev w A env X C (.Call (.Attribute o name apos) [] [] pos) d := ⟨fun s hs =>
  MethodCall_ (wpAny_mono (ho.run s hs) (fun ov s1 ⟨g1, i1⟩ => by
    obtain ⟨t, rfl⟩ := i1.str
    exact hg x t pl s1 _ (callWith_method0 (wpAny_mono (hc s1 t (hC s s1 hs g1)) (fun v s3 ⟨g3, q⟩ => ⟨g1.trans g3, q⟩) fun _ _ h => h))) fun _ _ h => h) he⟩
theorem one_inv {vs : List Value} {h : Heap} (j : IsAll X h vs [d]) : ∃ v, vs = [v] ∧ Is X h v d := by
  obtain ⟨v, r, rfl, i, q⟩ := j.cons_inv
  rw [q.nil_inv]
  exact ⟨v, rfl, i⟩
-- the tables
def b1L : List Nat := [173, 847, 6150, 6155, 6156, 6157, 8203, 8204, 8205, 8288, 65279, 65024, 65025, 65026, 65027, 65028, 65029, 65030, 65031, 65032, 65033, 65034, 65035, 65036, 65037, 65038, 65039]
def b3 (c : Nat) : Str := match (dPairs pw).lookup (c : Int) with
  | some x => x
  | none => Txt.lower ⟨#[c]⟩
def sgn (c : Nat) : Str := ⟨#[c]⟩
theorem glob_in {v : Value} {n : Str} (B : Bs w mg mb hb) (e : nsIn (KF w.params) mainGlobals n = some (some v)) : mg n = some v := by
  obtain ⟨_, T⟩ := B.T; exact mg_of B.K T.g e
theorem glob_out {n : Str} (B : Bs w mg mb hb) (e : nsIn (KF w.params) mainGlobals n = some none) : mg n = none := by
  obtain ⟨_, T⟩ := B.T; exact mg_none_of B.K T.g e
def b1E (P : Params) : Array (Int × Value) := match (ob29B pw P).data with
  | .set es _ _ => es
  | _ => #[]
theorem hash_self {k : Int} (h0 : 0 ≤ k) (h1 : k < 2 ^ 61 - 1) : hashInt k = k := by
  have hr : rawHash k = k := by
    simp only [rawHash]
    have h3 : ((2 ^ 61 - 1 : Nat) : Int) = 2305843009213693951 := by decide
    have h4 : (2 ^ 61 - 1 : Int) = 2305843009213693951 := by decide
    have h2 : ((k.natAbs : Int) % ((2 ^ 61 - 1 : Nat) : Int)) = k := by rw [h3]; rw [h4] at h1; omega
    rw [h2]
    simp only [if_neg (show ¬ k < 0 by omega)]
    rw [if_neg (by rw [beq_iff_eq]; omega)]
  rw [hashInt, hr, if_neg (by rw [beq_iff_eq]; omega)]
def b1Ok (e : Int × Value) : Bool := match e.2 with
  | .int k _ => decide (0 ≤ k) && decide (k < 100000) && e.1 == k
  | _ => false
theorem b1_all (P : Params) : (b1E P).toList.all b1Ok = true := by kernel_rfl
theorem b1_ks (P : Params) : ((b1E P).toList.map fun e => match e.2 with | .int k _ => k | _ => 0) = [65024, 65025, 65026, 65027, 65028, 65029, 6150, 65030, 65031, 65032, 65033, 6155, 6156, 6157, 8203, 8204, 8205, 65034, 65035, 65036, 65037, 65038, 65039, 173, 847, 8288, 65279] := by kernel_rfl
theorem b1_set {h : Heap} (hK : (KF w.params).In h) : h.SetOf (intKind pw w) 29 (fun k => [65024, 65025, 65026, 65027, 65028, 65029, 6150, 65030, 65031, 65032, 65033, 6155, 6156, 6157, 8203, 8204, 8205, 65034, 65035, 65036, 65037, 65038, 65039, 173, 847, 8288, 65279].contains k) 27 := by
  have ok : ∀ e ∈ (b1E w.params).toList, ∃ k t, e.2 = .int k t ∧ 0 ≤ k ∧ k < 100000 ∧ e.1 = k := by
    intro e he
    have := List.all_eq_true.mp (b1_all w.params) e he
    obtain ⟨e1, e2⟩ := e
    unfold b1Ok at this
    cases e2 <;> first | exact Bool.noConfusion this | skip
    rename_i k t
    simp only [Bool.and_eq_true, decide_eq_true_eq, beq_iff_eq] at this
    exact ⟨k, t, rfl, this.1.1, this.1.2, this.2⟩
  refine ⟨ob29B pw w.params, b1E w.params, _, _, hK 29 _ rfl, ⟨rfl, rfl, rfl⟩, rfl, ?_, ?_, (by decide : 27 < scanBound), rfl, rfl⟩
  · intro e he
    obtain ⟨k, t, h1, h2, h3, h4⟩ := ok e he
    exact ⟨⟨k, by rw [h1]; simp [intKind, Value.isInt], by rw [h4]; exact (hash_self h2 (Int.lt_trans h3 (by decide))).symm⟩, by rw [h1]; rfl⟩
  · intro k
    rw [List.contains_iff_mem, ← b1_ks w.params, List.mem_map]
    constructor
    · rintro ⟨e, he, rfl⟩
      obtain ⟨k, t, h1, _⟩ := ok e he
      exact ⟨e, he, by rw [h1]; simp [intKind, Value.isInt]⟩
    · rintro ⟨e, he, hk⟩
      obtain ⟨t, h1⟩ := Value.isInt_shape hk
      exact ⟨e, he, by rw [h1]⟩
theorem b1_mem (c : Nat) : [65024, 65025, 65026, 65027, 65028, 65029, 6150, 65030, 65031, 65032, 65033, 6155, 6156, 6157, 8203, 8204, 8205, 65034, 65035, 65036, 65037, 65038, 65039, 173, 847, 8288, 65279].contains (c : Int) = b1L.contains c := by
  rw [Bool.eq_iff_iff, List.contains_iff_mem, List.contains_iff_mem]
  simp only [b1L, List.mem_cons, List.not_mem_nil, or_false]
  omega
theorem ev_ord {c : Nat} {np : Pos} {e : Expr} {pos : Pos} (B : Bs w mg mb hb) (hf : env.scope.kind = .function) (hg : env.globals = mainGlobals) (hbn : env.builtins = builtinsNs) (hk : env.kindOf "ord" = some .globalImplicit)
    (h : Ev w A env X (Cx hb env X δ sE) e (.str (sgn c))) (he : starEach [e] env = (false, eval e env) :: starEach [] env := by rfl)
    (hq : eval (.Call (.Name "ord" np) [e] [] pos) env = (do callWith pos (← eval (.Name "ord" np) env) [] (backTo pos (starEach [e] env)) (backToKw pos (keywordEach [] env))) := by rfl) :
    Ev w A env X (Cx hb env X δ sE) (.Call (.Name "ord" np) [e] [] pos) (.int c) :=
  ev_callB Cx.closed (nm_built B (glob_out B (by kernel_rfl)) (by kernel_rfl : bootBuiltins "ord" = some (.builtin "ord")) (by decide) hk hf hg hbn) (evL_cons Cx.closed h evL_nil he) (fun s vs c ha => by
    obtain ⟨v, rfl, i⟩ := one_inv ha
    obtain ⟨t, rfl⟩ := i.str
    exact P.ord_of_char ⟨.toks, is_int⟩) he rfl hq
theorem ev_cmpN {op : CmpOp} {v : Value} (hC : Closed C) (h1 : Ev w A env X C e₁ d₁) (hn : Nm w A env C e₂ v) (ho : ∀ s a, C s → Is X s.heap a d₁ → To w A X (compareOp op a v) d s) (hm : behindInMarks op e₂ = false := by with_unfolding_all rfl) :
    Ev w A env X C (.Compare e₁ [op] [e₂] p) d := ⟨fun s hs =>
  wpAny_Compare1 (wpAny_mono (h1.run s hs) (fun a s1 ⟨g1, i1⟩ => hn.run s1 (hC s s1 hs g1) _ (wpAny_mono (ho s1 a (hC s s1 hs g1) i1) (fun v s3 ⟨g3, i3⟩ => ⟨g1.trans g3, i3⟩) fun _ _ h => h)) fun _ _ h => h) hm⟩
theorem con_in_b1 (B : Bs w mg mb hb) (k : Nat) (c : Nat) : Con w mg hb (k + 1) (dRecP pw 4).name [.str (sgn c)] (.bool (b1L.contains c)) := by
  refine con_plain (names := ["code"]) B (by rw [recs_eq]; simp) rfl ?_ ?_ ?_ rfl rfl rfl ?_ ?_
  · intro pm cd doc vs hl
    obtain ⟨a, rfl⟩ : ∃ a, vs = [a] := by
      match vs, hl with
      | [a], _ => exact ⟨a, rfl⟩
    kernel_rfl
  · decide +kernel
  · decide +kernel
  · decide +kernel
  · intro A L a cd X sE hA O
    refine ex_retF (ev_cmpN Cx.closed (ev_ord B rfl rfl rfl rfl (ev_loc rfl rfl rfl)) (nm_glob B (glob_in B (by kernel_rfl : nsIn (KF w.params) mainGlobals "b1_set" = some (some (.ref 29)))) rfl rfl rfl) (fun s v c1 i1 => ?_) rfl)
    obtain ⟨t, rfl⟩ := i1.int
    refine wpAny_inSet_of (knd := intKind pw w) (k := (c : Int)) (by simp [intKind, Value.isInt]) rfl (b1_set (fun a o e => c1.base a o (B.K a o e))) ⟨.toks, ?_⟩
    rw [b1_mem]
    exact is_bool
end
end Mine

end

section
open PySem PySem.W PySem.Spec PyProof.Rows PySem.SeqAt
set_option Elab.async false
set_option linter.unusedVariables false
set_option maxRecDepth 100000
namespace Mine
section
variable {w : World} {mg mb : Str → Option Value} {hb : Heap} {A : Around} {env : Env} {X : List Addr} {δ : List (Str × PyData)} {sE s : Shared} {d d₁ d₂ : PyData} {C : Shared → Prop} {e e₁ e₂ : Expr} {p p' : Pos} {i j : Int} {x y : Str}
theorem lookup_none_of {l : List (Int × Str)} {k : Int} (h : k ∉ l.map (·.1)) : l.lookup k = none := by
  rw [List.lookup_eq_none_iff]
  intro p hp
  rw [bne_iff_ne]
  rintro rfl
  exact h (List.mem_map_of_mem hp)
/-- the values found are the texts of the list, some token or other -/
theorem find_entsS (k : Int) : ∀ (l : List (Int × Str)) (t : Nat), match l.lookup k with
    | some x => ∃ u, ((ents t l).find? fun e => Value.isInt k e.key).map (·.val) = some (.str x u)
    | none => ((ents t l).find? fun e => Value.isInt k e.key) = none
  | [], _ => rfl
  | (q, v) :: r, t => by
    rw [List.lookup_cons]
    cases hq : k == q with
    | true =>
      have : Value.isInt k (.int q t) = true := by
        rw [beq_iff_eq] at hq
        subst hq
        simp [Value.isInt]
      simp only [ents, List.find?_cons, this]
      exact ⟨_, rfl⟩
    | false =>
      have : Value.isInt k (.int q t) = false := by
        rw [beq_eq_false_iff_ne] at hq
        simp only [Value.isInt]
        rw [beq_eq_false_iff_ne]
        exact fun h => hq h.symm
      simp only [ents, List.find?_cons, this]
      exact find_entsS k r (t + 3)
theorem find_ents2S (k : Int) : ∀ (l : List (Int × Str)) (t : Nat), match l.lookup k with
    | some x => ∃ u, ((ents2 t l).find? fun e => Value.isInt k e.key).map (·.val) = some (.str x u)
    | none => ((ents2 t l).find? fun e => Value.isInt k e.key) = none
  | [], _ => rfl
  | (q, v) :: r, t => by
    rw [List.lookup_cons]
    cases hq : k == q with
    | true =>
      have : Value.isInt k (.int q t) = true := by
        rw [beq_iff_eq] at hq
        subst hq
        simp [Value.isInt]
      simp only [ents2, List.find?_cons, this]
      exact ⟨_, rfl⟩
    | false =>
      have : Value.isInt k (.int q t) = false := by
        rw [beq_eq_false_iff_ne] at hq
        simp only [Value.isInt]
        rw [beq_eq_false_iff_ne]
        exact fun h => hq h.symm
      simp only [ents2, List.find?_cons, this]
      exact find_ents2S k r (t + 2)
theorem ents_key : ∀ (l : List (Int × Str)) (t : Nat), ∀ e ∈ ents t l, ∃ k u, e.key = .int k u ∧ e.hash = k ∧ k ∈ l.map (·.1)
  | [], _, _, h => by cases h
  | (q, v) :: r, t, e, h => by
    rcases List.mem_cons.mp h with rfl | h
    · exact ⟨q, t, rfl, rfl, by simp⟩
    · obtain ⟨k, u, h1, h2, h3⟩ := ents_key r _ e h
      exact ⟨k, u, h1, h2, List.mem_cons_of_mem _ h3⟩
theorem ents2_key : ∀ (l : List (Int × Str)) (t : Nat), ∀ e ∈ ents2 t l, ∃ k u, e.key = .int k u ∧ e.hash = k ∧ k ∈ l.map (·.1)
  | [], _, _, h => by cases h
  | (q, v) :: r, t, e, h => by
    rcases List.mem_cons.mp h with rfl | h
    · exact ⟨q, t, rfl, rfl, by simp⟩
    · obtain ⟨k, u, h1, h2, h3⟩ := ents2_key r _ e h
      exact ⟨k, u, h1, h2, List.mem_cons_of_mem _ h3⟩
theorem dPairs_eq : dPairs pw = (dFirst pw ++ (dChunks pw).flatten) ++ dLast pw := by
  unfold dPairs; rw [pairs_eq]; rfl
def bes : Array DictEntry := (ents 266 (dFirst pw ++ (dChunks pw).flatten) ++ ents2 2204 (dLast pw)).toArray
theorem b3_find (k : Int) : match (dPairs pw).lookup k with
    | some x => ∃ u, findBy Value.isInt bes k = some (.str x u)
    | none => findBy Value.isInt bes k = none := by
  rw [dPairs_eq]
  unfold findBy bes
  rw [List.find?_toArray, List.find?_append, List.lookup_append]
  have h1 := find_entsS k (dFirst pw ++ (dChunks pw).flatten) 266
  have h2 := find_ents2S k (dLast pw) 2204
  cases e1 : (dFirst pw ++ (dChunks pw).flatten).lookup k with
  | some x =>
    rw [e1] at h1
    obtain ⟨u, h1⟩ := h1
    cases e3 : (ents 266 (dFirst pw ++ (dChunks pw).flatten)).find? fun e => Value.isInt k e.key with
    | none => rw [e3] at h1; cases h1
    | some z => rw [e3] at h1; exact ⟨u, h1⟩
  | none =>
    rw [e1] at h1
    dsimp only at h1
    rw [h1, Option.none_or, Option.none_or]
    cases e2 : (dLast pw).lookup k with
    | some x => rw [e2] at h2; exact h2
    | none => rw [e2] at h2; dsimp only at h2 ⊢; rw [h2]; rfl
theorem b3_map {h : Heap} (hK : (KF w.params).In h) : h.MapOf (intKind pw w) 40 (findBy Value.isInt bes) := by
  refine ⟨dMain pw, bes, _, hK 40 _ rfl, ⟨rfl, rfl, rfl⟩, rfl, ?_, fun _ => rfl⟩
  intro e he
  have he : e ∈ ents 266 (dFirst pw ++ (dChunks pw).flatten) ++ ents2 2204 (dLast pw) := by simpa [bes] using he
  have : ∃ k u, e.key = .int k u ∧ e.hash = k ∧ k ∈ ((dFirst pw ++ (dChunks pw).flatten) ++ dLast pw).map (·.1) := by
    rcases List.mem_append.mp he with h | h
    · obtain ⟨k, u, h1, h2, h3⟩ := ents_key _ _ e h
      exact ⟨k, u, h1, h2, by rw [List.map_append]; exact List.mem_append_left _ h3⟩
    · obtain ⟨k, u, h1, h2, h3⟩ := ents2_key _ _ e h
      exact ⟨k, u, h1, h2, by rw [List.map_append]; exact List.mem_append_right _ h3⟩
  obtain ⟨k, u, h1, h2, h3⟩ := this
  obtain ⟨x, hx, rfl⟩ := List.mem_map.mp h3
  have := keys_ok.1 x hx
  exact ⟨x.1, by rw [h1]; simp [intKind, Value.isInt], by rw [h2]; exact (hash_self this.1 this.2).symm⟩
def b3D (c : Nat) : PyData := match (dPairs pw).lookup (c : Int) with
  | some x => .str x
  | none => .none
theorem con_b3 (B : Bs w mg mb hb) (k : Nat) (c : Nat) : Con w mg hb (k + 1) (dRecP pw 6).name [.str (sgn c)] (.str (b3 c)) := by
  refine con_plain (names := ["code"]) B (by rw [recs_eq]; simp) rfl ?_ ?_ ?_ rfl rfl rfl ?_ ?_
  · intro pm cd doc vs hl
    obtain ⟨a, rfl⟩ : ∃ a, vs = [a] := by
      match vs, hl with
      | [a], _ => exact ⟨a, rfl⟩
    kernel_rfl
  · decide +kernel
  · decide +kernel
  · decide +kernel
  · intro A L a cd X sE hA O
    have hord := fun (pn p1 p2 : Pos) => ev_ord (A := A) (env := envOf (dRecP pw 6).name (dRecP pw 6).scope L a cd) (np := pn) (pos := p2) (c := c) (e := .Name "code" p1) (X := L :: X) (δ := [("code", .str (sgn c))]) (sE := sE) B rfl rfl rfl rfl (ev_loc rfl rfl rfl)
    refine ex_assign (d := b3D c) O ⟨fun s hs => ?_⟩ rfl ?_
    · refine MethodCall_ ((nm_glob B (glob_in B (by kernel_rfl : nsIn (KF w.params) mainGlobals "b3_exceptions" = some (some (.ref 40)))) rfl rfl rfl rfl).run s hs _ ?_) rfl
      have hm := b3_map (w := w) (h := s.heap) (fun a o e => hs.base a o (B.K a o e))
      refine getMethod_builtin hm.typeIs F.plainAttrs_dict F.slot_dict_get F.type_dict_get hm.noDict (callWith_method1 (wpAny_mono ((evL_cons Cx.closed (hord _ _ _) evL_nil rfl).run s hs) (fun vs s1 ⟨g1, ia⟩ => ?_) fun _ _ h => h) rfl rfl)
      obtain ⟨v, rfl, i1⟩ := one_inv ia
      obtain ⟨t, rfl⟩ := i1.int
      have hs1 := Cx.closed s s1 hs g1
      have hm1 := b3_map (w := w) (h := s1.heap) (fun a o e => hs1.base a o (B.K a o e))
      refine call_meetsIn F.slot_dict_get hm1.typeIs F.entry_dict_get (F.args_dict_get_2 _ _) (meets_dict_get (intKind pw w) 40 (k := (c : Int)) (by simp [intKind, Value.isInt]) rfl) ⟨_, hm1, g1.trans .toks, ?_⟩
      have := b3_find (c : Int)
      unfold b3D
      cases e : (dPairs pw).lookup (c : Int) with
      | some x => rw [e] at this; obtain ⟨u, hu⟩ := this; dsimp only; rw [hu]; exact is_str
      | none => rw [e] at this; dsimp only at this ⊢; rw [this]; exact is_none
    · cases e : (dPairs pw).lookup (c : Int) with
      | some x =>
        refine ex_if (b := true) (C' := fun _ => False) Cx.closed (tst_cmp (ev_isNotNone Cx.closed (ev_loc (by rfl) rfl rfl) (.inr ⟨⟨x, by unfold b3D; rw [e]⟩, rfl⟩))) (fun _ => ?_) (fun h => nomatch h) ⟨fun _ h => h.elim⟩
        refine ex_ret (d := .str (b3 c)) (X := L :: X) (ev_loc (by show some (b3D c) = _; unfold b3D b3; rw [e]) rfl rfl) (fun s s' v c g i => ⟨v, rfl, c.grow.trans g, is_tail i⟩)
      | none =>
        refine ex_if (b := false) (C' := Cx hb (envOf (dRecP pw 6).name (dRecP pw 6).scope L a cd) (L :: X) [("r", b3D c), ("code", .str (sgn c))] sE) Cx.closed (tst_cmp (ev_isNotNone Cx.closed (ev_loc (by rfl) rfl rfl) (.inl ⟨by unfold b3D; rw [e], rfl⟩))) (fun h => nomatch h) (fun _ => ex_nil fun s c => c) ?_
        have : b3 c = Txt.lower (sgn c) := by unfold b3; rw [e]; rfl
        rw [this]
        refine ex_retF (ev_meth0 Cx.closed (ev_loc rfl rfl rfl) (fun _ _ _ _ _ h => GM.lower h) (fun s t c => SCL.lower (by show 1 ≤ 5592405; decide) fun _ => ⟨.toks, is_str⟩))
end
end Mine

end

section
open PySem PySem.W PySem.Spec PyProof.Rows PySem.SeqAt
set_option Elab.async false
set_option linter.unusedVariables false
set_option maxRecDepth 100000
namespace Mine
section
variable {w : World} {mg mb : Str → Option Value} {hb : Heap} {A : Around} {env : Env} {X : List Addr} {δ : List (Str × PyData)} {sE s : Shared} {d d₁ d₂ : PyData} {C : Shared → Prop} {e e₁ e₂ : Expr} {p p' : Pos} {i j : Int} {x y : Str}
theorem tail_any {value slice : Expr} {o i : Value} {ops : List Value} {Q : Value → Shared → Prop} {E : Value → Shared → Prop} {T id : String} (hl : typeLookup (.type T) "__getitem__" = pure (some (.builtin id))) (hT : s.TypeIs o T)
    (hg : wpAny (model pw w) A (getItem o i) Q E s) (hs : subscripted slice false o i = operate ops (getItem o i)) : wpAny (model pw w) A (subscriptTail value slice o i) Q E s := by
  unfold subscriptTail
  refine wpAny_bind ?_
  rw [getitemInPython_of_ne hT.not_modules]
  refine wpAny_bind (wpAny_specialOf hT hl ?_)
  have fin : wpAny (model pw w) A (subscripted slice false o i) (fun r s₃ => wpAny (model pw w) A (letTemporaryGo value o r >>= fun _ => pure r) Q E s₃) E s := by
    rw [hs]
    exact wpAny_operating (wpAny_mono hg (fun r s₃ h₃ => wpAny_bind (wpAny_letTemporaryGo (wpAny_pure h₃))) fun _ _ x => x)
  exact wpAny_pure (wpAny_bind fin)
theorem ev_itemL {v sl : Expr} {ds : List PyData} (hC : Closed C) (h : Ev w A env X C v (.list ds)) (hi : Ev w A env X C sl (.int i)) (h0 : 0 ≤ i) (hx : ds[i.toNat]? = some d) (hz : ds.length ≤ 1000)
    (hs : ∀ o i, subscripted sl false o i = operate [o, i] (getItem o i) := by intro _ _; rfl) : Ev w A env X C (.Subscript v sl p) d := ⟨fun s hs0 => by
  refine Subscript_ (wpAny_mono (h.run s hs0) (fun o s1 ⟨g1, i1⟩ => wpAny_mono (hi.run s1 (hC s s1 hs0 g1)) (fun k s2 ⟨g2, i2⟩ => ?_) fun _ _ h => h) fun _ _ h => h)
  obtain ⟨t, rfl⟩ := i2.int
  obtain ⟨a, vs, rfl, ha, hl, ia⟩ := (i1.grow g2.2).lst
  obtain ⟨v, hv, iv⟩ := ia.get _ _ hx
  have hlt : i.toNat < ds.length := by rw [List.getElem?_eq_some_iff] at hx; exact hx.1
  exact tail_any list_getitem_lookup hl.typeIs (wpAny_getItem_list hl h0 (by omega) (by simpa using hv) ⟨g1.trans g2, iv⟩) (hs _ _)⟩
theorem ev_itemT {v sl : Expr} {ds : List PyData} (hC : Closed C) (h : Ev w A env X C v (.tuple ds)) (hi : Ev w A env X C sl (.int i)) (h0 : 0 ≤ i) (hx : ds[i.toNat]? = some d) (hz : ds.length ≤ 1000)
    (hs : ∀ o i, subscripted sl false o i = operate [o, i] (getItem o i) := by intro _ _; rfl) : Ev w A env X C (.Subscript v sl p) d := ⟨fun s hs0 => by
  refine Subscript_ (wpAny_mono (h.run s hs0) (fun o s1 ⟨g1, i1⟩ => wpAny_mono (hi.run s1 (hC s s1 hs0 g1)) (fun k s2 ⟨g2, i2⟩ => ?_) fun _ _ h => h) fun _ _ h => h)
  obtain ⟨t, rfl⟩ := i2.int
  obtain ⟨a, vs, rfl, ha, hl, ia⟩ := (i1.grow g2.2).tup
  obtain ⟨v, hv, iv⟩ := ia.get _ _ hx
  have hlt : i.toNat < ds.length := by rw [List.getElem?_eq_some_iff] at hx; exact hx.1
  have hvl := ia.length
  refine tail_any slot_tuple_getitem.lookup hl.typeIs (getItem_tuple hl (j := i.toNat) (by omega) (by omega) ?_ (by simpa using hv) ⟨g1.trans g2, iv⟩) (hs _ _)
  rw [List.size_toArray]
  simp only [seqIndex?, if_neg (show ¬ i < 0 by omega)]
  rw [if_pos (by rw [Bool.and_eq_true, decide_eq_true_eq, decide_eq_true_eq]; omega)]⟩
theorem ev_itemS {v sl : Expr} {c : Nat} (hC : Closed C) (h : Ev w A env X C v (.str x)) (hi : Ev w A env X C sl (.int i)) (hr : -1000000 ≤ i ∧ i ≤ 1000000) (hx : (seqIndex? i x.length).bind (x.cps[·]?) = some c)
    (hs : ∀ o i, subscripted sl false o i = operate [o, i] (getItem o i) := by intro _ _; rfl) : Ev w A env X C (.Subscript v sl p) (.str (sgn c)) := ⟨fun s hs0 => by
  refine Subscript_ (wpAny_mono (h.run s hs0) (fun o s1 ⟨g1, i1⟩ => wpAny_mono (hi.run s1 (hC s s1 hs0 g1)) (fun k s2 ⟨g2, i2⟩ => ?_) fun _ _ h => h) fun _ _ h => h)
  obtain ⟨t, rfl⟩ := i2.int
  obtain ⟨u, rfl⟩ := i1.str
  refine tail_any F.slot_str_getitem.lookup (typeIs_str _ _ _) (P.getItem_str ?_ hx ⟨(g1.trans g2).trans .toks, is_str⟩) (hs _ _)
  rw [decide_eq_false (by omega), decide_eq_false (by omega)]; rfl⟩
/-- the first two of three -/
theorem ev_cutT2 {v : Expr} {pc : Pos} {k : Nat} {d₃ : PyData} (hX : ∀ s, C s → XOk X s) (hC : Closed C) (h : Ev w A env X C v (.tuple [d₁, d₂, d₃])) : Ev w A env X C (.Subscript v (.Slice none (some (.Constant (.int 2) k pc)) none p') p) (.tuple [d₁, d₂]) := ⟨fun s hs0 => by
  refine Subscript_ (wpAny_mono (h.run s hs0) (fun o s1 ⟨g1, i1⟩ => ?_) fun _ _ h => h)
  have c1 := hC s s1 hs0 g1
  refine wpAny_Slice (evalPart_none_step (evalPart_some_step (wpAny_mono ((ev_int (X := X) (C := C)).run s1 c1) (fun v2 s2 ⟨g2, i2⟩ => evalPart_none_step ?_) fun _ _ h => h)))
  obtain ⟨t, rfl⟩ := i2.int
  obtain ⟨a, vs, rfl, ha, hl, ia⟩ := (i1.grow g2.2).tup
  obtain ⟨v1, r, rfl, j1, ia⟩ := ia.cons_inv
  obtain ⟨v2, r, rfl, j2, ia⟩ := ia.cons_inv
  obtain ⟨v3, r, rfl, j3, ia⟩ := ia.cons_inv
  obtain rfl := ia.nil_inv
  have hk : ∀ b o, s2.heap.get? b = some o → (s2.heap.push ({ cls := .type "slice", data := .fields #[.none, .int 2 t, .none] } : Obj)).get? b = some o := fun b o e => Heap.get?_push_of_some _ e
  have hsl : (s2.heap.push ({ cls := .type "slice", data := .fields #[.none, .int 2 t, .none] } : Obj)).IsSliceOf s2.heap.objs.size .none (.int 2 t) .none := Heap.IsSliceOf.new ..
  have hl' : IsTup (s2.heap.push ({ cls := .type "slice", data := .fields #[.none, .int 2 t, .none] } : Obj)) a [v1, v2, v3].toArray := hl.keeps hk
  have hX2 := hX s2 (hC s1 s2 c1 g2)
  refine tail_any (s := { s2 with heap := s2.heap.push ({ cls := .type "slice", data := .fields #[.none, .int 2 t, .none] } : Obj) }) (ops := [.ref s2.heap.objs.size, .ref a]) slot_tuple_getitem.lookup hl'.typeIs ?_ rfl
  generalize hq : s2.heap.push ({ cls := .type "slice", data := .fields #[.none, .int 2 t, .none] } : Obj) = hp at hk hsl hl' ⊢
  obtain ⟨os, hos, hcs, hds⟩ := id hsl
  have hTs : ({ s2 with heap := hp } : Shared).TypeIs (.ref s2.heap.objs.size) "slice" := ⟨os, hos, hcs⟩
  unfold getItem
  try with_reducible refine wpAny_holding ?_
  first | refine wpAny_bind (wpAny_pure ?_) | skip
  refine wpAny_bind (wpAny_sequenceKey (s := { s2 with heap := hp }) hl'.typeIs (by decide) ?_)
  refine wpAny_bind (wpAny_callSpecial?_slot (s := { s2 with heap := hp }) (name := Str.ofString "__getitem__") hl'.typeIs slot_tuple_getitem
    (wpAny_call_entry (s := { s2 with heap := hp }) slot_tuple_getitem hl'.typeIs entry_tuple_getitem ?_ (args_tuple_getitem _ _)))
  show wpAny _ _ (Builtin.Tuple.tupleItemsOf (.ref a) >>= _) _ _ { s2 with heap := hp }
  refine wpAny_bind (tupleItemsOf_ (s := { s2 with heap := hp }) hl' ?_)
  refine wpAny_bind (wpAny_typeOf hTs ?_)
  rw [if_pos (by decide)]
  refine wpAny_bind ?_
  unfold Builtin.Slice.sliceApplied Builtin.Slice.sliceFields
  refine wpAny_bind (wpAny_bind (wpAny_field (s := { s2 with heap := hp }) hos hds (x := .none) rfl (wpAny_bind (wpAny_field (s := { s2 with heap := hp }) hos hds (x := .int 2 t) rfl (wpAny_bind (wpAny_field (s := { s2 with heap := hp }) hos hds (x := .none) rfl (wpAny_pure ?_)))))))
  refine wpAny_bind (slicePart_none ?_)
  show wpAny _ _ (if ((1 : Int) == 0) = true then _ else _) _ _ { s2 with heap := hp }
  rw [if_neg (by decide)]
  refine wpAny_bind (slicePart_none (wpAny_bind (slicePart_int (wpAny_bind (wpAny_pure ?_)))))
  show wpAny _ _ (pure ((0 : Int), (1 : Int), 2)) _ _ _
  refine wpAny_pure ?_
  show wpAny _ _ (if ((0 : Int) == 0 && (1 : Int) == 1 && 2 == 3) = true then _ else _) _ _ _
  rw [if_neg (by decide)]
  have fin : Grow s { s2 with heap := hp.push ({ cls := .type "tuple", data := .seq [v1, v2].toArray } : Obj) } ∧ Is X (hp.push ({ cls := .type "tuple", data := .seq [v1, v2].toArray } : Obj)) (.ref hp.objs.size) (.tuple [d₁, d₂]) := by
    have hk2 : ∀ b o, s2.heap.get? b = some o → (hp.push ({ cls := .type "tuple", data := .seq [v1, v2].toArray } : Obj)).get? b = some o := fun b o e => Heap.get?_push_of_some _ (hk b o e)
    refine ⟨(g1.trans g2).trans (.mk' (k := s2.toks) hk2), is_tup (vs := [v1, v2]) ⟨_, Heap.get?_push_size _ rfl, rfl, 0, rfl⟩ ?_ (isAll_cons (j1.grow hk2) (isAll_cons (j2.grow hk2) isAll_nil))⟩
    exact fun q => by obtain ⟨o, ho⟩ := hX2 _ q; exact absurd (Heap.lt_size (hk _ _ ho)) (Nat.lt_irrefl _)
  show wpAny _ _ (Builtin.Tuple.tupleExact [v1, v2].toArray >>= _) _ _ _
  exact wpAny_bind (m := Builtin.Tuple.tupleExact _) (wpAny_newObj_type (wpAny_pure ⟨_, rfl, wpAny_pure fin⟩) (by show 2 ≤ sizeLine; decide))⟩
end
end Mine

end

section
open PySem PySem.W PySem.Spec PyProof.Rows PySem.SeqAt
set_option Elab.async false
set_option linter.unusedVariables false
set_option maxRecDepth 100000
namespace Mine
open Builtin Builtin.Str in
theorem int_textZ (c : Percent) (h1 : c.alt = false) (h2 : c.type = 100) (h3 : c.prec = none) (n : Int) : percentInt c (decide (n < 0)) (PySem.Str.ofString (toString ((n.natAbs : Nat) : Int))).cps.toList = (PySem.Str.ofString (toString n)).cps.toList := by
  by_cases hn : n < 0
  · have e : ((n.natAbs : Nat) : Int) = 0 - n := by omega
    rw [e, toString_neg hn, decide_eq_true hn]
    unfold percentInt
    have e2 : (PySem.Str.ofString ("-" ++ toString (0 - n))).cps.toList = 45 :: (PySem.Str.ofString (toString (0 - n))).cps.toList := by
      rw [signs_ofString, signs_ofString, String.toList_append]; rfl
    rw [e2]
    simp [h1, h2, h3]
  · exact KPc.int_text c h1 (.inl h2) h3 (by omega) _ |>.trans (by rw [show ((n.natAbs : Nat) : Int) = n by omega])
open Builtin Builtin.Str in
theorem after_intZ {M : Model} {A : Around} {E : Value → Shared → Prop} {s : Shared} {l : List Nat} {p : List Value} {r : List Nat}
    {f : Nat → List Value × Writer × List Nat → Sem (ForInStep (List Value × Writer × List Nat))} {Q : List Value × Writer × List Nat → Shared → Prop}
    {w : Writer} {T : PySem.Str} {N : Nat} {o : Option Value} {c : Percent} {n : Int} {d : List Nat} (g : KPc.Good w T N) (h1 : c.alt = false) (h2 : c.type = 100) (h3 : c.prec = none) (hm : (PySem.Str.ofString (toString n)).length ≤ 1000000)
    (hd : d = (PySem.Str.ofString (toString ((n.natAbs : Nat) : Int))).cps.toList) (ho : o = none) (h : ∀ w', KPc.Good w' (T ++ PySem.Str.ofString (toString n)) (N + 1000000) → wpAny M A (forIn l (p, w', r) f) Q E s) :
    wpAny M A (forIn l (p, w.add ⟨(percentInt c (decide (n < 0)) d).toArray⟩ o, r) f) Q E s := by
  rw [hd, int_textZ c h1 h2 h3]
  exact KPc.after_str g hm (KPc.obj_none ho) h
def stdT (f : Str) (n : Int) (nm : Str) : Str := f ++ ":" ++ Str.ofString (toString n) ++ "(" ++ nm ++ ")"
open Builtin Builtin.Str in
theorem meets_T {t ta tb tc : Tok} {f nm : Str} {n : Int} {b : Addr} (hf : f.length ≤ 1000000) (hn : nm.length ≤ 1000000) (hl : n.natAbs.log2 < 1920) (hz : (Str.ofString (toString n)).length ≤ 1000000) :
    Meets («str.__mod__» ⟨[.str ⟨#[37, 115, 58, 37, 100, 40, 37, 115, 41]⟩ t, .ref b], []⟩) (fun _ R s => IsTup s.heap b #[.str f ta, .int n tb, .str nm tc] ∧ ∀ t' k, R (.ok (.ret (.str (stdT f n nm) t'))) { s with toks := k }) := by
  apply KPt.meets_tup
  intro _ _ _ _ _ _ kptH hQ
  obtain ⟨kptO, kptG, kptC, kptN, kptD⟩ := kptH
  rw [KPt.entry_is_r]
  unfold Builtin.Str.percentFormat
  refine wpAny_bind (wpAny_isInstance (T := "tuple") ⟨kptO, kptG, kptC⟩ KPt.sub_tt ?_)
  refine wpAny_bind (KPt.asStr_ref kptG kptD ?_)
  refine wpAny_bind (KPt.fills_ref ⟨kptO, kptG, kptC⟩ ?_)
  intro _
  kpc_if
  refine wpAny_bind (wpAny_seqItems kptG kptD ?_)
  refine wpAny_bind (wpAny_pure ?_)
  refine wpAny_bind ?_
  rw [KPc.range_list]
  refine KPc.start ?_
  intro _ _
  -- %s
  refine KPc.turn ?_; kpc_check; (repeat kpc_if)
  refine wpAny_bind ?_; refine wpAny_holding ?_; (repeat kpc_if)
  kpt_conv
  refine wpAny_pure ?_; refine wpAny_pure ?_
  refine KPc.after_str0 (by kpc_g) hf (by kpc_obj) ?_; intro _ _
  -- :
  refine KPc.turn ?_; kpc_check; (repeat kpc_if)
  refine wpAny_pure ?_; kpt_piece
  -- %d
  refine KPc.turn ?_; kpc_check; (repeat kpc_if)
  refine wpAny_bind ?_; refine wpAny_holding ?_; (repeat kpc_if)
  refine wpAny_bind (wpAny_of_eq (a := _) rfl ?_); (repeat kpc_if)
  refine wpAny_bind (wpAny_mkInt ?_);
  refine wpAny_bind (call_gives F.slot_int_repr (typeIs_int _ _ _) F.entry_int_repr (F.args_int_repr_1 _) (gives_int_repr _ _ (KPt.hd2 hl)) ⟨int_text_fits (KPt.hd2 hl), ?_⟩);
  refine wpAny_bind (wpAny_of_eq (a := some _) rfl ?_)
  refine wpAny_pure ?_; refine wpAny_pure ?_
  refine after_intZ (n := n) (by kpc_g) rfl rfl rfl hz rfl (by kpc_none) ?_; intro _ _
  -- (
  refine KPc.turn ?_; kpc_check; (repeat kpc_if)
  refine wpAny_pure ?_; kpt_piece
  -- %s
  refine KPc.turn ?_; kpc_check; (repeat kpc_if)
  refine wpAny_bind ?_; refine wpAny_holding ?_; (repeat kpc_if)
  kpt_conv
  refine wpAny_pure ?_; refine wpAny_pure ?_
  refine KPc.after_str (by kpc_g) hn (by kpc_obj) ?_; intro _ _
  -- )
  refine KPc.turn ?_; kpc_check; (repeat kpc_if)
  refine wpAny_pure ?_; kpt_piece
  refine KPc.turn ?_; kpc_check; (repeat kpc_if)
  refine wpAny_pure ?_; kpc_if
  refine KPc.finish_ok (by kpc_g) (by decide +kernel) (by exact rfl) ?_
  exact hQ
open Builtin Builtin.Str in
theorem meets_S {t u : Tok} (z : Str) (hz : z.length ≤ 1000000) : Meets («str.__mod__» ⟨[.str ⟨#[123, 37, 115, 125]⟩ t, .str z u], []⟩) (fun _ R s => ∀ t' k, R (.ok (.ret (.str ("{" ++ z ++ "}") t'))) { s with toks := k }) := by
  kpc_run_s
section
variable {w : World} {mg mb : Str → Option Value} {hb : Heap} {A : Around} {env : Env} {X : List Addr} {δ : List (Str × PyData)} {sE s : Shared} {d d₁ d₂ : PyData} {C : Shared → Prop} {e e₁ e₂ : Expr} {p p' : Pos} {i j : Int} {x y : Str}
theorem log_of {n : Int} (h : n.natAbs < 10 ^ 570) : n.natAbs.log2 < 1920 := by
  by_cases h0 : n.natAbs = 0
  · rw [h0]; decide
  · exact (Nat.log2_lt h0).mpr (Nat.lt_of_lt_of_le h (by decide +kernel))
theorem text_len {n : Int} (h : n.natAbs < 10 ^ 570) : (Str.ofString (toString n)).length ≤ 571 := by
  by_cases hn : n < 0
  · rw [len_text_neg hn]
    have := toString_length_le (v := 0 - n) (k := 570) (by omega) (by decide) (by omega)
    omega
  · have := toString_length_le (v := n) (k := 570) (by omega) (by decide) (by omega)
    omega
theorem ev_modS (hC : Closed C) (h1 : Ev w A env X C e₁ (.str x)) (h2 : Ev w A env X C e₂ (.str y)) (hx : x = ⟨#[123, 37, 115, 125]⟩) (hy : y.length ≤ 1000000) : Ev w A env X C (.BinOp e₁ .Mod e₂ p) (.str ("{" ++ y ++ "}")) :=
  ev_binop hC h1 h2 fun s a b c ia ib => by
    obtain ⟨_, rfl⟩ := ia.str; obtain ⟨_, rfl⟩ := ib.str
    exact KPc.mod_str (T := fun z => "{" ++ z ++ "}") hx hy (fun z hz => meets_S z hz) fun t' k => ⟨.toks, is_str⟩
theorem ev_modT {f nm : Str} {n : Int} (hC : Closed C) (h1 : Ev w A env X C e₁ (.str x)) (h2 : Ev w A env X C e₂ (.tuple [.str f, .int n, .str nm])) (hx : x = ⟨#[37, 115, 58, 37, 100, 40, 37, 115, 41]⟩) (hf : f.length ≤ 1000000) (hm : nm.length ≤ 1000000) (hn : n.natAbs < 10 ^ 570) :
    Ev w A env X C (.BinOp e₁ .Mod e₂ p) (.str (stdT f n nm)) :=
  ev_binop hC h1 h2 fun s a b c ia ib => by
    subst hx
    obtain ⟨t, rfl⟩ := ia.str
    obtain ⟨a, vs, rfl, ha, hl, ia⟩ := ib.tup
    obtain ⟨v1, r, rfl, j1, ia⟩ := ia.cons_inv
    obtain ⟨v2, r, rfl, j2, ia⟩ := ia.cons_inv
    obtain ⟨v3, r, rfl, j3, ia⟩ := ia.cons_inv
    obtain rfl := ia.nil_inv
    obtain ⟨ta, rfl⟩ := j1.str
    obtain ⟨tb, rfl⟩ := j2.int
    obtain ⟨tc, rfl⟩ := j3.str
    exact KPt.bin_left (T := "str") (U := "tuple") (op := .Mod) (by decide) (typeIs_str s _ t) hl.typeIs F.fills_str_mod KPt.fills_tuple F.slot_str_mod
      (call_meets F.slot_str_mod (typeIs_str s _ t) F.entry_str_mod (F.args_str_mod_2 _ _) (meets_T hf hm (log_of hn) (Nat.le_trans (text_len hn) (by decide))) ⟨hl, fun t' k => ⟨(fun e => nomatch e), .toks, is_str⟩⟩)
abbrev Ok (x : Str) : Prop := PyData.strOk x = true
theorem shaped_2 {f : Str} {n : Int} (h : Ok f) : shaped (.tuple [.str f, .int n]) = true := by
  simp [shaped, PyData.canLay0, PyData.canLayAll0, PyData.depth, PyData.depthAll, h]
theorem shaped_2s {f n : Str} (h : Ok f) (h' : Ok n) : shaped (.tuple [.str f, .str n]) = true := by
  simp [shaped, PyData.canLay0, PyData.canLayAll0, PyData.depth, PyData.depthAll, h, h']
theorem shaped_3 {f m : Str} {n : Int} (h : Ok f) (h' : Ok m) : shaped (.tuple [.str f, .int n, .str m]) = true := by
  simp [shaped, PyData.canLay0, PyData.canLayAll0, PyData.depth, PyData.depthAll, h, h']
abbrev fn (q : Str × Int × Str) : PyData := .tuple [.str q.1, .int q.2.1, .str q.2.2]
theorem lay_fns : ∀ (l : List (Str × Int × Str)), (∀ q ∈ l, Ok q.1 ∧ Ok q.2.2) → PyData.canLayAll0 (l.map fn) = true
  | [], _ => rfl
  | a :: r, h => by
    have h1 := h a List.mem_cons_self
    have h2 := lay_fns r fun q hq => h q (List.mem_cons_of_mem _ hq)
    simp [PyData.canLay0, PyData.canLayAll0, h1, h2]
theorem dep_fns : ∀ (l : List (Str × Int × Str)), PyData.depthAll (l.map fn) ≤ 1
  | [] => by simp [PyData.depthAll]
  | a :: r => by
    have := dep_fns r
    simp [PyData.depth, PyData.depthAll]
    omega
theorem shaped_fns (l : List (Str × Int × Str)) (h : ∀ q ∈ l, Ok q.1 ∧ Ok q.2.2) : shaped (.list (l.map fn)) = true := by
  have h2 := dep_fns l
  have e : decide (PyData.depthAll (l.map fn) + 1 ≤ 64) = true := decide_eq_true (by omega)
  simp only [shaped, PyData.canLay0, PyData.depth, lay_fns l h, Bool.true_and]
  exact e
def builtIn (f : Str) (n : Int) : Bool := f == "~" && n == 0
def std (f : Str) (n : Int) (nm : Str) : Str :=
  if builtIn f n then (if Txt.startswith nm "<" && Txt.endswith nm ">" then "{" ++ Txt.slice nm (some 1) (some (-1)) ++ "}" else nm)
  else stdT f n nm
theorem eqv_built (f : Str) (n : Int) : PyData.eqv (.tuple [.str f, .int n]) (.tuple [.str "~", .int 0]) = builtIn f n := by
  simp [PyData.eqv, PyData.eqvAll, builtIn]
theorem Cx.xoks {hb : Heap} {env : Env} {X : List Addr} {δ : List (Str × PyData)} {sE : Shared} : ∀ s, Cx hb env X δ sE s → XOk X s := fun _ c => c.xok
theorem con_std (B : Bs w mg mb hb) (k : Nat) (f nm : Str) (n : Int) (hf : f.length ≤ 1000000) (hm : nm.length ≤ 1000000) (hn : n.natAbs < 10 ^ 570) (hok : Ok f) : Con w mg hb (k + 1) (dRecP pw 1).name [.tuple [.str f, .int n, .str nm]] (.str (std f n nm)) := by
  refine con_plain (names := ["func_name"]) B (by rw [recs_eq]; simp) rfl ?_ ?_ ?_ rfl rfl rfl ?_ ?_
  · intro pm cd doc vs hl
    obtain ⟨a, rfl⟩ : ∃ a, vs = [a] := by
      match vs, hl with
      | [a], _ => exact ⟨a, rfl⟩
    kernel_rfl
  · decide +kernel
  · decide +kernel
  · decide +kernel
  · intro A L a cd X sE hA O
    refine ex_if (b := builtIn f n) (C' := fun _ => False) Cx.closed (tst_cmp (X := L :: X) ?_) (fun hb => ?_) (fun hb => ?_) ⟨fun _ h => h.elim⟩
    · rw [← eqv_built]
      have hu : A.units + 65 < cLine := by have := hA.2.2; show _ < 9900; omega
      refine ev_eqD Cx.closed hu (ev_cutT2 Cx.xoks Cx.closed (ev_loc rfl rfl rfl)) (ev_tuple Cx.xoks Cx.closed (evL_cons Cx.closed ev_strC (evL_cons Cx.closed ev_int evL_nil)) (by decide)) (shaped_2 hok) (shaped_2 (by decide +kernel))
    · refine ex_assign O (ev_itemT (d := .str nm) Cx.closed (ev_loc rfl rfl rfl) ev_int (by decide) rfl (by show 3 ≤ 1000; decide)) rfl ?_
      refine ex_if (b := Txt.startswith nm "<" && Txt.endswith nm ">") (C' := fun _ => False) Cx.closed (tst_and Cx.closed (tst_plain (X := L :: X) (ev_meth Cx.closed (ev_loc rfl rfl rfl) (fun _ _ _ _ _ h => GM.startswith h) (evL_cons Cx.closed ev_strC evL_nil) ?_)) fun _ => (tst_plain (X := L :: X) (ev_meth Cx.closed (ev_loc rfl rfl rfl) (fun _ _ _ _ _ h => GM.endswith h) (evL_cons Cx.closed ev_strC evL_nil) ?_))) (fun hc => ?_) (fun hc => ?_) ⟨fun _ h => h.elim⟩
      · intro s t vs c ha
        obtain ⟨v, rfl, i⟩ := one_inv ha
        obtain ⟨u, rfl⟩ := i.str
        exact SC.startswith ⟨.refl s, is_bool⟩
      · intro s t vs c ha
        obtain ⟨v, rfl, i⟩ := one_inv ha
        obtain ⟨u, rfl⟩ := i.str
        exact SC.endswith ⟨.refl s, is_bool⟩
      · have : std f n nm = "{" ++ Txt.slice nm (some 1) (some (-1)) ++ "}" := by unfold std; rw [if_pos hb, if_pos hc]
        rw [this]
        exact ex_ret (X := L :: X) (ev_modS Cx.closed ev_strC (ev_cut (l := some 1) (u := some (-1)) Cx.closed (ev_loc rfl rfl rfl) ev_int (ev_neg ev_int) hm (fun _ _ _ => rfl)) (by decide +kernel) (Nat.le_trans (Txt.slice_le _ _ _) hm)) (fun s s' v c g i => ⟨v, rfl, c.grow.trans g, is_tail i⟩)
      · have : std f n nm = nm := by unfold std; rw [if_pos hb, if_neg (by rw [hc]; exact Bool.false_ne_true)]
        rw [this]
        exact ex_ret (X := L :: X) (ev_loc rfl rfl rfl) (fun s s' v c g i => ⟨v, rfl, c.grow.trans g, is_tail i⟩)
    · have : std f n nm = stdT f n nm := by unfold std; rw [if_neg (by rw [hb]; exact Bool.false_ne_true)]
      rw [this]
      exact ex_ret (X := L :: X) (ev_modT Cx.closed ev_strC (ev_loc rfl rfl rfl) (by decide +kernel) hf hm hn) (fun s s' v c g i => ⟨v, rfl, c.grow.trans g, is_tail i⟩)
end
end Mine

end

section
open PySem PySem.W PySem.Spec PyProof.Rows PySem.SeqAt
set_option Elab.async false
set_option linter.unusedVariables false
set_option maxRecDepth 100000
set_option maxHeartbeats 400000
namespace Mine
section
variable {w : World} {mg mb : Str → Option Value} {hb : Heap} {A : Around} {env : Env} {X : List Addr} {δ : List (Str × PyData)} {sE s : Shared} {d d₁ d₂ : PyData} {C : Shared → Prop} {e e₁ e₂ : Expr} {p p' : Pos} {i j : Int} {x y : Str}
theorem ev_chr {np : Pos} {e : Expr} {pos : Pos} (B : Bs w mg mb hb) (hf : env.scope.kind = .function) (hg : env.globals = mainGlobals) (hbn : env.builtins = builtinsNs) (hk : env.kindOf "chr" = some .globalImplicit)
    (h : Ev w A env X (Cx hb env X δ sE) e (.int i)) (h0 : 0 ≤ i) (h1 : i ≤ 1114111) (he : starEach [e] env = (false, eval e env) :: starEach [] env := by rfl)
    (hq : eval (.Call (.Name "chr" np) [e] [] pos) env = (do callWith pos (← eval (.Name "chr" np) env) [] (backTo pos (starEach [e] env)) (backToKw pos (keywordEach [] env))) := by rfl) :
    Ev w A env X (Cx hb env X δ sE) (.Call (.Name "chr" np) [e] [] pos) (.str (sgn i.toNat)) :=
  ev_callB Cx.closed (nm_built B (glob_out B (by kernel_rfl)) (by kernel_rfl : bootBuiltins "chr" = some (.builtin "chr")) (by decide) hk hf hg hbn) (evL_cons Cx.closed h evL_nil he) (fun s vs c ha => by
    obtain ⟨v, rfl, i⟩ := one_inv ha
    obtain ⟨t, rfl⟩ := i.int
    exact chr_of_range h0 h1 ⟨.toks, is_str⟩) he rfl hq
def alphas : List Int := [0, 1, 2, 4, 7, 8, 9, 10, 11, 12]
def greatC (c : Nat) (fm : Int) : Int := if fm == 0 then c - 32 else 119808 + 52 * (alphas[(fm - 1).toNat]?).getD 0 + c - 97
def unseenL : List Int := [173, 847, 6150, 6155, 6156, 6157, 8203, 8204, 8205, 8288, 65279]
def unseenC (k : Int) : Int := if decide (10 < k) then 65013 + k else (unseenL[k.toNat]?).getD 0
theorem alphas_at {fm : Int} (h0 : 1 ≤ fm) (h1 : fm ≤ 10) : ∃ a, alphas[(fm - 1).toNat]? = some a ∧ 0 ≤ a ∧ a ≤ 12 := by
  have : fm = 1 ∨ fm = 2 ∨ fm = 3 ∨ fm = 4 ∨ fm = 5 ∨ fm = 6 ∨ fm = 7 ∨ fm = 8 ∨ fm = 9 ∨ fm = 10 := by omega
  rcases this with rfl | rfl | rfl | rfl | rfl | rfl | rfl | rfl | rfl | rfl <;> exact ⟨_, rfl, by decide, by decide⟩
theorem unseen_at {k : Int} (h0 : 0 ≤ k) (h1 : k ≤ 10) : ∃ a, unseenL[k.toNat]? = some a ∧ 0 ≤ a ∧ a ≤ 100000 := by
  have : k = 0 ∨ k = 1 ∨ k = 2 ∨ k = 3 ∨ k = 4 ∨ k = 5 ∨ k = 6 ∨ k = 7 ∨ k = 8 ∨ k = 9 ∨ k = 10 := by omega
  rcases this with rfl | rfl | rfl | rfl | rfl | rfl | rfl | rfl | rfl | rfl | rfl <;> exact ⟨_, rfl, by decide, by decide⟩
theorem ex_pre {H : Prop} {l : List Stmt} {P : Flow → Shared → Prop} (h : H → Ex w A env C l P) : Ex w A env (fun s => H ∧ C s) l P := ⟨fun s c => (h c.1).run s c.2⟩
theorem con_great (B : Bs w mg mb hb) (k : Nat) (c : Nat) (fm : Int) (hc : 97 ≤ c ∧ c ≤ 122) (h0 : 0 ≤ fm) (h1 : fm ≤ 10) : Con w mg hb (k + 1) (dRecP pw 8).name [.str (sgn c), .int fm] (.str (sgn (greatC c fm).toNat)) := by
  refine con_plain (names := ["letter", "form"]) B (by rw [recs_eq]; simp) rfl ?_ ?_ ?_ rfl rfl rfl ?_ ?_
  · intro pm cd doc vs hl
    obtain ⟨a, b, rfl⟩ : ∃ a b, vs = [a, b] := by
      match vs, hl with
      | [a, b], _ => exact ⟨a, b, rfl⟩
    kernel_rfl
  · decide +kernel
  · decide +kernel
  · decide +kernel
  · intro A L a cd X sE hA O
    refine ex_if (b := fm == 0) (C' := fun s => fm ≠ 0 ∧ Cx hb (envOf (dRecP pw 8).name (dRecP pw 8).scope L a cd) (L :: X) [("letter", .str (sgn c)), ("form", .int fm)] sE s) Cx.closed (tst_cmp (X := L :: X) (ev_eqI Cx.closed (ev_loc rfl rfl rfl) ev_int)) (fun hb => ?_) (fun hb => ?_) (ex_pre fun hz => ?_)
    · have e : greatC c fm = (c : Int) - 32 := by unfold greatC; rw [if_pos hb]
      rw [e]
      exact ex_ret (X := L :: X) (ev_chr B rfl rfl rfl rfl (ev_sub Cx.closed (ev_ord B rfl rfl rfl rfl (ev_loc rfl rfl rfl)) ev_int) (by omega) (by omega)) (fun s s' v c g i => ⟨v, rfl, c.grow.trans g, is_tail i⟩)
    · exact ex_nil fun s c => ⟨by simpa using hb, c⟩
    · obtain ⟨q, hq, q0, q1⟩ := alphas_at (fm := fm) (by omega) h1
      have e : greatC c fm = 119808 + 52 * q + c - 97 := by unfold greatC; rw [if_neg (by simpa using hz), hq]; rfl
      rw [e]
      refine ex_assign (d := .int q) O (ev_itemL (i := fm - 1) (ds := [.int 0, .int 1, .int 2, .int 4, .int 7, .int 8, .int 9, .int 10, .int 11, .int 12]) Cx.closed (ev_list Cx.xoks Cx.closed (evL_cons Cx.closed ev_int (evL_cons Cx.closed ev_int (evL_cons Cx.closed ev_int (evL_cons Cx.closed ev_int (evL_cons Cx.closed ev_int (evL_cons Cx.closed ev_int (evL_cons Cx.closed ev_int (evL_cons Cx.closed ev_int (evL_cons Cx.closed ev_int (evL_cons Cx.closed ev_int evL_nil)))))))))) (by decide)) (ev_sub Cx.closed (ev_loc rfl rfl rfl) ev_int) (by omega) ?_ (by decide)) rfl ?_
      · show (alphas.map PyData.int)[(fm - 1).toNat]? = _; rw [List.getElem?_map, hq]; rfl
      · exact ex_retF (ev_chr B rfl rfl rfl rfl (ev_sub Cx.closed (ev_add Cx.closed (ev_add Cx.closed ev_int (ev_mul Cx.closed ev_int (ev_loc rfl rfl rfl) (IntMulOk.of_left (by decide)))) (ev_ord B rfl rfl rfl rfl (ev_loc rfl rfl rfl))) ev_int) (by omega) (by omega))
theorem con_unseen (B : Bs w mg mb hb) (k : Nat) (i : Int) (h0 : 0 ≤ i) (h1 : i ≤ 26) : Con w mg hb (k + 1) (dRecP pw 9).name [.int i] (.str (sgn (unseenC i).toNat)) := by
  refine con_plain (names := ["k"]) B (by rw [recs_eq]; simp) rfl ?_ ?_ ?_ rfl rfl rfl ?_ ?_
  · intro pm cd doc vs hl
    obtain ⟨a, rfl⟩ : ∃ a, vs = [a] := by
      match vs, hl with
      | [a], _ => exact ⟨a, rfl⟩
    kernel_rfl
  · decide +kernel
  · decide +kernel
  · decide +kernel
  · intro A L a cd X sE hA O
    refine ex_retF (ev_ifexp (c := decide (10 < i)) Cx.closed (tst_cmp (X := L :: X) (ev_gtI Cx.closed (ev_loc rfl rfl rfl) ev_int)) (fun hc => ?_) (fun hc => ?_))
    · have e : unseenC i = 65013 + i := by unfold unseenC; rw [if_pos hc]
      rw [e]
      exact ev_chr B rfl rfl rfl rfl (ev_add Cx.closed ev_int (ev_loc rfl rfl rfl)) (by omega) (by omega)
    · have hc' : i ≤ 10 := by have := of_decide_eq_false hc; omega
      obtain ⟨q, hq, q0, q1⟩ := unseen_at h0 hc'
      have e : unseenC i = q := by unfold unseenC; rw [if_neg (by rw [hc]; exact Bool.false_ne_true), hq]; rfl
      rw [e]
      refine ev_chr B rfl rfl rfl rfl (ev_itemL (i := i) (ds := [.int 173, .int 847, .int 6150, .int 6155, .int 6156, .int 6157, .int 8203, .int 8204, .int 8205, .int 8288, .int 65279]) Cx.closed (ev_list Cx.xoks Cx.closed (evL_cons Cx.closed ev_int (evL_cons Cx.closed ev_int (evL_cons Cx.closed ev_int (evL_cons Cx.closed ev_int (evL_cons Cx.closed ev_int (evL_cons Cx.closed ev_int (evL_cons Cx.closed ev_int (evL_cons Cx.closed ev_int (evL_cons Cx.closed ev_int (evL_cons Cx.closed ev_int (evL_cons Cx.closed ev_int evL_nil))))))))))) (by decide)) (ev_loc rfl rfl rfl) h0 ?_ (by decide)) (by omega) (by omega)
      · show (unseenL.map PyData.int)[i.toNat]? = _; rw [List.getElem?_map, hq]; rfl
end
end Mine

end

section
open PySem PySem.W PySem.Spec PyProof.Rows PySem.SeqAt
set_option Elab.async false
set_option linter.unusedVariables false
set_option maxRecDepth 100000
namespace Mine
section
variable {w : World} {mg mb : Str → Option Value} {hb : Heap} {A : Around} {env : Env} {X : List Addr} {δ γ : List (Str × PyData)} {sE s : Shared} {d d₁ d₂ : PyData} {C : Shared → Prop} {e e₁ e₂ : Expr} {p p' : Pos} {i j : Int} {x y : Str}
/-- a scope of a comprehension that draws only on cells and globals -/
structure CompOk (scope : Scope) (cl : List (Str × Addr)) (env : Env) (x : Str) (δ γ : List (Str × PyData)) : Prop where
  clos : closureFor scope env = pure cl
  cell : ∀ y ∈ scope.names, y.2 ≠ .cell
  kind : scope.kind = .function
  names : ∀ y ∈ scope.names, y.2 = .local → scope.names.lookup y.1 = some .local
  var : scope.names.lookup x = some .local
  fresh : γ.lookup x = none
  loc : ∀ y d C, γ.lookup y = some d → (compEnvC scope cl C env).kindOf y ≠ some .local
  out : ∀ y d, γ.lookup y = some d → δ.lookup y = some d ∧ env.kindOf y = some .cell ∧ cl.lookup y = env.cells.lookup y
/-- the tests of a comprehension -/
structure Tsts (w : World) (A : Around) (env : Env) (C : Shared → Prop) (ifs : List Expr) (b : Bool) : Prop where
  run : ∀ s E', C s → wpAny (model pw w) A (forIn ifs true fun c r => if r = true then do let ok ← isTrue c env (eval c env); pure (ForInStep.yield ok) else pure (ForInStep.yield r)) (fun ok s' => ok = b ∧ Grow s s') E' s
theorem tsts_nil : Tsts w A env C [] true := ⟨fun s E' _ => by
  rw [List.forIn_nil]
  exact wpAny_pure ⟨rfl, .refl s⟩⟩
theorem tsts_one {t : Expr} {b : Bool} (h : Tst w A env C t b) : Tsts w A env C [t] b := ⟨fun s E' hs => by
  rw [List.forIn_cons]
  rw [if_pos rfl]
  refine wpAny_bind (wpAny_bind (wpAny_mono (h.run s hs) (fun c s1 ⟨g, i⟩ => wpAny_pure ?_) fun _ _ h => h.elim))
  show wpAny _ _ (forIn [] c _) _ _ _
  rw [List.forIn_nil]
  exact wpAny_pure ⟨i, g⟩⟩
/-- the source of a comprehension or a loop -/
structure Src (w : World) (A : Around) (env : Env) (X : List Addr) (C : Shared → Prop) (iter : Expr) (ds : List PyData) : Prop where
  run : ∀ s, C s → wpAny (model pw w) A (eval iter env) (fun xv s₁ => Grow s s₁ ∧ ∀ E, wpAny (model pw w) A (pyIter xv) (fun it s₂ => ∃ o fp P St, it = .ref s₁.heap.objs.size ∧ s₂ = { s₁ with heap := s₁.heap.push o } ∧ o.isFreed = false ∧
    (∀ A' : Around, A'.handled = none → Walks pw w A' s₁.heap.objs.size fp [s₁.heap.objs.size] ds.length P St) ∧ St 0 (s₁.heap.push o) ∧ (∀ b ∈ fp, b < s₁.heap.objs.size + 1) ∧ (∀ i v, P i v → ∃ d, ds[i]? = some d ∧ Is X s₁.heap v d) ∧ (∀ b ∈ fp, b = s₁.heap.objs.size ∨ b ∉ X) ∧ ∀ i h, St i h → ∃ o, h.get? s₁.heap.objs.size = some o) E s₁) No s
theorem src_list {iter : Expr} {ds : List PyData} (h : Ev w A env X C iter (.list ds)) : Src w A env X C iter ds := ⟨fun s hs =>
  wpAny_mono (h.run s hs) (fun xv s₁ ⟨g, i⟩ => by
    refine ⟨g, fun E => ?_⟩
    obtain ⟨a, vs, rfl, ha, hl, ia⟩ := i.lst
    have hlt : a < s₁.heap.objs.size := by obtain ⟨o, ho, _⟩ := hl; exact Heap.lt_size ho
    refine wpAny_pyIter_list hl ⟨_, [s₁.heap.objs.size, a], (fun i v => vs.toArray[i]? = some v), (fun i h => h.IsListIter s₁.heap.objs.size a i ∧ h.IsList a vs.toArray), rfl, rfl, rfl, fun A' hA => ?_, ⟨⟨_, Heap.get?_push_size _ rfl, rfl, rfl⟩, hl.push _⟩, ?_, ?_, ?_, fun i h st => by obtain ⟨⟨o, ho, _⟩, _⟩ := st; exact ⟨o, ho⟩⟩
    · have := Walks.list (prog := pw) (w := w) hA s₁.heap.objs.size a (Nat.ne_of_lt hlt) vs.toArray
      have e : vs.toArray.size = ds.length := by rw [List.size_toArray, ia.length]
      rw [e] at this
      exact this
    · intro b hb
      rcases List.mem_cons.mp hb with rfl | hb
      · exact Nat.lt_succ_self _
      · rw [List.mem_singleton.mp hb]; exact Nat.lt_succ_of_lt hlt
    · intro i v hv
      have hv : vs[i]? = some v := by simpa using hv
      have hlt2 : i < ds.length := by rw [← ia.length]; exact (List.getElem?_eq_some_iff.mp hv).1
      obtain ⟨v', hv', iv⟩ := ia.get i _ (List.getElem?_eq_getElem hlt2)
      rw [hv] at hv'
      cases hv'
      exact ⟨_, List.getElem?_eq_getElem hlt2, iv⟩
    · intro b hb
      rcases List.mem_cons.mp hb with rfl | hb
      · exact .inl rfl
      · rw [List.mem_singleton.mp hb]; exact .inr ha) fun _ _ h => h⟩
def sgns (x : Str) : List PyData := x.cps.toList.map fun c => .str (sgn c)
theorem src_str {iter : Expr} {x : Str} (h : Ev w A env X C iter (.str x)) : Src w A env X C iter (sgns x) := ⟨fun s hs =>
  wpAny_mono (h.run s hs) (fun xv s₁ ⟨g, i⟩ => by
    refine ⟨g, fun E => ?_⟩
    obtain ⟨t, rfl⟩ := i.str
    have hlen : x.cps.size = (sgns x).length := by simp [sgns]
    refine wpAny_pyIter_strU ?_
    refine ⟨_, [s₁.heap.objs.size], SignAt x, fun i h => h.IsStrIter s₁.heap.objs.size (strIterType x) x t i, rfl, rfl, rfl, fun A' hA => ?_, ⟨_, Heap.get?_push_size _ rfl, rfl, rfl⟩, ?_, ?_, fun b hb => .inl (List.mem_singleton.mp hb), fun i h st => by obtain ⟨o, ho, _⟩ := st; exact ⟨o, ho⟩⟩
    · rw [← hlen]
      cases ha : x.cps.all (· < 128)
      · have e : strIterType x = "str_iterator" := by simp [strIterType, ha]
        rw [e]; exact Walks.strWide hA _ x t
      · have e : strIterType x = "str_ascii_iterator" := by simp [strIterType, ha]
        rw [e]; exact Walks.strAscii hA _ x t
    · intro b hb
      rw [List.mem_singleton.mp hb]; exact Nat.lt_succ_self _
    · rintro i v ⟨c, u, hc, rfl⟩
      refine ⟨.str (sgn c), ?_, is_str⟩
      rw [sgns, List.getElem?_map, Array.getElem?_toList, hc]; rfl) fun _ _ h => h⟩
theorem ev_compG {elt iter : Expr} {v : Str} {px : Pos} {ifs : List Expr} {scope : Scope} {cl : List (Str × Addr)} {pos : Pos} {ds ds' : List PyData} (hh : A.handled = none) (pz : Value → Bool) (F : Value → Value → Prop)
    (K : CompOk scope cl env v δ γ) (src : Src w A env X (Cx hb env X δ sE) iter ds) (hlen : ds.length ≤ 1000)
    (htest : ∀ C d u sE' h, d ∈ ds → Is X h u d → Tsts w A (compEnvC scope cl C env) (Cx hb (compEnvC scope cl C env) X ((v, d) :: γ) sE') ifs (pz u))
    (helt : ∀ C d u sE' h, d ∈ ds → Is X h u d → pz u = true → ∃ d', Ev w A (compEnvC scope cl C env) X (Cx hb (compEnvC scope cl C env) X ((v, d) :: γ) sE') elt d' ∧ ∀ h y, Is X h y d' → F u y)
    (hres : ∀ h₁ (vs ys : List Value), vs.length = ds.length → (∀ (j : Nat) u, vs[j]? = some u → ∃ d, ds[j]? = some d ∧ Is X h₁ u d) → Paired F (vs.filter pz) ys → ∀ h' : Heap, (∀ b o, h₁.get? b = some o → h'.get? b = some o) → IsAll X h' ys ds')
    (hs : ∀ x, foldedSetIterable iter env x = pure x := by intro _; rfl) : Ev w A env X (Cx hb env X δ sE) (.ListComp elt [⟨.Name v px, iter, ifs, 0⟩] scope pos) (.list ds') := ⟨fun s c => by
  refine wpAny_ListComp_free pz F K.clos K.cell K.kind K.names K.var (wpAny_mono (src.run s c) (fun xv s₁ ⟨g1, h1⟩ => wpAny_mono (h1 _) (fun it s₂ h2 => ?_) fun _ _ h => h) fun _ _ h => h) hs
  obtain ⟨o, fp, P, St, rfl, rfl, hfr, W, hst, hfp, hP, _, _⟩ := h2
  have c1 := Cx.closed s s₁ c g1
  have hwr : ∀ b o, s₁.heap.get? b = some o → b ∉ [s₁.heap.objs.size] := fun b o e q => by rw [List.mem_singleton.mp q] at e; exact absurd (Heap.lt_size e) (Nat.lt_irrefl _)
  have keep : ∀ {s₃ : Shared}, (∀ b o', b ∉ [s₁.heap.objs.size] → (s₁.heap.push o).get? b = some o' → s₃.heap.get? b = some o') → ∀ b o, s₁.heap.get? b = some o → s₃.heap.get? b = some o := fun hk b o' e => hk b o' (hwr b o' e) (Heap.get?_push_of_some _ e)
  have ctx : ∀ {Cl : Addr} {s₃ : Shared} {m₃ : Str → Option Value} {u : Value} {d : PyData}, s₃.heap.Ns Cl m₃ → m₃ v = some u → (∀ b o', b ∉ [s₁.heap.objs.size] → (s₁.heap.push o).get? b = some o' → s₃.heap.get? b = some o') → Is X s₁.heap u d →
      Cx hb (compEnvC scope cl Cl env) X ((v, d) :: γ) { s₃ with heap := s₁.heap } s₃ := by
    intro Cl s₃ m₃ u d hn hm hk iu
    have k1 := keep hk
    refine ⟨⟨⟨s₃.heap, s₃.toks, rfl⟩, k1⟩, fun b o e => k1 b o (c1.base b o e), fun a ha => (c1.xok a ha).imp fun o e => k1 a o e, ⟨m₃, hn, fun y d' e1 e2 => ?_⟩, fun y d' e1 e2 => ?_⟩
    · rw [List.lookup_cons] at e1
      cases hq : y == v with
      | true => rw [hq] at e1; cases e1; exact ⟨u, by rw [beq_iff_eq.mp hq]; exact hm, iu.grow k1⟩
      | false => rw [hq] at e1; exact absurd e2 (K.loc y d' Cl e1)
    · rw [List.lookup_cons] at e1
      cases hq : y == v with
      | true =>
        have : (compEnvC scope cl Cl env).kindOf v = some .local := lookup_relabel_local K.var
        rw [beq_iff_eq.mp hq, this] at e2; cases e2
      | false =>
        rw [hq] at e1
        obtain ⟨k1', k2, k3⟩ := K.out y d' e1
        obtain ⟨c', v', h1', ⟨o', ho', hd'⟩, h3'⟩ := c1.cel y d' k1' k2
        exact ⟨c', v', k3.trans h1', ⟨o', k1 c' o' ho', hd'⟩, h3'.grow k1⟩
  refine ⟨_, fp, [s₁.heap.objs.size], _, P, St, rfl, W A hh, ?_, hst, ?_, ⟨?_, ?_⟩, ?_⟩
  · rw [sizeLine_eq]; omega
  · intro b hb
    show b < (s₁.heap.push o).objs.size
    rw [Heap.size_push]
    exact hfp b hb
  · intro Cl i u s₃ m₃ E' hCl hPi hn hm hk _
    obtain ⟨d, hd, iu⟩ := hP i u hPi
    exact (htest Cl d u { s₃ with heap := s₁.heap } _ (List.mem_of_getElem? hd) iu).run s₃ E' (ctx hn hm hk iu) |> fun h => wpAny_mono h (fun ok s₄ ⟨h1, ⟨⟨h', tk, e⟩, k⟩⟩ => ⟨h1, h', tk, e, by rw [e] at k; exact k⟩) fun _ _ h => h
  · intro Cl i u s₃ m₃ E' hCl hPi hpz hn hm hk _
    obtain ⟨d, hd, iu⟩ := hP i u hPi
    obtain ⟨d', he, hF⟩ := helt Cl d u { s₃ with heap := s₁.heap } _ (List.mem_of_getElem? hd) iu hpz
    exact wpAny_mono (he.run s₃ (ctx hn hm hk iu)) (fun y s₄ ⟨⟨⟨h', tk, e⟩, k⟩, iy⟩ => ⟨hF _ y iy, h', tk, e, by rw [e] at k; exact k⟩) fun _ _ h => h.elim
  · intro D h' tk ys vs hD hl _ hlen' hPs hF hk
    have k1 : ∀ b o, s₁.heap.get? b = some o → h'.get? b = some o := fun b o' e => hk b o' (hwr b o' e) (Heap.get?_push_of_some _ e)
    refine ⟨g1.trans (.mk' k1), is_lst (vs := ys.toList) (by simpa using hl) (fun q => ?_) (hres s₁.heap vs ys.toList hlen' (fun j u hu => hP j u (hPs j u hu)) hF h' k1)⟩
    obtain ⟨o', ho'⟩ := c1.xok D q
    have := Heap.get?_push_of_some o ho'
    rw [hD] at this
    cases this⟩
-- scalars
def dat : Value → PyData
  | .int i _ => .int i
  | .str x _ => .str x
  | _ => .none
def Sc : PyData → Prop
  | .int _ => True
  | .str _ => True
  | _ => False
theorem Is.dat {h : Heap} {v : Value} (i : Is X h v d) (hd : Sc d) : dat v = d := by
  cases d <;> first | exact hd.elim | skip
  · obtain ⟨t, rfl⟩ := i.int; rfl
  · obtain ⟨t, rfl⟩ := i.str; rfl
theorem is_of_dat {h : Heap} {v : Value} (e : dat v = d) (hd : Sc d) : Is X h v d := by
  cases v <;> (unfold dat at e; subst e; first | exact hd.elim | exact is_int | exact is_str)
theorem pair_scal {pz : PyData → Bool} {g : PyData → PyData} {h₁ h' : Heap} : ∀ (ds : List PyData) (vs ys : List Value), (∀ d ∈ ds, Sc d) → (∀ d ∈ ds, Sc (g d)) → vs.length = ds.length → (∀ (j : Nat) u, vs[j]? = some u → ∃ d, ds[j]? = some d ∧ Is X h₁ u d) →
    Paired (fun u y => dat y = g (dat u)) (vs.filter fun u => pz (dat u)) ys → IsAll X h' ys ((ds.filter pz).map g)
  | [], vs, ys, _, _, hl, _, hp => by
    have : vs = [] := List.length_eq_zero_iff.mp hl
    subst this
    cases hp
    exact isAll_nil
  | d :: ds, vs, ys, hs, hg, hl, hv, hp => by
    match vs, hl with
    | u :: vs, hl =>
      obtain ⟨d', e, iu⟩ := hv 0 u rfl
      cases e
      have hu := iu.dat (hs d List.mem_cons_self)
      have ih : ∀ ys, Paired (fun u y => dat y = g (dat u)) (vs.filter fun u => pz (dat u)) ys → IsAll X h' ys ((ds.filter pz).map g) := fun ys hp => pair_scal ds vs ys (fun d hd => hs d (List.mem_cons_of_mem _ hd)) (fun d hd => hg d (List.mem_cons_of_mem _ hd)) (by simpa using hl) (fun j u hu => hv (j + 1) u hu) hp
      rw [List.filter_cons] at hp ⊢
      rw [hu] at hp
      cases hq : pz d with
      | true =>
        rw [hq, if_pos rfl] at hp
        rw [if_pos rfl, List.map_cons]
        cases hp with
        | cons a b => exact isAll_cons (is_of_dat (by rw [a, hu]) (hg d List.mem_cons_self)) (ih _ b)
      | false =>
        rw [hq, if_neg Bool.false_ne_true] at hp
        rw [if_neg Bool.false_ne_true]
        exact ih _ hp
theorem ev_compS {elt iter : Expr} {v : Str} {px : Pos} {ifs : List Expr} {scope : Scope} {cl : List (Str × Addr)} {pos : Pos} {ds : List PyData} (hh : A.handled = none) (pz : PyData → Bool) (g : PyData → PyData)
    (K : CompOk scope cl env v δ γ) (src : Src w A env X (Cx hb env X δ sE) iter ds) (hlen : ds.length ≤ 1000) (hsc : ∀ d ∈ ds, Sc d) (hsg : ∀ d ∈ ds, Sc (g d))
    (htest : ∀ C d sE', d ∈ ds → Tsts w A (compEnvC scope cl C env) (Cx hb (compEnvC scope cl C env) X ((v, d) :: γ) sE') ifs (pz d))
    (helt : ∀ C d sE', d ∈ ds → pz d = true → Ev w A (compEnvC scope cl C env) X (Cx hb (compEnvC scope cl C env) X ((v, d) :: γ) sE') elt (g d))
    (hs : ∀ x, foldedSetIterable iter env x = pure x := by intro _; rfl) : Ev w A env X (Cx hb env X δ sE) (.ListComp elt [⟨.Name v px, iter, ifs, 0⟩] scope pos) (.list ((ds.filter pz).map g)) :=
  ev_compG hh (fun u => pz (dat u)) (fun u y => dat y = g (dat u)) K src hlen
    (fun C d u sE' h hd iu => by rw [iu.dat (hsc d hd)]; exact htest C d sE' hd)
    (fun C d u sE' h hd iu hp => by
      rw [iu.dat (hsc d hd)] at hp ⊢
      exact ⟨_, helt C d sE' hd hp, fun h y iy => iy.dat (hsg d hd)⟩)
    (fun h₁ vs ys hl hv hp h' hk => pair_scal ds vs ys hsc hsg hl hv hp) hs
/-- none passes -/
theorem ev_compN {elt iter : Expr} {v : Str} {px : Pos} {ifs : List Expr} {scope : Scope} {cl : List (Str × Addr)} {pos : Pos} {ds : List PyData} (hh : A.handled = none)
    (K : CompOk scope cl env v δ γ) (src : Src w A env X (Cx hb env X δ sE) iter ds) (hlen : ds.length ≤ 1000)
    (htest : ∀ C d sE', d ∈ ds → Tsts w A (compEnvC scope cl C env) (Cx hb (compEnvC scope cl C env) X ((v, d) :: γ) sE') ifs false)
    (hs : ∀ x, foldedSetIterable iter env x = pure x := by intro _; rfl) : Ev w A env X (Cx hb env X δ sE) (.ListComp elt [⟨.Name v px, iter, ifs, 0⟩] scope pos) (.list []) :=
  ev_compG hh (fun u => false) (fun u y => True) K src hlen
    (fun C d u sE' h hd iu => htest C d sE' hd)
    (fun C d u sE' h hd iu hp => by cases hp)
    (fun h₁ vs ys hl hv hp h' hk => by
      rw [List.filter_eq_nil_iff.mpr (by simp)] at hp
      cases hp
      exact isAll_nil) hs
end
end Mine

end

section
open PySem PySem.W PySem.Spec PyProof.Rows PySem.SeqAt
set_option Elab.async false
set_option linter.unusedVariables false
set_option maxRecDepth 100000
namespace Mine
section
variable {w : World} {mg mb : Str → Option Value} {hb : Heap} {A : Around} {env : Env} {X : List Addr} {δ γ : List (Str × PyData)} {sE s : Shared} {d d₁ d₂ : PyData} {C : Shared → Prop} {e e₁ e₂ : Expr} {p p' : Pos} {i j : Int} {x y : Str}
theorem strs_of {h : Heap} : ∀ {vs : List Value} {ts : List Str}, IsAll X h vs (ts.map .str) → ∃ l : List (Str × Tok), vs = strValues l ∧ l.map (·.1) = ts
  | vs, [], j => ⟨[], j.nil_inv, rfl⟩
  | vs, t :: ts, j => by
    obtain ⟨v, r, rfl, i, q⟩ := j.cons_inv
    obtain ⟨u, rfl⟩ := i.str
    obtain ⟨l, rfl, rfl⟩ := strs_of q
    exact ⟨(t, u) :: l, rfl, rfl⟩
theorem ev_join {o e : Expr} {apos pos : Pos} {texts : List Str} (hC : Closed C) (ho : Ev w A env X C o (.str x)) (ha : Ev w A env X C e (.list (texts.map .str))) (hok : JoinOk x texts = true)
    (hst : ∀ pl, eval (.Call (.Attribute o "join" apos) [e] [] pos) env = (do
      let ov ← eval o env
      standAt apos.atName
      let (f, first) ← holding [ov] (getMethod ov "join" pl)
      callWith pos f first (backTo pos (starEach [e] env)) []) → True := by intros; trivial)
    {pl : Sem Bool} (he : eval (.Call (.Attribute o "join" apos) [e] [] pos) env = (do
      let ov ← eval o env
      standAt apos.atName
      let (f, first) ← holding [ov] (getMethod ov "join" pl)
      callWith pos f first (backTo pos (starEach [e] env)) []) := by rfl)
    (he' : starEach [e] env = (false, eval e env) :: starEach [] env := by rfl) :
    Ev w A env X C (.Call (.Attribute o "join" apos) [e] [] pos) (.str (Txt.join x texts)) :=
  ev_meth hC ho (fun _ _ _ _ _ h => GM.join h) (evL_cons hC ha evL_nil he') (fun s t vs c ha => by
    obtain ⟨v, rfl, i⟩ := one_inv ha
    obtain ⟨a, vs, rfl, _, hl, ia⟩ := i.lst
    obtain ⟨l, rfl, hl'⟩ := strs_of ia
    exact SC.join hl hl' hok fun t' k => ⟨.toks, is_str⟩) he he'
def lensOk (l : List (Int × Str)) : Bool := l.all fun q => decide (q.2.length ≤ 20)
theorem dict_lens : lensOk (dPairs pw) = true := by
  unfold pw
  rw [PySem.W.Fast.te9825827541071483010]
  kernel_rfl
theorem mem_lookup {k : Int} {v : Str} : ∀ {l : List (Int × Str)}, l.lookup k = some v → (k, v) ∈ l
  | (q, u) :: r, h => by
    rw [List.lookup_cons] at h
    cases hq : k == q with
    | true => rw [hq] at h; cases h; rw [beq_iff_eq.mp hq]; exact List.mem_cons_self
    | false => rw [hq] at h; exact List.mem_cons_of_mem _ (mem_lookup h)
theorem b3_len (c : Nat) : (b3 c).length ≤ 20 := by
  unfold b3
  cases e : (dPairs pw).lookup (c : Int) with
  | some x =>
    have := List.all_eq_true.mp dict_lens _ (mem_lookup e)
    exact of_decide_eq_true this
  | none =>
    have := len_lower (⟨#[c]⟩ : Str)
    have e : (⟨#[c]⟩ : Str).length = 1 := rfl
    dsimp only
    omega
def keptL (x : Str) : List Nat := x.cps.toList.filter fun c => !b1L.contains c
def prep (x : Str) : Str := Txt.join "" ((keptL x).map b3)
def hd0 (y : Str) : Nat := y.cps.getD 0 0
def pzP : PyData → Bool
  | .str y => !b1L.contains (hd0 y)
  | _ => false
def gP : PyData → PyData
  | .str y => .str (b3 (hd0 y))
  | _ => .none
theorem hd0_sgn (c : Nat) : hd0 (sgn c) = c := rfl
theorem prep_list (l : List Nat) : ((l.map fun c => PyData.str (sgn c)).filter pzP).map gP = ((l.filter fun c => !b1L.contains c).map b3).map PyData.str := by
  induction l with
  | nil => rfl
  | cons c r ih =>
    rw [List.map_cons, List.filter_cons, List.filter_cons]
    have e : pzP (.str (sgn c)) = !b1L.contains c := rfl
    rw [e]
    cases !b1L.contains c with
    | true => rw [if_pos rfl, if_pos rfl, List.map_cons, List.map_cons, List.map_cons, ih]; rfl
    | false => rw [if_neg Bool.false_ne_true, if_neg Bool.false_ne_true, ih]
theorem sum_b3 : ∀ l : List Nat, ((l.map b3).map (·.length)).sum ≤ 20 * l.length
  | [] => Nat.le_refl _
  | c :: r => by
    have h1 := sum_b3 r
    have h2 := b3_len c
    simp only [List.map_cons, List.sum_cons, List.length_cons]
    omega
theorem con_prepared (B : Bs w mg mb hb) (k : Nat) (x : Str) (hx : x.length ≤ 1000) : Con w mg hb (k + 2) (dRecP pw 10).name [.str x] (.str (prep x)) := by
  have hlen : x.cps.toList.length ≤ 1000 := by simpa [Str.length] using hx
  refine con_plain (k := k + 1) (names := ["text"]) B (by rw [recs_eq]; simp) rfl ?_ ?_ ?_ rfl rfl rfl ?_ ?_
  · intro pm cd doc vs hl
    obtain ⟨a, rfl⟩ : ∃ a, vs = [a] := by
      match vs, hl with
      | [a], _ => exact ⟨a, rfl⟩
    kernel_rfl
  · decide +kernel
  · decide +kernel
  · decide +kernel
  · intro A L a cd X sE hA O
    refine ex_retF (ev_join Cx.closed ev_strC ?_ ?_ (fun _ _ => trivial))
    · rw [keptL, ← prep_list]
      refine ev_compS (γ := []) hA.1 pzP gP ⟨closureFor_none (by decide +kernel), by decide +kernel, rfl, by decide +kernel, rfl, rfl, (fun _ _ _ h => nomatch h), (fun _ _ h => nomatch h)⟩ (src_str (ev_loc rfl rfl rfl)) (by simpa [sgns] using hlen) ?_ ?_ ?_ ?_
      · intro d hd
        obtain ⟨c, _, rfl⟩ := List.mem_map.mp hd
        trivial
      · intro d hd
        obtain ⟨c, _, rfl⟩ := List.mem_map.mp hd
        trivial
      · intro C d sE' hd
        obtain ⟨c, _, rfl⟩ := List.mem_map.mp hd
        exact tsts_one (tst_not (tst_plain (X := L :: X) (ev_own B hA (con_in_b1 B k c) ⟨dRecP pw 4, by rw [recs_eq]; simp, rfl⟩ rfl rfl rfl (evL_cons Cx.closed (ev_loc rfl rfl rfl) evL_nil))))
      · intro C d sE' hd _
        obtain ⟨c, _, rfl⟩ := List.mem_map.mp hd
        exact ev_own B hA (con_b3 B k c) ⟨dRecP pw 6, by rw [recs_eq]; simp, rfl⟩ rfl rfl rfl (evL_cons Cx.closed (ev_loc rfl rfl rfl) evL_nil)
    · refine joinOk_of ?_
      have h1 := sum_b3 (keptL x)
      have h2 : (keptL x).length ≤ x.cps.toList.length := List.length_filter_le _ _
      have h3 : ("" : Str).length = 0 := rfl
      rw [h3]
      omega
end
end Mine

end

section
open PySem PySem.W PySem.Spec PyProof.Rows PySem.SeqAt
set_option Elab.async false
set_option linter.unusedVariables false
set_option maxRecDepth 100000
namespace Mine
section
variable {w : World} {mg mb : Str → Option Value} {hb : Heap} {A : Around} {env : Env} {X : List Addr} {δ γ : List (Str × PyData)} {sE s : Shared} {d d₁ d₂ d₃ : PyData} {C : Shared → Prop} {e e₁ e₂ : Expr} {p p' : Pos} {i j : Int} {x y : Str} {rest : List Stmt} {P : Flow → Shared → Prop}
theorem ex_store2 {x : Str} {v : Value} {Q : Unit → Shared → Prop} (O : EnvOk hb env X sE) (c : Cx hb env X δ sE s) (i : Is X s.heap v d) (hk : env.kindOf x = some .local)
    (h : ∀ s', Cx hb env X ((x, d) :: δ) sE s' → (∀ v d, Is X s.heap v d → Is X s'.heap v d) → Q () s') : wpAny (model pw w) A (storeName env x v) Q No s := by
  obtain ⟨m, h1, h2⟩ := c.ns
  refine wpAny_storeName_local hk h1 (fun h' hn hs => h _ (c.store O i h1 h2 hk hn hs) fun v d i => i.mono fun b o hb e => ⟨hb, (hs.2 b (fun q => hb (q ▸ O.LX))).trans e⟩) ?_
  rw [O.kind]; rfl
theorem ext_grow {s : Shared} {h' : Heap} (he : Heap.ExtBut s.heap.objs.size s.heap h') : Grow s { s with heap := h' } :=
  .mk' (k := s.toks) fun b o e => he b o (Nat.ne_of_lt (Heap.lt_size e)) e
theorem ex_pairSw {a b : Str} {elts : List Expr} {k : Nat} {tpos pos : Pos} (hh : A.handled = none) (O : EnvOk hb env X sE) (h : Ev w A env X (Cx hb env X δ sE) e (.tuple [d₁, d₂])) (ha : env.kindOf a = some .local) (hb' : env.kindOf b = some .local)
    (hw : swappedStores [.Tuple elts k tpos] e env = pure (some [a, b])) (hr : Ex w A env (Cx hb env X ((a, d₁) :: (b, d₂) :: δ) sE) rest P)
    (hs : swapsWithSole [.Tuple elts k tpos] e pos.line env = pure false := by rfl) : Ex w A env (Cx hb env X δ sE) (.Assign [.Tuple elts k tpos] e pos :: rest) P := ⟨fun s c => by
  refine wpAny_execs_cons (Assign_Tuple_swapped (wpAny_mono (h.run s c) (fun v s1 ⟨g, i⟩ => ?_) fun _ _ h => h) hs hw)
  obtain ⟨t, vs, rfl, _, ht, ia⟩ := i.tup
  obtain ⟨v1, r, rfl, j1, ia⟩ := ia.cons_inv
  obtain ⟨v2, r, rfl, j2, ia⟩ := ia.cons_inv
  obtain rfl := ia.nil_inv
  refine unpackItems_tuple (items := #[v1, v2]) hh ht fun h' he => ?_
  have g2 := ext_grow he
  have c2 := Cx.closed _ _ c (g.trans g2)
  refine wpAny_bind (wpAny_holding (bindName_ (ex_store2 O c2 (j2.grow g2.2) hb' fun s3 c3 im => ?_)))
  refine wpAny_bind (wpAny_holding (bindName_ (ex_store O c3 (im _ _ (j1.grow g2.2)) ha fun s4 c4 => ?_)))
  exact wpAny_pure (hr.run s4 c4)⟩
theorem ex_trip {a b c' : Str} {pa pb pc : Pos} {k : Nat} {tpos pos : Pos} (hh : A.handled = none) (O : EnvOk hb env X sE) (h : Ev w A env X (Cx hb env X δ sE) e (.tuple [d₁, d₂, d₃])) (ha : env.kindOf a = some .local) (hb' : env.kindOf b = some .local) (hc : env.kindOf c' = some .local)
    (hr : Ex w A env (Cx hb env X ((c', d₃) :: (b, d₂) :: (a, d₁) :: δ) sE) rest P) (hw : swappedStores [.Tuple [.Name a pa, .Name b pb, .Name c' pc] k tpos] e env = pure none := by rfl)
    (hs : swapsWithSole [.Tuple [.Name a pa, .Name b pb, .Name c' pc] k tpos] e pos.line env = pure false := by rfl) : Ex w A env (Cx hb env X δ sE) (.Assign [.Tuple [.Name a pa, .Name b pb, .Name c' pc] k tpos] e pos :: rest) P := ⟨fun s c => by
  refine wpAny_execs_cons (Assign_Tuple (wpAny_mono (h.run s c) (fun v s1 ⟨g, i⟩ => ?_) fun _ _ h => h) hs hw)
  obtain ⟨t, vs, rfl, _, ht, ia⟩ := i.tup
  obtain ⟨v1, r, rfl, j1, ia⟩ := ia.cons_inv
  obtain ⟨v2, r, rfl, j2, ia⟩ := ia.cons_inv
  obtain ⟨v3, r, rfl, j3, ia⟩ := ia.cons_inv
  obtain rfl := ia.nil_inv
  refine assign_Tuple_tuple (items := #[v1, v2, v3]) hh ht rfl rfl fun h' he => ?_
  have g2 := ext_grow he
  have c2 := Cx.closed _ _ c (g.trans g2)
  refine wpAny_bind (wpAny_holding (assign_Name (ex_store2 O c2 (j1.grow g2.2) ha fun s3 c3 im3 => ?_)))
  refine wpAny_bind (wpAny_holding (assign_Name (ex_store2 O c3 (im3 _ _ (j2.grow g2.2)) hb' fun s4 c4 im4 => ?_)))
  refine wpAny_bind (wpAny_holding (assign_Name (ex_store O c4 (im4 _ _ (im3 _ _ (j3.grow g2.2))) hc fun s5 c5 => ?_)))
  exact wpAny_pure (hr.run s5 c5)⟩
end
end Mine

end

section
open PySem PySem.W PySem.Spec PyProof.Rows PySem.SeqAt
set_option Elab.async false
set_option linter.unusedVariables false
set_option maxRecDepth 100000
namespace Mine
section
variable {w : World} {mg mb : Str → Option Value} {hb : Heap} {A : Around} {env : Env} {X : List Addr} {δ γ : List (Str × PyData)} {sE s : Shared} {d d₁ d₂ d₃ : PyData} {C : Shared → Prop} {e e₁ e₂ : Expr} {p p' : Pos} {i j : Int} {x y : Str} {rest : List Stmt} {P : Flow → Shared → Prop}
def piece (ps : List Str) (i : Int) : Str := (ps[i.toNat]?).getD ""
def nib (x k : Int) : Int := (x.fdiv k).fmod 16
def name0 (x : Int) (ps : List Str) : Str := Txt.join "" [piece ps (nib x (16 ^ 3)), piece ps (nib x (16 ^ 4)), piece ps (nib x (16 ^ 5)), piece ps (nib x (16 ^ 6))]
def fnNm (x : Int) (ps : List Str) : Str := if x.fdiv (16 ^ 7) == 1 then "<" ++ name0 x ps ++ ">" else name0 x ps
def files (one two : Str) : List Str := ["~", "~" ++ one, one ++ "~", one ++ two]
def fnFl (x : Int) (ps : List Str) : Str := ((files (piece ps (nib x 16)) (piece ps (nib x 256)))[(x.fmod 4).toNat]?).getD ""
def fnLn (x : Int) : Int := (([0, 0, 1, -10] : List Int)[((x.fdiv 4).fmod 4).toNat]?).getD 0
def fnOf (x : Int) (ps : List Str) : Str × Int × Str := (fnFl x ps, fnLn x, fnNm x ps)
theorem nib_r (x k : Int) : 0 ≤ nib x k ∧ nib x k < 16 := ⟨fmod_lo _ (by decide), fmod_hi _ (by decide)⟩
theorem at_16 {ps : List Str} (hl : ps.length = 16) {i : Int} (h0 : 0 ≤ i) (h1 : i < 16) : (ps.map PyData.str)[i.toNat]? = some (.str (piece ps i)) := by
  have : i.toNat < ps.length := by omega
  rw [List.getElem?_map, piece, List.getElem?_eq_getElem this]; rfl
theorem piece_len {ps : List Str} (hp : ∀ q ∈ ps, q.length ≤ 10) (i : Int) : (piece ps i).length ≤ 10 := by
  unfold piece
  cases e : ps[i.toNat]? with
  | none => decide
  | some q => exact hp q (List.mem_of_getElem? e)
theorem at_4 {l : List PyData} {i : Int} (hl : l.length = 4) (h0 : 0 ≤ i) (h1 : i < 4) : ∃ d, l[i.toNat]? = some d := ⟨_, List.getElem?_eq_getElem (show i.toNat < l.length by omega)⟩
theorem ev_piece {pv q : Pos} {e : Expr} {x k : Int} {ps : List Str} (hC : Closed C) (hps : Ev w A env X C (.Name "pieces" pv) (.list (ps.map .str))) (hl : ps.length = 16) (he : Ev w A env X C e (.int (nib x k)))
    (hs : ∀ o i, subscripted e false o i = operate [o, i] (getItem o i) := by intro _ _; rfl) : Ev w A env X C (.Subscript (.Name "pieces" pv) e q) (.str (piece ps (nib x k))) :=
  ev_itemL hC hps he (nib_r x k).1 (at_16 hl (nib_r x k).1 (nib_r x k).2) (by simp [hl]) hs
theorem join_len (l : List Str) : (Txt.join "" l).length ≤ (l.map (·.length)).sum := by
  show (Builtin.Str.glued "" l).length ≤ _
  rw [StrLaws.glued_eq_join]
  have := StrLaws.join_length_le "" l
  have h0 : ("" : Str).length = 0 := rfl
  rw [h0] at this
  omega
theorem name0_len {ps : List Str} (hp : ∀ q ∈ ps, q.length ≤ 10) (x : Int) : (name0 x ps).length ≤ 40 := by
  have q1 := piece_len hp (nib x (16 ^ 3))
  have q2 := piece_len hp (nib x (16 ^ 4))
  have q3 := piece_len hp (nib x (16 ^ 5))
  have q4 := piece_len hp (nib x (16 ^ 6))
  refine Nat.le_trans (join_len _) ?_
  show ((piece ps (nib x (16 ^ 3))).length + ((piece ps (nib x (16 ^ 4))).length + ((piece ps (nib x (16 ^ 5))).length + ((piece ps (nib x (16 ^ 6))).length + 0)))) ≤ 40
  omega
theorem Cx.sub {δ' : List (Str × PyData)} (h : ∀ y d, δ'.lookup y = some d → δ.lookup y = some d) (c : Cx hb env X δ sE s) : Cx hb env X δ' sE s :=
  ⟨c.grow, c.base, c.xok, let ⟨m, h1, h2⟩ := c.ns; ⟨m, h1, fun x d e1 e2 => h2 x d (h x d e1) e2⟩, fun x d e1 e2 => c.cel x d (h x d e1) e2⟩
theorem sub_second {a : Str} {d d' : PyData} {l : List (Str × PyData)} : ∀ y q, ((a, d) :: l).lookup y = some q → ((a, d) :: (a, d') :: l).lookup y = some q := fun y q h => by
  rw [List.lookup_cons] at h ⊢
  cases hq : y == a with
  | true => rw [hq] at h; exact h
  | false => rw [hq] at h; dsimp only; rw [List.lookup_cons, hq]; exact h
def gF (x : Int) (ps : List Str) : PyData → PyData
  | .int k => .str (piece ps (nib x (16 ^ k.toNat)))
  | _ => .none
theorem fl_at (x : Int) (ps : List Str) : ((files (piece ps (nib x 16)) (piece ps (nib x 256))).map PyData.str)[(x.fmod 4).toNat]? = some (.str (fnFl x ps)) := by
  have h0 := fmod_lo x (n := 4) (by decide)
  have h1 := fmod_hi x (n := 4) (by decide)
  have h : (x.fmod 4).toNat < (files (piece ps (nib x 16)) (piece ps (nib x 256))).length := by show _ < 4; omega
  rw [List.getElem?_map, fnFl, List.getElem?_eq_getElem h]; rfl
theorem ln_at (x : Int) : (([0, 0, 1, -10] : List Int).map PyData.int)[((x.fdiv 4).fmod 4).toNat]? = some (.int (fnLn x)) := by
  have h0 := fmod_lo (x.fdiv 4) (n := 4) (by decide)
  have h1 := fmod_hi (x.fdiv 4) (n := 4) (by decide)
  have h : ((x.fdiv 4).fmod 4).toNat < ([0, 0, 1, -10] : List Int).length := by show _ < 4; omega
  rw [List.getElem?_map, fnLn, List.getElem?_eq_getElem h]; rfl
theorem con_fn (B : Bs w mg mb hb) (k : Nat) (x : Int) (ps : List Str) (hx : 0 ≤ x ∧ x < 536870912) (hl : ps.length = 16) (hp : ∀ q ∈ ps, q.length ≤ 10) : Con w mg hb (k + 1) (dRecP pw 11).name [.int x, .list (ps.map .str)] (fn (fnOf x ps)) := by
  refine ⟨?_⟩
  intro f hf A X s vs hA hs hxo hi
  obtain ⟨_, T⟩ := B.T
  obtain ⟨a, o, pm, code, doc, h1, h2, h3, h4⟩ := T.fn (dRecP pw 11) (by rw [recs_eq]; simp)
  have : a = f := by rw [h1] at hf; cases hf; rfl
  subst this
  obtain ⟨vx, r, rfl, ix, hi⟩ := hi.cons_inv
  obtain ⟨vp, r, rfl, ip, hi⟩ := hi.cons_inv
  obtain rfl := hi.nil_inv
  refine wpAny_call (call_cells_ret (binds := [("x", vx), ("pieces", vp)]) hA.room (hs a o h2) h3 (T.nolimit.keeps hs) (h4.keeps hs) (by kernel_rfl) ?_ (fun h₁ tk F Xc => ?_) rfl rfl rfl)
  · intro q hq
    rcases List.mem_cons.mp hq with rfl | hq
    · exact .inr ⟨rfl, rfl⟩
    · rw [List.mem_singleton.mp hq]; exact .inr ⟨rfl, rfl⟩
  have Lnone : s.heap.get? s.heap.objs.size = none := by
    cases q : s.heap.get? s.heap.objs.size with
    | none => rfl
    | some o => exact absurd (Heap.lt_size q) (Nat.lt_irrefl _)
  generalize hL : s.heap.objs.size = L at F Xc Lnone ⊢
  have O : EnvOk hb (envOfC (dRecP pw 11).name (dRecP pw 11).scope L a code) (L :: X) s := ⟨rfl, rfl, rfl, List.mem_cons_self, Lnone, hs, fun n c e => Nat.ne_of_gt (Xc.above n c (mem_of_lookup e))⟩
  have im : ∀ {v d}, Is X s.heap v d → Is (L :: X) h₁ v d := fun i => i.mono fun b o hb e => ⟨fun q => by
    rcases List.mem_cons.mp q with rfl | q
    · rw [Lnone] at e; cases e
    · exact hb q, F.keep b o e⟩
  have cx : Cx hb (envOfC (dRecP pw 11).name (dRecP pw 11).scope L a code) (L :: X) [("x", .int x), ("pieces", .list (ps.map .str))] s { s with heap := h₁, toks := tk } := by
    refine ⟨.mk' F.keep, fun b o e => F.keep b o (hs b o e), fun b hb => ?_, ⟨_, F.ns, fun y d' e1 e2 => ?_⟩, fun y d' e1 e2 => ?_⟩
    · rcases List.mem_cons.mp hb with rfl | hb
      · obtain ⟨o, _, _, ho, _⟩ := F.ns; exact ⟨o, ho⟩
      · obtain ⟨o, ho⟩ := hxo b hb; exact ⟨o, F.keep b o ho⟩
    · exfalso
      rw [List.lookup_cons] at e1
      cases hq : y == ("x" : Str) with
      | true => rw [beq_iff_eq.mp hq, show (envOfC (dRecP pw 11).name (dRecP pw 11).scope L a code).kindOf "x" = some .cell from rfl] at e2; cases e2
      | false =>
        rw [hq] at e1
        rw [List.lookup_cons] at e1
        cases hq2 : y == ("pieces" : Str) with
        | true => rw [beq_iff_eq.mp hq2, show (envOfC (dRecP pw 11).name (dRecP pw 11).scope L a code).kindOf "pieces" = some .cell from rfl] at e2; cases e2
        | false => rw [hq2] at e1; cases e1
    · rw [List.lookup_cons] at e1
      cases hq : y == ("x" : Str) with
      | true =>
        rw [hq] at e1
        cases e1
        rw [beq_iff_eq.mp hq]
        exact ⟨L + 1, vx, rfl, Xc.cell "x" (L + 1) rfl, im ix⟩
      | false =>
        rw [hq] at e1
        rw [List.lookup_cons] at e1
        cases hq2 : y == ("pieces" : Str) with
        | true =>
          rw [hq2] at e1
          cases e1
          rw [beq_iff_eq.mp hq2]
          exact ⟨L + 1 + 1, vp, rfl, Xc.cell "pieces" (L + 1 + 1) rfl, im ip⟩
        | false => rw [hq2] at e1; cases e1
  have body : Ex w (A.deeper (envOfC (dRecP pw 11).name (dRecP pw 11).scope L a code)) (envOfC (dRecP pw 11).name (dRecP pw 11).scope L a code) (Cx hb (envOfC (dRecP pw 11).name (dRecP pw 11).scope L a code) (L :: X) [("x", .int x), ("pieces", .list (ps.map .str))] s) (dRecP pw 11).body (RetP X s (fn (fnOf x ps))) := by
    have hh : (A.deeper (envOfC (dRecP pw 11).name (dRecP pw 11).scope L a code)).handled = none := hA.1
    refine ex_pairSw (a := "one") (b := "two") (d₁ := .str (piece ps (nib x 16))) (d₂ := .str (piece ps (nib x 256))) hh O (ev_tuple Cx.xoks Cx.closed (evL_cons Cx.closed (ev_piece Cx.closed (ev_cell rfl rfl rfl) hl ?_) (evL_cons Cx.closed (ev_piece Cx.closed (ev_cell rfl rfl rfl) hl ?_) evL_nil)) (by show 2 ≤ 1000; decide)) rfl rfl ?_ ?_
    · exact ev_mod Cx.closed (ev_div Cx.closed (ev_cell rfl rfl rfl) ev_int (by decide) (PyProof.noPylong_small (by decide))) ev_int (by decide)
    · exact ev_mod Cx.closed (ev_div Cx.closed (ev_cell rfl rfl rfl) ev_int (by decide) (PyProof.noPylong_small (by decide))) ev_int (by decide)
    · kernel_rfl
    refine ex_assign (d := .str (name0 x ps)) O (ev_join Cx.closed ev_strC ?_ ?_ (fun _ _ => trivial)) rfl ?_
    · refine ev_compS (cl := [("x", L + 1), ("pieces", L + 1 + 1)]) (γ := [("x", .int x), ("pieces", .list (ps.map .str))]) (ds := [.int 3, .int 4, .int 5, .int 6]) hh (fun _ => true) (gF x ps) ⟨rfl, by decide +kernel, rfl, by decide +kernel, rfl, rfl, ?_, ?_⟩ (src_list (ev_list Cx.xoks Cx.closed (evL_cons Cx.closed ev_int (evL_cons Cx.closed ev_int (evL_cons Cx.closed ev_int (evL_cons Cx.closed ev_int evL_nil)))) (by decide))) (by decide) ?_ ?_ ?_ ?_
      · intro y d C h
        rw [List.lookup_cons] at h
        cases hq : y == ("x" : Str) with
        | true => rw [beq_iff_eq.mp hq]; intro e2; cases e2
        | false =>
          rw [hq] at h
          rw [List.lookup_cons] at h
          cases hq2 : y == ("pieces" : Str) with
          | true => rw [beq_iff_eq.mp hq2]; intro e2; cases e2
          | false => rw [hq2] at h; cases h
      · intro y d h
        rw [List.lookup_cons] at h
        cases hq : y == ("x" : Str) with
        | true => rw [hq] at h; cases h; rw [beq_iff_eq.mp hq]; exact ⟨rfl, rfl, rfl⟩
        | false =>
          rw [hq] at h
          rw [List.lookup_cons] at h
          cases hq2 : y == ("pieces" : Str) with
          | true => rw [hq2] at h; cases h; rw [beq_iff_eq.mp hq2]; exact ⟨rfl, rfl, rfl⟩
          | false => rw [hq2] at h; cases h
      · intro d hd
        simp only [List.mem_cons, List.not_mem_nil, or_false] at hd
        rcases hd with rfl | rfl | rfl | rfl <;> trivial
      · intro d hd
        simp only [List.mem_cons, List.not_mem_nil, or_false] at hd
        rcases hd with rfl | rfl | rfl | rfl <;> trivial
      · intro C d sE' hd
        exact tsts_nil
      · intro C d sE' hd _
        simp only [List.mem_cons, List.not_mem_nil, or_false] at hd
        rcases hd with rfl | rfl | rfl | rfl
        · exact ev_piece (k := 16 ^ (3 : Int).toNat) Cx.closed (ev_cell rfl rfl rfl) hl (ev_mod Cx.closed (ev_div Cx.closed (ev_cell rfl rfl rfl) (ev_pow Cx.closed ev_int (ev_loc rfl rfl rfl) (by decide) (by decide) (by decide)) (by decide) (PyProof.noPylong_small (by decide))) ev_int (by decide))
        · exact ev_piece (k := 16 ^ (4 : Int).toNat) Cx.closed (ev_cell rfl rfl rfl) hl (ev_mod Cx.closed (ev_div Cx.closed (ev_cell rfl rfl rfl) (ev_pow Cx.closed ev_int (ev_loc rfl rfl rfl) (by decide) (by decide) (by decide)) (by decide) (PyProof.noPylong_small (by decide))) ev_int (by decide))
        · exact ev_piece (k := 16 ^ (5 : Int).toNat) Cx.closed (ev_cell rfl rfl rfl) hl (ev_mod Cx.closed (ev_div Cx.closed (ev_cell rfl rfl rfl) (ev_pow Cx.closed ev_int (ev_loc rfl rfl rfl) (by decide) (by decide) (by decide)) (by decide) (PyProof.noPylong_small (by decide))) ev_int (by decide))
        · exact ev_piece (k := 16 ^ (6 : Int).toNat) Cx.closed (ev_cell rfl rfl rfl) hl (ev_mod Cx.closed (ev_div Cx.closed (ev_cell rfl rfl rfl) (ev_pow Cx.closed ev_int (ev_loc rfl rfl rfl) (by decide) (by decide) (by decide)) (by decide) (PyProof.noPylong_small (by decide))) ev_int (by decide))
    · refine joinOk_of ?_
      have q1 := piece_len hp (nib x (16 ^ 3))
      have q2 := piece_len hp (nib x (16 ^ 4))
      have q3 := piece_len hp (nib x (16 ^ 5))
      have q4 := piece_len hp (nib x (16 ^ 6))
      show ((piece ps (nib x (16 ^ 3))).length + ((piece ps (nib x (16 ^ 4))).length + ((piece ps (nib x (16 ^ 5))).length + ((piece ps (nib x (16 ^ 6))).length + 0)))) + 4 * 0 ≤ 16777216
      omega
    have hn0 := name0_len hp x
    refine ex_if (b := x.fdiv (16 ^ 7) == 1) (C' := Cx hb (envOfC (dRecP pw 11).name (dRecP pw 11).scope L a code) (L :: X) [("name", .str (fnNm x ps)), ("one", .str (piece ps (nib x 16))), ("two", .str (piece ps (nib x 256))), ("x", .int x), ("pieces", .list (ps.map .str))] s) Cx.closed
      (tst_cmp (X := L :: X) (ev_eqI Cx.closed (ev_div Cx.closed (ev_cell rfl rfl rfl) (ev_pow (j := 7) Cx.closed ev_int ev_int (by decide) (by decide) (by decide)) (by decide) (PyProof.noPylong_small (by decide))) ev_int)) (fun hb' => ?_) (fun hb' => ?_) ?_
    · have e : fnNm x ps = "<" ++ name0 x ps ++ ">" := by unfold fnNm; rw [if_pos hb']
      rw [e]
      refine ex_assign O (ev_cat Cx.closed (ev_cat Cx.closed ev_strC (ev_loc rfl rfl rfl) ?_) ev_strC ?_) rfl (ex_nil fun s c => c.sub ?_)
      · show 1 + (name0 x ps).length ≤ sizeLine
        rw [sizeLine_eq]; omega
      · rw [Str.length_append]
        show 1 + (name0 x ps).length + 1 ≤ sizeLine
        rw [sizeLine_eq]; omega
      · exact sub_second
    · have e : fnNm x ps = name0 x ps := by unfold fnNm; rw [if_neg (by rw [hb']; exact Bool.false_ne_true)]
      rw [e]
      exact ex_nil fun s c => c
    have q1 := piece_len hp (nib x 16)
    have q2 := piece_len hp (nib x 256)
    refine ex_retF (ev_tuple Cx.xoks Cx.closed (evL_cons Cx.closed (ev_itemL (ds := (files (piece ps (nib x 16)) (piece ps (nib x 256))).map PyData.str) Cx.closed (ev_list Cx.xoks Cx.closed (evL_cons Cx.closed ev_strC (evL_cons Cx.closed (ev_cat Cx.closed ev_strC (ev_loc rfl rfl rfl) ?_) (evL_cons Cx.closed (ev_cat Cx.closed (ev_loc rfl rfl rfl) ev_strC ?_) (evL_cons Cx.closed (ev_cat Cx.closed (ev_loc rfl rfl rfl) (ev_loc rfl rfl rfl) ?_) evL_nil)))) (by show 4 ≤ 1000; decide)) (ev_mod Cx.closed (ev_cell rfl rfl rfl) ev_int (by decide)) (fmod_lo _ (by decide)) (fl_at x ps) (by show 4 ≤ 1000; decide))
      (evL_cons Cx.closed (ev_itemL (ds := ([0, 0, 1, -10] : List Int).map PyData.int) Cx.closed (ev_list Cx.xoks Cx.closed (evL_cons Cx.closed ev_int (evL_cons Cx.closed ev_int (evL_cons Cx.closed ev_int (evL_cons Cx.closed (ev_neg ev_int) evL_nil)))) (by show 4 ≤ 1000; decide)) (ev_mod Cx.closed (ev_div Cx.closed (ev_cell rfl rfl rfl) ev_int (by decide) (PyProof.noPylong_small (by decide))) ev_int (by decide)) (fmod_lo _ (by decide)) (ln_at x) (by show 4 ≤ 1000; decide))
      (evL_cons Cx.closed (ev_loc rfl rfl rfl) evL_nil))) (by show 3 ≤ 1000; decide))
    · show 1 + (piece ps (nib x 16)).length ≤ sizeLine
      rw [sizeLine_eq]; omega
    · show (piece ps (nib x 16)).length + 1 ≤ sizeLine
      rw [sizeLine_eq]; omega
    · rw [sizeLine_eq]; omega
  refine wpAny_mono (body.run _ cx) (fun fl s' h => ?_) fun _ _ h => h
  obtain ⟨v, rfl, g, i⟩ := h
  exact ⟨g, i⟩
end
end Mine

end

section
open PySem PySem.W PySem.Spec PyProof.Rows PySem.SeqAt
set_option Elab.async false
set_option linter.unusedVariables false
set_option maxRecDepth 100000
namespace Mine
section
variable {w : World} {mg mb : Str → Option Value} {hb : Heap} {A : Around} {env : Env} {X Y Z mu : List Addr} {δ γ : List (Str × PyData)} {sE s : Shared} {d d₁ d₂ d₃ : PyData} {C : Shared → Prop} {e e₁ e₂ : Expr} {p p' : Pos} {i j : Int} {x y : Str} {rest : List Stmt} {P : Flow → Shared → Prop}
theorem Ev.of {C' : Shared → Prop} (h : ∀ s, C' s → C s) (e : Ev w A env X C e₁ d) : Ev w A env X C' e₁ d := ⟨fun s hs => e.run s (h s hs)⟩
theorem Tst.of {C' : Shared → Prop} {b : Bool} (h : ∀ s, C' s → C s) (e : Tst w A env C e₁ b) : Tst w A env C' e₁ b := ⟨fun s hs => e.run s (h s hs)⟩
theorem Src.of {C' : Shared → Prop} {ds : List PyData} (h : ∀ s, C' s → C s) (e : Src w A env X C e₁ ds) : Src w A env X C' e₁ ds := ⟨fun s hs => e.run s (h s hs)⟩
/-- what was seen is seen -/
def Vis (mu Y Z : List Addr) (h h' : Heap) : Prop := ∀ b o, h.get? b = some o → (b ∉ Y ∨ b ∈ mu) → (b ∉ Z ∨ b ∈ mu) ∧ h'.get? b = some o
theorem Is.vis {h h' : Heap} {v : Value} (hm : ∀ b ∈ mu, b ∈ Z) (i : Is Y h v d) (k : Vis mu Y Z h h') (hmY : ∀ b ∈ mu, b ∈ Y) : Is Z h' v d := i.mono fun b o hb e => by
  obtain ⟨h1, h2⟩ := k b o e (.inl hb)
  rcases h1 with h1 | h1
  · exact ⟨h1, h2⟩
  · exact absurd (hmY b h1) hb
theorem IsAll.vis {h h' : Heap} {vs : List Value} {ds : List PyData} (i : IsAll Y h vs ds) (k : Vis mu Y Z h h') (hmY : ∀ b ∈ mu, b ∈ Y) : IsAll Z h' vs ds := i.mono fun b o hb e => by
  obtain ⟨h1, h2⟩ := k b o e (.inl hb)
  rcases h1 with h1 | h1
  · exact ⟨h1, h2⟩
  · exact absurd (hmY b h1) hb
theorem Cx.vis {h' : Heap} {tk : Nat} (c : Cx hb env Y δ sE s) (hL : env.locals ∈ mu) (hcl : ∀ x c, env.cells.lookup x = some c → c ∈ mu) (hmY : ∀ b ∈ mu, b ∈ Y) (hmZ : ∀ b ∈ mu, b ∈ Z)
    (k : Vis mu Y Z s.heap h') (hg : ∀ b o, sE.heap.get? b = some o → h'.get? b = some o) (hh : ∀ b o, hb.get? b = some o → h'.get? b = some o) (hx : ∀ a ∈ Z, ∃ o, h'.get? a = some o) : Cx hb env Z δ sE { s with heap := h', toks := tk } := by
  refine ⟨⟨?_, hg⟩, hh, hx, ?_, ?_⟩
  · obtain ⟨⟨h1, t1, rfl⟩, _⟩ := c.grow; exact ⟨h', tk, rfl⟩
  · obtain ⟨m, hn, hl⟩ := c.ns
    refine ⟨m, hn.at' fun o e => (k _ o e (.inr hL)).2, fun y d e1 e2 => ?_⟩
    obtain ⟨v, h1, h2⟩ := hl y d e1 e2
    exact ⟨v, h1, h2.vis hmZ k hmY⟩
  · intro y d e1 e2
    obtain ⟨c', v, h1, ⟨o, ho, hd⟩, h3⟩ := c.cel y d e1 e2
    exact ⟨c', v, h1, ⟨o, (k _ o ho (.inr (hcl y c' h1))).2, hd⟩, h3.vis hmZ k hmY⟩
theorem mask_none {b : Addr} {h : Heap} (hb : b ∈ mu) : (mask mu h).get? b = none := by rw [mask_get, if_pos hb]
theorem mask_some {b : Addr} {h : Heap} {o : Obj} (hb : b ∉ mu) (e : h.get? b = some o) : (mask mu h).get? b = some o := by rw [mask_get, if_neg hb, e]
theorem Cx.rebase (c : Cx hb env Y δ sE s) : Cx hb env Y δ { s with heap := mask mu s.heap } s := ⟨⟨⟨s.heap, s.toks, rfl⟩, fun b o e => mask_sub b o e⟩, c.base, c.xok, c.ns, c.cel⟩
theorem Cx.back {s' : Shared} (c : Cx hb env Y δ sE s) (hmu : ∀ b ∈ mu, sE.heap.get? b = none) (c' : Cx hb env Y δ { s with heap := mask mu s.heap } s') : Cx hb env Y δ sE s' := by
  refine ⟨⟨?_, fun b o e => ?_⟩, c'.base, c'.xok, c'.ns, c'.cel⟩
  · obtain ⟨⟨h1, t1, e1⟩, _⟩ := c.grow
    obtain ⟨⟨h2, t2, e2⟩, _⟩ := c'.grow
    exact ⟨h2, t2, by rw [e2, e1]⟩
  · exact c'.grow.2 b o (mask_some (fun q => by rw [hmu b q] at e; cases e) (c.grow.2 b o e))
theorem EnvOk.rebase {I : Addr} (O : EnvOk hb env X sE) (c : Cx hb env Y δ sE s) (hL : env.locals ∈ mu) (hmu : ∀ b ∈ mu, sE.heap.get? b = none) : EnvOk hb env (I :: X) { s with heap := mask mu s.heap } :=
  ⟨O.kind, O.glob, O.bn, List.mem_cons_of_mem _ O.LX, mask_none hL, fun b o e => mask_some (fun q => by have := O.baseE b o e; rw [hmu b q] at this; cases this) (c.base b o e), O.apart⟩
/-- a loop -/
theorem ex_forG {target iter : Expr} {body : List Stmt} {pos : Pos} {ds : List PyData} {K : Nat → List Addr → Shared → Prop} (hh : A.handled = none) (O : EnvOk hb env X sE) (hL : env.locals ∈ mu) (hcl : ∀ x c, env.cells.lookup x = some c → c ∈ mu)
    (hmuE : ∀ b ∈ mu, sE.heap.get? b = none) (hmuX : ∀ b ∈ mu, b ∈ X) (hKv : ∀ i Y Z s h' tk, (∀ b ∈ mu, b ∈ Y) → (∀ b ∈ mu, b ∈ Z) → K i Y s → Vis mu Y Z s.heap h' → K i Z { s with heap := h', toks := tk })
    (src : Src w A env X (fun s => Cx hb env X δ sE s ∧ K 0 X s) iter ds)
    (hbody : ∀ I sB i d v s, ds[i]? = some d → EnvOk hb env (I :: X) sB → (∀ b ∈ mu, sB.heap.get? b = none) → Cx hb env (I :: X) δ sB s → K i (I :: X) s → Is (I :: X) s.heap v d →
      wpAny (model pw w) A (assign target env v) (fun _ s₂ => wpAny (model pw w) A (execs body env) (fun f s₃ => f = .next ∧ Cx hb env (I :: X) δ sB s₃ ∧ K (i + 1) (I :: X) s₃) No s₂) No s)
    (hr : Ex w A env (fun s => Cx hb env X δ sE s ∧ K ds.length X s) rest P) (hs : ∀ x, foldedSetIterable iter env x = pure x := by intro _; rfl) (ht : ∀ it v, letOwnedTupleGo target it v = pure () := by intro _ _; rfl) :
    Ex w A env (fun s => Cx hb env X δ sE s ∧ K 0 X s) (.For target iter body [] pos :: rest) P := ⟨fun s cK => by
  refine wpAny_execs_cons (wpAny_For (wpAny_mono (src.run s cK) (fun xv s₁ ⟨g1, h1⟩ => wpAny_mono (h1 _) (fun it s₂ h2 => ?_) fun _ _ h => h) fun _ _ h => h) hs)
  obtain ⟨o, fp, Pv, St, rfl, rfl, hfr, W, hst, hfp, hP, hfX, hlive⟩ := h2
  have c1 := Cx.closed s s₁ cK.1 g1
  have K1 : K 0 X s₁ := by
    obtain ⟨⟨h', tk, rfl⟩, k⟩ := g1
    exact hKv 0 X X s h' tk hmuX hmuX cK.2 fun b o e hb => ⟨hb, k b o e⟩
  have Inew : s₁.heap.objs.size ∉ X := xnew (a := 0) c1.xok
  have Imu : s₁.heap.objs.size ∉ mu := fun q => Inew (hmuX _ q)
  have IE : sE.heap.get? s₁.heap.objs.size = none := by
    cases e : sE.heap.get? s₁.heap.objs.size with
    | none => rfl
    | some o => exact absurd (Heap.lt_size (c1.grow.2 _ o e)) (Nat.lt_irrefl _)
  have ne_of : ∀ b o, sE.heap.get? b = some o → b ≠ s₁.heap.objs.size := fun b o e q => by rw [q, IE] at e; cases e
  have hmuI : ∀ b ∈ mu, b ∈ s₁.heap.objs.size :: X := fun b hb => List.mem_cons_of_mem _ (hmuX b hb)
  have kp : ∀ b o', s₁.heap.get? b = some o' → (s₁.heap.push o).get? b = some o' := fun b o' e => Heap.get?_push_of_some _ e
  have v1 : Vis mu X (s₁.heap.objs.size :: X) s₁.heap (s₁.heap.push o) := fun b o' e hb => ⟨hb.imp (fun hb q => by
    rcases List.mem_cons.mp q with rfl | q
    · exact absurd (Heap.lt_size e) (Nat.lt_irrefl _)
    · exact hb q) id, kp b o' e⟩
  have c2 : Cx hb env (s₁.heap.objs.size :: X) δ sE { s₁ with heap := s₁.heap.push o } := c1.vis (tk := s₁.toks) hL hcl hmuX hmuI v1 (fun b o' e => kp b o' (c1.grow.2 b o' e)) (fun b o' e => kp b o' (c1.base b o' e)) (fun a ha => by
    rcases List.mem_cons.mp ha with rfl | ha
    · exact hlive 0 _ hst
    · obtain ⟨o', ho'⟩ := c1.xok a ha; exact ⟨o', kp a o' ho'⟩)
  have K2 := hKv 0 X (s₁.heap.objs.size :: X) s₁ (s₁.heap.push o) s₁.toks hmuX hmuI K1 v1
  have WW := W A hh
  generalize hI : s₁.heap.objs.size = I at *
  -- the items' data stay
  have hPd : ∀ i v, Pv i v → ∃ d, ds[i]? = some d ∧ Is X s₁.heap v d := hP
  refine codeAny_forLoop (fun n s' => ∃ i, i ≤ ds.length ∧ n = ds.length - i ∧ Cx hb env (I :: X) δ sE s' ∧ K i (I :: X) s' ∧ St i s'.heap ∧ (∀ b o', b ≠ I → b ∉ mu → s₁.heap.get? b = some o' → s'.heap.get? b = some o')) (fun n s' hinv => ?_) ds.length ⟨0, Nat.zero_le _, rfl, c2, K2, hst, fun b o' _ _ e => kp b o' e⟩ (ht _)
  obtain ⟨i, hi, hn, c, k, st, old⟩ := hinv
  have visI : ∀ {h' : Heap}, (∀ b o, b ∉ [I] → s'.heap.get? b = some o → h'.get? b = some o) → Vis mu (I :: X) (I :: X) s'.heap h' := fun hk b o e hb => ⟨hb, hk b o (fun q => by
    rw [List.mem_singleton.mp q] at hb
    rcases hb with hb | hb
    · exact hb List.mem_cons_self
    · exact Imu hb) e⟩
  by_cases hlt : i < ds.length
  · refine WW.item i s' _ _ hlt st fun v h' tk hPi hst' hk => ?_
    obtain ⟨d, hd, iv⟩ := hPd i v hPi
    have c' : Cx hb env (I :: X) δ sE { s' with heap := h', toks := tk } := c.vis hL hcl hmuI hmuI (visI hk) (fun b o' e => hk b o' (fun q => ne_of b o' e (List.mem_singleton.mp q)) (c.grow.2 b o' e)) (fun b o' e => hk b o' (fun q => ne_of b o' (O.baseE b o' e) (List.mem_singleton.mp q)) (c.base b o' e)) (fun a ha => by
      rcases List.mem_cons.mp ha with rfl | ha
      · exact hlive _ _ hst'
      · obtain ⟨o', ho'⟩ := c.xok a (List.mem_cons_of_mem _ ha)
        exact ⟨o', hk a o' (fun q => Inew (List.mem_singleton.mp q ▸ ha)) ho'⟩)
    have k' := hKv i (I :: X) (I :: X) s' h' tk hmuI hmuI k (visI hk)
    have iv' : Is (I :: X) h' v d := iv.mono fun b o' hb e => ⟨fun q => by
      rcases List.mem_cons.mp q with rfl | q
      · rw [← hI] at e; exact absurd (Heap.lt_size e) (Nat.lt_irrefl _)
      · exact hb q, hk b o' (fun q => by rw [List.mem_singleton.mp q, ← hI] at e; exact absurd (Heap.lt_size e) (Nat.lt_irrefl _)) (old b o' (fun q => by rw [q, ← hI] at e; exact absurd (Heap.lt_size e) (Nat.lt_irrefl _)) (fun q => hb (hmuX b q)) e)⟩
    refine wpAny_mono (hbody I { s' with heap := mask mu h', toks := tk } i d v { s' with heap := h', toks := tk } hd (O.rebase c' hL hmuE) (fun b hb => mask_none hb) c'.rebase k' iv') (fun _ s₂ h₂ => wpAny_mono h₂ (fun f s₃ h₃ => ?_) fun _ _ h => h.elim) fun _ _ h => h.elim
    obtain ⟨rfl, c3, k3⟩ := h₃
    have keep : ∀ b o', b ∉ mu → h'.get? b = some o' → s₃.heap.get? b = some o' := fun b o' hb e => c3.grow.2 b o' (mask_some hb e)
    refine ⟨ds.length - (i + 1), by omega, i + 1, hlt, rfl, c'.back hmuE c3, k3, W A hh |>.frame _ _ _ hst' (fun b hb o' e => keep b o' ?_ e), fun b o' hb1 hb2 e => keep b o' hb2 (hk b o' (fun q => hb1 (List.mem_singleton.mp q)) (old b o' hb1 hb2 e))⟩
    rcases hfX b hb with rfl | h
    · exact Imu
    · exact fun q => h (hmuX b q)
  · have hi' : i = ds.length := by omega
    subst hi'
    refine WW.done s' _ _ st fun h' tk hk => ?_
    have hvE : Vis mu (I :: X) X s'.heap h' := fun b o' e hb => ⟨hb.imp (fun hb q => hb (List.mem_cons_of_mem _ q)) id, hk b o' (fun q => by
      rw [List.mem_singleton.mp q] at hb
      rcases hb with hb | hb
      · exact hb List.mem_cons_self
      · exact Imu hb) e⟩
    have c' : Cx hb env X δ sE { s' with heap := h', toks := tk } := c.vis hL hcl hmuI hmuX hvE (fun b o' e => hk b o' (fun q => ne_of b o' e (List.mem_singleton.mp q)) (c.grow.2 b o' e)) (fun b o' e => hk b o' (fun q => ne_of b o' (O.baseE b o' e) (List.mem_singleton.mp q)) (c.base b o' e)) (fun a ha => by
      obtain ⟨o', ho'⟩ := c.xok a (List.mem_cons_of_mem _ ha)
      exact ⟨o', hk a o' (fun q => Inew (List.mem_singleton.mp q ▸ ha)) ho'⟩)
    have k' := hKv ds.length (I :: X) X s' h' tk hmuI hmuX k hvE
    exact wpAny_execs_nil (hr.run _ ⟨c', k'⟩)⟩
end
end Mine

end

section
open PySem PySem.W PySem.Spec PyProof.Rows PySem.SeqAt
set_option Elab.async false
set_option linter.unusedVariables false
set_option maxRecDepth 100000
namespace Mine
section
variable {w : World} {mg mb : Str → Option Value} {hb : Heap} {A : Around} {env : Env} {X Y Z mu : List Addr} {δ γ : List (Str × PyData)} {sE s : Shared} {d d₁ d₂ d₃ : PyData} {C : Shared → Prop} {e e₁ e₂ : Expr} {p p' : Pos} {i j : Int} {x y : Str} {rest : List Stmt} {P : Flow → Shared → Prop} {K : Shared → Prop}
def numsTo (n : Nat) : List PyData := (List.range n).map fun (i : Nat) => PyData.int i
theorem Walks.bnd {I : Addr} {fp wr : List Addr} {n : Nat} {Pv : Nat → Value → Prop} {St : Nat → Heap → Prop} (W : Walks pw w A I fp wr n Pv St) : Walks pw w A I fp wr n (fun i v => i < n ∧ Pv i v) St :=
  ⟨W.sub, W.frame, fun i s Q E hi st hQ => W.item i s Q E hi st fun v h' tk hp => hQ v h' tk ⟨hi, hp⟩, W.done, W.self⟩
theorem src_range {np pos : Pos} {e : Expr} {n : Int} (hC : Closed C) (hn : Nm w A env C (.Name "range" np) (.type "range")) (h : Ev w A env X C e (.int n)) (h0 : -1 ≤ n) (h1 : n ≤ 1000000)
    (he : starEach [e] env = (false, eval e env) :: starEach [] env := by rfl) (hp : (backTo pos (starEach [] env)).any (·.1) = false := by rfl)
    (hq : eval (.Call (.Name "range" np) [e] [] pos) env = (do callWith pos (← eval (.Name "range" np) env) [] (backTo pos (starEach [e] env)) (backToKw pos (keywordEach [] env))) := by rfl) :
    Src w A env X C (.Call (.Name "range" np) [e] [] pos) (numsTo n.toNat) := ⟨fun s hs =>
  Call_ (hn.run s hs _ (PyProof.Rows.callWith_type1 (wpAny_mono ((evL_cons hC h evL_nil he).run s hs) (fun vs s1 ⟨g, ia⟩ => by
    obtain ⟨v, rfl, i⟩ := one_inv ia
    obtain ⟨t, rfl⟩ := i.int
    refine call_range_1 ?_
    refine ⟨g.trans (.mk' fun b o e => Heap.get?_push_of_some _ e), fun E => wpAny_pyIter_range (IsRange.new _ _ _ _ _ _ _) (small_one (by decide) (by decide) (by omega) (by omega)) ?_⟩
    have hlen : (numsTo n.toNat).length = n.toNat := by simp [numsTo]
    have hz : Builtin.Range.rangeSize 0 n 1 = (n.toNat : Int) := by rw [rangeSize_one]; split <;> omega
    refine ⟨_, [_], (fun i v => i < n.toNat ∧ ∃ t, v = .int (0 + i * 1) t), (fun i h => IsRangeIter h _ (0 + (i : Nat) * 1) ((n.toNat : Int) - (i : Nat)) 1), rfl, rfl, rfl, fun A' hA => ?_, ?_, ?_, ?_, fun b hb => .inl (List.mem_singleton.mp hb), fun i h st => ⟨_, st⟩⟩
    · rw [hlen]
      exact Walks.bnd (Walks.range hA _ 0 1 n.toNat)
    · show Heap.get? _ _ = some _
      rw [hz, Heap.get?_push_size _ rfl]
      simp
    · intro b hb
      rw [List.mem_singleton.mp hb]; exact Nat.lt_succ_self _
    · rintro i v ⟨hi, t, rfl⟩
      refine ⟨.int i, ?_, by have e : (0 + (i : Int) * 1) = i := by omega
                             rw [e]; exact is_int⟩
      rw [numsTo, List.getElem?_map, List.getElem?_range hi]; rfl) fun _ _ h => h) he hp)) hq⟩
end
end Mine

end

section
open PySem PySem.W PySem.Spec PyProof.Rows PySem.SeqAt
set_option Elab.async false
set_option linter.unusedVariables false
set_option maxRecDepth 100000
namespace Mine
section
variable {w : World} {mg mb : Str → Option Value} {hb : Heap} {A : Around} {env : Env} {X Y Z mu : List Addr} {δ γ : List (Str × PyData)} {sE s : Shared} {d d₁ d₂ d₃ : PyData} {C : Shared → Prop} {e e₁ e₂ : Expr} {p p' : Pos} {i j : Int} {x y : Str} {rest : List Stmt} {P : Flow → Shared → Prop} {K : Shared → Prop} {D : Addr} {ds : List PyData}
theorem ns_one {h : Heap} {a : Addr} {m m' : Str → Option Value} (h1 : h.Ns a m) (h2 : h.Ns a m') : m = m' := by
  obtain ⟨o, es, ep, ho, hd, _, hm⟩ := h1
  obtain ⟨o', es', ep', ho', hd', _, hm'⟩ := h2
  rw [ho] at ho'
  cases ho'
  rw [hd] at hd'
  cases hd'
  funext n
  rw [← hm n, ← hm' n]
/-- what a store leaves -/
structure KOk (env : Env) (K : Shared → Prop) (x : Str) : Prop where
  grow : Closed K
  st : ∀ s h' tk v m, K s → s.heap.Ns env.locals m → h'.Ns env.locals (fun y => if y = x then some v else m y) → Heap.SameBut env.locals s.heap h' → K { s with heap := h', toks := tk }
theorem closedK (hK : Closed K) : Closed (fun s => Cx hb env X δ sE s ∧ K s) := fun s s' c g => ⟨Cx.closed s s' c.1 g, hK s s' c.2 g⟩
theorem ex_storeK {x : Str} {v : Value} {Q : Unit → Shared → Prop} (O : EnvOk hb env X sE) (k : KOk env K x) (c : Cx hb env X δ sE s ∧ K s) (i : Is X s.heap v d) (hk : env.kindOf x = some .local)
    (h : ∀ s', (Cx hb env X ((x, d) :: δ) sE s' ∧ K s') → (∀ v d, Is X s.heap v d → Is X s'.heap v d) → Q () s') : wpAny (model pw w) A (storeName env x v) Q No s := by
  obtain ⟨m, h1, h2⟩ := c.1.ns
  refine wpAny_storeName_local hk h1 (fun h' hn hs => h _ ⟨c.1.store O i h1 h2 hk hn hs, k.st _ _ _ v m c.2 h1 hn hs⟩ fun v d i => i.mono fun b o hb e => ⟨hb, (hs.2 b (fun q => hb (q ▸ O.LX))).trans e⟩) ?_
  rw [O.kind]; rfl
theorem ex_assignK {x : Str} {px pos : Pos} {e : Expr} (O : EnvOk hb env X sE) (k : KOk env K x) (h : Ev w A env X (Cx hb env X δ sE) e d) (hk : env.kindOf x = some .local) (hr : Ex w A env (fun s => Cx hb env X ((x, d) :: δ) sE s ∧ K s) rest P)
    (hs : swapsWith e (some (.Name x px)) pos.line env = pure false := by rfl) : Ex w A env (fun s => Cx hb env X δ sE s ∧ K s) (.Assign [.Name x px] e pos :: rest) P := ⟨fun s c =>
  wpAny_execs_cons (wpAny_Assign_Name (wpAny_mono (h.run s c.1) (fun v s1 ⟨g, i⟩ => ex_storeK O k (closedK k.grow s s1 c g) i hk fun s' c' _ => hr.run s' c') fun _ _ h => h) hs)⟩
theorem ex_tripK {a b c' : Str} {pa pb pc : Pos} {k : Nat} {tpos pos : Pos} (hh : A.handled = none) (O : EnvOk hb env X sE) (ka : KOk env K a) (kb : KOk env K b) (kc : KOk env K c') (h : Ev w A env X (Cx hb env X δ sE) e (.tuple [d₁, d₂, d₃])) (ha : env.kindOf a = some .local) (hb' : env.kindOf b = some .local) (hc : env.kindOf c' = some .local)
    (hr : Ex w A env (fun s => Cx hb env X ((c', d₃) :: (b, d₂) :: (a, d₁) :: δ) sE s ∧ K s) rest P) (hw : swappedStores [.Tuple [.Name a pa, .Name b pb, .Name c' pc] k tpos] e env = pure none := by rfl)
    (hs : swapsWithSole [.Tuple [.Name a pa, .Name b pb, .Name c' pc] k tpos] e pos.line env = pure false := by rfl) : Ex w A env (fun s => Cx hb env X δ sE s ∧ K s) (.Assign [.Tuple [.Name a pa, .Name b pb, .Name c' pc] k tpos] e pos :: rest) P := ⟨fun s c => by
  refine wpAny_execs_cons (Assign_Tuple (wpAny_mono (h.run s c.1) (fun v s1 ⟨g, i⟩ => ?_) fun _ _ h => h) hs hw)
  obtain ⟨t, vs, rfl, _, ht, ia⟩ := i.tup
  obtain ⟨v1, r, rfl, j1, ia⟩ := ia.cons_inv
  obtain ⟨v2, r, rfl, j2, ia⟩ := ia.cons_inv
  obtain ⟨v3, r, rfl, j3, ia⟩ := ia.cons_inv
  obtain rfl := ia.nil_inv
  refine assign_Tuple_tuple (items := #[v1, v2, v3]) hh ht rfl rfl fun h' he => ?_
  have g2 := ext_grow he
  have c2 := closedK ka.grow _ _ c (g.trans g2)
  refine wpAny_bind (wpAny_holding (PyProof.Rows.assign_Name (ex_storeK O ka c2 (j1.grow g2.2) ha fun s3 c3 im3 => ?_)))
  refine wpAny_bind (wpAny_holding (PyProof.Rows.assign_Name (ex_storeK O kb c3 (im3 _ _ (j2.grow g2.2)) hb' fun s4 c4 im4 => ?_)))
  refine wpAny_bind (wpAny_holding (PyProof.Rows.assign_Name (ex_storeK O kc c4 (im4 _ _ (im3 _ _ (j3.grow g2.2))) hc fun s5 c5 _ => ?_)))
  exact wpAny_pure (hr.run s5 c5)⟩
/-- the list that is being found -/
structure FL (env : Env) (D : Addr) (ds : List PyData) (X : List Addr) (s : Shared) : Prop where
  vals : ∃ vs : List Value, s.heap.PlainList D vs.toArray ∧ IsAll X s.heap vs ds
  var : ∃ m, s.heap.Ns env.locals m ∧ m "found" = some (.ref D)
theorem FL.closed : Closed (FL env D ds X) := fun s s' f g =>
  ⟨let ⟨vs, h1, h2⟩ := f.vals; ⟨vs, h1.at fun o e => g.2 _ o e, h2.grow g.2⟩, let ⟨m, h1, h2⟩ := f.var; ⟨m, h1.keeps g.2, h2⟩⟩
theorem FL.kok (hx : x ≠ "found") (hD : D ≠ env.locals) (hL : env.locals ∈ X) : KOk env (FL env D ds X) x := ⟨FL.closed, fun s h' tk v m f h1 hn hs => by
  refine ⟨?_, ?_⟩
  · obtain ⟨vs, h1, h2⟩ := f.vals
    exact ⟨vs, h1.at fun o e => (hs.2 D hD).trans e, h2.mono fun b o hb e => ⟨hb, (hs.2 b (fun q => hb (q ▸ hL))).trans e⟩⟩
  · obtain ⟨m', h1', h2'⟩ := f.var
    have := ns_one h1 h1'
    subst this
    exact ⟨_, hn, by rw [if_neg (fun q => hx q.symm)]; exact h2'⟩⟩
theorem FL.vis {h' : Heap} {tk : Nat} (f : FL env D ds Y s) (hmY : ∀ b ∈ mu, b ∈ Y) (hL : env.locals ∈ mu) (hD : D ∈ mu) (k : Vis mu Y Z s.heap h') : FL env D ds Z { s with heap := h', toks := tk } := by
  refine ⟨?_, ?_⟩
  · obtain ⟨vs, h1, h2⟩ := f.vals
    exact ⟨vs, h1.at fun o e => (k D o e (.inr hD)).2, h2.vis k hmY⟩
  · obtain ⟨m, h1, h2⟩ := f.var
    exact ⟨m, h1.at' fun o e => (k _ o e (.inr hL)).2, h2⟩
theorem Cx.raw {x : Str} {v : Value} {m : Str → Option Value} {h' : Heap} {tk : Nat} (O : EnvOk hb env X sE) (c : Cx hb env X δ sE s) (hm : s.heap.Ns env.locals m) (hx : δ.lookup x = none)
    (hn : h'.Ns env.locals (fun y => if y = x then some v else m y)) (hs : Heap.SameBut env.locals s.heap h') : Cx hb env X δ sE { s with heap := h', toks := tk } := by
  have ne : ∀ b o, sE.heap.get? b = some o → b ≠ env.locals := fun b o e q => by rw [q, O.Lnew] at e; cases e
  have im : ∀ {v d}, Is X s.heap v d → Is X h' v d := fun i => i.mono fun b o hb e => ⟨hb, (hs.2 b (fun q => hb (q ▸ O.LX))).trans e⟩
  refine ⟨⟨?_, fun b o e => (hs.2 b (ne b o e)).trans (c.grow.2 b o e)⟩, fun b o e => (hs.2 b (ne b o (O.baseE b o e))).trans (c.base b o e), fun a ha => ?_, ⟨_, hn, fun y d' e1 e2 => ?_⟩, fun y d' e1 e2 => ?_⟩
  · obtain ⟨⟨h1, t1, rfl⟩, _⟩ := c.grow; exact ⟨h', tk, rfl⟩
  · by_cases q : a = env.locals
    · obtain ⟨o, _, _, ho, _⟩ := hn; exact ⟨o, q ▸ ho⟩
    · obtain ⟨o, ho⟩ := c.xok a ha; exact ⟨o, (hs.2 a q).trans ho⟩
  · obtain ⟨m', hm', hl⟩ := c.ns
    have := ns_one hm hm'
    subst this
    obtain ⟨v', h1, h2⟩ := hl y d' e1 e2
    exact ⟨v', by rw [if_neg (fun q => by rw [q, hx] at e1; cases e1)]; exact h1, im h2⟩
  · obtain ⟨c', v', h1, ⟨o, ho, hd⟩, h3⟩ := c.cel y d' e1 e2
    exact ⟨c', v', h1, ⟨o, (hs.2 c' (O.apart y c' h1)).trans ho, hd⟩, im h3⟩
theorem EnvOk.more {I : Addr} (O : EnvOk hb env X sE) : EnvOk hb env (I :: X) sE := ⟨O.kind, O.glob, O.bn, List.mem_cons_of_mem _ O.LX, O.Lnew, O.baseE, O.apart⟩
theorem ex_newlist {px pos : Pos} (O : EnvOk hb env X sE) (hcl : env.cells = []) (hk : env.kindOf "found" = some .local) (hx : δ.lookup ("found" : Str) = none)
    (hr : ∀ D, D ∉ X → sE.heap.get? D = none → D ≠ env.locals → Ex w A env (fun s => Cx hb env (D :: X) δ sE s ∧ FL env D [] (D :: X) s) rest P)
    (hs : swapsWith (.List [] p) (some (.Name "found" px)) pos.line env = pure false := by rfl) : Ex w A env (Cx hb env X δ sE) (.Assign [.Name "found" px] (.List [] p) pos :: rest) P := ⟨fun s c => by
  refine wpAny_execs_cons (wpAny_Assign_Name (List_ (args_nil (wpAny_newObj_type ?_ (by show 0 ≤ sizeLine; exact Nat.zero_le _)))) hs)
  have Dx : s.heap.objs.size ∉ X := xnew (a := 0) c.xok
  have De : sE.heap.get? s.heap.objs.size = none := by
    cases e : sE.heap.get? s.heap.objs.size with
    | none => rfl
    | some o => exact absurd (Heap.lt_size (c.grow.2 _ o e)) (Nat.lt_irrefl _)
  have Dl : s.heap.objs.size ≠ env.locals := fun q => Dx (q ▸ O.LX)
  have hp : (s.heap.push ({ cls := .type "list", data := .seq ([] : List Value).toArray } : Obj)).get? s.heap.objs.size = some { cls := .type "list", data := .seq ([] : List Value).toArray } := Heap.get?_push_size _ rfl
  have kp : ∀ b o', s.heap.get? b = some o' → (s.heap.push ({ cls := .type "list", data := .seq ([] : List Value).toArray } : Obj)).get? b = some o' := fun b o' e => Heap.get?_push_of_some _ e
  have c1 : Cx hb env (s.heap.objs.size :: X) δ sE { s with heap := s.heap.push ({ cls := .type "list", data := .seq ([] : List Value).toArray } : Obj) } := c.vis (tk := s.toks) (mu := [env.locals]) (by simp) (fun x c e => by rw [hcl] at e; cases e) (fun b hb => by rw [List.mem_singleton.mp hb]; exact O.LX) (fun b hb => by rw [List.mem_singleton.mp hb]; exact List.mem_cons_of_mem _ O.LX)
    (fun b o' e hb => ⟨hb.imp (fun hb q => by
      rcases List.mem_cons.mp q with rfl | q
      · exact absurd (Heap.lt_size e) (Nat.lt_irrefl _)
      · exact hb q) id, kp b o' e⟩) (fun b o' e => kp b o' (c.grow.2 b o' e)) (fun b o' e => kp b o' (c.base b o' e)) (fun a ha => by
      rcases List.mem_cons.mp ha with rfl | ha
      · exact ⟨_, hp⟩
      · obtain ⟨o', ho'⟩ := c.xok a ha; exact ⟨o', kp a o' ho'⟩)
  obtain ⟨m, h1, h2⟩ := c1.ns
  refine wpAny_storeName_local hk h1 (fun h' hn hs' => ?_) (by rw [O.kind]; rfl)
  refine (hr _ Dx De Dl).run _ ⟨c1.raw O.more h1 hx hn hs', ⟨⟨[], ⟨0, (hs'.2 _ Dl).trans hp⟩, isAll_nil⟩, ⟨_, hn, by rw [if_pos rfl]⟩⟩⟩⟩
theorem ex_append {p1 p2 p3 p4 : Pos} {pl : Sem Bool} (O : EnvOk hb env X sE) (hcl : env.cells = []) (hD : D ∈ X) (hDl : D ≠ env.locals) (hDe : sE.heap.get? D = none) (hk : env.kindOf "found" = some .local) (h : Ev w A env X (Cx hb env X δ sE) e d) (hlen : ds.length ≤ 100000)
    (hr : Ex w A env (fun s => Cx hb env X δ sE s ∧ FL env D (ds ++ [d]) X s) rest P)
    (he : eval (.Call (.Attribute (.Name "found" p1) "append" p2) [e] [] p3) env = (do
      let ov ← eval (.Name "found" p1) env
      standAt p2.atName
      let (f, first) ← holding [ov] (getMethod ov "append" pl)
      callWith p3 f first (backTo p3 (starEach [e] env)) []) := by rfl)
    (he' : starEach [e] env = (false, eval e env) :: starEach [] env := by rfl) (hi : interactive env = false := by rfl) (hs : swapsWith (.Call (.Attribute (.Name "found" p1) "append" p2) [e] [] p3) none p4.line env = pure false := by rfl) :
    Ex w A env (fun s => Cx hb env X δ sE s ∧ FL env D ds X s) (.Expr (.Call (.Attribute (.Name "found" p1) "append" p2) [e] [] p3) p4 :: rest) P := ⟨fun s c => by
  refine wpAny_execs_cons (wpAny_Expr (MethodCall_ ?_ he) hi hs)
  obtain ⟨m, h1, h2⟩ := c.2.var
  refine wpAny_Name (wpAny_loadName_local O.kind hk h1 h2 ?_) (by decide)
  obtain ⟨vs, ⟨n, hl⟩, ia⟩ := c.2.vals
  refine Calls.getMethod_list_append hl rfl rfl (callWith_method1 (wpAny_mono ((evL_cons Cx.closed h evL_nil he').run s c.1) (fun ws s1 ⟨g1, j⟩ => ?_) fun _ _ h => h) he' rfl)
  obtain ⟨v, rfl, iv⟩ := one_inv j
  have c1 := closedK FL.closed s s1 c g1
  have hl1 : s1.heap.PlainList D vs.toArray := ⟨n, g1.2 _ _ hl⟩
  have hvl := ia.length
  refine wpAny_list_append_plain hl1 (fun h' hp hs' => ?_) (by rw [List.size_toArray, sizeLine_eq]; omega)
  have kp : ∀ b o', b ≠ D → s1.heap.get? b = some o' → h'.get? b = some o' := fun b o' hb e => (hs'.2 b hb).trans e
  have neE : ∀ b o', sE.heap.get? b = some o' → b ≠ D := fun b o' e q => by rw [q, hDe] at e; cases e
  have c2 : Cx hb env X δ sE { s1 with heap := h' } := c1.1.vis (tk := s1.toks) (mu := [env.locals]) (by simp) (fun x c e => by rw [hcl] at e; cases e) (fun b hb => by rw [List.mem_singleton.mp hb]; exact O.LX) (fun b hb => by rw [List.mem_singleton.mp hb]; exact O.LX)
    (fun b o' e hb => ⟨hb, kp b o' (by
      rcases hb with hb | hb
      · exact fun q => hb (q ▸ hD)
      · rw [List.mem_singleton.mp hb]; exact hDl.symm) e⟩) (fun b o' e => kp b o' (neE b o' e) (c1.1.grow.2 b o' e)) (fun b o' e => kp b o' (neE b o' (O.baseE b o' e)) (c1.1.base b o' e)) (fun a ha => by
      by_cases q : a = D
      · obtain ⟨n', hn'⟩ := hp; exact ⟨_, q ▸ hn'⟩
      · obtain ⟨o', ho'⟩ := c1.1.xok a ha; exact ⟨o', kp a o' q ho'⟩)
  refine hr.run _ ⟨c2, ⟨vs ++ [v], by simpa using hp, ?_⟩, ?_⟩
  · have im : ∀ {v d}, Is X s1.heap v d → Is X h' v d := fun i => i.mono fun b o' hb e => ⟨hb, kp b o' (fun q => hb (q ▸ hD)) e⟩
    have ia1 : IsAll X h' vs ds := (ia.grow g1.2).mono fun b o' hb e => ⟨hb, kp b o' (fun q => hb (q ▸ hD)) e⟩
    have iv1 := im iv
    have app : ∀ {vs : List Value} {ds : List PyData}, IsAll X h' vs ds → IsAll X h' (vs ++ [v]) (ds ++ [d]) := by
      intro vs ds
      induction ds generalizing vs with
      | nil => intro j; rw [j.nil_inv]; exact isAll_cons iv1 isAll_nil
      | cons q r ih => intro j; obtain ⟨u, us, rfl, a, b⟩ := j.cons_inv; exact isAll_cons a (ih b)
    exact app ia1
  · obtain ⟨m, h1, h2⟩ := c1.2.var
    exact ⟨m, h1.sameBut hs' hDl.symm, h2⟩⟩
end
end Mine

end

section
open PySem PySem.W PySem.Spec PyProof.Rows PySem.SeqAt
set_option Elab.async false
set_option linter.unusedVariables false
set_option maxRecDepth 100000
namespace Mine
section
variable {w : World} {mg mb : Str → Option Value} {hb : Heap} {A : Around} {env : Env} {X Y Z mu : List Addr} {δ γ : List (Str × PyData)} {sE s : Shared} {d d₁ d₂ d₃ : PyData} {C : Shared → Prop} {e e₁ e₂ e₃ : Expr} {p p' : Pos} {i j : Int} {x y : Str} {rest : List Stmt} {P : Flow → Shared → Prop} {K : Shared → Prop} {D : Addr} {ds : List PyData}
theorem tst_and3 {a b c : Bool} (hC : Closed C) (h : Tst w A env C e₁ a) (h2 : a = true → Tst w A env C e₂ b) (h3 : a = true → b = true → Tst w A env C e₃ c) : Tst w A env C (.BoolOp .And [e₁, e₂, e₃] p) (a && (b && c)) := ⟨fun s hs => by
  refine isTrue_and (wpAny_mono (h.run s hs) (fun a' s1 ⟨g, i⟩ => ?_) fun _ _ h => h)
  subst i
  cases a' with
  | false => exact ⟨g, rfl⟩
  | true =>
    rw [if_pos rfl]
    refine isTrue_and (wpAny_mono ((h2 rfl).run s1 (hC s s1 hs g)) (fun b' s2 ⟨g2, i2⟩ => ?_) fun _ _ h => h)
    subst i2
    cases b' with
    | false => exact ⟨g.trans g2, rfl⟩
    | true =>
      rw [if_pos rfl]
      refine isTrue_and (wpAny_mono ((h3 rfl rfl).run s2 (hC s s2 hs (g.trans g2))) (fun c' s3 ⟨g3, i3⟩ => ?_) fun _ _ h => h)
      subst i3
      cases c' with
      | false => exact ⟨(g.trans g2).trans g3, rfl⟩
      | true => rw [if_pos rfl]; exact isTrue_and_nil ⟨(g.trans g2).trans g3, rfl⟩⟩
theorem ev_and3 {a b c : Bool} (hC : Closed C) (h : Ev w A env X C e₁ (.bool a)) (h2 : a = true → Ev w A env X C e₂ (.bool b)) (h3 : a = true → b = true → Ev w A env X C e₃ (.bool c)) : Ev w A env X C (.BoolOp .And [e₁, e₂, e₃] p) (.bool (a && (b && c))) := ⟨fun s hs => by
  refine BoolOp_and (wpAny_mono (h.run s hs) (fun v s1 ⟨g, i⟩ => ?_) fun _ _ h => h)
  obtain rfl := i.bool
  refine wpAny_truthy_bool ?_
  cases a with
  | false => exact ⟨g, is_bool⟩
  | true =>
    rw [if_pos rfl]
    refine BoolOp_and (wpAny_mono ((h2 rfl).run s1 (hC s s1 hs g)) (fun v s2 ⟨g2, i2⟩ => ?_) fun _ _ h => h)
    obtain rfl := i2.bool
    refine wpAny_truthy_bool ?_
    cases b with
    | false => exact ⟨g.trans g2, is_bool⟩
    | true => rw [if_pos rfl]; exact BoolOp_one (wpAny_mono ((h3 rfl rfl).run s2 (hC s s2 hs (g.trans g2))) (fun v s3 ⟨g3, i3⟩ => ⟨(g.trans g2).trans g3, by simpa using i3⟩) fun _ _ h => h)⟩
theorem to_rpart {t u : Tok} (hX : XOk X s) (hy : (y.length == 0) = false) (hsz : x.length ≤ 1000000) : To w A X (call (.builtin "str.rpartition") [.str x t, .str y u]) (.tuple [.str (Txt.rpartition x y).1, .str (Txt.rpartition x y).2.1, .str (Txt.rpartition x y).2.2]) s := by
  refine call_meets F.slot_str_rpartition (typeIs_str _ _ _) F.entry_str_rpartition (F.args_str_rpartition_2 _ _) (meets_str_rpartition x y t u hy (by rw [sizeLine_eq]; omega)) ?_
  have hn : s.heap.objs.size ∉ X := xnew (a := 0) hX
  unfold Txt.rpartition
  cases Builtin.Str.lastOccurrence x y 0 x.length with
  | none => exact ⟨.mk' fun b o e => Heap.get?_push_of_some _ e, is_tup (vs := [_, _, _]) ⟨_, Heap.get?_push_size _ rfl, rfl, 0, rfl⟩ hn (isAll_cons is_str (isAll_cons is_str (isAll_cons is_str isAll_nil)))⟩
  | some i => exact ⟨.mk' fun b o e => Heap.get?_push_of_some _ e, is_tup (vs := [_, _, _]) ⟨_, Heap.get?_push_size _ rfl, rfl, 0, rfl⟩ hn (isAll_cons is_str (isAll_cons is_str (isAll_cons is_str isAll_nil)))⟩
theorem ev_len {np pos : Pos} {e : Expr} (B : Bs w mg mb hb) (hf : env.scope.kind = .function) (hg : env.globals = mainGlobals) (hbn : env.builtins = builtinsNs) (hk : env.kindOf "len" = some .globalImplicit)
    (h : Ev w A env X (Cx hb env X δ sE) e (.str x)) (hz : x.length ≤ 1000000) (he : starEach [e] env = (false, eval e env) :: starEach [] env := by rfl)
    (hq : eval (.Call (.Name "len" np) [e] [] pos) env = (do callWith pos (← eval (.Name "len" np) env) [] (backTo pos (starEach [e] env)) (backToKw pos (keywordEach [] env))) := by rfl) :
    Ev w A env X (Cx hb env X δ sE) (.Call (.Name "len" np) [e] [] pos) (.int x.length) :=
  ev_callB Cx.closed (nm_built B (glob_out B (by kernel_rfl)) (by kernel_rfl : bootBuiltins "len" = some (.builtin "len")) (by decide) hk hf hg hbn) (evL_cons Cx.closed h evL_nil he) (fun s vs c ha => by
    obtain ⟨v, rfl, i⟩ := one_inv ha
    obtain ⟨t, rfl⟩ := i.str
    exact P.len_str (by omega) ⟨.toks, is_int⟩) he rfl hq
theorem ev_intS {np pos : Pos} {e : Expr} {n : Int} (B : Bs w mg mb hb) (hf : env.scope.kind = .function) (hg : env.globals = mainGlobals) (hbn : env.builtins = builtinsNs) (hk : env.kindOf "int" = some .globalImplicit)
    (h : Ev w A env X (Cx hb env X δ sE) e (.str x)) (hn : PySem.intText? x = some n) (hz : x.length ≤ 640) (he : starEach [e] env = (false, eval e env) :: starEach [] env := by rfl)
    (hq : eval (.Call (.Name "int" np) [e] [] pos) env = (do callWith pos (← eval (.Name "int" np) env) [] (backTo pos (starEach [e] env)) (backToKw pos (keywordEach [] env))) := by rfl) :
    Ev w A env X (Cx hb env X δ sE) (.Call (.Name "int" np) [e] [] pos) (.int n) :=
  ev_callT Cx.closed (nm_built B (glob_out B (by kernel_rfl)) (by kernel_rfl : bootBuiltins "int" = some (.type "int")) (by decide) hk hf hg hbn) (evL_cons Cx.closed h evL_nil he) (fun s vs c ha => by
    obtain ⟨v, rfl, i⟩ := one_inv ha
    obtain ⟨t, rfl⟩ := i.str
    exact KIN.call_text hn hz ⟨.toks, is_int⟩) he rfl hq
theorem ex_retFound {L : Addr} {p1 p2 : Pos} (O : EnvOk hb env (D :: L :: X) sE) (hDX : D ∉ X) (hk : env.kindOf "found" = some .local) :
    Ex w A env (fun s => Cx hb env (D :: L :: X) δ sE s ∧ FL env D ds (D :: L :: X) s) (.Return (some (.Name "found" p1)) p2 :: rest) (RetP X sE (.list ds)) := ⟨fun s c => by
  obtain ⟨m, h1, h2⟩ := c.2.var
  obtain ⟨vs, hl, ia⟩ := c.2.vals
  refine wpAny_execs_cons (wpAny_Return_some (wpAny_Name (wpAny_loadName_local O.kind hk h1 h2 ?_) (by decide)))
  exact ⟨_, rfl, c.1.grow, is_lst (vs := vs) hl.isList hDX (ia.mono fun b o hb e => ⟨fun q => hb (List.mem_cons_of_mem _ (List.mem_cons_of_mem _ q)), e⟩)⟩⟩
theorem sub_skip {a : Str} {d : PyData} {l : List (Str × PyData)} (h : l.lookup a = none) : ∀ y q, l.lookup y = some q → ((a, d) :: l).lookup y = some q := fun y q e => by
  rw [List.lookup_cons]
  cases hq : y == a with
  | true => rw [beq_iff_eq.mp hq, h] at e; cases e
  | false => exact e
-- what is read
def figs (line : Str) : Str := if Txt.slice line none (some 1) == "-" then Txt.slice line (some 1) none else line
def plainB (line : Str) : Bool := (figs line != "") && ((Txt.stripChars (figs line) "0123456789" == "") && ((sgn (hd0 (figs line)) != "0") || (line == "0")))
def cAt (x : Str) (i : Nat) : Nat := x.cps.getD i 0
def intOf (line : Str) : Int := (PySem.intText? line).getD 0
def rp (x : Str) (i : Nat) : Str × Str × Str := Txt.rpartition (Txt.slice x none (some (i : Int))) ":"
def good (q : Str × Str × Str) : Bool := (q.2.1 == ":") && (plainB q.2.2 && !PyData.eqv (.tuple [.str q.1, .str q.2.2]) (.tuple [.str "~", .str "0"]))
def ent (x : Str) (i : Nat) : List (Str × Int × Str) :=
  if (sgn (cAt x i) == "(") && (sgn (cAt x (x.length - 1)) == ")") then
    (if good (rp x i) then [((rp x i).1, intOf (rp x i).2.2, Txt.slice x (some ((i : Int) + 1)) (some (-1)))] else [])
  else []
def ents0 (x : Str) : List (Str × Int × Str) := if !betw x "<" ">" then [("~", 0, x)] else []
def ents1 (x : Str) : List (Str × Int × Str) := if betw x "{" "}" then [("~", 0, "<" ++ Txt.slice x (some 1) (some (-1)) ++ ">")] else []
def entsTo (x : Str) (n : Nat) : List (Str × Int × Str) := (List.range n).flatMap (ent x)
def readTo (x : Str) (n : Nat) : List (Str × Int × Str) := (ents0 x ++ ents1 x) ++ entsTo x n
def readP (x : Str) : List (Str × Int × Str) := readTo x (x.length - 1)
theorem entsTo_succ (x : Str) (n : Nat) : entsTo x (n + 1) = entsTo x n ++ ent x n := by
  unfold entsTo
  rw [List.range_succ, List.flatMap_append]; simp
theorem readTo_succ (x : Str) (n : Nat) : readTo x (n + 1) = readTo x n ++ ent x n := by
  unfold readTo
  rw [entsTo_succ]; simp [List.append_assoc]
theorem ent_len (x : Str) (i : Nat) : (ent x i).length ≤ 1 := by
  unfold ent
  split
  · split <;> simp
  · simp
theorem readTo_len (x : Str) : ∀ n, (readTo x n).length ≤ 2 + n
  | 0 => by
    show (ents0 x ++ ents1 x ++ []).length ≤ 2
    unfold ents0 ents1
    rw [List.append_nil, List.length_append]
    split <;> split <;> simp
  | n + 1 => by
    rw [readTo_succ, List.length_append]
    have := readTo_len x n
    have := ent_len x n
    omega
theorem con_read (B : Bs w mg mb hb) (k : Nat) (x : Str) (hx : x.length ≤ 500) (hok : Ok x) (hint : ∀ i, i < x.length → plainB (rp x i).2.2 = true → ∃ n, PySem.intText? (rp x i).2.2 = some n) (hrl : ∀ i, (rp x i).2.2.length ≤ 500 ∧ Ok (rp x i).1 ∧ Ok (rp x i).2.2) : Con w mg hb (k + 2) (dRecP pw 13).name [.str x] (.list ((readP x).map fn)) := by
  refine con_plain (k := k + 1) (names := ["shown"]) B (by rw [recs_eq]; simp) rfl ?_ ?_ ?_ rfl rfl rfl ?_ ?_
  · intro pm cd doc vs hl
    obtain ⟨a, rfl⟩ : ∃ a, vs = [a] := by
      match vs, hl with
      | [a], _ => exact ⟨a, rfl⟩
    kernel_rfl
  · decide +kernel
  · decide +kernel
  · decide +kernel
  · intro A L a cd X sE hA O
    refine ex_newlist O rfl rfl rfl fun D hD1 hD2 hD3 => ?_
    have hDX : D ∉ X := fun q => hD1 (List.mem_cons_of_mem _ q)
    have OD := O.more (I := D)
    have btw : ∀ {X' sE' δ'} (o c : Str) (pn p1 p2 p3 p4 : Pos), (δ' : List (Str × PyData)).lookup ("shown" : Str) = some (.str x) → Ev w A (envOf (dRecP pw 13).name (dRecP pw 13).scope L a cd) X' (Cx hb (envOf (dRecP pw 13).name (dRecP pw 13).scope L a cd) X' δ' sE') (.Call (.Name "_law_between" pn) [.Name "shown" p1, .Constant (.str o) 0 p2, .Constant (.str c) 0 p3] [] p4) (.bool (betw x o c)) := fun o c pn p1 p2 p3 p4 hδ =>
      ev_own B hA (con_between B k x o c (by omega)) ⟨dRecP pw 12, by rw [recs_eq]; simp, rfl⟩ rfl rfl rfl (evL_cons Cx.closed (ev_loc hδ rfl rfl) (evL_cons Cx.closed ev_strC (evL_cons Cx.closed ev_strC evL_nil)))
    refine ex_if (b := !betw x "<" ">") (C' := fun s => Cx hb (envOf (dRecP pw 13).name (dRecP pw 13).scope L a cd) (D :: L :: X) [("shown", .str x)] sE s ∧ FL (envOf (dRecP pw 13).name (dRecP pw 13).scope L a cd) D ((ents0 x).map fn) (D :: L :: X) s) (closedK FL.closed) (Tst.of (fun s c => c.1) (tst_not (tst_plain (X := D :: L :: X) (btw _ _ _ _ _ _ _ rfl)))) (fun hq => ?_) (fun hq => ?_) ?_
    · unfold ents0
      rw [if_pos hq]
      exact ex_append (ds := []) OD rfl List.mem_cons_self hD3 hD2 rfl (ev_tuple Cx.xoks Cx.closed (evL_cons Cx.closed ev_strC (evL_cons Cx.closed ev_int (evL_cons Cx.closed (ev_loc rfl rfl rfl) evL_nil))) (by show 3 ≤ 1000; decide)) (by decide) (ex_nil fun s c => c)
    · unfold ents0
      rw [if_neg (by rw [hq]; exact Bool.false_ne_true)]
      exact ex_nil fun s c => c
    refine ex_if (b := betw x "{" "}") (C' := fun s => Cx hb (envOf (dRecP pw 13).name (dRecP pw 13).scope L a cd) (D :: L :: X) [("shown", .str x)] sE s ∧ FL (envOf (dRecP pw 13).name (dRecP pw 13).scope L a cd) D ((readTo x 0).map fn) (D :: L :: X) s) (closedK FL.closed) (Tst.of (fun s c => c.1) (tst_plain (X := D :: L :: X) (btw _ _ _ _ _ _ _ rfl))) (fun hq => ?_) (fun hq => ?_) ?_
    · have e : (readTo x 0).map fn = (ents0 x).map fn ++ [fn ("~", 0, "<" ++ Txt.slice x (some 1) (some (-1)) ++ ">")] := by
        show (ents0 x ++ ents1 x ++ []).map fn = _
        unfold ents1
        rw [if_pos hq, List.append_nil, List.map_append]; rfl
      rw [e]
      have h1 := Txt.slice_le x (some 1) (some (-1))
      refine ex_append OD rfl List.mem_cons_self hD3 hD2 rfl (ev_tuple Cx.xoks Cx.closed (evL_cons Cx.closed ev_strC (evL_cons Cx.closed ev_int (evL_cons Cx.closed (ev_cat Cx.closed (ev_cat Cx.closed ev_strC (ev_cut (l := some 1) (u := some (-1)) Cx.closed (ev_loc rfl rfl rfl) ev_int (ev_neg ev_int) (by omega) (fun _ _ _ => rfl)) ?_) ev_strC ?_) evL_nil))) (by show 3 ≤ 1000; decide)) ?_ (ex_nil fun s c => c)
      · show 1 + _ ≤ sizeLine
        rw [sizeLine_eq]; omega
      · rw [Str.length_append]
        show 1 + _ + 1 ≤ sizeLine
        rw [sizeLine_eq]; omega
      · rw [List.length_map]
        unfold ents0
        split <;> simp
    · have e : (readTo x 0).map fn = (ents0 x).map fn := by
        show (ents0 x ++ ents1 x ++ []).map fn = _
        unfold ents1
        rw [if_neg (by rw [hq]; exact Bool.false_ne_true), List.append_nil, List.append_nil]
      rw [e]
      exact ex_nil fun s c => c
    have hn : ((x.length : Int) - 1).toNat = x.length - 1 := by omega
    have hlen : (numsTo (x.length - 1)).length = x.length - 1 := by simp [numsTo]
    refine ex_forG (mu := [D, L]) (ds := numsTo (x.length - 1)) (K := fun i Y s => FL (envOf (dRecP pw 13).name (dRecP pw 13).scope L a cd) D ((readTo x i).map fn) Y s) hA.1 OD (List.mem_cons_of_mem _ List.mem_cons_self) (fun x c e => by cases e) (fun b hb => ?_) (fun b hb => ?_) (fun i Y Z s h' tk h1 h2 f v => f.vis h1 (List.mem_cons_of_mem _ List.mem_cons_self) List.mem_cons_self v)
      (Src.of (fun s c => c.1) (hn ▸ src_range Cx.closed (nm_built B (glob_out B (by kernel_rfl)) (by kernel_rfl : bootBuiltins "range" = some (.type "range")) (by decide) rfl rfl rfl rfl) (ev_sub Cx.closed (ev_len B rfl rfl rfl rfl (ev_loc rfl rfl rfl) (by omega)) ev_int) (by omega) (by omega))) ?_ ?_
    · rcases List.mem_cons.mp hb with rfl | hb
      · exact hD2
      · rw [List.mem_singleton.mp hb]; exact O.Lnew
    · rcases List.mem_cons.mp hb with rfl | hb
      · exact List.mem_cons_self
      · rw [List.mem_singleton.mp hb]; exact List.mem_cons_of_mem _ List.mem_cons_self
    · intro I sB i d v s hd O' hmuB c f iv
      have hi : i < x.length - 1 := by rw [← hlen]; exact (List.getElem?_eq_some_iff.mp hd).1
      have hd' : d = .int i := by
        rw [numsTo, List.getElem?_map, List.getElem?_range hi] at hd
        exact (Option.some.inj hd).symm
      subst hd'
      have hDB : sB.heap.get? D = none := hmuB D List.mem_cons_self
      refine PyProof.Rows.assign_Name (ex_storeK O' (FL.kok (by decide) hD3 O'.LX) ⟨c, f⟩ iv rfl fun s' c' _ => Ex.run (C := fun s => Cx hb (envOf (dRecP pw 13).name (dRecP pw 13).scope L a cd) (I :: D :: L :: X) [("k", .int i), ("shown", .str x)] sB s ∧ FL (envOf (dRecP pw 13).name (dRecP pw 13).scope L a cd) D ((readTo x i).map fn) (I :: D :: L :: X) s) ?_ s' c')
      have kok : ∀ {n : Str} {l}, n ≠ "found" → KOk (envOf (dRecP pw 13).name (dRecP pw 13).scope L a cd) (FL (envOf (dRecP pw 13).name (dRecP pw 13).scope L a cd) D l (I :: D :: L :: X)) n := fun hn => FL.kok hn hD3 O'.LX
      have hxi : (seqIndex? (i : Int) x.length).bind (x.cps[·]?) = some (cAt x i) := by
        refine StrLaws.at_nonneg (by omega) ?_
        rw [Int.toNat_natCast, cAt, Array.getD_eq_getD_getElem?, Array.getElem?_eq_getElem (show i < x.cps.size by have : x.length = x.cps.size := rfl; omega)]; rfl
      have hxl : (seqIndex? (-1 : Int) x.length).bind (x.cps[·]?) = some (cAt x (x.length - 1)) := by
        rw [StrLaws.seqIndex_neg (by decide) (by omega)]
        show x.cps[(-1 + (x.length : Int)).toNat]? = _
        rw [show (-1 + (x.length : Int)).toNat = x.length - 1 by omega, cAt, Array.getD_eq_getD_getElem?, Array.getElem?_eq_getElem (show x.length - 1 < x.cps.size by have : x.length = x.cps.size := rfl; omega)]; rfl
      refine ex_if (b := (sgn (cAt x i) == "(") && (sgn (cAt x (x.length - 1)) == ")")) (C' := fun s => Cx hb (envOf (dRecP pw 13).name (dRecP pw 13).scope L a cd) (I :: D :: L :: X) [("shown", .str x)] sB s ∧ FL (envOf (dRecP pw 13).name (dRecP pw 13).scope L a cd) D ((readTo x (i + 1)).map fn) (I :: D :: L :: X) s) (closedK FL.closed)
        (Tst.of (fun s c => c.1) (tst_and Cx.closed (tst_cmp (X := I :: D :: L :: X) (ev_eqS Cx.closed (ev_itemS Cx.closed (ev_loc rfl rfl rfl) (ev_loc rfl rfl rfl) (by omega) hxi) ev_strC)) fun _ => tst_cmp (X := I :: D :: L :: X) (ev_eqS Cx.closed (ev_itemS Cx.closed (ev_loc rfl rfl rfl) (ev_neg ev_int) (by omega) hxl) ev_strC)))
        (fun hq => ?_) (fun hq => ?_) (ex_nil fun s c => ⟨rfl, c⟩)
      · have hle := Txt.slice_le x none (some (i : Int))
        have hre : readTo x (i + 1) = readTo x i ++ (if good (rp x i) then [((rp x i).1, intOf (rp x i).2.2, Txt.slice x (some ((i : Int) + 1)) (some (-1)))] else []) := by
          rw [readTo_succ, ent, if_pos hq]
        have hl2 := (hrl i).1
        refine ex_tripK (d₁ := .str (rp x i).1) (d₂ := .str (rp x i).2.1) (d₃ := .str (rp x i).2.2) hA.1 O' (kok (by decide)) (kok (by decide)) (kok (by decide)) (ev_meth Cx.closed (ev_cut (l := none) (u := some (i : Int)) Cx.closed (ev_loc rfl rfl rfl) trivial (ev_loc (d := .int i) rfl rfl rfl) (by omega) (fun _ _ _ => rfl)) (fun _ _ _ _ _ h => GM.rpartition h) (evL_cons Cx.closed ev_strC evL_nil) (fun s t vs c ha => ?_)) rfl rfl rfl ?_
        · obtain ⟨v, rfl, iv⟩ := one_inv ha
          obtain ⟨u, rfl⟩ := iv.str
          exact to_rpart c.xok rfl (by omega)
        refine ex_assignK (d := .str (figs (rp x i).2.2)) O' (kok (by decide)) (ev_ifexp (c := Txt.slice (rp x i).2.2 none (some 1) == "-") Cx.closed (tst_cmp (X := I :: D :: L :: X) (ev_eqS Cx.closed (ev_cut (l := none) (u := some 1) Cx.closed (ev_loc rfl rfl rfl) trivial ev_int (by omega) (fun _ _ _ => rfl)) ev_strC)) (fun hc => ?_) (fun hc => ?_)) rfl ?_
        · have e : figs (rp x i).2.2 = Txt.slice (rp x i).2.2 (some 1) none := by unfold figs; rw [if_pos hc]
          rw [e]
          exact ev_cut (l := some 1) (u := none) Cx.closed (ev_loc rfl rfl rfl) ev_int trivial (by omega) (fun _ _ _ => rfl)
        · have e : figs (rp x i).2.2 = (rp x i).2.2 := by unfold figs; rw [if_neg (by rw [hc]; exact Bool.false_ne_true)]
          rw [e]
          exact ev_loc rfl rfl rfl
        have hf : (figs (rp x i).2.2).length ≤ 500 := by
          unfold figs
          split
          · exact Nat.le_trans (Txt.slice_le _ _ _) hl2
          · exact hl2
        refine ex_assignK (d := .bool (plainB (rp x i).2.2)) O' (kok (by decide)) (ev_and3 Cx.closed (ev_neS Cx.closed (ev_loc rfl rfl rfl) ev_strC) (fun _ => ev_eqS Cx.closed (ev_meth Cx.closed (ev_loc rfl rfl rfl) (fun _ _ _ _ _ h => GM.strip h) (evL_cons Cx.closed ev_strC evL_nil) (fun s t vs c ha => ?_)) ev_strC)
          (fun hne _ => ev_or Cx.closed (ev_neS Cx.closed (ev_itemS (c := hd0 (figs (rp x i).2.2)) Cx.closed (ev_loc rfl rfl rfl) ev_int (by omega) ?_) ev_strC) fun _ => ev_eqS Cx.closed (ev_loc rfl rfl rfl) ev_strC)) rfl ?_
        · obtain ⟨v, rfl, iv⟩ := one_inv ha
          obtain ⟨u, rfl⟩ := iv.str
          exact SCL.stripChars (fun t' k _ => ⟨.toks, is_str⟩) (by rw [sizeLine_eq]; omega)
        · have hne' : 0 < (figs (rp x i).2.2).cps.size := by
            rcases Nat.eq_zero_or_pos (figs (rp x i).2.2).cps.size with h0 | h0
            · exfalso
              have : figs (rp x i).2.2 = "" := by
                have h1 : (figs (rp x i).2.2).cps = #[] := Array.size_eq_zero_iff.mp h0
                exact congrArg Str.mk h1
              rw [this] at hne
              exact absurd hne (by decide)
            · exact h0
          refine StrLaws.at_nonneg (by decide) ?_
          show (figs (rp x i).2.2).cps[0]? = _
          rw [hd0, Array.getD_eq_getD_getElem?, Array.getElem?_eq_getElem hne']; rfl
        refine ex_if (b := good (rp x i)) (C' := fun s => Cx hb (envOf (dRecP pw 13).name (dRecP pw 13).scope L a cd) (I :: D :: L :: X) [("shown", .str x)] sB s ∧ FL (envOf (dRecP pw 13).name (dRecP pw 13).scope L a cd) D ((readTo x (i + 1)).map fn) (I :: D :: L :: X) s) (closedK FL.closed)
          (Tst.of (fun s c => c.1) (tst_and3 Cx.closed (tst_cmp (X := I :: D :: L :: X) (ev_eqS Cx.closed (ev_loc rfl rfl rfl) ev_strC)) (fun _ => tst_plain (X := I :: D :: L :: X) (ev_loc rfl rfl rfl)) (fun _ _ => tst_cmp (X := I :: D :: L :: X) (ev_neD Cx.closed hA.units (ev_tuple Cx.xoks Cx.closed (evL_cons Cx.closed (ev_loc rfl rfl rfl) (evL_cons Cx.closed (ev_loc rfl rfl rfl) evL_nil)) (by show 2 ≤ 1000; decide)) (ev_tuple Cx.xoks Cx.closed (evL_cons Cx.closed ev_strC (evL_cons Cx.closed ev_strC evL_nil)) (by show 2 ≤ 1000; decide)) (shaped_2s (hrl i).2.1 (hrl i).2.2) (shaped_2s (by decide +kernel) (by decide +kernel))))))
          (fun hg => ?_) (fun hg => ?_) (ex_nil fun s c => c)
        · rw [hre, if_pos hg, List.map_append]
          have hpl : plainB (rp x i).2.2 = true := by
            unfold good at hg
            simp only [Bool.and_eq_true] at hg
            exact hg.2.1
          obtain ⟨n, hnn⟩ := hint i (by omega) hpl
          have hio : intOf (rp x i).2.2 = n := by unfold intOf; rw [hnn]; rfl
          rw [hio]
          refine ex_append O' rfl (List.mem_cons_of_mem _ List.mem_cons_self) hD3 hDB rfl (ev_tuple Cx.xoks Cx.closed (evL_cons Cx.closed (ev_loc rfl rfl rfl) (evL_cons Cx.closed (ev_intS B rfl rfl rfl rfl (ev_loc rfl rfl rfl) hnn (by omega)) (evL_cons Cx.closed (ev_cut (l := some ((i : Int) + 1)) (u := some (-1)) Cx.closed (ev_loc rfl rfl rfl) (ev_add (i := (i : Int)) (j := 1) Cx.closed (ev_loc rfl rfl rfl) ev_int) (ev_neg ev_int) (by omega) (fun _ _ _ => rfl)) evL_nil))) (by show 3 ≤ 1000; decide)) ?_ (ex_nil fun s c => ⟨c.1.sub ?_, c.2⟩)
          · rw [List.length_map]
            have := readTo_len x i
            omega
          · intro y q h
            rw [List.lookup_cons] at h
            cases hq2 : y == ("shown" : Str) with
            | true => rw [hq2] at h; cases h; rw [beq_iff_eq.mp hq2]; rfl
            | false => rw [hq2] at h; cases h
        · rw [hre, if_neg (by rw [hg]; exact Bool.false_ne_true), List.append_nil]
          refine ex_nil fun s c => ⟨c.1.sub ?_, c.2⟩
          intro y q h
          rw [List.lookup_cons] at h
          cases hq2 : y == ("shown" : Str) with
          | true => rw [hq2] at h; cases h; rw [beq_iff_eq.mp hq2]; rfl
          | false => rw [hq2] at h; cases h
      · have e : readTo x (i + 1) = readTo x i := by
          rw [readTo_succ, ent, if_neg (by rw [hq]; exact Bool.false_ne_true), List.append_nil]
        rw [e]
        exact ex_nil fun s c => ⟨c.1.sub (sub_skip rfl), c.2⟩
    · rw [hlen]
      exact ex_retFound OD hDX rfl
end
end Mine

end

section
open PySem PySem.W PySem.Spec PyProof.Rows PySem.SeqAt
set_option Elab.async false
set_option linter.unusedVariables false
set_option maxRecDepth 100000
namespace Mine
section
variable {w : World} {mg mb : Str → Option Value} {hb : Heap} {A : Around} {env : Env} {X Y Z mu : List Addr} {δ γ : List (Str × PyData)} {sE s : Shared} {d d₁ d₂ d₃ : PyData} {C : Shared → Prop} {e e₁ e₂ e₃ : Expr} {p p' : Pos} {i j : Int} {x y : Str} {rest : List Stmt} {P : Flow → Shared → Prop} {K : Shared → Prop} {D : Addr} {ds ds' : List PyData}
theorem isAll_of {h : Heap} : ∀ {vs : List Value} {ds : List PyData}, vs.length = ds.length → (∀ (j : Nat) v, vs[j]? = some v → ∃ d, ds[j]? = some d ∧ Is X h v d) → IsAll X h vs ds
  | [], [], _, _ => isAll_nil
  | v :: vs, d :: ds, hl, hv => by
    obtain ⟨d', e, i⟩ := hv 0 v rfl
    cases e
    exact isAll_cons i (isAll_of (by simpa using hl) fun j u hu => hv (j + 1) u hu)
theorem IsAll.take {h : Heap} : ∀ {vs : List Value} {ds : List PyData} (n : Nat), IsAll X h vs ds → IsAll X h (vs.take n) (ds.take n)
  | vs, ds, 0, _ => by simpa using isAll_nil
  | vs, [], n + 1, j => by rw [j.nil_inv]; simpa using isAll_nil
  | vs, d :: ds, n + 1, j => by
    obtain ⟨v, r, rfl, i, q⟩ := j.cons_inv
    exact isAll_cons i (q.take n)
theorem IsAll.app {h : Heap} : ∀ {vs ws : List Value} {ds ds' : List PyData}, IsAll X h vs ds → IsAll X h ws ds' → IsAll X h (vs ++ ws) (ds ++ ds')
  | vs, ws, [], ds', j, q => by rw [j.nil_inv]; exact q
  | vs, ws, d :: ds, ds', j, q => by
    obtain ⟨v, r, rfl, i, j⟩ := j.cons_inv
    exact isAll_cons i (j.app q)
theorem ev_cutL {v : Expr} {k : Nat} {n : Nat} {pc : Pos} (hX : ∀ s, C s → XOk X s) (hC : Closed C) (h : Ev w A env X C v (.list ds)) (hz : ds.length ≤ 1000) : Ev w A env X C (.Subscript v (.Slice none (some (.Constant (.int (n : Int)) k pc)) none p') p) (.list (ds.take n)) := ⟨fun s hs0 => by
  refine Subscript_ (wpAny_mono (h.run s hs0) (fun o s1 ⟨g1, i1⟩ => ?_) fun _ _ h => h)
  have c1 := hC s s1 hs0 g1
  refine wpAny_Slice (evalPart_none_step (evalPart_some_step (wpAny_mono ((ev_int (X := X) (C := C)).run s1 c1) (fun v2 s2 ⟨g2, i2⟩ => evalPart_none_step ?_) fun _ _ h => h)))
  obtain ⟨t, rfl⟩ := i2.int
  obtain ⟨a, vs, rfl, ha, hl, ia⟩ := (i1.grow g2.2).lst
  have hX2 := hX s2 (hC s1 s2 c1 g2)
  have hvl := ia.length
  have hk : ∀ b o, s2.heap.get? b = some o → (s2.heap.push ({ cls := .type "slice", data := .fields #[.none, .int n t, .none] } : Obj)).get? b = some o := fun b o e => Heap.get?_push_of_some _ e
  refine tail_any (s := { s2 with heap := s2.heap.push ({ cls := .type "slice", data := .fields #[.none, .int n t, .none] } : Obj) }) (ops := [.ref s2.heap.objs.size, .ref a]) list_getitem_lookup (hl.push _).typeIs
    (wpAny_getItem_list_slice (lo := none) (hi := some (n : Int)) (st := none) (hl.push _) (Heap.IsSliceOf.new ..) .none (.int _ _) .none (by intro q; cases q) ?_ (by rw [List.size_toArray, sizeLine_eq]; omega)) rfl
  have hk2 : ∀ b o, s2.heap.get? b = some o → ((s2.heap.push ({ cls := .type "slice", data := .fields #[.none, .int n t, .none] } : Obj)).push ({ cls := .type "list", data := .seq (slicePick vs.toArray none (some (n : Int)) none) } : Obj)).get? b = some o := fun b o e => Heap.get?_push_of_some _ (hk b o e)
  refine ⟨(g1.trans g2).trans (.mk' (k := s2.toks) hk2), is_lst (vs := vs.take n) ⟨_, Heap.get?_push_size _ rfl, rfl, 0, ?_⟩ ?_ ((ia.take n).grow hk2)⟩
  · rw [slicePick_upto']
  · exact fun q => by obtain ⟨o, ho⟩ := hX2 _ q; exact absurd (Heap.lt_size (hk _ _ ho)) (Nat.lt_irrefl _)⟩
def total (ms : List Int) : Int := preSum (fun j => ms.getD j 0) ms.length
theorem ev_sum {np pos : Pos} {e : Expr} {ms : List Int} (hh : A.handled = none) (B : Bs w mg mb hb) (hf : env.scope.kind = .function) (hg : env.globals = mainGlobals) (hbn : env.builtins = builtinsNs) (hk : env.kindOf "sum" = some .globalImplicit)
    (h : Ev w A env X (Cx hb env X δ sE) e (.list (ms.map .int))) (he : starEach [e] env = (false, eval e env) :: starEach [] env := by rfl)
    (hq : eval (.Call (.Name "sum" np) [e] [] pos) env = (do callWith pos (← eval (.Name "sum" np) env) [] (backTo pos (starEach [e] env)) (backToKw pos (keywordEach [] env))) := by rfl) :
    Ev w A env X (Cx hb env X δ sE) (.Call (.Name "sum" np) [e] [] pos) (.int (total ms)) :=
  ev_callB Cx.closed (nm_built B (glob_out B (by kernel_rfl)) (by kernel_rfl : bootBuiltins "sum" = some (.builtin "sum")) (by decide) hk hf hg hbn) (evL_cons Cx.closed h evL_nil he) (fun s vs c ha => by
    obtain ⟨v, rfl, i⟩ := one_inv ha
    obtain ⟨a, vs, rfl, _, hl, ia⟩ := i.lst
    have hlt : a < s.heap.objs.size := by obtain ⟨o, ho, _⟩ := hl; exact Heap.lt_size ho
    have hvl : vs.length = ms.length := by rw [ia.length, List.length_map]
    refine call_sum_walkG (wpAny_pyIter_list hl ⟨_, _, _, _, _, _, (fun j => ms.getD j 0), rfl, Walks.list (A := A.in1) hh _ a (Nat.ne_of_lt hlt) vs.toArray, ⟨⟨_, Heap.get?_push_size _ rfl, rfl, rfl⟩, hl.push _⟩, ?_, ?_, ?_⟩)
    · intro b hb
      show b < (s.heap.push _).objs.size
      rw [Heap.size_push]
      rcases List.mem_cons.mp hb with rfl | hb
      · exact Nat.lt_succ_self _
      · rw [List.mem_singleton.mp hb]; exact Nat.lt_succ_of_lt hlt
    · intro i v hv
      have hv : vs[i]? = some v := by simpa using hv
      have hi : i < ms.length := by rw [← hvl]; exact (List.getElem?_eq_some_iff.mp hv).1
      obtain ⟨v', hv', iv⟩ := ia.get i (.int ms[i]) (by rw [List.getElem?_map, List.getElem?_eq_getElem hi]; rfl)
      rw [hv] at hv'
      cases hv'
      obtain ⟨t, rfl⟩ := iv.int
      exact ⟨t, by show _ = Value.int (ms.getD i 0) t; rw [List.getD_eq_getElem?_getD, List.getElem?_eq_getElem hi]; rfl⟩
    · intro h' tk t' hk
      rw [List.size_toArray, hvl]
      exact ⟨.mk' fun b o e => hk b o (fun q => by rw [List.mem_singleton.mp q] at e; exact absurd (Heap.lt_size e) (Nat.lt_irrefl _)) (Heap.get?_push_of_some _ e), is_int⟩) he rfl hq
theorem ev_listS {np pos : Pos} {e : Expr} (hh : A.handled = none) (B : Bs w mg mb hb) (hf : env.scope.kind = .function) (hg : env.globals = mainGlobals) (hbn : env.builtins = builtinsNs) (hk : env.kindOf "list" = some .globalImplicit)
    (h : Ev w A env X (Cx hb env X δ sE) e (.str x)) (hz : x.length ≤ 1000) (he : starEach [e] env = (false, eval e env) :: starEach [] env := by rfl)
    (hq : eval (.Call (.Name "list" np) [e] [] pos) env = (do callWith pos (← eval (.Name "list" np) env) [] (backTo pos (starEach [e] env)) (backToKw pos (keywordEach [] env))) := by rfl) :
    Ev w A env X (Cx hb env X δ sE) (.Call (.Name "list" np) [e] [] pos) (.list (sgns x)) :=
  ev_callT Cx.closed (nm_built B (glob_out B (by kernel_rfl)) (by kernel_rfl : bootBuiltins "list" = some (.type "list")) (by decide) hk hf hg hbn) (evL_cons Cx.closed h evL_nil he) (fun s vs c ha => by
    obtain ⟨v, rfl, i⟩ := one_inv ha
    obtain ⟨t, rfl⟩ := i.str
    refine call_list_str hh x t (fun h' tk acc c' hk ho hi => ?_) (by rw [sizeLine_eq]; have : x.cps.size = x.length := rfl; omega)
    refine ⟨.mk' hk, is_lst (vs := acc.toList) ⟨_, ho, rfl, c', by simp⟩ (xnew (a := 0) c.xok) (isAll_of ?_ ?_)⟩
    · rw [Array.length_toList, hi.1, sgns, List.length_map, Array.length_toList]
    · intro j v hv
      obtain ⟨cc, u, h1, rfl⟩ := hi.2 j v (by simpa using hv)
      refine ⟨.str (sgn cc), ?_, is_str⟩
      rw [sgns, List.getElem?_map, Array.getElem?_toList, h1]; rfl) he rfl hq
theorem ev_catL (hX : ∀ s, C s → XOk X s) (hC : Closed C) (h1 : Ev w A env X C e₁ (.list ds)) (h2 : Ev w A env X C e₂ (.list ds')) (hz : ds.length + ds'.length ≤ 1000) : Ev w A env X C (.BinOp e₁ .Add e₂ p) (.list (ds ++ ds')) :=
  ev_binop hC h1 h2 fun s a b c ia ib => by
    obtain ⟨l, vs, rfl, _, hl, iv⟩ := ia.lst
    obtain ⟨m, ws, rfl, _, hm, iw⟩ := ib.lst
    have hv := iv.length
    have hw := iw.length
    obtain ⟨⟨cls, dd, data, sl⟩, ho, hc, n, hd⟩ := id hl
    obtain ⟨⟨cls2, dd2, data2, sl2⟩, ho2, hc2, n2, hd2⟩ := id hm
    simp only at hc hd hc2 hd2
    subst hc hd hc2 hd2
    have e : vs.toArray ++ ws.toArray = (vs ++ ws).toArray := by simp
    refine concat_meets ⟨_, ho, rfl⟩ ⟨_, ho2, rfl⟩ noFill_list_add seq_list_add PySem.F.slot_list_add PySem.F.entry_list_add (PySem.F.args_list_add_2 _ _) (list_addW l m vs.toArray ws.toArray n n2 dd dd2 sl sl2 (by simp; rw [sizeLine_eq]; omega)) ⟨ho, ho2, ?_⟩
    rw [e]
    have hk : ∀ b o, s.heap.get? b = some o → (s.heap.push ({ cls := .type "list", data := .seq (vs ++ ws).toArray } : Obj)).get? b = some o := fun b o e => Heap.get?_push_of_some _ e
    exact ⟨.mk' (k := s.toks) hk, is_lst (vs := vs ++ ws) ⟨_, Heap.get?_push_size _ rfl, rfl, 0, rfl⟩ (xnew (a := 0) (hX s c)) ((iv.app iw).grow hk)⟩
theorem ev_notInD {ds : List PyData} (hC : Closed C) (hu : A.units + 65 < cLine) (h1 : Ev w A env X C e₁ d₁) (h2 : Ev w A env X C e₂ (.list ds)) (s1 : shaped d₁ = true) (s2 : shaped (.list ds) = true) (hm : ∀ z ∈ ds, noMix z d₁ = true) (hx : behindInMarks .NotIn e₂ = false := by with_unfolding_all rfl) :
    Ev w A env X C (.Compare e₁ [.NotIn] [e₂] p) (.bool (!decide (countIn d₁ ds ≠ 0))) :=
  ev_cmp hC h1 h2 (fun s a b c ia ib => by obtain ⟨_, ra⟩ := ia.reads; obtain ⟨_, rb⟩ := ib.reads; exact notIn_list_dataH rb ra s2 s1 hu hm ⟨.refl s, is_bool⟩) hx
theorem shaped_ints (ns : List Int) : shaped (.list (ns.map .int)) = true := by
  have h1 : ∀ l : List Int, PyData.canLayAll0 (l.map .int) = true := by
    intro l
    induction l with
    | nil => rfl
    | cons a r ih => simp [PyData.canLayAll0, PyData.canLay0, ih]
  have h2 : ∀ l : List Int, PyData.depthAll (l.map .int) = 0 := by
    intro l
    induction l with
    | nil => rfl
    | cons a r ih => simp [PyData.depthAll, PyData.depth, ih]
  simp [shaped, PyData.canLay0, PyData.depth, h1, h2]
theorem shaped_nil : shaped (.list []) = true := by decide +kernel
theorem shaped_bool (b : Bool) : shaped (.bool b) = true := by cases b <;> decide +kernel
end
end Mine

end

section
open PySem PySem.W PySem.Spec PyProof.Rows PySem.NumText
set_option Elab.async false
set_option linter.unusedVariables false
set_option maxRecDepth 100000
namespace Mine
abbrev cs (x : Str) : List Nat := x.cps.toList
theorem str_ext {x y : Str} (h : cs x = cs y) : x = y := by
  obtain ⟨a⟩ := x
  obtain ⟨b⟩ := y
  have : a = b := Array.toList_inj.mp h
  rw [this]
theorem cs_app (x y : Str) : cs (x ++ y) = cs x ++ cs y := by
  show (x ++ y).cps.toList = _
  rw [Str.cps_append, Array.toList_append]
theorem cs_len (x : Str) : (cs x).length = x.length := by simp [cs, Str.length]
theorem slice_zero {x : Str} (h : x.length = 0) (l u : Option Int) : cs (Txt.slice x l u) = [] := by
  have := Txt.slice_le x l u
  apply List.length_eq_zero_iff.mp
  rw [cs_len]; omega
theorem cs_to {x : Str} {k : Nat} (h : k ≤ x.length) : cs (Txt.slice x none (some (k : Int))) = (cs x).take k := by
  show cs (StrLaws.sliceText x none (some (k : Int))) = _
  rw [StrLaws.sliceText_to ⟨by omega, by rw [show x.cps.toList.length = x.length from cs_len x]; omega⟩]
  simp [cs]
theorem cs_to1 (x : Str) : cs (Txt.slice x none (some 1)) = (cs x).take 1 := by
  by_cases h : x.length = 0
  · rw [slice_zero h, List.length_eq_zero_iff.mp ((cs_len x).trans h)]; rfl
  · exact cs_to (k := 1) (by omega)
theorem cs_from1 (x : Str) : cs (Txt.slice x (some 1) none) = (cs x).drop 1 := by
  by_cases h : x.length = 0
  · rw [slice_zero h, List.length_eq_zero_iff.mp ((cs_len x).trans h)]; rfl
  · show cs (StrLaws.sliceText x (some 1) none) = _
    rw [StrLaws.sliceText_from ⟨by omega, by rw [show x.cps.toList.length = x.length from cs_len x]; omega⟩]
    show ((x.cps.toList.drop 1).take _) = _
    rw [List.take_of_length_le (by simp)]
theorem cs_last1 (x : Str) : cs (Txt.slice x (some (-1)) none) = (cs x).drop (x.length - 1) := by
  by_cases h : x.length = 0
  · rw [slice_zero h, List.length_eq_zero_iff.mp ((cs_len x).trans h)]; simp
  · show cs (StrLaws.sliceText x (some (-1)) none) = _
    rw [StrLaws.sliceText_from_neg (by decide) (by omega)]
    show ((x.cps.toList.drop _).take _) = _
    rw [show (-1 + (x.length : Int)).toNat = x.length - 1 by omega, List.take_of_length_le (by rw [List.length_drop, show x.cps.toList.length = x.length from cs_len x]; omega)]
theorem cs_mid {x : Str} {k : Nat} (h : k + 1 ≤ x.length) : cs (Txt.slice x (some (k : Int)) (some (-1))) = ((cs x).take (x.length - 1)).drop k := by
  show cs (StrLaws.sliceText x (some (k : Int)) (some (-1))) = _
  rw [StrLaws.sliceText_neg_hi x _ (by decide) (by omega), StrLaws.sliceText_plain ⟨by omega, by omega, by rw [show x.cps.toList.length = x.length from cs_len x]; omega⟩]
  show ((x.cps.toList.drop _).take _) = _
  rw [Int.toNat_natCast, show (-1 + (x.length : Int) - k).toNat = x.length - 1 - k by omega, List.drop_take]
theorem drop_last {l : List Nat} {b : Nat} (h : l.drop (l.length - 1) = [b]) : ∃ m, l = m ++ [b] := ⟨l.take (l.length - 1), by rw [← h, List.take_append_drop]⟩
theorem betw_iff {x o c : Str} {a b : Nat} (hab : a ≠ b) (ho : o = sgn a) (hc : c = sgn b) : betw x o c = true ↔ ∃ m, cs x = a :: (m ++ [b]) := by
  subst ho hc
  unfold betw
  rw [Bool.and_eq_true, beq_iff_eq, beq_iff_eq]
  constructor
  · rintro ⟨h1, h2⟩
    have e1 : (cs x).take 1 = [a] := by rw [← cs_to1, h1]; rfl
    have e2 : (cs x).drop ((cs x).length - 1) = [b] := by rw [cs_len, ← cs_last1, h2]; rfl
    obtain ⟨m, hm⟩ := drop_last e2
    rw [hm] at e1
    cases m with
    | nil => exfalso; apply hab; simpa using e1.symm
    | cons q r =>
      have : q = a := by simpa using e1
      exact ⟨r, by rw [hm, this]; rfl⟩
  · rintro ⟨m, hm⟩
    have hl : x.length = m.length + 2 := by rw [← cs_len, hm]; simp
    constructor
    · apply str_ext; rw [cs_to1, hm]; rfl
    · apply str_ext; rw [cs_last1, hm, hl]
      show List.drop (m.length + 1) (a :: (m ++ [b])) = [b]
      rw [List.drop_succ_cons, List.drop_left]
theorem se_betw (x : Str) : (Txt.startswith x "<" && Txt.endswith x ">") = betw x "<" ">" := by
  rw [Bool.eq_iff_iff, betw_iff (a := 60) (b := 62) (by decide) (by decide +kernel) (by decide +kernel), Bool.and_eq_true]
  have s1 : Txt.startswith x "<" = true ↔ (cs x)[0]? = some 60 := by
    have := StrLaws.subAt_one x 60 0
    rw [← this]
    show (decide (0 + (sgn 60).length ≤ x.length) && Builtin.Str.subAt x (sgn 60) 0) = true ↔ _
    rw [Bool.and_eq_true, decide_eq_true_eq]; rfl
  have s2 : Txt.endswith x ">" = true ↔ (1 ≤ x.length ∧ (cs x)[x.length - 1]? = some 62) := by
    have := StrLaws.subAt_one x 62 (x.length - 1)
    show (decide (0 + (sgn 62).length ≤ x.length) && Builtin.Str.subAt x (sgn 62) (x.length - 1)) = true ↔ _
    rw [Bool.and_eq_true, decide_eq_true_eq]
    constructor
    · rintro ⟨h1, h2⟩
      have h1' : 1 ≤ x.length := h1
      exact ⟨h1', this.mp ⟨by show x.length - 1 + 1 ≤ _; omega, h2⟩⟩
    · rintro ⟨h1, h2⟩
      exact ⟨h1, (this.mpr h2).2⟩
  rw [s1, s2]
  constructor
  · rintro ⟨h1, h2, h3⟩
    rw [← cs_len] at h3 h2
    generalize cs x = l at h1 h2 h3
    cases l with
    | nil => cases h1
    | cons q r =>
      have hq : q = 60 := by simpa using h1
      subst hq
      rcases List.eq_nil_or_concat r with rfl | ⟨m, b, rfl⟩
      · simp at h3
      · refine ⟨m, ?_⟩
        simp at h3
        rw [h3]; simp
  · rintro ⟨m, hm⟩
    have hl : x.length = m.length + 2 := by rw [← cs_len, hm]; simp
    refine ⟨by rw [hm]; rfl, by omega, ?_⟩
    rw [hm, hl]
    simp
-- the standard name
theorem built_iff (f : Str) (n : Int) : builtIn f n = true ↔ f = "~" ∧ n = 0 := by
  unfold builtIn
  rw [Bool.and_eq_true, beq_iff_eq, beq_iff_eq]
theorem cs_stdT (f nm : Str) (n : Int) : cs (stdT f n nm) = cs f ++ 58 :: (cs (Str.ofString (toString n)) ++ 40 :: (cs nm ++ [41])) := by
  unfold stdT
  rw [cs_app, cs_app, cs_app, cs_app, cs_app]
  rw [show cs (":" : Str) = [58] by decide +kernel, show cs ("(" : Str) = [40] by decide +kernel, show cs (")" : Str) = [41] by decide +kernel]
  simp
theorem std_A1 {f nm : Str} {n : Int} {m : List Nat} (h : builtIn f n = true) (hm : cs nm = 60 :: (m ++ [62])) : cs (std f n nm) = 123 :: (m ++ [125]) := by
  have hb : betw nm "<" ">" = true := (betw_iff (a := 60) (b := 62) (by decide) (by decide +kernel) (by decide +kernel)).mpr ⟨m, hm⟩
  have hl : nm.length = m.length + 2 := by rw [← cs_len, hm]; simp
  unfold std
  rw [if_pos h, se_betw, if_pos hb, cs_app, cs_app, show cs (Txt.slice nm (some 1) (some (-1))) = _ from cs_mid (k := 1) (by omega), hm, hl]
  rw [show cs ("{" : Str) = [123] by decide +kernel, show cs ("}" : Str) = [125] by decide +kernel]
  show [123] ++ ((60 :: (m ++ [62])).take (m.length + 1)).drop 1 ++ [125] = _
  rw [List.take_succ_cons, List.take_left]
  rfl
theorem std_A2 {f nm : Str} {n : Int} (h : builtIn f n = true) (hm : betw nm "<" ">" = false) : std f n nm = nm := by
  unfold std
  rw [if_pos h, se_betw, if_neg (by rw [hm]; exact Bool.false_ne_true)]
theorem std_B {f nm : Str} {n : Int} (h : builtIn f n = false) : std f n nm = stdT f n nm := by
  unfold std
  rw [if_neg (by rw [h]; exact Bool.false_ne_true)]
-- figures
theorem digs : ∀ c : Nat, (("0123456789" : Str).cps.contains c) = true ↔ 48 ≤ c ∧ c ≤ 57 := by
  intro c
  rw [show ("0123456789" : Str).cps = #[48, 49, 50, 51, 52, 53, 54, 55, 56, 57] by decide +kernel]
  simp
  omega
theorem strip_all {x : Str} : (Txt.stripChars x "0123456789" == "") = true ↔ AllDigits (cs x) := by
  rw [beq_iff_eq]
  unfold Txt.stripChars
  rw [PyProof.Rows.stripBy_eq]
  obtain ⟨l1, l2, l3⟩ := lo_facts ("0123456789" : Str).cps.contains x
  obtain ⟨g1, g2, g3, g4⟩ := hi_facts ("0123456789" : Str).cps.contains x _ l1
  generalize stripLo ("0123456789" : Str).cps.contains true x = lo at *
  generalize stripHi ("0123456789" : Str).cps.contains true x lo = hi at *
  have hlen : (Builtin.Str.strSub x lo hi).length = hi - lo := by
    show (x.cps.extract lo hi).size = _
    rw [Array.size_extract]
    have : x.cps.size = x.length := rfl
    omega
  have mem : ∀ c ∈ cs x, ∃ k, k < x.length ∧ x.cps.getD k 0 = c := by
    intro c hc
    obtain ⟨k, hk, e⟩ := List.mem_iff_getElem.mp hc
    refine ⟨k, by rw [cs_len] at hk; exact hk, ?_⟩
    rw [← getD_list, List.getD_eq_getElem?_getD, List.getElem?_eq_getElem hk, e]; rfl
  constructor
  · intro h
    have h0 : hi - lo = 0 := by rw [← hlen, h]; rfl
    have hll : lo = x.length := by
      rcases l3 with h | h
      · exact h
      · by_cases hq : lo = x.length
        · exact hq
        · have := g3 lo (by omega) (by omega)
          rw [h] at this; cases this
    intro c hc
    obtain ⟨k, hk, e⟩ := mem c hc
    rw [← e]
    exact (digs _).mp (l2 k (by omega))
  · intro h
    have hll : lo = x.length := by
      rcases l3 with h' | h'
      · exact h'
      · by_cases hq : lo = x.length
        · exact hq
        · exfalso
          have hlt : lo < (cs x).length := by rw [cs_len]; omega
          have : x.cps.getD lo 0 ∈ cs x := by
            rw [← getD_list, List.getD_eq_getElem?_getD, List.getElem?_eq_getElem hlt]
            exact List.getElem_mem hlt
          have := (digs _).mpr (h _ this)
          rw [h'] at this; cases this
    apply str_ext
    apply List.length_eq_zero_iff.mp
    rw [cs_len, hlen]; omega
theorem ofNat_back : ∀ {l : List Nat}, AllDigits l → (l.map Char.ofNat).map Char.toNat = l
  | [], _ => rfl
  | c :: r, h => by
    rw [List.map_cons, List.map_cons, ofNat_back h.tail]
    have := h.head
    have e : (Char.ofNat c).toNat = c := by
      have : c = 48 ∨ c = 49 ∨ c = 50 ∨ c = 51 ∨ c = 52 ∨ c = 53 ∨ c = 54 ∨ c = 55 ∨ c = 56 ∨ c = 57 := by omega
      rcases this with rfl | rfl | rfl | rfl | rfl | rfl | rfl | rfl | rfl | rfl <;> rfl
    rw [e]
theorem val_lt_n : ∀ (n : Nat) (l : List Nat), l.length = n → AllDigits l → digitsVal l < 10 ^ n
  | 0, l, hl, _ => by rw [List.length_eq_zero_iff.mp hl]; decide
  | n + 1, l, hl, h => by
    rcases List.eq_nil_or_concat l with rfl | ⟨m, c, rfl⟩
    · cases hl
    · rw [List.concat_eq_append] at hl h ⊢
      have h1 := val_lt_n n m (by simpa using hl) fun d hd => h d (List.mem_append_left _ hd)
      have h2 : 48 ≤ c ∧ c ≤ 57 := h c (by simp)
      rw [digitsVal_snoc, Nat.pow_succ]
      omega
theorem val_lt {l : List Nat} (h : AllDigits l) : digitsVal l < 10 ^ l.length := val_lt_n _ l rfl h
theorem text_digits {l : List Nat} (h : AllDigits l) (h1 : l ≠ []) (h2 : l = [48] ∨ ∃ c r, l = c :: r ∧ 49 ≤ c) : cs (Str.ofString (toString ((digitsVal l : Nat) : Int))) = l := by
  rw [show cs (Str.ofString (toString ((digitsVal l : Nat) : Int))) = _ from KIN.signs_num _]
  have hl : l.length = (l.length - 1) + 1 := by
    cases l with
    | nil => exact absurd rfl h1
    | cons a r => simp
  rw [toDigits_digitsVal (l.length - 1) l hl h (by
    rcases h2 with rfl | h2
    · exact .inl rfl
    · exact .inr h2), ofNat_back h]
theorem plain_num {line : Str} (h : plainB line = true) (hl : line.length ≤ 4300) : ∃ n : Int, PySem.intText? line = some n ∧ Str.ofString (toString n) = line ∧ (n = 0 → line = "0") ∧ n.natAbs < 10 ^ line.length := by
  unfold plainB at h
  rw [Bool.and_eq_true, Bool.and_eq_true, strip_all, Bool.or_eq_true, bne_iff_ne, bne_iff_ne, beq_iff_eq] at h
  obtain ⟨h1, h2, h3⟩ := h
  have hne : cs (figs line) ≠ [] := fun e => h1 (str_ext (by rw [e]; rfl))
  have hhd : ∀ c r, cs (figs line) = c :: r → hd0 (figs line) = c := fun c r e => by
    unfold hd0
    rw [← getD_list, show (figs line).cps.toList = c :: r from e]; rfl
  by_cases hm : Txt.slice line none (some 1) = "-"
  · have ef : figs line = Txt.slice line (some 1) none := by unfold figs; rw [if_pos (by rw [hm]; rfl)]
    have e1 : (cs line).take 1 = [45] := by rw [← cs_to1, hm]; decide +kernel
    have e2 : cs (figs line) = (cs line).drop 1 := by rw [ef, cs_from1]
    have e3 : cs line = 45 :: cs (figs line) := by rw [e2, show (45 :: (cs line).drop 1) = [45] ++ (cs line).drop 1 from rfl, ← e1, List.take_append_drop]
    generalize hr : cs (figs line) = r at *
    cases r with
    | nil => exact absurd rfl hne
    | cons c r =>
      have hc := h2.head
      have hc9 : 49 ≤ c := by
        rcases h3 with h3 | h3
        · have : c ≠ 48 := fun e => h3 (by rw [hhd c r rfl, e]; decide +kernel)
          omega
        · exfalso
          have : cs line = [48] := by rw [h3]; decide +kernel
          rw [e3] at this
          cases this
      have hpos := digitsVal_pos (cs := r) hc9
      have hlen : line.length = (c :: r).length + 1 := by rw [← cs_len, e3]; simp
      refine ⟨-((digitsVal (c :: r) : Nat) : Int), intText_neg e3 h2 (by simp) hl, ?_, fun h0 => by omega, ?_⟩
      · apply str_ext
        rw [toString_neg (by omega), show (0 - -((digitsVal (c :: r) : Nat) : Int)) = ((digitsVal (c :: r) : Nat) : Int) by omega, e3]
        refine Eq.trans ?_ (congrArg (45 :: ·) (text_digits h2 (by simp) (.inr ⟨c, r, rfl, hc9⟩)))
        rw [show cs (Str.ofString ("-" ++ toString ((digitsVal (c :: r) : Nat) : Int))) = _ from signs_ofString _, String.toList_append, List.map_append]
        rw [show cs (Str.ofString (toString ((digitsVal (c :: r) : Nat) : Int))) = _ from signs_ofString _]
        rfl
      · have := val_lt h2
        rw [hlen, Nat.pow_succ]
        omega
  · have ef : figs line = line := by unfold figs; rw [if_neg (by rw [beq_iff_eq]; exact hm)]
    rw [ef] at h2 hne hhd h3
    have hsh : cs line = [48] ∨ ∃ c r, cs line = c :: r ∧ 49 ≤ c := by
      rcases h3 with h3 | h3
      · cases hq : cs line with
        | nil => exact absurd hq hne
        | cons c r =>
          have hc := h2 c (by rw [hq]; simp)
          have : c ≠ 48 := fun e => h3 (by rw [hhd c r hq, e]; decide +kernel)
          exact .inr ⟨c, r, rfl, by omega⟩
      · left; rw [h3]; decide +kernel
    have ht := text_digits h2 hne hsh
    refine ⟨((digitsVal (cs line) : Nat) : Int), intText_digits h2 hne hl, str_ext ht, fun h0 => ?_, ?_⟩
    · rcases hsh with h | ⟨c, r, hq, hc⟩
      · apply str_ext; rw [h]; decide +kernel
      · have := digitsVal_pos (cs := r) hc
        rw [hq] at h0
        omega
    · have := val_lt h2
      rw [cs_len] at this
      exact this
end Mine

end

section
open PySem PySem.W PySem.Spec PyProof.Rows PySem.NumText
set_option Elab.async false
set_option linter.unusedVariables false
set_option maxRecDepth 100000
namespace Mine
def S (l : List Nat) : Str := ⟨l.toArray⟩
theorem cs_S (l : List Nat) : cs (S l) = l := by simp [cs, S]
theorem rpart_spec (y : Str) : (Txt.rpartition y ":" = (Str.empty, Str.empty, y) ∧ 58 ∉ cs y) ∨ ∃ a b, cs y = a ++ 58 :: b ∧ 58 ∉ b ∧ Txt.rpartition y ":" = (S a, (":" : Str), S b) := by
  have hat : ∀ i, StrLaws.At y ":" y.length i ↔ (cs y)[i]? = some 58 := fun i => StrLaws.subAt_one y 58 i
  rcases StrLaws.last_spec y ":" with ⟨h1, h2⟩ | ⟨i, h1, h2, h3⟩
  · left
    refine ⟨by unfold Txt.rpartition; rw [h1], fun hm => ?_⟩
    obtain ⟨k, hk, e⟩ := List.mem_iff_getElem.mp hm
    exact h2 k ((hat k).mpr (by rw [List.getElem?_eq_getElem hk, e]))
  · right
    have hi := (hat i).mp h2
    obtain ⟨hlt, he⟩ := List.getElem?_eq_some_iff.mp hi
    refine ⟨(cs y).take i, (cs y).drop (i + 1), ?_, fun hm => ?_, ?_⟩
    · rw [← he, List.getElem_cons_drop hlt, List.take_append_drop]
    · obtain ⟨k, hk, e⟩ := List.mem_iff_getElem.mp hm
      refine h3 (i + 1 + k) (by omega) ((hat _).mpr ?_)
      rw [← List.getElem?_drop, List.getElem?_eq_getElem hk, e]
    · unfold Txt.rpartition
      rw [h1]
      have e1 : Builtin.Str.strSub y 0 i = S ((cs y).take i) := by
        apply str_ext
        rw [cs_S]
        show (y.cps.extract 0 i).toList = _
        simp
      have e2 : Builtin.Str.strSub y (i + (":" : Str).length) y.length = S ((cs y).drop (i + 1)) := by
        apply str_ext
        rw [cs_S]
        show (y.cps.extract (i + 1) y.cps.size).toList = _
        simp
        exact List.take_of_length_le (by simp)
      dsimp only
      rw [e1, e2]
theorem eqv_2s (a b c d : Str) : PyData.eqv (.tuple [.str a, .str b]) (.tuple [.str c, .str d]) = (a == c && b == d) := by
  simp [PyData.eqv, PyData.eqvAll]
theorem sgn_eq {c d : Nat} {y : Str} (hy : y = sgn d) : (sgn c == y) = true ↔ c = d := by
  subst hy
  rw [beq_iff_eq]
  constructor
  · intro h
    have : cs (sgn c) = cs (sgn d) := by rw [h]
    simpa [cs, sgn] using this
  · rintro rfl; rfl
theorem cAt_get (x : Str) (i : Nat) (h : i < x.length) : (cs x)[i]? = some (cAt x i) := by
  have hl : i < (cs x).length := by rw [cs_len]; exact h
  rw [cAt, ← getD_list, List.getD_eq_getElem?_getD, List.getElem?_eq_getElem hl]; rfl
theorem split_unique {f D a b : List Nat} (h1 : 58 ∉ D) (h2 : 58 ∉ b) (h : f ++ 58 :: D = a ++ 58 :: b) : f = a ∧ D = b := by
  rcases List.append_eq_append_iff.mp h with ⟨z, e1, e2⟩ | ⟨z, e1, e2⟩
  · cases z with
    | nil => simp at e1 e2; exact ⟨e1.symm, e2⟩
    | cons q r =>
      exfalso
      simp at e2
      exact h1 (by rw [e2.2]; simp)
  · cases z with
    | nil => simp at e1 e2; exact ⟨e1, e2.symm⟩
    | cons q r =>
      exfalso
      simp at e2
      exact h2 (by rw [e2.2]; simp)
/-- a text, cut at a bracket and at its end -/
theorem cut_at {x : Str} {i : Nat} (h : i < x.length - 1) : cs x = (cs x).take i ++ cAt x i :: ((((cs x).take (x.length - 1)).drop (i + 1)) ++ [cAt x (x.length - 1)]) := by
  have h1 := cAt_get x i (by omega)
  have h2 := cAt_get x (x.length - 1) (by omega)
  have hl := cs_len x
  generalize cs x = l at *
  obtain ⟨q1, e1⟩ := List.getElem?_eq_some_iff.mp h1
  obtain ⟨q2, e2⟩ := List.getElem?_eq_some_iff.mp h2
  have a1 : l = l.take (x.length - 1) ++ [cAt x (x.length - 1)] := by
    have := List.take_append_drop (x.length - 1) l
    rw [← List.getElem_cons_drop q2, e2, List.drop_of_length_le (by omega)] at this
    exact this.symm
  have a2 : l.take (x.length - 1) = (l.take (x.length - 1)).take i ++ cAt x i :: (l.take (x.length - 1)).drop (i + 1) := by
    have q3 : i < (l.take (x.length - 1)).length := by rw [List.length_take]; omega
    have e3 : (l.take (x.length - 1))[i] = cAt x i := by rw [List.getElem_take, e1]
    rw [← e3, List.getElem_cons_drop q3, List.take_append_drop]
  rw [List.take_take, Nat.min_eq_left (by omega)] at a2
  conv => lhs; rw [a1, a2]
  simp
/-- each one told has the name -/
theorem read_sound {x : Str} (hx : x.length ≤ 4000) : ∀ q ∈ readP x, std q.1 q.2.1 q.2.2 = x := by
  intro q hq
  have b0 : builtIn "~" 0 = true := by decide +kernel
  unfold readP readTo at hq
  rcases List.mem_append.mp hq with hq | hq
  · rcases List.mem_append.mp hq with hq | hq
    · unfold ents0 at hq
      split at hq
      · rename_i hb
        rw [List.mem_singleton.mp hq]
        exact std_A2 b0 (by simpa using hb)
      · cases hq
    · unfold ents1 at hq
      split at hq
      · rename_i hb
        rw [List.mem_singleton.mp hq]
        obtain ⟨m, hm⟩ := (betw_iff (a := 123) (b := 125) (by decide) (by decide +kernel) (by decide +kernel)).mp hb
        have hl : x.length = m.length + 2 := by rw [← cs_len, hm]; simp
        apply str_ext
        refine (std_A1 (m := m) b0 ?_).trans hm.symm
        show cs ("<" ++ Txt.slice x (some 1) (some (-1)) ++ ">") = _
        rw [cs_app, cs_app, show cs (Txt.slice x (some 1) (some (-1))) = _ from cs_mid (k := 1) (by omega), hm, hl, show cs ("<" : Str) = [60] by decide +kernel, show cs (">" : Str) = [62] by decide +kernel]
        show [60] ++ ((123 :: (m ++ [125])).take (m.length + 1)).drop 1 ++ [62] = _
        rw [List.take_succ_cons, List.take_left]
        rfl
      · cases hq
  · unfold entsTo at hq
    obtain ⟨i, hi, hq⟩ := List.mem_flatMap.mp hq
    have hi : i < x.length - 1 := List.mem_range.mp hi
    unfold ent at hq
    split at hq
    · rename_i hc
      rw [Bool.and_eq_true, sgn_eq (d := 40) (by decide +kernel), sgn_eq (d := 41) (by decide +kernel)] at hc
      split at hq
      · rename_i hg
        rw [List.mem_singleton.mp hq]
        unfold good at hg
        rw [Bool.and_eq_true, Bool.and_eq_true, beq_iff_eq, eqv_2s] at hg
        obtain ⟨g1, g2, g3⟩ := hg
        have hsp := rpart_spec (Txt.slice x none (some (i : Int)))
        have hto := cs_to (x := x) (k := i) (by omega)
        have hcut := cut_at hi
        rw [hc.1, hc.2] at hcut
        rcases hsp with ⟨e, _⟩ | ⟨a, b, h1, h2, e⟩
        · exfalso
          have : (rp x i).2.1 = Str.empty := by unfold rp; rw [e]
          rw [this] at g1
          exact absurd g1 (by decide)
        · have erp : rp x i = (S a, (":" : Str), S b) := e
          rw [erp] at g2 g3 ⊢
          dsimp only at g2 g3 ⊢
          have hbl : (S b).length ≤ 4300 := by
            rw [← cs_len, cs_S]
            have : (cs (Txt.slice x none (some (i : Int)))).length ≤ 4000 := by rw [cs_len]; exact Nat.le_trans (Txt.slice_le _ _ _) hx
            rw [h1] at this
            simp at this
            omega
          obtain ⟨n, n1, n2, n3, n4⟩ := plain_num g2 hbl
          have eio : intOf (S b) = n := by unfold intOf; rw [n1]; rfl
          rw [eio]
          have hnb : builtIn (S a) n = false := by
            cases hq : builtIn (S a) n with
            | false => rfl
            | true =>
              obtain ⟨q1, q2⟩ := (built_iff _ _).mp hq
              rw [q1, n3 q2] at g3
              exact absurd g3 (by decide)
          rw [std_B hnb]
          apply str_ext
          rw [cs_stdT, cs_S, n2, cs_S, show (((i : Int) + 1)) = ((i + 1 : Nat) : Int) by omega, cs_mid (k := i + 1) (by omega)]
          conv => rhs; rw [hcut, ← hto, h1]
          simp
      · cases hq
    · cases hq
/-- a function's name tells it -/
theorem read_complete {f nm : Str} {n : Int} (hn : n = 0 ∨ n = 1 ∨ n = -10) : (f, n, nm) ∈ readP (std f n nm) := by
  unfold readP readTo
  cases hb : builtIn f n with
  | true =>
    obtain ⟨rfl, rfl⟩ := (built_iff _ _).mp hb
    cases hm : betw nm "<" ">" with
    | true =>
      obtain ⟨m, hm⟩ := (betw_iff (a := 60) (b := 62) (by decide) (by decide +kernel) (by decide +kernel)).mp hm
      have hs := std_A1 hb hm
      have hl : (std "~" 0 nm).length = m.length + 2 := by rw [← cs_len, hs]; simp
      refine List.mem_append_left _ (List.mem_append_right _ ?_)
      unfold ents1
      rw [if_pos ((betw_iff (a := 123) (b := 125) (by decide) (by decide +kernel) (by decide +kernel)).mpr ⟨m, hs⟩)]
      refine List.mem_singleton.mpr ?_
      have e : nm = "<" ++ Txt.slice (std "~" 0 nm) (some 1) (some (-1)) ++ ">" := by
        apply str_ext
        rw [hm, cs_app, cs_app, show cs (Txt.slice (std "~" 0 nm) (some 1) (some (-1))) = _ from cs_mid (k := 1) (by omega), hs, hl, show cs ("<" : Str) = [60] by decide +kernel, show cs (">" : Str) = [62] by decide +kernel]
        show _ = [60] ++ ((123 :: (m ++ [125])).take (m.length + 1)).drop 1 ++ [62]
        rw [List.take_succ_cons, List.take_left]
        rfl
      rw [← e]
    | false =>
      refine List.mem_append_left _ (List.mem_append_left _ ?_)
      rw [std_A2 hb hm]
      unfold ents0
      rw [if_pos (by rw [hm]; rfl)]
      exact List.mem_singleton.mpr rfl
  | false =>
    refine List.mem_append_right _ ?_
    rw [std_B hb]
    have hcs := cs_stdT f nm n
    have hp : plainB (Str.ofString (toString n)) = true ∧ PySem.intText? (Str.ofString (toString n)) = some n ∧ 58 ∉ cs (Str.ofString (toString n)) ∧ (Str.ofString (toString n) = "0" → n = 0) := by
      rcases hn with rfl | rfl | rfl <;> decide +kernel
    obtain ⟨p1, p2, p3, p4⟩ := hp
    generalize hx : stdT f n nm = x at *
    have hlx : x.length = (cs f).length + 1 + (cs (Str.ofString (toString n))).length + 1 + (cs nm).length + 1 := by
      rw [← cs_len, hcs]; simp; omega
    generalize hi : (cs f).length + 1 + (cs (Str.ofString (toString n))).length = i at *
    have hcs2 : cs x = (cs f ++ 58 :: cs (Str.ofString (toString n))) ++ 40 :: (cs nm ++ [41]) := by rw [hcs]; simp
    have hli : (cs f ++ 58 :: cs (Str.ofString (toString n))).length = i := by rw [List.length_append, List.length_cons]; omega
    have hlt : i < x.length - 1 := by omega
    unfold entsTo
    refine List.mem_flatMap.mpr ⟨i, List.mem_range.mpr hlt, ?_⟩
    have c1 : cAt x i = 40 := by
      have := cAt_get x i (by omega)
      rw [hcs2, List.getElem?_append_right (by omega), hli, Nat.sub_self] at this
      simpa using this.symm
    have c2 : cAt x (x.length - 1) = 41 := by
      have := cAt_get x (x.length - 1) (by omega)
      rw [hcs2, List.getElem?_append_right (by omega), hli, show x.length - 1 - i = (cs nm).length + 1 by omega] at this
      simpa using this.symm
    have hto : cs (Txt.slice x none (some (i : Int))) = cs f ++ 58 :: cs (Str.ofString (toString n)) := by
      rw [cs_to (by omega), hcs2, ← hli, List.take_left]
    have hrp : rp x i = (f, (":" : Str), Str.ofString (toString n)) := by
      have hsp := rpart_spec (Txt.slice x none (some (i : Int)))
      rcases hsp with ⟨_, h⟩ | ⟨a, b, h1, h2, e⟩
      · exact absurd (by rw [hto]; simp) h
      · have : rp x i = (S a, (":" : Str), S b) := e
        rw [hto] at h1
        have hab := split_unique p3 h2 h1
        rw [this, ← hab.1, ← hab.2]
        have u1 : S (cs f) = f := str_ext (cs_S _)
        have u2 : S (cs (Str.ofString (toString n))) = Str.ofString (toString n) := str_ext (cs_S _)
        rw [u1, u2]
    unfold ent
    rw [c1, c2, if_pos (by decide +kernel), hrp]
    have hg : good (f, (":" : Str), Str.ofString (toString n)) = true := by
      unfold good
      dsimp only
      rw [p1, eqv_2s, Bool.and_eq_true, Bool.and_eq_true]
      refine ⟨by decide, rfl, ?_⟩
      rw [Bool.not_eq_true']
      cases hq : (f == ("~" : Str) && Str.ofString (toString n) == ("0" : Str)) with
      | false => rfl
      | true =>
        rw [Bool.and_eq_true, beq_iff_eq, beq_iff_eq] at hq
        have := (built_iff f n).mpr ⟨hq.1, p4 hq.2⟩
        rw [hb] at this; cases this
    rw [if_pos hg]
    refine List.mem_singleton.mpr ?_
    have eio : intOf (Str.ofString (toString n)) = n := by unfold intOf; rw [p2]; rfl
    have enm : nm = Txt.slice x (some ((i : Int) + 1)) (some (-1)) := by
      apply str_ext
      rw [show (((i : Int) + 1)) = ((i + 1 : Nat) : Int) by omega, cs_mid (k := i + 1) (by omega), hcs2]
      rw [show x.length - 1 = (cs f ++ 58 :: cs (Str.ofString (toString n))).length + (1 + (cs nm).length) by rw [hli]; omega, List.take_length_add_append]
      rw [show i + 1 = (cs f ++ 58 :: cs (Str.ofString (toString n))).length + 1 by rw [hli], List.drop_length_add_append]
      rw [Nat.add_comm 1, List.take_succ_cons, List.drop_succ_cons, List.drop_zero, List.take_left]
    rw [eio, ← enm]
end Mine

end

section
open PySem PySem.W PySem.Spec PyProof.Rows PySem.NumText
set_option Elab.async false
set_option linter.unusedVariables false
set_option maxRecDepth 100000
namespace Mine
-- preparing
def pr (l : List Nat) : List Nat := (l.filter fun c => !b1L.contains c).flatMap fun c => cs (b3 c)
theorem pr_app (a b : List Nat) : pr (a ++ b) = pr a ++ pr b := by
  unfold pr; rw [List.filter_append, List.flatMap_append]
theorem pr_cons (a : Nat) (b : List Nat) : pr (a :: b) = pr [a] ++ pr b := pr_app [a] b
theorem cs_join : ∀ l : List Str, cs (Txt.join "" l) = l.flatMap cs := by
  intro l
  show cs (Builtin.Str.glued "" l) = _
  rw [StrLaws.glued_eq_join]
  induction l with
  | nil => rfl
  | cons x r ih =>
    cases r with
    | nil => show cs x = _; simp
    | cons y r =>
      show cs (x ++ "" ++ Str.join "" (y :: r)) = _
      rw [cs_app, cs_app, ih]
      show cs x ++ [] ++ _ = _
      simp
theorem cs_prep (x : Str) : cs (prep x) = pr (cs x) := by
  unfold prep
  rw [cs_join]
  unfold pr keptL
  rw [List.flatMap_map]
def b3L (d : List (Int × Str)) (c : Nat) : Str := match d.lookup (c : Int) with
  | some x => x
  | none => Txt.lower ⟨#[c]⟩
def prL (d : List (Int × Str)) (l : List Nat) : List Nat := (l.filter fun c => !b1L.contains c).flatMap fun c => cs (b3L d c)
theorem pr_L (l : List Nat) : pr l = prL (dPairs pw) l := rfl
def asciis : List Nat := [126, 60, 62, 123, 125, 58, 40, 41, 48, 49, 45, 97]
def signL : List Nat := [64256, 64257, 64258, 64262, 223, 8470, 8480, 8482, 8360, 13171, 13200, 13277]
def wordL : List Str := ["ff", "fi", "fl", "st", "ss", "no", "sm", "tm", "rs", "au", "hz", "wb"]
def tabA (d : List (Int × Str)) : Bool := asciis.all fun c => prL d [c] == [c]
def tabS (d : List (Int × Str)) : Bool := (signL.zip wordL).all fun q => prL d [q.1] == cs q.2
def tabG (d : List (Int × Str)) (m : Nat) : Bool := (List.range 26).all fun a => prL d [(greatC (97 + a) m).toNat] == [97 + a]
theorem tab_of {f : List (Int × Str) → Bool} (h : (constPairs (dictKs pw) (dictVs pw)).map f = some true) : f (dPairs pw) = true := by
  unfold dPairs
  cases e : constPairs (dictKs pw) (dictVs pw) with
  | none => rw [e] at h; cases h
  | some l => rw [e] at h; exact Option.some.inj h
theorem tA : tabA (dPairs pw) = true := tab_of (by
  unfold pw
  rw [PySem.W.Fast.te9825827541071483010]
  kernel_rfl)
theorem tS : tabS (dPairs pw) = true := tab_of (by
  unfold pw
  rw [PySem.W.Fast.te9825827541071483010]
  kernel_rfl)
theorem tG : (List.range 11).all (tabG (dPairs pw)) = true := tab_of (f := fun d => (List.range 11).all (tabG d)) (by
  unfold pw
  rw [PySem.W.Fast.te9825827541071483010]
  kernel_rfl)
end Mine

end

section
open PySem PySem.W PySem.Spec PyProof.Rows PySem.NumText
set_option Elab.async false
set_option linter.unusedVariables false
set_option maxRecDepth 100000
namespace Mine
theorem pr_ascii {c : Nat} (h : c ∈ asciis) : pr [c] = [c] := by
  rw [pr_L]
  exact beq_iff_eq.mp (List.all_eq_true.mp tA c h)
def ltr (t : Int) : Nat := 97 + (t.fmod 26).toNat
def spelledL (t : Int) : List Str := asciis.map sgn ++ [sgn (greatC (ltr t) (t.fmod 11)).toNat, sgn (signL.getD (t.fmod 12).toNat 0), sgn (unseenC (t.fmod 27)).toNat, ""]
def toldL (t : Int) : List Str := asciis.map sgn ++ [sgn (ltr t), wordL.getD (t.fmod 12).toNat "", "", ""]
theorem pr_great (t : Int) : pr [(greatC (ltr t) (t.fmod 11)).toNat] = [ltr t] := by
  have a0 := fmod_lo t (n := 26) (by decide)
  have a1 := fmod_hi t (n := 26) (by decide)
  have m0 := fmod_lo t (n := 11) (by decide)
  have m1 := fmod_hi t (n := 11) (by decide)
  have h1 := List.all_eq_true.mp tG (t.fmod 11).toNat (List.mem_range.mpr (by omega))
  have h2 := List.all_eq_true.mp h1 (t.fmod 26).toNat (List.mem_range.mpr (by omega))
  rw [beq_iff_eq, show (((t.fmod 11).toNat : Nat) : Int) = t.fmod 11 by omega] at h2
  exact h2
theorem sign_at {k : Nat} (h : k < 12) : pr [signL.getD k 0] = cs (wordL.getD k "") := by
  have : (signL.getD k 0, wordL.getD k "") ∈ signL.zip wordL := by
    have : k = 0 ∨ k = 1 ∨ k = 2 ∨ k = 3 ∨ k = 4 ∨ k = 5 ∨ k = 6 ∨ k = 7 ∨ k = 8 ∨ k = 9 ∨ k = 10 ∨ k = 11 := by omega
    rcases this with rfl | rfl | rfl | rfl | rfl | rfl | rfl | rfl | rfl | rfl | rfl | rfl <;> decide +kernel
  exact beq_iff_eq.mp (List.all_eq_true.mp tS _ this)
theorem unseen_b1 {k : Int} (h0 : 0 ≤ k) (h1 : k < 27) : b1L.contains (unseenC k).toNat = true := by
  have : k = ((k.toNat : Nat) : Int) := by omega
  have key : ((List.range 27).all fun n => b1L.contains (unseenC (n : Int)).toNat) = true := by decide +kernel
  rw [this]
  exact List.all_eq_true.mp key k.toNat (List.mem_range.mpr (by omega))
theorem pr_unseen (t : Int) : pr [(unseenC (t.fmod 27)).toNat] = [] := by
  have h := unseen_b1 (fmod_lo t (n := 27) (by decide)) (fmod_hi t (n := 27) (by decide))
  unfold pr
  rw [List.filter_cons, h]
  rfl
theorem map_rel (t : Int) : (spelledL t).map (fun s => pr (cs s)) = (toldL t).map cs := by
  have k0 := fmod_lo t (n := 12) (by decide)
  have k1 := fmod_hi t (n := 12) (by decide)
  have e1 : (asciis.map sgn).map (fun s => pr (cs s)) = (asciis.map sgn).map cs := by
    rw [List.map_map, List.map_map]
    refine List.map_congr_left fun c hc => ?_
    exact pr_ascii hc
  unfold spelledL toldL
  rw [List.map_append, List.map_append, e1]
  congr 1
  show [pr [(greatC (ltr t) (t.fmod 11)).toNat], pr [signL.getD (t.fmod 12).toNat 0], pr [(unseenC (t.fmod 27)).toNat], pr []] = [[ltr t], cs (wordL.getD (t.fmod 12).toNat ""), [], []]
  rw [pr_great, pr_unseen, sign_at (by omega)]
  rfl
theorem piece_rel (t i : Int) : pr (cs (piece (spelledL t) i)) = cs (piece (toldL t) i) := by
  have h : ((spelledL t).map (fun s => pr (cs s)))[i.toNat]? = ((toldL t).map cs)[i.toNat]? := by rw [map_rel t]
  rw [List.getElem?_map, List.getElem?_map] at h
  unfold piece
  cases e1 : (spelledL t)[i.toNat]? with
  | none =>
    rw [e1] at h
    cases e2 : (toldL t)[i.toNat]? with
    | none => rfl
    | some y => rw [e2] at h; cases h
  | some x =>
    rw [e1] at h
    cases e2 : (toldL t)[i.toNat]? with
    | none => rw [e2] at h; cases h
    | some y => rw [e2] at h; exact Option.some.inj h
theorem name0_rel (t x : Int) : pr (cs (name0 x (spelledL t))) = cs (name0 x (toldL t)) := by
  unfold name0
  rw [cs_join, cs_join]
  simp only [List.flatMap_cons, List.flatMap_nil, pr_app, piece_rel]
  rfl
theorem nm_rel (t x : Int) : pr (cs (fnNm x (spelledL t))) = cs (fnNm x (toldL t)) := by
  unfold fnNm
  split
  · rw [cs_app, cs_app, cs_app, cs_app, pr_app, pr_app, name0_rel, show cs ("<" : Str) = [60] by decide +kernel, show cs (">" : Str) = [62] by decide +kernel, pr_ascii (by decide), pr_ascii (by decide)]
  · exact name0_rel t x
theorem fl_rel (t x : Int) : pr (cs (fnFl x (spelledL t))) = cs (fnFl x (toldL t)) := by
  have h0 := fmod_lo x (n := 4) (by decide)
  have h1 := fmod_hi x (n := 4) (by decide)
  unfold fnFl files
  have : (x.fmod 4).toNat = 0 ∨ (x.fmod 4).toNat = 1 ∨ (x.fmod 4).toNat = 2 ∨ (x.fmod 4).toNat = 3 := by omega
  have tl : cs ("~" : Str) = [126] := by decide +kernel
  rcases this with e | e | e | e <;> rw [e]
  · show pr (cs "~") = cs "~"
    rw [tl, pr_ascii (by decide)]
  · show pr (cs ("~" ++ _)) = cs ("~" ++ _)
    rw [cs_app, cs_app, pr_app, tl, pr_ascii (by decide), piece_rel]
  · show pr (cs (_ ++ "~")) = cs (_ ++ "~")
    rw [cs_app, cs_app, pr_app, tl, pr_ascii (by decide), piece_rel]
  · show pr (cs (_ ++ _)) = cs (_ ++ _)
    rw [cs_app, cs_app, pr_app, piece_rel, piece_rel]
theorem ln_cases (x : Int) : fnLn x = 0 ∨ fnLn x = 1 ∨ fnLn x = -10 := by
  have h0 := fmod_lo (x.fdiv 4) (n := 4) (by decide)
  have h1 := fmod_hi (x.fdiv 4) (n := 4) (by decide)
  unfold fnLn
  have : ((x.fdiv 4).fmod 4).toNat = 0 ∨ ((x.fdiv 4).fmod 4).toNat = 1 ∨ ((x.fdiv 4).fmod 4).toNat = 2 ∨ ((x.fdiv 4).fmod 4).toNat = 3 := by omega
  rcases this with e | e | e | e <;> rw [e] <;> decide
-- what is brought
theorem pr_line {n : Int} (hn : n = 0 ∨ n = 1 ∨ n = -10) : pr (cs (Str.ofString (toString n))) = cs (Str.ofString (toString n)) := by
  rcases hn with rfl | rfl | rfl
  · rw [show cs (Str.ofString (toString (0 : Int))) = [48] by decide +kernel]; exact pr_ascii (by decide)
  · rw [show cs (Str.ofString (toString (1 : Int))) = [49] by decide +kernel]; exact pr_ascii (by decide)
  · rw [show cs (Str.ofString (toString (-10 : Int))) = [45, 49, 48] by decide +kernel, pr_cons, pr_cons 49, pr_ascii (by decide), pr_ascii (by decide), pr_ascii (by decide)]; rfl
theorem std_len0 (nm : Str) : (std "~" 0 nm).length = nm.length := by
  have b0 : builtIn "~" 0 = true := by decide +kernel
  cases h : betw nm "<" ">" with
  | true =>
    obtain ⟨m, hm⟩ := (betw_iff (a := 60) (b := 62) (by decide) (by decide +kernel) (by decide +kernel)).mp h
    rw [← cs_len, ← cs_len, std_A1 b0 hm, hm]; simp
  | false => rw [std_A2 b0 h]
section
variable {f nm f' nm' : Str} {n : Int}
theorem brought_forms (hn : n = 0 ∨ n = 1 ∨ n = -10) (hf : pr (cs f) = cs f') (hm : pr (cs nm) = cs nm') :
    (builtIn f n = true ∧ f = "~" ∧ f' = "~" ∧ n = 0 ∧ ((betw nm "<" ">" = true ∧ betw nm' "<" ">" = true ∧ prep (std f n nm) = std f' n nm') ∨ (betw nm "<" ">" = false ∧ prep (std f n nm) = nm'))) ∨ (builtIn f n = false ∧ prep (std f n nm) = stdT f' n nm') := by
  cases hb : builtIn f n with
  | true =>
    left
    obtain ⟨rfl, rfl⟩ := (built_iff _ _).mp hb
    have hf' : f' = "~" := by
      apply str_ext
      rw [← hf, show cs ("~" : Str) = [126] by decide +kernel, pr_ascii (by decide)]
    refine ⟨rfl, rfl, hf', rfl, ?_⟩
    cases hq : betw nm "<" ">" with
    | true =>
      left
      obtain ⟨m, he⟩ := (betw_iff (a := 60) (b := 62) (by decide) (by decide +kernel) (by decide +kernel)).mp hq
      have e' : cs nm' = 60 :: (pr m ++ [62]) := by
        rw [← hm, he, pr_cons, pr_app, pr_ascii (by decide), pr_ascii (by decide)]; rfl
      refine ⟨rfl, (betw_iff (a := 60) (b := 62) (by decide) (by decide +kernel) (by decide +kernel)).mpr ⟨_, e'⟩, ?_⟩
      apply str_ext
      rw [cs_prep, std_A1 hb he, hf', std_A1 hb e', pr_cons, pr_app, pr_ascii (by decide), pr_ascii (by decide)]; rfl
    | false =>
      right
      refine ⟨rfl, ?_⟩
      apply str_ext
      rw [cs_prep, std_A2 hb hq, hm]
  | false =>
    right
    refine ⟨rfl, ?_⟩
    apply str_ext
    rw [cs_prep, std_B hb, cs_stdT, cs_stdT, pr_app, pr_cons, pr_app, pr_cons 40, pr_app, hf, hm, pr_line hn, pr_ascii (by decide), pr_ascii (by decide), pr_ascii (by decide)]
    rfl
theorem mem_brought (hn : n = 0 ∨ n = 1 ∨ n = -10) (hf : pr (cs f) = cs f') (hm : pr (cs nm) = cs nm') (hl : (prep (std f n nm)).length ≤ 4000) :
    (f', n, nm') ∈ readP (prep (std f n nm)) ↔ (builtIn f' n && ((f != "~") || (!betw nm "<" ">" && betw nm' "<" ">"))) = false := by
  have b0 : builtIn "~" 0 = true := by decide +kernel
  rcases brought_forms hn hf hm with ⟨hb, rfl, rfl, rfl, ⟨q1, q2, q3⟩ | ⟨q1, q2⟩⟩ | ⟨hb, q⟩
  · rw [q3, q1, q2]
    exact ⟨fun _ => by decide +kernel, fun _ => read_complete hn⟩
  · rw [q2, q1]
    cases q3 : betw nm' "<" ">" with
    | true =>
      constructor
      · intro hmem
        exfalso
        have hs := read_sound (by rw [← q2]; exact hl) _ hmem
        dsimp only at hs
        obtain ⟨m, he⟩ := (betw_iff (a := 60) (b := 62) (by decide) (by decide +kernel) (by decide +kernel)).mp q3
        have := std_A1 b0 he
        rw [hs, he] at this
        cases this
      · intro h
        exact absurd h (by decide +kernel)
    | false =>
      have e : nm' = std "~" 0 nm' := (std_A2 b0 q3).symm
      refine ⟨fun _ => by decide +kernel, fun _ => ?_⟩
      have := read_complete (f := "~") (n := 0) (nm := nm') hn
      rw [← e] at this
      exact this
  · cases hb' : builtIn f' n with
    | false =>
      rw [q, ← std_B hb']
      exact ⟨fun _ => rfl, fun _ => read_complete hn⟩
    | true =>
      obtain ⟨rfl, rfl⟩ := (built_iff _ _).mp hb'
      have hfn : (f != ("~" : Str)) = true := by
        rw [bne_iff_ne]
        intro e
        rw [(built_iff f 0).mpr ⟨e, rfl⟩] at hb; cases hb
      rw [hfn]
      constructor
      · intro hmem
        exfalso
        have hs := read_sound hl _ hmem
        dsimp only at hs
        have e1 := std_len0 nm'
        rw [hs, q] at e1
        rw [← cs_len, cs_stdT] at e1
        rw [← cs_len] at e1
        simp only [List.length_append, List.length_cons] at e1
        omega
      · intro h; cases h
end
end Mine

end

section
open PySem PySem.W PySem.Spec PyProof.Rows PySem.NumText PySem.SeqAt
set_option Elab.async false
set_option linter.unusedVariables false
set_option maxRecDepth 100000
namespace Mine
theorem ok_iff {x : Str} : Ok x ↔ ∀ c ∈ cs x, c < 1114112 := by
  unfold Ok PyData.strOk
  rw [Array.all_eq_true']
  simp [cs]
theorem slice_mem {x : Str} {l u : Option Int} {c : Nat} (h : c ∈ cs (Txt.slice x l u)) : c ∈ cs x := by
  have h : c ∈ cs (StrLaws.sliceText x l u) := h
  unfold StrLaws.sliceText at h
  split at h
  · exact h
  · have : c ∈ (Builtin.Str.strSliceIndices l u 1 x.length).filterMap (x.cps[·]?) := by simpa [cs] using h
    obtain ⟨j, _, e⟩ := List.mem_filterMap.mp this
    obtain ⟨hj, e⟩ := Array.getElem?_eq_some_iff.mp e
    rw [← e]
    exact Array.mem_toList_iff.mpr (Array.getElem_mem hj)
theorem ok_slice {x : Str} (h : Ok x) (l u : Option Int) : Ok (Txt.slice x l u) := ok_iff.mpr fun c hc => ok_iff.mp h c (slice_mem hc)
theorem ok_app {x y : Str} (h : Ok x) (h' : Ok y) : Ok (x ++ y) := ok_iff.mpr fun c hc => by
  rw [cs_app] at hc
  rcases List.mem_append.mp hc with hc | hc
  · exact ok_iff.mp h c hc
  · exact ok_iff.mp h' c hc
theorem ok_sgn {c : Nat} (h : c < 1114112) : Ok (sgn c) := ok_iff.mpr fun d hd => by
  have : d = c := by simpa [cs, sgn] using hd
  omega
theorem rp_ok {x : Str} (hok : Ok x) (i : Nat) : (rp x i).1.length ≤ x.length ∧ (rp x i).2.2.length ≤ x.length ∧ Ok (rp x i).1 ∧ Ok (rp x i).2.2 := by
  have hl := Txt.slice_le x none (some (i : Int))
  have ho := ok_slice hok none (some (i : Int))
  rcases rpart_spec (Txt.slice x none (some (i : Int))) with ⟨e, _⟩ | ⟨a, b, h1, _, e⟩
  · have : rp x i = (Str.empty, Str.empty, Txt.slice x none (some (i : Int))) := e
    rw [this]
    exact ⟨Nat.zero_le _, hl, (by decide +kernel : Ok Str.empty), ho⟩
  · have : rp x i = (S a, (":" : Str), S b) := e
    rw [this]
    rw [← cs_len, h1] at hl
    simp at hl
    refine ⟨?_, ?_, ok_iff.mpr fun c hc => ok_iff.mp ho c ?_, ok_iff.mpr fun c hc => ok_iff.mp ho c ?_⟩
    · show (S a).length ≤ _
      rw [← cs_len, cs_S]; omega
    · show (S b).length ≤ _
      rw [← cs_len, cs_S]; omega
    · rw [h1]; rw [show cs (S a) = a from cs_S a] at hc; simp [hc]
    · rw [h1]; rw [show cs (S b) = b from cs_S b] at hc; simp [hc]
theorem hint_of {x : Str} (hx : x.length ≤ 500) (hok : Ok x) (i : Nat) (h : plainB (rp x i).2.2 = true) : ∃ n, PySem.intText? (rp x i).2.2 = some n := by
  obtain ⟨n, h1, _⟩ := plain_num h (by have := (rp_ok hok i).2.1; omega)
  exact ⟨n, h1⟩
theorem z570 : (0 : Int).natAbs < 10 ^ 570 := by decide +kernel
theorem readP_ok {x : Str} (hx : x.length ≤ 500) (hok : Ok x) : ∀ q ∈ readP x, q.1.length ≤ 1000 ∧ q.2.2.length ≤ 1000 ∧ q.2.1.natAbs < 10 ^ 570 ∧ Ok q.1 ∧ Ok q.2.2 := by
  intro q hq
  unfold readP readTo at hq
  rcases List.mem_append.mp hq with hq | hq
  · rcases List.mem_append.mp hq with hq | hq
    · unfold ents0 at hq
      split at hq
      · rw [List.mem_singleton.mp hq]
        exact ⟨(by decide : ("~" : Str).length ≤ 1000), by show x.length ≤ 1000; omega, z570, (by decide +kernel : Ok "~"), hok⟩
      · cases hq
    · unfold ents1 at hq
      split at hq
      · rw [List.mem_singleton.mp hq]
        refine ⟨(by decide : ("~" : Str).length ≤ 1000), ?_, z570, (by decide +kernel : Ok "~"), ok_app (ok_app (by decide +kernel) (ok_slice hok _ _)) (by decide +kernel)⟩
        show ("<" ++ Txt.slice x (some 1) (some (-1)) ++ ">" : Str).length ≤ 1000
        rw [Str.length_append, Str.length_append]
        have := Txt.slice_le x (some 1) (some (-1))
        show 1 + _ + 1 ≤ 1000
        omega
      · cases hq
  · unfold entsTo at hq
    obtain ⟨i, hi, hq⟩ := List.mem_flatMap.mp hq
    unfold ent at hq
    split at hq
    · split at hq
      · rename_i hg
        rw [List.mem_singleton.mp hq]
        have hr := rp_ok hok i
        have hp : plainB (rp x i).2.2 = true := by
          unfold good at hg
          rw [Bool.and_eq_true, Bool.and_eq_true] at hg
          exact hg.2.1
        obtain ⟨n, n1, _, _, n4⟩ := plain_num hp (by omega)
        refine ⟨by show (rp x i).1.length ≤ _; omega, ?_, ?_, hr.2.2.1, ok_slice hok _ _⟩
        · show (Txt.slice x _ _).length ≤ _
          have := Txt.slice_le x (some ((i : Int) + 1)) (some (-1))
          omega
        · show (intOf (rp x i).2.2).natAbs < _
          have e : intOf (rp x i).2.2 = n := by unfold intOf; rw [n1]; rfl
          rw [e]
          exact Nat.lt_of_lt_of_le n4 (Nat.pow_le_pow_right (by decide) (by omega))
      · cases hq
    · cases hq
-- functions as data
theorem fn_inj {a b : Str × Int × Str} : fn a = fn b ↔ a = b := by
  obtain ⟨a1, a2, a3⟩ := a
  obtain ⟨b1, b2, b3⟩ := b
  simp [fn]
theorem eqv_fn (a b : Str × Int × Str) : PyData.eqv (fn a) (fn b) = decide (a = b) := by
  obtain ⟨a1, a2, a3⟩ := a
  obtain ⟨b1, b2, b3⟩ := b
  rw [Bool.eq_iff_iff]
  simp [fn, PyData.eqv, PyData.eqvAll]
theorem same_fn (a b : Str × Int × Str) : Spec.same (fn a) (fn b) = decide (a = b) := by
  obtain ⟨a1, a2, a3⟩ := a
  obtain ⟨b1, b2, b3⟩ := b
  rw [Bool.eq_iff_iff]
  simp [fn, Spec.same, Spec.sameAll]
theorem noMix_fn (a b : Str × Int × Str) : noMix (fn a) (fn b) = true := by
  simp [fn, noMix, noMixAll]
theorem count_fn (q : Str × Int × Str) : ∀ l : List (Str × Int × Str), 0 ≤ Spec.countIn (fn q) (l.map fn) ∧ (Spec.countIn (fn q) (l.map fn) ≠ 0 ↔ q ∈ l)
  | [] => by simp [Spec.countIn]
  | a :: r => by
    obtain ⟨h1, h2⟩ := count_fn q r
    rw [List.map_cons]
    unfold Spec.countIn
    rw [same_fn]
    by_cases e : a = q
    · subst e
      simp
      omega
    · rw [decide_eq_false e]
      simp only [Bool.false_eq_true, if_false, Int.zero_add, List.mem_cons]
      refine ⟨h1, h2.trans ⟨.inr, fun h => h.resolve_left fun h => e h.symm⟩⟩
-- sizes
theorem sp_ok (t : Int) : (spelledL t).length = 16 ∧ (toldL t).length = 16 ∧ (∀ q ∈ spelledL t, q.length ≤ 2 ∧ Ok q) ∧ (∀ q ∈ toldL t, q.length ≤ 2 ∧ Ok q) := by
  have asc : ∀ q ∈ asciis.map sgn, q.length ≤ 2 ∧ Ok q := by
    intro q hq
    obtain ⟨c, hc, rfl⟩ := List.mem_map.mp hq
    refine ⟨by show 1 ≤ 2; decide, ok_sgn ?_⟩
    have : ∀ c ∈ asciis, c < 1114112 := by decide
    exact this c hc
  have a0 := fmod_lo t (n := 26) (by decide)
  have a1 := fmod_hi t (n := 26) (by decide)
  have m0 := fmod_lo t (n := 11) (by decide)
  have m1 := fmod_hi t (n := 11) (by decide)
  have u0 := fmod_lo t (n := 27) (by decide)
  have u1 := fmod_hi t (n := 27) (by decide)
  have k0 := fmod_lo t (n := 12) (by decide)
  have k1 := fmod_hi t (n := 12) (by decide)
  have one : ∀ c : Nat, (sgn c).length ≤ 2 := fun c => by show 1 ≤ 2; decide
  have emp : ("" : Str).length ≤ 2 ∧ Ok "" := by decide +kernel
  have lt : ltr t < 1114112 := by unfold ltr; omega
  refine ⟨by unfold spelledL; simp [asciis], by unfold toldL; simp [asciis], fun q hq => ?_, fun q hq => ?_⟩
  · unfold spelledL at hq
    rcases List.mem_append.mp hq with hq | hq
    · exact asc q hq
    · simp only [List.mem_cons, List.not_mem_nil, or_false] at hq
      rcases hq with rfl | rfl | rfl | rfl
      · refine ⟨one _, ok_sgn ?_⟩
        unfold greatC
        split
        · unfold ltr; omega
        · rename_i hz
          have hz : t.fmod 11 ≠ 0 := by simpa using hz
          obtain ⟨a, e, h1, h2⟩ := alphas_at (fm := t.fmod 11) (by omega) (by omega)
          rw [e]
          show (119808 + 52 * a + ((ltr t : Nat) : Int) - 97).toNat < _
          unfold ltr
          omega
      · refine ⟨one _, ok_sgn ?_⟩
        have key : ∀ k : Nat, k < 12 → signL.getD k 0 < 1114112 := by decide
        exact key _ (by omega)
      · refine ⟨one _, ok_sgn ?_⟩
        unfold unseenC
        split
        · omega
        · rename_i hz
          have hz : ¬ 10 < t.fmod 27 := by simpa using hz
          obtain ⟨a, e, h1, h2⟩ := unseen_at (k := t.fmod 27) u0 (by omega)
          rw [e]
          show a.toNat < _
          omega
      · exact emp
  · unfold toldL at hq
    rcases List.mem_append.mp hq with hq | hq
    · exact asc q hq
    · simp only [List.mem_cons, List.not_mem_nil, or_false] at hq
      rcases hq with rfl | rfl | rfl | rfl
      · exact ⟨one _, ok_sgn lt⟩
      · have key : ∀ k : Nat, k < 12 → (wordL.getD k "").length ≤ 2 ∧ Ok (wordL.getD k "") := by
          intro k hk
          have : k = 0 ∨ k = 1 ∨ k = 2 ∨ k = 3 ∨ k = 4 ∨ k = 5 ∨ k = 6 ∨ k = 7 ∨ k = 8 ∨ k = 9 ∨ k = 10 ∨ k = 11 := by omega
          rcases this with rfl | rfl | rfl | rfl | rfl | rfl | rfl | rfl | rfl | rfl | rfl | rfl <;> decide +kernel
        exact key _ (by omega)
      · exact emp
      · exact emp
section
variable {ps : List Str}
theorem piece_ok (hp : ∀ q ∈ ps, q.length ≤ 2 ∧ Ok q) (i : Int) : (piece ps i).length ≤ 2 ∧ Ok (piece ps i) := by
  unfold piece
  cases e : ps[i.toNat]? with
  | none => decide +kernel
  | some q => exact hp q (List.mem_of_getElem? e)
theorem name0_ok (hp : ∀ q ∈ ps, q.length ≤ 2 ∧ Ok q) (x : Int) : (name0 x ps).length ≤ 8 ∧ Ok (name0 x ps) := by
  have q1 := piece_ok hp (nib x (16 ^ 3))
  have q2 := piece_ok hp (nib x (16 ^ 4))
  have q3 := piece_ok hp (nib x (16 ^ 5))
  have q4 := piece_ok hp (nib x (16 ^ 6))
  constructor
  · refine Nat.le_trans (join_len _) ?_
    show ((piece ps (nib x (16 ^ 3))).length + ((piece ps (nib x (16 ^ 4))).length + ((piece ps (nib x (16 ^ 5))).length + ((piece ps (nib x (16 ^ 6))).length + 0)))) ≤ 8
    omega
  · refine ok_iff.mpr fun c hc => ?_
    unfold name0 at hc
    rw [cs_join] at hc
    obtain ⟨p, hp', hc⟩ := List.mem_flatMap.mp hc
    simp only [List.mem_cons, List.not_mem_nil, or_false] at hp'
    rcases hp' with rfl | rfl | rfl | rfl
    · exact ok_iff.mp q1.2 c hc
    · exact ok_iff.mp q2.2 c hc
    · exact ok_iff.mp q3.2 c hc
    · exact ok_iff.mp q4.2 c hc
theorem nm_ok (hp : ∀ q ∈ ps, q.length ≤ 2 ∧ Ok q) (x : Int) : (fnNm x ps).length ≤ 10 ∧ Ok (fnNm x ps) := by
  have h := name0_ok hp x
  unfold fnNm
  split
  · refine ⟨?_, ok_app (ok_app (by decide +kernel) h.2) (by decide +kernel)⟩
    rw [Str.length_append, Str.length_append]
    show 1 + _ + 1 ≤ 10
    omega
  · exact ⟨by omega, h.2⟩
theorem fl_ok (hp : ∀ q ∈ ps, q.length ≤ 2 ∧ Ok q) (x : Int) : (fnFl x ps).length ≤ 4 ∧ Ok (fnFl x ps) := by
  have h0 := fmod_lo x (n := 4) (by decide)
  have h1 := fmod_hi x (n := 4) (by decide)
  have q1 := piece_ok hp (nib x 16)
  have q2 := piece_ok hp (nib x 256)
  have tl : ("~" : Str).length = 1 ∧ Ok "~" := by decide +kernel
  unfold fnFl files
  have : (x.fmod 4).toNat = 0 ∨ (x.fmod 4).toNat = 1 ∨ (x.fmod 4).toNat = 2 ∨ (x.fmod 4).toNat = 3 := by omega
  rcases this with e | e | e | e <;> rw [e]
  · show ("~" : Str).length ≤ 4 ∧ Ok "~"
    exact ⟨by omega, tl.2⟩
  · show ("~" ++ piece ps (nib x 16) : Str).length ≤ 4 ∧ Ok ("~" ++ piece ps (nib x 16) : Str)
    rw [Str.length_append]
    exact ⟨by omega, ok_app tl.2 q1.2⟩
  · show (piece ps (nib x 16) ++ "~" : Str).length ≤ 4 ∧ Ok (piece ps (nib x 16) ++ "~" : Str)
    rw [Str.length_append]
    exact ⟨by omega, ok_app q1.2 tl.2⟩
  · show (piece ps (nib x 16) ++ piece ps (nib x 256) : Str).length ≤ 4 ∧ Ok (piece ps (nib x 16) ++ piece ps (nib x 256) : Str)
    rw [Str.length_append]
    exact ⟨by omega, ok_app q1.2 q2.2⟩
end
theorem stdT_ok {f nm : Str} {n : Int} (hn : n = 0 ∨ n = 1 ∨ n = -10) (hf : f.length ≤ 4 ∧ Ok f) (hm : nm.length ≤ 10 ∧ Ok nm) : (stdT f n nm).length ≤ 20 ∧ Ok (stdT f n nm) := by
  have hd : (cs (Str.ofString (toString n))).length ≤ 3 ∧ ∀ c ∈ cs (Str.ofString (toString n)), c < 1114112 := by
    rcases hn with rfl | rfl | rfl <;> decide +kernel
  have e1 := cs_len f
  have e2 := cs_len nm
  constructor
  · rw [← cs_len, cs_stdT]
    simp only [List.length_append, List.length_cons, List.length_nil]
    omega
  · refine ok_iff.mpr fun c hc => ?_
    rw [cs_stdT] at hc
    simp only [List.mem_append, List.mem_cons, List.not_mem_nil, or_false] at hc
    rcases hc with h | h | h | h | h | h
    · exact ok_iff.mp hf.2 c h
    · omega
    · exact hd.2 c h
    · omega
    · exact ok_iff.mp hm.2 c h
    · omega
theorem std_ok {f nm : Str} {n : Int} (hn : n = 0 ∨ n = 1 ∨ n = -10) (hf : f.length ≤ 4 ∧ Ok f) (hm : nm.length ≤ 10 ∧ Ok nm) : (std f n nm).length ≤ 20 ∧ Ok (std f n nm) := by
  cases hb : builtIn f n with
  | false => rw [std_B hb]; exact stdT_ok hn hf hm
  | true =>
    cases h : betw nm "<" ">" with
    | false => rw [std_A2 hb h]; exact ⟨by omega, hm.2⟩
    | true =>
      obtain ⟨m, he⟩ := (betw_iff (a := 60) (b := 62) (by decide) (by decide +kernel) (by decide +kernel)).mp h
      have hs := std_A1 hb he
      have hl : nm.length = m.length + 2 := by rw [← cs_len, he]; simp
      refine ⟨by rw [← cs_len, hs]; simp; omega, ok_iff.mpr fun c hc => ?_⟩
      rw [hs] at hc
      simp only [List.mem_append, List.mem_cons, List.not_mem_nil, or_false] at hc
      rcases hc with h | h | h
      · omega
      · exact ok_iff.mp hm.2 c (by rw [he]; simp [h])
      · omega
theorem brought_ok {f nm f' nm' : Str} {n : Int} (hn : n = 0 ∨ n = 1 ∨ n = -10) (hf : pr (cs f) = cs f') (hm : pr (cs nm) = cs nm') (hf' : f'.length ≤ 4 ∧ Ok f') (hm' : nm'.length ≤ 10 ∧ Ok nm') : (prep (std f n nm)).length ≤ 20 ∧ Ok (prep (std f n nm)) := by
  rcases brought_forms hn hf hm with ⟨_, _, _, _, ⟨_, _, q⟩ | ⟨_, q⟩⟩ | ⟨_, q⟩
  · rw [q]; exact std_ok hn hf' hm'
  · rw [q]; exact ⟨by omega, hm'.2⟩
  · rw [q]; exact stdT_ok hn hf' hm'
end Mine

end

section
open PySem PySem.W PyProof.Rows
set_option Elab.async false
set_option maxRecDepth 100000
set_option maxHeartbeats 0
set_option linter.unusedVariables false
namespace Mine
theorem fin_of (con : ∀ (w : World) (mg mb : Str → Option Value) (hb : Heap), Bs w mg mb hb → ∀ ns : List Int, ns.length ≤ 63 → Con w mg hb 6 lawRec.name [.list (ns.map .int)] (.bool true)) : PySem.Challenge.rw_mr0241_01.Holds := by
  w_on
  refine hd ?_
  intro w s₀ s₁ mg mb G Y fa o pm cd doc dV kV ho hd hcd hD hmg hg args vals as hpre hlay hrd hwl hlo
  have KX := kIn_of Y
  refine Ground.open G ?_
  intro T B D TE TW
  wrow_args hpre hlay hrd hwl hlo
  rename_i ns _ _ _ _ _ as1 as2 l vs as3 hL ra w1 r0 hI hr hc1 hc2
  have hlen : ns.length ≤ 63 := by omega
  have i0 : Is [] s₁.heap (.ref l) (.list (ns.map .int)) := ⟨_, Reads.keeps (fun b o e => by rw [mask_get, if_neg (by simp)]; exact e) r0⟩
  refine wpAny_mono ((con w mg mb s₁.heap ⟨⟨_, T⟩, KX⟩ ns hlen).run fa hmg callerA [] s₁ [.ref l] ⟨rfl, by decide, by decide⟩ (fun _ _ e => e) (fun a ha => by cases ha) (isAll_cons i0 isAll_nil)) (fun v s' gi => ?_) fun _ _ h => h.elim
  obtain ⟨⟨⟨h', tk, rfl⟩, k⟩, i⟩ := gi
  obtain rfl := i.bool
  refine GoodW.toG ⟨.inl ⟨_, .bool true, [], rfl, ?_, ?_, ?_, ?_⟩, k, rfl, hg⟩
  · intro cls; first | rfl | kernel_rfl
  · exact .bool true
  · first | rfl | kernel_rfl
  · intro _; exact ⟨.nil, fun _ h => nomatch h⟩
end Mine

end

section
open PySem PySem.W PySem.Spec PyProof.Rows PySem.SeqAt
set_option Elab.async false
set_option linter.unusedVariables false
set_option maxRecDepth 100000
set_option maxHeartbeats 4000000
namespace Mine
section
variable {w : World} {mg mb : Str → Option Value} {hb : Heap} {A : Around} {env : Env} {X Y Z mu : List Addr} {δ γ : List (Str × PyData)} {sE s : Shared} {d d₁ d₂ d₃ : PyData} {C : Shared → Prop} {e e₁ e₂ e₃ : Expr} {p p' : Pos} {i j : Int} {x y : Str} {rest : List Stmt} {P : Flow → Shared → Prop} {K : Shared → Prop} {D : Addr} {ds ds' : List PyData}
abbrev eL (L a : Addr) (code : Value) : Env := envOfC (dRecP pw 14).name (dRecP pw 14).scope L a code
abbrev KC (L : Addr) : Shared → Prop := fun s => ∃ ov, s.heap.IsCell (L + 1) ov
theorem kc_closed {L : Addr} : Closed (KC L) := fun s s' ⟨ov, h⟩ g => ⟨ov, h.keeps g.2⟩
theorem kc_ok {L a : Addr} {code : Value} : KOk (eL L a code) (KC L) x := ⟨kc_closed, fun s h' tk v m ⟨ov, h⟩ _ _ hs => ⟨ov, h.sameBut hs (Nat.succ_ne_self L)⟩⟩
theorem kc_vis {L : Addr} {h' : Heap} {tk : Nat} (k : KC L s) (hm : L + 1 ∈ mu) (v : Vis mu Y Z s.heap h') : KC L { s with heap := h', toks := tk } := by
  obtain ⟨ov, o, ho, hd⟩ := k
  exact ⟨ov, o, (v _ o ho (.inr hm)).2, hd⟩
theorem cell_text : ∀ q ∈ (dRecP pw 14).scope.names, q.2 = .cell → q.1 = "text" := by decide +kernel
theorem kind_text {L a : Addr} {code : Value} (h : (eL L a code).kindOf y = some .cell) : y = "text" := cell_text (y, .cell) (mem_of_lookup h) rfl
theorem cells_eq (L a : Addr) (code : Value) : (eL L a code).cells = [(("text" : Str), L + 1)] := rfl
theorem cells_in {L a : Addr} {code : Value} (hm : L + 1 ∈ mu) : ∀ x c, (eL L a code).cells.lookup x = some c → c ∈ mu := fun x c h => by
  rw [cells_eq, List.lookup_cons] at h
  cases hq : x == ("text" : Str) with
  | true => rw [hq] at h; cases h; exact hm
  | false => rw [hq] at h; cases h
/-- the loop's name that a comprehension holds -/
theorem ex_storeT {L a : Addr} {code : Value} {v : Value} {Q : Unit → Shared → Prop} (O : EnvOk hb (eL L a code) X sE) (hcX : L + 1 ∈ X) (hcE : sE.heap.get? (L + 1) = none) (c : Cx hb (eL L a code) X δ sE s ∧ KC L s) (i : Is X s.heap v d)
    (h : ∀ s', (Cx hb (eL L a code) X (("text", d) :: δ) sE s' ∧ KC L s') → Q () s') : wpAny (model pw w) A (storeName (eL L a code) "text" v) Q No s := by
  obtain ⟨ov, ho⟩ := c.2
  refine wpAny_storeName_cell O.kind rfl (rfl : (eL L a code).cells.lookup ("text" : Str) = some (L + 1)) ho fun h' hv hs => h _ ⟨?_, _, hv⟩
  have ne : ∀ b o, sE.heap.get? b = some o → b ≠ L + 1 := fun b o e q => by rw [q, hcE] at e; cases e
  have im : ∀ {v d}, Is X s.heap v d → Is X h' v d := fun i => i.mono fun b o hb e => ⟨hb, (hs.2 b (fun q => hb (q ▸ hcX))).trans e⟩
  refine ⟨⟨?_, fun b o e => (hs.2 b (ne b o e)).trans (c.1.grow.2 b o e)⟩, fun b o e => (hs.2 b (ne b o (O.baseE b o e))).trans (c.1.base b o e), fun b hb => ?_, ?_, fun y d' e1 e2 => ?_⟩
  · obtain ⟨⟨h1, t1, e⟩, _⟩ := c.1.grow; exact ⟨h', s.toks, by rw [e]⟩
  · by_cases q : b = L + 1
    · obtain ⟨o, ho', _⟩ := hv; exact ⟨o, q ▸ ho'⟩
    · obtain ⟨o, ho'⟩ := c.1.xok b hb; exact ⟨o, (hs.2 b q).trans ho'⟩
  · obtain ⟨m, hn, hl⟩ := c.1.ns
    refine ⟨m, hn.sameBut hs (Nat.succ_ne_self L).symm, fun y d' e1 e2 => ?_⟩
    rw [List.lookup_cons] at e1
    cases hq : y == ("text" : Str) with
    | true => rw [beq_iff_eq.mp hq, show (eL L a code).kindOf "text" = some .cell from rfl] at e2; cases e2
    | false =>
      rw [hq] at e1
      obtain ⟨v', h1, h2⟩ := hl y d' e1 e2
      exact ⟨v', h1, im h2⟩
  · have hy := kind_text e2
    subst hy
    rw [List.lookup_cons, show (("text" : Str) == ("text" : Str)) = true from rfl] at e1
    cases e1
    exact ⟨L + 1, v, rfl, hv, im i⟩
def lawNums (ns : List Int) : List Int := if ns = [] then [536850657, 45211648, 124280763] else (ns.take 5).map (·.fmod 536870912)
theorem lawNums_ok (ns : List Int) : (lawNums ns).length ≤ 5 ∧ ∀ m ∈ lawNums ns, 0 ≤ m ∧ m < 536870912 := by
  unfold lawNums
  split
  · decide
  · refine ⟨by simp; omega, fun m hm => ?_⟩
    obtain ⟨n, _, rfl⟩ := List.mem_map.mp hm
    exact ⟨fmod_lo _ (by decide), fmod_hi _ (by decide)⟩
def gM : PyData → PyData
  | .int i => .int (i.fmod 536870912)
  | _ => .none
theorem eqv_nil (ns : List Int) : PyData.eqv (.list (ns.map .int)) (.list []) = decide (ns = []) := by
  cases ns with
  | nil => simp [PyData.eqv, PyData.eqvAll]
  | cons a r => simp [PyData.eqv, PyData.eqvAll]
theorem abc_at : ∀ k : Nat, k < 26 → ("abcdefghijklmnopqrstuvwxyz" : Str).cps[k]? = some (97 + k) := by decide +kernel
theorem signs_at : ∀ k : Nat, k < 12 → ("ﬀﬁﬂﬆß№℠™₨㍳㎐㏝" : Str).cps[k]? = some (signL.getD k 0) := by decide +kernel
theorem plain_sgns : sgns "~<>{}:()01-a" = (asciis.map sgn).map PyData.str := by
  unfold sgns
  rw [show ("~<>{}:()01-a" : Str).cps.toList = asciis by decide +kernel, List.map_map]
  rfl
theorem con_law (B : Bs w mg mb hb) (ns : List Int) (hns : ns.length ≤ 63) : Con w mg hb 6 (dRecP pw 14).name [.list (ns.map .int)] (.bool true) := by
  refine ⟨?_⟩
  intro f hf A X0 s vs hA hs hxo hi
  obtain ⟨_, T⟩ := B.T
  obtain ⟨a, o, pm, code, doc, h1, h2, h3, h4⟩ := T.fn (dRecP pw 14) (by rw [recs_eq]; simp)
  have : a = f := by rw [h1] at hf; cases hf; rfl
  subst this
  obtain ⟨vx, rfl, ix⟩ := one_inv hi
  refine wpAny_call (call_cells_ret (binds := [("script", vx)]) hA.room (hs a o h2) h3 (T.nolimit.keeps hs) (h4.keeps hs) (by kernel_rfl) ?_ (fun h₁ tk F Xc => ?_) rfl rfl rfl)
  · intro q hq
    rw [List.mem_singleton.mp hq]; exact .inl rfl
  have Lnone : ∀ b, s.heap.objs.size ≤ b → s.heap.get? b = none := by
    intro b hb
    cases q : s.heap.get? b with
    | none => rfl
    | some o => exact absurd (Heap.lt_size q) (Nat.not_lt.mpr hb)
  have L0 := Lnone s.heap.objs.size (Nat.le_refl _)
  have L1 := Lnone (s.heap.objs.size + 1) (Nat.le_succ _)
  clear Lnone
  generalize hL : s.heap.objs.size = L at F Xc L0 L1 ⊢
  have O : EnvOk hb (eL L a code) ((L + 1) :: L :: X0) s := ⟨rfl, rfl, rfl, List.mem_cons_of_mem _ List.mem_cons_self, L0, hs, fun n c e => Nat.ne_of_gt (Xc.above n c (mem_of_lookup e))⟩
  have im : ∀ {v d}, Is X0 s.heap v d → Is ((L + 1) :: L :: X0) h₁ v d := fun i => i.mono fun b o hb e => ⟨fun q => by
    rcases List.mem_cons.mp q with rfl | q
    · rw [L1] at e; cases e
    · rcases List.mem_cons.mp q with rfl | q
      · rw [L0] at e; cases e
      · exact hb q, F.keep b o e⟩
  have hcell : h₁.IsCell (L + 1) none := Xc.cell "text" (L + 1) rfl
  have cx : Cx hb (eL L a code) ((L + 1) :: L :: X0) [("script", .list (ns.map .int))] s { s with heap := h₁, toks := tk } ∧ KC L { s with heap := h₁, toks := tk } := by
    refine ⟨⟨.mk' F.keep, fun b o e => F.keep b o (hs b o e), fun b hb => ?_, ⟨_, F.ns, fun y d' e1 e2 => ?_⟩, fun y d' e1 e2 => ?_⟩, none, hcell⟩
    · rcases List.mem_cons.mp hb with rfl | hb
      · obtain ⟨o, ho, _⟩ := hcell; exact ⟨o, ho⟩
      · rcases List.mem_cons.mp hb with rfl | hb
        · obtain ⟨o, _, _, ho, _⟩ := F.ns; exact ⟨o, ho⟩
        · obtain ⟨o, ho⟩ := hxo b hb; exact ⟨o, F.keep b o ho⟩
    · rw [List.lookup_cons] at e1
      cases hq : y == ("script" : Str) with
      | true =>
        rw [hq] at e1
        cases e1
        rw [beq_iff_eq.mp hq]
        exact ⟨vx, rfl, im ix⟩
      | false => rw [hq] at e1; cases e1
    · rw [kind_text e2] at e1
      cases e1
  have hA5 := hA.deeper (k := 5) (eL L a code)
  have body : Ex w (A.deeper (eL L a code)) (eL L a code) (fun s' => Cx hb (eL L a code) ((L + 1) :: L :: X0) [("script", .list (ns.map .int))] s s' ∧ KC L s') (dRecP pw 14).body (RetP X0 s (.bool true)) := by
    have hh : (A.deeper (eL L a code)).handled = none := hA5.1
    generalize A.deeper (eL L a code) = A' at hA5 hh ⊢
    have hA2 : AOk 2 A' := hA5.mono (by decide)
    have hA1 : AOk 1 A' := hA5.mono (by decide)
    refine ex_assignK (d := .list ((lawNums ns).map .int)) O kc_ok (ev_ifexp (c := !PyData.eqv (.list (ns.map .int)) (.list [])) Cx.closed (tst_cmp (X := (L + 1) :: L :: X0) (ev_neD Cx.closed hA1.units (ev_loc rfl rfl rfl) (ev_list Cx.xoks Cx.closed evL_nil (by decide)) (shaped_ints ns) shaped_nil)) (fun hc => ?_) (fun hc => ?_)) rfl ?_
    · have hne : ns ≠ [] := by rw [eqv_nil] at hc; simpa using hc
      have e : (lawNums ns).map PyData.int = ((((ns.map PyData.int).take 5).filter fun _ => true).map gM) := by
        unfold lawNums
        rw [if_neg hne, List.filter_eq_self.mpr (by simp), ← List.map_take, List.map_map, List.map_map]
        rfl
      rw [e]
      refine ev_compS (γ := []) hh (fun _ => true) gM ⟨closureFor_none (by decide +kernel), by decide +kernel, rfl, by decide +kernel, rfl, rfl, (fun _ _ _ h => nomatch h), (fun _ _ h => nomatch h)⟩ (src_list (ev_cutL (n := 5) Cx.xoks Cx.closed (ev_loc rfl rfl rfl) (by simp; omega))) (by simp; omega) ?_ ?_ ?_ ?_
      · intro d hd
        obtain ⟨n, _, rfl⟩ := List.mem_map.mp (List.mem_of_mem_take hd)
        trivial
      · intro d hd
        obtain ⟨n, _, rfl⟩ := List.mem_map.mp (List.mem_of_mem_take hd)
        trivial
      · intro C d sE' hd
        exact tsts_nil
      · intro C d sE' hd _
        obtain ⟨n, _, rfl⟩ := List.mem_map.mp (List.mem_of_mem_take hd)
        exact ev_mod Cx.closed (ev_loc rfl rfl rfl) ev_int (by decide)
    · have he : ns = [] := by rw [eqv_nil] at hc; simpa using hc
      have e : lawNums ns = [536850657, 45211648, 124280763] := by unfold lawNums; rw [if_pos he]
      rw [e]
      exact ev_list Cx.xoks Cx.closed (evL_cons Cx.closed ev_int (evL_cons Cx.closed ev_int (evL_cons Cx.closed ev_int evL_nil))) (by decide)
    have hms := lawNums_ok ns
    generalize lawNums ns = ms at hms ⊢
    refine ex_assignK O kc_ok (ev_sum hh B rfl rfl rfl rfl (ev_loc rfl rfl rfl)) rfl ?_
    generalize total ms = t
    have a0 := fmod_lo t (n := 26) (by decide)
    have a1 := fmod_hi t (n := 26) (by decide)
    have m0 := fmod_lo t (n := 11) (by decide)
    have m1 := fmod_hi t (n := 11) (by decide)
    have u0 := fmod_lo t (n := 27) (by decide)
    have u1 := fmod_hi t (n := 27) (by decide)
    have k0 := fmod_lo t (n := 12) (by decide)
    have k1 := fmod_hi t (n := 12) (by decide)
    refine ex_assignK (d := .str (sgn (ltr t))) O kc_ok (ev_itemS Cx.closed ev_strC (ev_mod Cx.closed (ev_loc rfl rfl rfl) ev_int (by decide)) (by omega) (StrLaws.at_nonneg a0 (abc_at _ (by omega)))) rfl ?_
    refine ex_assignK (d := .list (wordL.map .str)) O kc_ok (ev_list Cx.xoks Cx.closed (evL_cons Cx.closed ev_strC (evL_cons Cx.closed ev_strC (evL_cons Cx.closed ev_strC (evL_cons Cx.closed ev_strC (evL_cons Cx.closed ev_strC (evL_cons Cx.closed ev_strC (evL_cons Cx.closed ev_strC (evL_cons Cx.closed ev_strC (evL_cons Cx.closed ev_strC (evL_cons Cx.closed ev_strC (evL_cons Cx.closed ev_strC (evL_cons Cx.closed ev_strC evL_nil)))))))))))) (by decide)) rfl ?_
    refine ex_assignK (d := .str (sgn (signL.getD (t.fmod 12).toNat 0))) O kc_ok (ev_itemS Cx.closed ev_strC (ev_mod Cx.closed (ev_loc rfl rfl rfl) ev_int (by decide)) (by omega) (StrLaws.at_nonneg k0 (signs_at _ (by omega)))) rfl ?_
    refine ex_assignK (d := .list ((asciis.map sgn).map .str)) O kc_ok (plain_sgns ▸ ev_listS hh B rfl rfl rfl rfl ev_strC (by decide)) rfl ?_
    refine ex_assignK (d := .list ((spelledL t).map .str)) O kc_ok ?_ rfl ?_
    · have e : (spelledL t).map PyData.str = (asciis.map sgn).map PyData.str ++ [.str (sgn (greatC (ltr t) (t.fmod 11)).toNat), .str (sgn (signL.getD (t.fmod 12).toNat 0)), .str (sgn (unseenC (t.fmod 27)).toNat), .str ""] := by
        unfold spelledL; rw [List.map_append]; rfl
      rw [e]
      exact ev_catL Cx.xoks Cx.closed (ev_loc rfl rfl rfl) (ev_list Cx.xoks Cx.closed (evL_cons Cx.closed (ev_own B hA1 (con_great B 0 (ltr t) (t.fmod 11) (by unfold ltr; omega) m0 (by omega)) ⟨dRecP pw 8, by rw [recs_eq]; simp, rfl⟩ rfl rfl rfl (evL_cons Cx.closed (ev_loc rfl rfl rfl) (evL_cons Cx.closed (ev_mod Cx.closed (ev_loc rfl rfl rfl) ev_int (by decide)) evL_nil))) (evL_cons Cx.closed (ev_loc rfl rfl rfl) (evL_cons Cx.closed (ev_own B hA1 (con_unseen B 0 (t.fmod 27) u0 (by omega)) ⟨dRecP pw 9, by rw [recs_eq]; simp, rfl⟩ rfl rfl rfl (evL_cons Cx.closed (ev_mod Cx.closed (ev_loc rfl rfl rfl) ev_int (by decide)) evL_nil)) (evL_cons Cx.closed ev_strC evL_nil)))) (by show 4 ≤ 1000; decide)) (by show 12 + 4 ≤ 1000; decide)
    refine ex_assignK (d := .list ((toldL t).map .str)) O kc_ok ?_ rfl ?_
    · have e : (toldL t).map PyData.str = (asciis.map sgn).map PyData.str ++ [.str (sgn (ltr t)), .str (wordL.getD (t.fmod 12).toNat ""), .str "", .str ""] := by
        unfold toldL; rw [List.map_append]; rfl
      rw [e]
      have hw : (wordL.map PyData.str)[(t.fmod 12).toNat]? = some (.str (wordL.getD (t.fmod 12).toNat "")) := by
        have hl : (t.fmod 12).toNat < wordL.length := by show _ < 12; omega
        rw [List.getElem?_map, List.getD_eq_getElem?_getD, List.getElem?_eq_getElem hl]; rfl
      exact ev_catL Cx.xoks Cx.closed (ev_loc rfl rfl rfl) (ev_list Cx.xoks Cx.closed (evL_cons Cx.closed (ev_loc rfl rfl rfl) (evL_cons Cx.closed (ev_itemL Cx.closed (ev_loc rfl rfl rfl) (ev_mod Cx.closed (ev_loc rfl rfl rfl) ev_int (by decide)) k0 hw (by decide)) (evL_cons Cx.closed ev_strC (evL_cons Cx.closed ev_strC evL_nil)))) (by show 4 ≤ 1000; decide)) (by show 12 + 4 ≤ 1000; decide)
    obtain ⟨spl, tol, spo, too⟩ := sp_ok t
    have mc : L + 1 ∈ [L + 1, L] := List.mem_cons_self
    have ml : L ∈ [L + 1, L] := List.mem_cons_of_mem _ List.mem_cons_self
    refine ex_forG (mu := [L + 1, L]) (ds := ms.map .int) (K := fun _ _ s => KC L s) hh O ml (cells_in mc) (fun b hb => ?_) (fun b hb => ?_) (fun i Y Z s h' tk _ _ k v => kc_vis k mc v) (Src.of (fun s c => c.1) (src_list (ev_loc rfl rfl rfl))) ?_ ?_
    · rcases List.mem_cons.mp hb with rfl | hb
      · exact L1
      · rw [List.mem_singleton.mp hb]; exact L0
    · rcases List.mem_cons.mp hb with rfl | hb
      · exact List.mem_cons_self
      · rw [List.mem_singleton.mp hb]; exact List.mem_cons_of_mem _ List.mem_cons_self
    · intro I sB i d v s1 hd O1 hmu1 c1 q1 iv1
      obtain ⟨m, hm, rfl⟩ : ∃ m, m ∈ ms ∧ d = .int m := by
        have := List.mem_of_getElem? hd
        obtain ⟨m, hm, e⟩ := List.mem_map.mp this
        exact ⟨m, hm, e.symm⟩
      have hmr := hms.2 m hm
      refine PyProof.Rows.assign_Name (ex_storeK O1 kc_ok ⟨c1, q1⟩ iv1 rfl fun s' c' _ => Ex.run (C := fun s => Cx hb (eL L a code) (I :: (L + 1) :: L :: X0) (("x", .int m) :: _) sB s ∧ KC L s) ?_ s' c')
      have rf := fl_rel t m
      have rn := nm_rel t m
      have hn := ln_cases m
      have of := fl_ok spo m
      have on := nm_ok spo m
      have of' := fl_ok too m
      have on' := nm_ok too m
      refine ex_assignK (d := fn (fnFl m (spelledL t), fnLn m, fnNm m (spelledL t))) O1 kc_ok (ev_own B hA1 (con_fn B 0 m (spelledL t) hmr spl (fun q hq => Nat.le_trans (spo q hq).1 (by decide))) ⟨dRecP pw 11, by rw [recs_eq]; simp, rfl⟩ rfl rfl rfl (evL_cons Cx.closed (ev_loc rfl rfl rfl) (evL_cons Cx.closed (ev_loc rfl rfl rfl) evL_nil))) rfl ?_
      refine ex_assignK (d := fn (fnFl m (toldL t), fnLn m, fnNm m (toldL t))) O1 kc_ok (ev_own B hA1 (con_fn B 0 m (toldL t) hmr tol (fun q hq => Nat.le_trans (too q hq).1 (by decide))) ⟨dRecP pw 11, by rw [recs_eq]; simp, rfl⟩ rfl rfl rfl (evL_cons Cx.closed (ev_loc rfl rfl rfl) (evL_cons Cx.closed (ev_loc rfl rfl rfl) evL_nil))) rfl ?_
      generalize fnFl m (spelledL t) = f at rf of ⊢
      generalize fnNm m (spelledL t) = nm at rn on ⊢
      generalize fnFl m (toldL t) = f' at rf of' ⊢
      generalize fnNm m (toldL t) = nm' at rn on' ⊢
      generalize fnLn m = n at hn ⊢
      have hn0 : n.natAbs < 10 ^ 570 := by rcases hn with rfl | rfl | rfl <;> decide +kernel
      have pf : prep f = f' := str_ext (by rw [cs_prep, rf])
      have pn : prep nm = nm' := str_ext (by rw [cs_prep, rn])
      have hT1 : (!PyData.eqv (fn (prep f, n, prep nm)) (fn (f', n, nm'))) = false := by rw [eqv_fn, pf, pn]; simp
      refine ex_if (b := !PyData.eqv (fn (prep f, n, prep nm)) (fn (f', n, nm'))) (C' := fun s => Cx hb (eL L a code) (I :: (L + 1) :: L :: X0) (("due", fn (f', n, nm')) :: ("function", fn (f, n, nm)) :: ("x", .int m) :: _) sB s ∧ KC L s) (closedK kc_closed)
        (Tst.of (fun s c => c.1) (tst_cmp (X := I :: (L + 1) :: L :: X0) (ev_neD Cx.closed hA1.units (ev_tuple Cx.xoks Cx.closed (evL_cons Cx.closed (ev_own B hA2 (con_prepared B 0 f (by omega)) ⟨dRecP pw 10, by rw [recs_eq]; simp, rfl⟩ rfl rfl rfl (evL_cons Cx.closed (ev_itemT Cx.closed (ev_loc rfl rfl rfl) ev_int (by decide) rfl (by show 3 ≤ 1000; decide)) evL_nil)) (evL_cons Cx.closed (ev_itemT Cx.closed (ev_loc rfl rfl rfl) ev_int (by decide) rfl (by show 3 ≤ 1000; decide)) (evL_cons Cx.closed (ev_own B hA2 (con_prepared B 0 nm (by omega)) ⟨dRecP pw 10, by rw [recs_eq]; simp, rfl⟩ rfl rfl rfl (evL_cons Cx.closed (ev_itemT Cx.closed (ev_loc rfl rfl rfl) ev_int (by decide) rfl (by show 3 ≤ 1000; decide)) evL_nil)) evL_nil))) (by show 3 ≤ 1000; decide)) (ev_loc rfl rfl rfl) (by rw [pf, pn]; exact shaped_3 of'.2 on'.2) (shaped_3 of'.2 on'.2))))
        (fun hq => by rw [hT1] at hq; cases hq) (fun _ => ex_nil fun s c => c) ?_
      have osh := std_ok hn of on
      have obr := brought_ok hn rf rn of' on'
      have hcomp := read_complete (f := f) (nm := nm) hn
      have hmem := mem_brought hn rf rn (by omega)
      refine ex_assignK (d := .str (std f n nm)) O1 kc_ok (ev_own B hA1 (con_std B 0 f nm n (by omega) (by omega) hn0 of.2) ⟨dRecP pw 1, by rw [recs_eq]; simp, rfl⟩ rfl rfl rfl (evL_cons Cx.closed (ev_loc rfl rfl rfl) evL_nil)) rfl ?_
      generalize std f n nm = sh at osh obr hcomp hmem ⊢
      refine ex_assignK (d := .str (prep sh)) O1 kc_ok (ev_own B hA2 (con_prepared B 0 sh (by omega)) ⟨dRecP pw 10, by rw [recs_eq]; simp, rfl⟩ rfl rfl rfl (evL_cons Cx.closed (ev_loc rfl rfl rfl) evL_nil)) rfl ?_
      generalize prep sh = br at obr hmem ⊢
      have con_r : ∀ (z : Str), z.length ≤ 20 ∧ Ok z → Con w mg hb 2 (dRecP pw 13).name [.str z] (.list ((readP z).map fn)) := fun z hz => con_read B 0 z (by omega) hz.2 (fun i _ h => hint_of (by omega) hz.2 i h) (fun i => ⟨by have := (rp_ok hz.2 i).2.1; omega, (rp_ok hz.2 i).2.2⟩)
      have rd_ok : ∀ (z : Str), z.length ≤ 20 ∧ Ok z → ∀ q ∈ readP z, q.1.length ≤ 1000 ∧ q.2.2.length ≤ 1000 ∧ q.2.1.natAbs < 10 ^ 570 ∧ Ok q.1 ∧ Ok q.2.2 := fun z hz => readP_ok (by omega) hz.2
      have rd_sh : ∀ (z : Str), z.length ≤ 20 ∧ Ok z → shaped (.list ((readP z).map fn)) = true := fun z hz => shaped_fns _ fun q hq => (rd_ok z hz q hq).2.2.2
      have rd_mix : ∀ (z : Str) (u : Str × Int × Str), ∀ y ∈ (readP z).map fn, noMix y (fn u) = true := fun z u y hy => by
        obtain ⟨q, _, rfl⟩ := List.mem_map.mp hy
        exact noMix_fn q u
      have hT2 : (!decide (countIn (fn (f, n, nm)) ((readP sh).map fn) ≠ 0)) = false := by
        rw [Bool.not_eq_false', decide_eq_true_eq]
        exact (count_fn _ _).2.mpr hcomp
      refine ex_if (b := !decide (countIn (fn (f, n, nm)) ((readP sh).map fn) ≠ 0)) (C' := fun s => Cx hb (eL L a code) (I :: (L + 1) :: L :: X0) (("brought", .str br) :: ("shown", .str sh) :: ("due", fn (f', n, nm')) :: ("function", fn (f, n, nm)) :: ("x", .int m) :: _) sB s ∧ KC L s) (closedK kc_closed)
        (Tst.of (fun s c => c.1) (tst_cmp (X := I :: (L + 1) :: L :: X0) (ev_notInD Cx.closed hA1.units (ev_loc rfl rfl rfl) (ev_own B hA2 (con_r sh osh) ⟨dRecP pw 13, by rw [recs_eq]; simp, rfl⟩ rfl rfl rfl (evL_cons Cx.closed (ev_loc rfl rfl rfl) evL_nil)) (shaped_3 of.2 on.2) (rd_sh sh osh) (rd_mix sh _))))
        (fun hq => by rw [hT2] at hq; cases hq) (fun _ => ex_nil fun s c => c) ?_
      refine ex_forG (mu := [L + 1, L]) (ds := [.str sh, .str br]) (K := fun _ _ s => KC L s) hh O1 ml (cells_in mc) hmu1 (fun b hb => ?_) (fun i Y Z s h' tk _ _ k v => kc_vis k mc v) (Src.of (fun s c => c.1) (src_list (ev_list Cx.xoks Cx.closed (evL_cons Cx.closed (ev_loc rfl rfl rfl) (evL_cons Cx.closed (ev_loc rfl rfl rfl) evL_nil)) (by show 2 ≤ 1000; decide)))) ?_ ?_
      · rcases List.mem_cons.mp hb with rfl | hb
        · exact List.mem_cons_of_mem _ List.mem_cons_self
        · rw [List.mem_singleton.mp hb]; exact List.mem_cons_of_mem _ (List.mem_cons_of_mem _ List.mem_cons_self)
      · intro I2 sB2 i2 d2 v2 s2 hd2 O2 hmu2 c2 q2 iv2
        obtain ⟨z, rfl, oz⟩ : ∃ z, d2 = .str z ∧ (z.length ≤ 20 ∧ Ok z) := by
          have := List.mem_of_getElem? hd2
          simp only [List.mem_cons, List.not_mem_nil, or_false] at this
          rcases this with rfl | rfl
          · exact ⟨sh, rfl, osh⟩
          · exact ⟨br, rfl, obr⟩
        refine PyProof.Rows.assign_Name (ex_storeT O2 (List.mem_cons_of_mem _ (List.mem_cons_of_mem _ List.mem_cons_self)) (hmu2 _ mc) ⟨c2, q2⟩ iv2 fun s' c' => Ex.run (C := fun s => Cx hb (eL L a code) (I2 :: I :: (L + 1) :: L :: X0) (("text", .str z) :: _) sB2 s ∧ KC L s) ?_ s' c')
        have hT3 : (!PyData.eqv (.list []) (.list [])) = false := by decide +kernel
        have hrl := readTo_len z (z.length - 1)
        refine ex_if (b := !PyData.eqv (.list []) (.list [])) (C' := fun s => Cx hb (eL L a code) (I2 :: I :: (L + 1) :: L :: X0) _ sB2 s ∧ KC L s) (closedK kc_closed)
          (Tst.of (fun s c => c.1) (tst_cmp (X := I2 :: I :: (L + 1) :: L :: X0) (ev_neD Cx.closed hA1.units (ev_compN (cl := [("text", L + 1)]) (γ := [("text", .str z)]) hh ⟨rfl, by decide +kernel, rfl, by decide +kernel, rfl, rfl, ?_, ?_⟩ (src_list (ev_own B hA2 (con_r z oz) ⟨dRecP pw 13, by rw [recs_eq]; simp, rfl⟩ rfl rfl rfl (evL_cons Cx.closed (ev_cell rfl rfl rfl) evL_nil))) (by rw [List.length_map]; show (readTo z (z.length - 1)).length ≤ 1000; omega) ?_) (ev_list Cx.xoks Cx.closed evL_nil (by decide)) shaped_nil shaped_nil)))
          (fun hq => by rw [hT3] at hq; cases hq) (fun _ => ex_nil fun s c => ⟨c.1.sub (sub_skip rfl), c.2⟩) (ex_nil fun s c => ⟨rfl, c⟩)
        · intro y d C h
          rw [List.lookup_cons] at h
          cases hq : y == ("text" : Str) with
          | true => rw [beq_iff_eq.mp hq]; intro e2; cases e2
          | false => rw [hq] at h; cases h
        · intro y d h
          rw [List.lookup_cons] at h
          cases hq : y == ("text" : Str) with
          | true => rw [hq] at h; cases h; rw [beq_iff_eq.mp hq]; exact ⟨rfl, rfl, rfl⟩
          | false => rw [hq] at h; cases h
        · intro C d sE' hd
          obtain ⟨q, hq, rfl⟩ := List.mem_map.mp hd
          obtain ⟨r1, r2, r3, r4, r5⟩ := rd_ok z oz q hq
          have hsd := read_sound (x := z) (by omega) q hq
          have e : (std q.1 q.2.1 q.2.2 != z) = false := by rw [hsd]; simp
          rw [← e]
          exact tsts_one (tst_cmp (X := I2 :: I :: (L + 1) :: L :: X0) (ev_neS Cx.closed (ev_own B hA1 (con_std B 0 q.1 q.2.2 q.2.1 (by omega) (by omega) r3 r4) ⟨dRecP pw 1, by rw [recs_eq]; simp, rfl⟩ rfl rfl rfl (evL_cons Cx.closed (ev_loc rfl rfl rfl) evL_nil)) (ev_cell rfl rfl rfl)))
      · have btw : ∀ (z o c : Str), z.length ≤ 1000000 → Con w mg hb 1 (dRecP pw 12).name [.str z, .str o, .str c] (.bool (betw z o c)) := fun z o c hz => con_between B 0 z o c hz
        refine ex_assignK (d := .bool ((f != "~") || (!betw nm "<" ">" && betw nm' "<" ">"))) O1 kc_ok (ev_or Cx.closed (ev_neS Cx.closed (ev_itemT (d := .str f) Cx.closed (ev_loc rfl rfl rfl) ev_int (by decide) rfl (by show 3 ≤ 1000; decide)) ev_strC) fun _ => ev_and Cx.closed (ev_not (ev_own B hA1 (btw nm _ _ (by omega)) ⟨dRecP pw 12, by rw [recs_eq]; simp, rfl⟩ rfl rfl rfl (evL_cons Cx.closed (ev_itemT Cx.closed (ev_loc rfl rfl rfl) ev_int (by decide) rfl (by show 3 ≤ 1000; decide)) (evL_cons Cx.closed ev_strC (evL_cons Cx.closed ev_strC evL_nil))))) fun _ => ev_own B hA1 (btw nm' _ _ (by omega)) ⟨dRecP pw 12, by rw [recs_eq]; simp, rfl⟩ rfl rfl rfl (evL_cons Cx.closed (ev_itemT Cx.closed (ev_loc rfl rfl rfl) ev_int (by decide) rfl (by show 3 ≤ 1000; decide)) (evL_cons Cx.closed ev_strC (evL_cons Cx.closed ev_strC evL_nil)))) rfl ?_
        generalize ((f != "~") || (!betw nm "<" ">" && betw nm' "<" ">")) = nw at hmem ⊢
        have hT4 : PyData.eqv (.bool (decide (countIn (fn (f', n, nm')) ((readP br).map fn) ≠ 0))) (.bool (builtIn f' n && nw)) = false := by
          have h1 := (count_fn (f', n, nm') (readP br)).2.trans hmem
          have h2 : decide (countIn (fn (f', n, nm')) ((readP br).map fn) ≠ 0) = !(builtIn f' n && nw) := by
            rw [Bool.eq_iff_iff, decide_eq_true_eq, Bool.not_eq_true']
            exact h1
          rw [h2]
          cases (builtIn f' n && nw) <;> decide +kernel
        refine ex_if (b := PyData.eqv (.bool (decide (countIn (fn (f', n, nm')) ((readP br).map fn) ≠ 0))) (.bool (builtIn f' n && nw))) (C' := fun s => Cx hb (eL L a code) (I :: (L + 1) :: L :: X0) _ sB s ∧ KC L s) (closedK kc_closed)
          (Tst.of (fun s c => c.1) (tst_cmp (X := I :: (L + 1) :: L :: X0) (ev_eqD Cx.closed hA1.units (ev_inD Cx.closed hA1.units (ev_loc rfl rfl rfl) (ev_own B hA2 (con_r br obr) ⟨dRecP pw 13, by rw [recs_eq]; simp, rfl⟩ rfl rfl rfl (evL_cons Cx.closed (ev_loc rfl rfl rfl) evL_nil)) (shaped_3 of'.2 on'.2) (rd_sh br obr) (rd_mix br _)) (ev_and Cx.closed (eqv_built f' n ▸ ev_eqD Cx.closed hA1.units (ev_cutT2 Cx.xoks Cx.closed (ev_loc rfl rfl rfl)) (ev_tuple Cx.xoks Cx.closed (evL_cons Cx.closed ev_strC (evL_cons Cx.closed ev_int evL_nil)) (by decide)) (shaped_2 of'.2) (shaped_2 (by decide +kernel))) fun _ => ev_loc rfl rfl rfl) (shaped_bool _) (shaped_bool _))))
          (fun hq => by rw [hT4] at hq; cases hq) (fun _ => ex_nil fun s c => ⟨c.1.sub ?_, c.2⟩) (ex_nil fun s c => ⟨rfl, c⟩)
        exact fun y q h => sub_skip rfl y q (sub_skip rfl y q (sub_skip rfl y q (sub_skip rfl y q (sub_skip rfl y q (sub_skip rfl y q h)))))
    · refine ex_ret (X := (L + 1) :: L :: X0) ev_true fun s s' v c g i => ⟨v, rfl, c.1.grow.trans g, is_tail (is_tail i)⟩
  refine wpAny_mono (body.run _ cx) (fun fl s' h => ?_) fun _ _ h => h
  obtain ⟨v, rfl, g, i⟩ := h
  exact ⟨g, i⟩
end
end Mine

end

section
open PySem PySem.W PyProof.Rows
set_option maxRecDepth 100000
namespace Mine
theorem law_name : lawRec.name = (dRecP pw 14).name := by
  unfold lawRec pw
  rw [PySem.W.Fast.te9825827541071483010]
  kernel_rfl
theorem all_done : PySem.Challenge.rw_mr0241_01.Holds := fin_of fun w mg mb hb B ns h => by
  rw [law_name]
  exact con_law B ns h
end Mine

end

set_option maxRecDepth 100000 in
set_option maxHeartbeats 8000000 in
theorem PySem.Challenge.cw_mr0241_01_holds : PySem.Challenge.rw_mr0241_01.Holds :=
  Mine.all_done
