import PyProof.Rows.All
import Wide.All
import OpenK.AllK
import Wide.FinOn
import PySem.Challenge.RW_rl0108_01
set_option Elab.async false

section
open PySem PySem.W PyProof.Rows
set_option maxRecDepth 100000
set_option linter.unusedVariables false
namespace Mine
noncomputable abbrev pw : Program := PySem.Challenge.pw_rl0108_01
noncomputable def stAt (i : Nat) : Stmt := pw.main.body.getD i (.Pass ⟨0, 0, 0, 0⟩)
noncomputable def fParams : Stmt → Arguments
  | .FunctionDef _ a _ _ _ _ _ _ _ _ => a
  | _ => ⟨[], [], none, [], [], none, []⟩
noncomputable def fBody : Stmt → List Stmt
  | .FunctionDef _ _ b _ _ _ _ _ _ _ => b
  | _ => []
noncomputable def fScope : Stmt → Scope
  | .FunctionDef _ _ _ _ _ _ s _ _ _ => s
  | _ => pw.main.scope
noncomputable def fnAt (i : Nat) (name qual : Str) (globals : Addr) (pm code ct : Value) : FuncData :=
  { name := name, qualname := qual, params := fParams (stAt i), body := .stmts (fBody (stAt i)), scope := fScope (stAt i), globals := globals, closure := [], defaults := .none, kwdefaults := .none, doc := .none, pyModule := pm, annotations := none, code := code, closureTuple := ct, builtins := 0 }
noncomputable def env0 : Env := { scope := pw.main.scope, locals := mainNs, globals := mainNs, cells := [], code := .ref 13, frame := some 14 }
noncomputable def cE : Code := .body (behindTheImports pw) env0
noncomputable def BB : List Frame := [topFrame ⟨0, 0, 0, 0⟩]
end Mine
end

section
open PySem PySem.W PyProof.Rows
set_option maxRecDepth 100000
set_option linter.unusedVariables false
namespace Mine
noncomputable abbrev annA : Option Value := some (.ref 6)
noncomputable def TR (w : World) (N : Nat) (s : Shared) (t : Thread) : Option Shared := topRun treeTable pw w 11 annA N s t
theorem tr_step {w : World} {N : Nat} {s s' : Shared} {cur : Sem Fin} {c : Code} {pos : Pos} {F : Frame} {B : List Frame} {t' : Thread}
    (hk : stepOk 11 annA ⟨cur, c, pos, F :: B⟩ = true) (hs : step (denote treeTable) pw w s ⟨cur, c, pos, F :: B⟩ = .go s' t') :
    TR w (N + 1) s ⟨cur, c, pos, F :: B⟩ = TR w N s' t' := by
  have h0 : through ⟨cur, c, pos, F :: B⟩ = false := rfl
  unfold TR
  rw [topRun, h0]
  dsimp only
  rw [hk]
  dsimp only
  rw [hs]
/-- from s the tree ends in a, at s', in n steps -/
noncomputable def Ex {α : Type} (w : World) (n : Nat) (t : Sem α) (s : Shared) (a : α) (s' : Shared) : Prop :=
  ∀ (K : α → Sem Fin) (H : Value → Sem Fin) (gd : Bool → Bool) (lv : List Value → List Value) (c : Code) (F : Frame) (B : List Frame) (pos : Pos) (N : Nat) (r : Shared),
    (∀ pos', TR w N s' ⟨K a, c, pos', F :: B⟩ = some r) → TR w (n + N) s ⟨t.wrap K H gd lv, c, pos, F :: B⟩ = some r
section
variable {α β : Type} {w : World} {n k : Nat} {s s' s'' : Shared} {a : α} {b : β}
theorem ex_pure : Ex w 0 (.pure a) s a s := fun K H gd lv c F B pos N r h => by rw [Nat.zero_add]; exact h pos
theorem ex_bind {m : Sem α} {f : α → Sem β} (h1 : Ex w n m s a s') (h2 : Ex w k (f a) s' b s'') : Ex w (n + k) (m.bind f) s b s'' := fun K H gd lv c F B pos N r h => by
  rw [Sem.bind_eq_wrap, Sem.wrap_wrap, Nat.add_assoc]
  exact h1 _ _ _ _ c F B pos (k + N) r fun pos' => h2 K H gd lv c F B pos' N r h
theorem ex_bind' {m : Sem α} {f : α → Sem β} (h1 : Ex w n m s a s') (h2 : Ex w k (f a) s' b s'') : Ex w (n + k) (m >>= f) s b s'' := ex_bind h1 h2
theorem ex_keep {m : Sem α} {vs : List Value} (h1 : Ex w n m s a s') : Ex w n (m.keep vs) s a s' := fun K H gd lv c F B pos N r h => by
  rw [Sem.keep_eq_wrap, Sem.wrap_wrap]
  exact h1 _ _ _ _ c F B pos N r h
theorem ex_holding {m : Sem α} {vs : List Value} (h1 : Ex w n m s a s') : Ex w n (holding vs m) s a s' := by
  rw [holding_eq_keep]
  exact ex_keep h1
theorem ex_onRaise {m : Sem α} {f : Value → Sem Unit} (h1 : Ex w n m s a s') : Ex w n (m.onRaise f) s a s' := fun K H gd lv c F B pos N r h => by
  rw [Sem.onRaise_eq_wrap, Sem.wrap_wrap]
  exact h1 _ _ _ _ c F B pos N r h
theorem ex_one {t : Sem α} {t' : Sem α} (he : ∀ (K : α → Sem Fin) (H : Value → Sem Fin) (gd : Bool → Bool) (lv : List Value → List Value) (c : Code) (F : Frame) (B : List Frame) (pos : Pos),
      ∃ pos', stepOk 11 annA ⟨t.wrap K H gd lv, c, pos, F :: B⟩ = true ∧ step (denote treeTable) pw w s ⟨t.wrap K H gd lv, c, pos, F :: B⟩ = .go s' ⟨t'.wrap K H gd lv, c, pos', F :: B⟩)
    (h2 : Ex w n t' s' a s'') : Ex w (n + 1) t s a s'' := fun K H gd lv c F B pos N r h => by
  obtain ⟨pos', h1, h3⟩ := he K H gd lv c F B pos
  rw [Nat.add_right_comm, tr_step h1 h3]
  exact h2 K H gd lv c F B pos' N r h
theorem ex_rule {tag : String} {f : Unit → Sem α} (h : Ex w n (f ()) s a s') : Ex w (n + 1) (.rule tag f) s a s' := ex_one (fun K H gd lv c F B pos => ⟨pos, rfl, rfl⟩) h
theorem ex_at {p : Pos} {f : Unit → Sem α} (h : Ex w n (f ()) s a s') : Ex w (n + 1) (.at p f) s a s' := ex_one (fun K H gd lv c F B pos => ⟨p, rfl, rfl⟩) h
theorem ex_load {ad : Addr} {q : Option Value} {f : Obj → Sem α} {o : Obj} (ho : s.heap.get? ad = some o) (h : Ex w n (f o) s a s') : Ex w (n + 1) (.load ad q f) s a s' :=
  ex_one (fun K H gd lv c F B pos => ⟨pos, rfl, by simp only [Sem.wrap, step, ho]⟩) h
theorem ex_update {ad : Addr} {q : Option Value} {g : Obj → Obj} {f : Unit → Sem α} {o : Obj} (ho : s.heap.get? ad = some o) (h11 : Nat.ble 11 ad = true) (h : Ex w n (f ()) { s with heap := s.heap.update ad g } a s') :
    Ex w (n + 1) (.update ad q g f) s a s' :=
  ex_one (fun K H gd lv c F B pos => ⟨pos, by simp only [Sem.wrap, stepOk, h11, Bool.true_or, Bool.and_true]; rfl, by simp only [Sem.wrap, step, ho, Option.isSome_some, if_true]⟩) h
theorem ex_alloc {o : Obj} {f : Addr → Sem α} (h : Ex w n (f s.heap.objs.size) { s with heap := s.heap.push o } a s') : Ex w (n + 1) (.alloc o f) s a s' :=
  ex_one (fun K H gd lv c F B pos => ⟨pos, rfl, rfl⟩) h
theorem ex_fresh {f : Tok → Sem α} (h : Ex w n (f s.toks) { s with toks := s.toks + 1 } a s') : Ex w (n + 1) (.fresh f) s a s' :=
  ex_one (fun K H gd lv c F B pos => ⟨pos, rfl, rfl⟩) h
theorem ex_point {l : List Value} {f : Unit → Sem α} (h : Ex w n (f ()) s a s') : Ex w (n + 1) (.point l f) s a s' := ex_one (fun K H gd lv c F B pos => ⟨pos, rfl, rfl⟩) h
end
theorem hash0 (w : World) (N : Nat) (s : Shared) (i : Int) (t : Tok) (K : Int → Sem Fin) (H : Value → Sem Fin) (gd : Bool → Bool) (lv : List Value → List Value) (c : Code) (F : Frame) (B : List Frame) (pos : Pos) :
    topRun treeTable pw (w.withFollow "special-get-raises" false) 11 annA (N + 5) s ⟨(pyHash (.int i t)).wrap K H gd lv, c, pos, F :: B⟩ =
    topRun treeTable pw (w.withFollow "special-get-raises" false) 11 annA N { s with toks := s.toks + 1 } ⟨(pyHashByItsType.reduced (rawHash i)).wrap K H gd lv, c, pos, F :: B⟩ := by
  rw [PySem.W.Fast.te14082659384304107361, PySem.W.Fast.te14364793385576792824, PySem.W.Fast.te10540108854288196387]
  kernel_rfl
end Mine
end

section
open PySem PySem.W PyProof.Rows
set_option maxRecDepth 100000
set_option linter.unusedVariables false
namespace Mine
noncomputable abbrev tk (s : Shared) (n : Nat) : Shared := { s with toks := s.toks + n }
noncomputable abbrev hp (s : Shared) (h : Heap) : Shared := { s with heap := h }
theorem hash1 (w : World) (N : Nat) (s : Shared) (i : Int) (t : Tok) (K : Int → Sem Fin) (H : Value → Sem Fin) (gd : Bool → Bool) (lv : List Value → List Value) (c : Code) (F : Frame) (B : List Frame) (pos : Pos) :
    topRun treeTable pw (w.withFollow "special-get-raises" true) 11 annA (N + 5) s ⟨(pyHash (.int i t)).wrap K H gd lv, c, pos, F :: B⟩ =
    topRun treeTable pw (w.withFollow "special-get-raises" true) 11 annA N { s with toks := s.toks + 1 } ⟨(pyHashByItsType.reduced (rawHash i)).wrap K H gd lv, c, pos, F :: B⟩ := by
  rw [PySem.W.Fast.te14082659384304107361, PySem.W.Fast.te14364793385576792824, PySem.W.Fast.te10540108854288196387]
  kernel_rfl
theorem reduced_eq (i : Int) : pyHashByItsType.reduced (rawHash i) = .pure (hashInt i) := by
  have hr := rawHash_range i
  unfold pyHashByItsType.reduced hashInt
  rw [if_pos (by rw [decide_eq_true hr.1, decide_eq_true hr.2]; rfl)]
  rfl
theorem ex_hash {w : World} {s : Shared} {i : Int} {t : Tok} : Ex w 5 (pyHash (.int i t)) s (hashInt i) (tk s 1) := by
  have e := World.withFollow_self w "special-get-raises"
  intro K H gd lv c F B pos N r h
  have q := h pos
  unfold TR at q ⊢
  rw [Nat.add_comm 5 N]
  cases hb : w.params.followText "special-get-raises" with
  | false => rw [hb] at e; rw [← e] at q ⊢; rw [hash0, reduced_eq]; exact q
  | true => rw [hb] at e; rw [← e] at q ⊢; rw [hash1, reduced_eq]; exact q
theorem ex_key {w : World} {s : Shared} {i : Int} {p : Pos} : Ex w 1 (eval (.Constant (.int i) 0 p) env0) s (.int i s.toks) (tk s 1) :=
  ex_fresh ex_pure
theorem ex_val {w : World} {s : Shared} {x : Str} {p q : Pos} : Ex w 2 (eval (.Constant (.str x) 0 p) env0 >>= fun v => standAt q >>= fun _ => pure v) s (.str x s.toks) (tk s 1) :=
  ex_fresh (ex_at ex_pure)
noncomputable abbrev dO (es : Array DictEntry) (n : Nat) : Obj := ⟨.type "dict", none, .dict es n, #[]⟩
theorem places_none {es : Array DictEntry} {h : Int} (hn : ∀ e ∈ es, e.hash ≠ h) : placesWithHash es.size (fun i => es[i]?.map (·.hash)) h = [] := by
  unfold placesWithHash
  rw [List.filter_eq_nil_iff]
  intro i hi
  have hi' : i < es.size := List.mem_range.mp hi
  simp only [Array.getElem?_eq_getElem hi', Option.map_some, beq_iff_eq, Option.some.injEq]
  exact hn _ (Array.getElem_mem hi')
theorem ex_find {w : World} {s : Shared} {d : Addr} {es : Array DictEntry} {n : Nat} {k h : Int} {t : Tok} (ho : s.heap.get? d = some (dO es n)) (hn : ∀ e ∈ es, e.hash ≠ h) :
    Ex w 1 (dictFind d (.int k t) h) s none s := by
  unfold dictFind
  refine ex_holding ?_
  refine ex_bind' (n := 1) (k := 0) (a := es) (s' := s) (ex_load ho ex_pure) ?_
  dsimp only
  rw [places_none hn]
  exact ex_pure
noncomputable abbrev HL (l : Life) (xs : List Obj) : Heap := ⟨xs.toArray, l⟩
theorem hl_get {l : Life} {xs ys : List Obj} {es : Array DictEntry} {n d : Nat} (hd : d = xs.length) : (HL l (xs ++ dO es n :: ys)).get? d = some (dO es n) := by
  subst hd
  unfold Heap.get?
  simp
theorem hl_upd {l : Life} {xs ys : List Obj} {o : Obj} {f : Obj → Obj} {d : Nat} (hd : d = xs.length) : (HL l (xs ++ o :: ys)).update d f = HL l (xs ++ f o :: ys) := by
  subst hd
  show Heap.mk ((xs ++ o :: ys).toArray.modify xs.length f) l = _
  congr 1
  apply Array.ext_getElem?
  intro i
  rw [Array.getElem?_modify, List.getElem?_toArray, List.getElem?_toArray]
  by_cases e : xs.length = i
  · subst e; simp
  · rw [if_neg e]
    by_cases hi : i < xs.length
    · rw [List.getElem?_append_left hi, List.getElem?_append_left hi]
    · rw [List.getElem?_append_right (by omega), List.getElem?_append_right (by omega)]
      obtain ⟨j, hj⟩ : ∃ j, i - xs.length = j + 1 := ⟨i - xs.length - 1, by omega⟩
      rw [hj, List.getElem?_cons_succ, List.getElem?_cons_succ]
theorem hl_push {l : Life} {xs : List Obj} {o : Obj} : (HL l xs).push o = HL l (xs ++ [o]) := by
  show Heap.mk (xs.toArray.push o) l = _
  congr 1
  simp
noncomputable abbrev st (s : Shared) (l : Life) (xs : List Obj) (t : Nat) : Shared := { s with heap := HL l xs, toks := t }
theorem ex_push {w : World} {s : Shared} {l : Life} {xs ys : List Obj} {t : Nat} {d : Addr} {es : Array DictEntry} {n : Nat} {e : DictEntry} {q : Option Value} (hd : d = xs.length) (h11 : Nat.ble 11 d = true) (hsz : es.size < 1000) :
    Ex w 3 (updateDictKeys d (·.push e) q) (st s l (xs ++ dO es n :: ys) t) () (st s l (xs ++ dO (es.push e) (n + 1) :: ys) t) := by
  unfold updateDictKeys
  refine ex_bind' (n := 1) (k := 2) (a := dO es n) (s' := st s l (xs ++ dO es n :: ys) t) (ex_load (hl_get hd) ex_pure) ?_
  have e1 : (HL l (xs ++ dO es n :: ys)).update d (Obj.mapDictKeys (·.push e)) = HL l (xs ++ dO (es.push e) (n + 1) :: ys) := hl_upd hd
  refine ex_bind' (n := 1) (k := 1) (a := ()) (s' := st s l (xs ++ dO (es.push e) (n + 1) :: ys) t) ?_ ?_
  · refine ex_update (hl_get hd) h11 ?_
    show Ex w 0 _ { st s l (xs ++ dO es n :: ys) t with heap := (HL l (xs ++ dO es n :: ys)).update d (Obj.mapDictKeys (·.push e)) } _ _
    rw [e1]
    exact ex_pure
  · unfold lookBehind
    refine ex_bind' (n := 1) (k := 0) (a := dO (es.push e) (n + 1)) (s' := st s l (xs ++ dO (es.push e) (n + 1) :: ys) t) (ex_load (hl_get hd) ex_pure) ?_
    have : (dO (es.push e) (n + 1)).data.pastItsLine = none := by
      show (if (es.push e).size > sizeLine + 1 then some "dict:memory" else none) = none
      rw [if_neg]
      rw [Array.size_push, sizeLine_eq]
      omega
    rw [this]
    exact ex_pure
theorem ex_set {w : World} {s : Shared} {l : Life} {xs ys : List Obj} {t : Nat} {d : Addr} {es : Array DictEntry} {n : Nat} {k : Int} {u : Tok} {v : Value} (hd : d = xs.length) (h11 : Nat.ble 11 d = true) (hsz : es.size < 1000)
    (hn : ∀ e ∈ es, e.hash ≠ hashInt k) :
    Ex w 10 (dictSet d (.int k u) v) (st s l (xs ++ dO es n :: ys) t) () (st s l (xs ++ dO (es.push ⟨hashInt k, .int k u, v⟩) (n + 1) :: ys) (t + 1)) := by
  unfold dictSet
  refine ex_holding ?_
  refine ex_bind' (n := 5) (k := 5) ex_hash ?_
  unfold dictSetHashed
  refine ex_holding ?_
  refine ex_bind' (n := 1) (k := 4) (ex_find (hl_get hd) hn) ?_
  dsimp only
  refine ex_bind' (n := 1) (k := 3) (ex_rule ex_pure) ?_
  exact ex_push hd h11 hsz
noncomputable abbrev KV : Type := Int × Pos × Str × Pos
noncomputable abbrev trOf (q : Pos) (x : KV) : Sem Value × Sem Value := (eval (.Constant (.int x.1) 0 x.2.1) env0, eval (.Constant (.str x.2.2.1) 0 x.2.2.2) env0 >>= fun v => standAt q >>= fun _ => pure v)
noncomputable abbrev en (x : KV) (t : Nat) : DictEntry := ⟨hashInt x.1, .int x.1 t, .str x.2.2.1 (t + 1)⟩
/-- the entries of a chunk that is set one by one: three tokens an entry -/
noncomputable def ent3 : Nat → List KV → List DictEntry
  | _, [] => []
  | t, x :: r => en x t :: ent3 (t + 3) r
noncomputable def fresh3 (es : List DictEntry) (x : KV) : Prop := ∀ e ∈ es, e.hash ≠ hashInt x.1
theorem ent3_hash : ∀ (t : Nat) (ps : List KV), (ent3 t ps).map (·.hash) = ps.map fun x => hashInt x.1
  | _, [] => rfl
  | t, x :: r => by rw [ent3, List.map_cons, List.map_cons, ent3_hash]
theorem ent3_len : ∀ (t : Nat) (ps : List KV), (ent3 t ps).length = ps.length
  | _, [] => rfl
  | t, x :: r => by rw [ent3, List.length_cons, List.length_cons, ent3_len]
theorem ex_loop3 {w : World} {s : Shared} {l : Life} {xs : List Obj} {d : Addr} {q : Pos} (hd : d = xs.length) (h11 : Nat.ble 11 d = true) :
    ∀ (ps : List KV) (es : List DictEntry) (t : Nat), (es.map (·.hash) ++ ps.map fun x => hashInt x.1).Nodup → es.length + ps.length < 1000 →
    Ex w (13 * ps.length) (forIn (ps.map (trOf q)) PUnit.unit fun (x : Sem Value × Sem Value) (_ : PUnit) => (do let kv ← x.1; let vv ← holding [kv] x.2; holding [kv, vv] (dictSet d kv vv); pure (ForInStep.yield PUnit.unit) : Sem (ForInStep PUnit)))
      (st s l (xs ++ [dO es.toArray es.length]) t) PUnit.unit (st s l (xs ++ [dO (es ++ ent3 t ps).toArray (es ++ ent3 t ps).length]) (t + 3 * ps.length))
  | [], es, t, _, _ => by
    rw [List.map_nil, List.forIn_nil, ent3, List.append_nil]
    exact ex_pure
  | x :: r, es, t, hn, hl => by
    rw [List.length_cons] at hl
    rw [List.map_cons, List.nodup_append] at hn
    obtain ⟨n1, n2, n3⟩ := hn
    rw [List.nodup_cons] at n2
    have hx : ∀ e ∈ es.toArray, e.hash ≠ hashInt x.1 := fun e he => n3 _ (List.mem_map.mpr ⟨e, List.mem_toArray.mp he, rfl⟩) _ (.head _)
    rw [List.map_cons, List.forIn_cons, show 13 * (x :: r).length = 13 + 13 * r.length by rw [List.length_cons]; omega]
    have e2 : (es.toArray.push (en x t) : Array DictEntry) = (es ++ [en x t]).toArray := by simp
    refine ex_bind' (n := 13) (k := 13 * r.length) (a := ForInStep.yield PUnit.unit) (s' := st s l (xs ++ [dO (es ++ [en x t]).toArray (es ++ [en x t]).length]) (t + 3)) ?_ ?_
    · refine ex_bind' (n := 1) (k := 12) (ex_key (p := x.2.1)) ?_
      refine ex_bind' (n := 2) (k := 10) (ex_holding (ex_val (p := x.2.2.2) (q := q))) ?_
      refine ex_bind' (n := 10) (k := 0) (ex_holding (ex_set (t := t + 1 + 1) hd h11 (by rw [List.size_toArray]; omega) hx)) ?_
      rw [e2, List.length_append]
      exact ex_pure
    · dsimp only
      have := ex_loop3 (w := w) (s := s) (l := l) (q := q) hd h11 r (es ++ [en x t]) (t + 3) ?_ (by rw [List.length_append, List.length_singleton]; omega)
      · rw [List.append_assoc, List.singleton_append] at this
        rw [show t + 3 * (x :: r).length = t + 3 + 3 * r.length by rw [List.length_cons]; omega]
        exact this
      · rw [List.map_append, List.append_assoc, List.nodup_append]
        exact ⟨n1, by simpa [List.nodup_cons] using n2, fun a ha b hb => n3 a ha b (by simpa using hb)⟩
end Mine
end

section
open PySem PySem.W PyProof.Rows
set_option maxRecDepth 100000
set_option linter.unusedVariables false
namespace Mine
noncomputable def loadK {α : Type} (t : Sem α) (o : Obj) : Sem α := match t with
  | .load _ _ f => f o
  | t => t
noncomputable def loadQ {α : Type} (t : Sem α) : Option Value := match t with
  | .load _ q _ => q
  | _ => none
theorem ex_loadK {α : Type} {w : World} {X : Sem α} {ad : Addr} {s s' : Shared} {o : Obj} {a : α} {n : Nat} (e : X = .load ad (loadQ X) (loadK X)) (ho : s.heap.get? ad = some o) (h : Ex w n (loadK X o) s a s') : Ex w (n + 1) X s a s' := by
  rw [e]
  exact ex_load ho h
theorem inst_eq (a : Addr) : isInstance (.ref a) (.type "dict") = .load a (loadQ (isInstance (.ref a) (.type "dict"))) (loadK (isInstance (.ref a) (.type "dict"))) := by kernel_rfl
theorem inst_val (a : Addr) (es : Array DictEntry) (n : Nat) : loadK (isInstance (.ref a) (.type "dict")) (dO es n) = .pure true := by kernel_rfl
theorem spec_eq (a : Addr) : specialOf (.ref a) "__iter__" = .load a (loadQ (specialOf (.ref a) "__iter__")) (loadK (specialOf (.ref a) "__iter__")) := by kernel_rfl
theorem spec_val (a : Addr) (es : Array DictEntry) (n : Nat) : loadK (specialOf (.ref a) "__iter__") (dO es n) = .pure (some (.builtin "dict.__iter__")) := by kernel_rfl
theorem ex_inst {w : World} {s : Shared} {a : Addr} {es : Array DictEntry} {n : Nat} (ho : s.heap.get? a = some (dO es n)) : Ex w 1 (isInstance (.ref a) (.type "dict")) s true s :=
  ex_loadK (inst_eq a) ho (by rw [inst_val]; exact ex_pure)
theorem ex_spec {w : World} {s : Shared} {a : Addr} {es : Array DictEntry} {n : Nat} (ho : s.heap.get? a = some (dO es n)) : Ex w 1 (specialOf (.ref a) "__iter__") s (some (.builtin "dict.__iter__")) s :=
  ex_loadK (spec_eq a) ho (by rw [spec_val]; exact ex_pure)
theorem hl_get2 {l : Life} {xs ys : List Obj} {o : Obj} {es : Array DictEntry} {n a : Nat} (ha : a = xs.length + 1 + ys.length) : (HL l (xs ++ o :: (ys ++ [dO es n]))).get? a = some (dO es n) := by
  have e : xs ++ o :: (ys ++ [dO es n]) = (xs ++ o :: ys) ++ dO es n :: [] := by simp
  rw [e]
  exact hl_get (by rw [List.length_append, List.length_cons]; omega)
noncomputable def IntKey (e : DictEntry) : Prop := ∃ k u, e.key = .int k u
theorem ex_merge {w : World} {s : Shared} {l : Life} {xs ys : List Obj} {d a : Addr} {t : Nat} (hd : d = xs.length) (h11 : Nat.ble 11 d = true) (ha : a = xs.length + 1 + ys.length) (hsys : (a == sysModules) = false)
    (M E : List DictEntry) (hM : M ≠ []) (hE : ∀ e ∈ E, IntKey e) (hn : ((M ++ E).map (·.hash)).Nodup) (hl : M.length + E.length < 1000) :
    Ex w (5 + 6 * E.length) (mergeMapping d (.ref a) false) (st s l (xs ++ dO M.toArray M.length :: (ys ++ [dO E.toArray E.length])) t) () (st s l (xs ++ dO (M ++ E).toArray (M ++ E).length :: (ys ++ [dO E.toArray E.length])) t) := by
  have loop : ∀ (suf pre : List DictEntry), E = pre ++ suf →
      ∀ (f : Nat → PUnit → Sem (ForInStep PUnit)), (∀ i u, f i u = (do
          let e? ← dictEntries a
          match e?[i]? with
          | some e => do
            holding [e.key, e.val] (dictPut d e.hash e.key e.val)
            if (← dictEpoch a) != E.length then unsupported "dict.changed-during-merge" else pure (ForInStep.yield PUnit.unit)
          | none => unsupported "dict.changed-during-merge")) →
      Ex w (6 * suf.length) (forIn (List.range' pre.length suf.length) PUnit.unit f) (st s l (xs ++ dO (M ++ pre).toArray (M ++ pre).length :: (ys ++ [dO E.toArray E.length])) t) PUnit.unit
        (st s l (xs ++ dO (M ++ E).toArray (M ++ E).length :: (ys ++ [dO E.toArray E.length])) t) := by
    intro suf
    induction suf with
    | nil =>
      intro pre he f hf
      rw [List.append_nil] at he
      subst he
      rw [List.length_nil, List.range'_zero, List.forIn_nil]
      exact ex_pure
    | cons x r ih =>
      intro pre he f hf
      have he2 : E = (pre ++ [x]) ++ r := by rw [he]; simp
      have hx : E.toArray[pre.length]? = some x := by rw [List.getElem?_toArray, he]; simp
      obtain ⟨k, u, hk⟩ := hE x (by rw [he]; simp)
      have hfr : ∀ e ∈ (M ++ pre).toArray, e.hash ≠ x.hash := by
        intro e hem heq
        rw [he2, ← List.append_assoc, ← List.append_assoc, List.map_append, List.map_append, List.nodup_append] at hn
        have := (List.nodup_append.mp hn.1).2.2 e.hash (List.mem_map.mpr ⟨e, List.mem_toArray.mp hem, rfl⟩) x.hash (by simp)
        exact this heq
      have hlen : (M ++ pre).length < 1000 := by rw [he, List.length_append] at hl; rw [List.length_append]; omega
      rw [List.length_cons, List.range'_succ, List.forIn_cons, hf, show 6 * (r.length + 1) = 6 + 6 * r.length by omega]
      refine ex_bind' (n := 6) (k := 6 * r.length) (a := ForInStep.yield PUnit.unit) (s' := st s l (xs ++ dO (M ++ (pre ++ [x])).toArray (M ++ (pre ++ [x])).length :: (ys ++ [dO E.toArray E.length])) t) ?_ ?_
      · refine ex_bind' (n := 1) (k := 5) (a := E.toArray) (ex_load (hl_get2 ha) ex_pure) ?_
        rw [hx]
        dsimp only
        refine ex_bind' (n := 4) (k := 1) (a := ()) (s' := st s l (xs ++ dO (M ++ (pre ++ [x])).toArray (M ++ (pre ++ [x])).length :: (ys ++ [dO E.toArray E.length])) t) (ex_holding ?_) ?_
        · unfold dictPut
          rw [hk]
          refine ex_bind' (n := 1) (k := 3) (ex_find (hl_get hd) hfr) ?_
          dsimp only
          have := ex_push (w := w) (s := s) (l := l) (ys := ys ++ [dO E.toArray E.length]) (t := t) (es := (M ++ pre).toArray) (n := (M ++ pre).length) (e := ⟨x.hash, .int k u, x.val⟩) (q := none) hd h11 (by rw [List.size_toArray]; exact hlen)
          have ex : (⟨x.hash, .int k u, x.val⟩ : DictEntry) = x := by rw [← hk]
          rw [ex] at this ⊢
          have e3 : (M ++ pre).toArray.push x = (M ++ (pre ++ [x])).toArray := by simp
          rw [e3, show (M ++ pre).length + 1 = (M ++ (pre ++ [x])).length by simp; omega] at this
          exact this
        · refine ex_bind' (n := 1) (k := 0) (a := E.length) (ex_load (hl_get2 ha) ex_pure) ?_
          rw [if_neg (by simp)]
          exact ex_pure
      · dsimp only
        have := ih (pre ++ [x]) he2 f hf
        rw [List.length_append, List.length_singleton] at this
        exact this
  unfold mergeMapping
  rw [show 5 + 6 * E.length = 1 + (1 + (1 + (1 + (1 + (6 * E.length + 0))))) by omega]
  refine ex_bind' (ex_inst (hl_get2 ha)) ?_
  rw [if_pos rfl]
  refine ex_bind' (ex_spec (hl_get2 ha)) ?_
  rw [show (some (Value.builtin "dict.__iter__") == some (Value.builtin "dict.__iter__")) = true by decide]
  rw [pure_bind]
  dsimp only
  rw [if_neg (by rw [hsys]; exact Bool.false_ne_true)]
  refine ex_bind' (a := M.toArray) (ex_load (hl_get hd) ex_pure) ?_
  rw [if_neg (by simpa using hM)]
  refine ex_bind' (a := E.toArray) (ex_load (hl_get2 ha) ex_pure) ?_
  refine ex_bind' (a := E.length) (ex_load (hl_get2 ha) ex_pure) ?_
  rw [List.size_toArray, List.range_eq_range']
  refine ex_bind' (a := PUnit.unit) ?_ ex_pure
  have lp := loop E [] rfl
  simp only [List.append_nil, List.length_nil] at lp
  refine lp _ (fun i u => ?_)
  · simp only [Bool.false_eq_true, if_false]
    congr 1
    funext x
    cases x[i]? with
    | none => rfl
    | some e => rfl
theorem ent3_int : ∀ (t : Nat) (ps : List KV), ∀ e ∈ ent3 t ps, IntKey e
  | _, [], e, h => nomatch h
  | t, x :: r, e, h => by
    rw [ent3] at h
    rcases List.mem_cons.mp h with rfl | h
    · exact ⟨_, _, rfl⟩
    · exact ent3_int _ r e h
/-- the values of a short run: two tokens an entry -/
noncomputable def val2 : Nat → List KV → List (Value × Value)
  | _, [] => []
  | t, x :: r => (.int x.1 t, .str x.2.2.1 (t + 1)) :: val2 (t + 2) r
noncomputable def ent2 : Nat → List KV → List DictEntry
  | _, [] => []
  | t, x :: r => en x t :: ent2 (t + 2) r
theorem ent2_hash : ∀ (t : Nat) (ps : List KV), (ent2 t ps).map (·.hash) = ps.map fun x => hashInt x.1
  | _, [] => rfl
  | t, x :: r => by rw [ent2, List.map_cons, List.map_cons, ent2_hash]
theorem ent2_len : ∀ (t : Nat) (ps : List KV), (ent2 t ps).length = ps.length
  | _, [] => rfl
  | t, x :: r => by rw [ent2, List.length_cons, List.length_cons, ent2_len]
theorem ent2_int : ∀ (t : Nat) (ps : List KV), ∀ e ∈ ent2 t ps, IntKey e
  | _, [], e, h => nomatch h
  | t, x :: r, e, h => by
    rw [ent2] at h
    rcases List.mem_cons.mp h with rfl | h
    · exact ⟨_, _, rfl⟩
    · exact ent2_int _ r e h
theorem ex_pairs {w : World} {q : Pos} : ∀ (ps : List KV) (s : Shared), Ex w (3 * ps.length) (evalPairs (ps.map (trOf q))) s (val2 s.toks ps) (tk s (2 * ps.length))
  | [], s => ex_pure
  | x :: r, s => by
    rw [List.map_cons, evalPairs, show 3 * (x :: r).length = 1 + (2 + (3 * r.length + 0)) by rw [List.length_cons]; omega]
    refine ex_bind' (ex_key (p := x.2.1)) ?_
    refine ex_bind' (ex_holding (ex_val (p := x.2.2.2) (q := q))) ?_
    have := ex_pairs (w := w) (q := q) r (tk (tk s 1) 1)
    refine ex_bind' (ex_holding this) ?_
    have e : tk (tk (tk s 1) 1) (2 * r.length) = tk s (2 * (x :: r).length) := by
      show ({ s with toks := s.toks + 1 + 1 + 2 * r.length } : Shared) = { s with toks := s.toks + 2 * (r.length + 1) }
      congr 1; omega
    rw [← e]
    exact ex_pure
theorem ex_loop2 {w : World} {s : Shared} {l : Life} {xs : List Obj} {d : Addr} (hd : d = xs.length) (h11 : Nat.ble 11 d = true) :
    ∀ (ps : List KV) (es : List DictEntry) (t u : Nat), (es.map (·.hash) ++ ps.map fun x => hashInt x.1).Nodup → es.length + ps.length < 1000 →
    Ex w (10 * ps.length) (forIn (val2 u ps) PUnit.unit fun (x : Value × Value) (_ : PUnit) => (do dictSet d x.1 x.2; pure (ForInStep.yield PUnit.unit) : Sem (ForInStep PUnit)))
      (st s l (xs ++ [dO es.toArray es.length]) t) PUnit.unit (st s l (xs ++ [dO (es ++ ent2 u ps).toArray (es ++ ent2 u ps).length]) (t + ps.length))
  | [], es, t, u, _, _ => by
    rw [val2, List.forIn_nil, ent2, List.append_nil]
    exact ex_pure
  | x :: r, es, t, u, hn, hl => by
    rw [List.length_cons] at hl
    rw [List.map_cons, List.nodup_append] at hn
    obtain ⟨n1, n2, n3⟩ := hn
    rw [List.nodup_cons] at n2
    have hx : ∀ e ∈ es.toArray, e.hash ≠ hashInt x.1 := fun e he => n3 _ (List.mem_map.mpr ⟨e, List.mem_toArray.mp he, rfl⟩) _ (.head _)
    rw [val2, List.forIn_cons, show 10 * (x :: r).length = 10 + 0 + 10 * r.length by rw [List.length_cons]; omega]
    have e2 : (es.toArray.push (en x u) : Array DictEntry) = (es ++ [en x u]).toArray := by simp
    refine ex_bind' (n := 10 + 0) (k := 10 * r.length) (a := ForInStep.yield PUnit.unit) (s' := st s l (xs ++ [dO (es ++ [en x u]).toArray (es ++ [en x u]).length]) (t + 1)) ?_ ?_
    · refine ex_bind' (ex_set (t := t) hd h11 (by rw [List.size_toArray]; omega) hx) ?_
      rw [e2, List.length_append]
      exact ex_pure
    · dsimp only
      have := ex_loop2 (w := w) (s := s) (l := l) hd h11 r (es ++ [en x u]) (t + 1) (u + 2) ?_ (by rw [List.length_append, List.length_singleton]; omega)
      · rw [List.append_assoc, List.singleton_append] at this
        rw [show t + (x :: r).length = t + 1 + r.length by rw [List.length_cons]; omega]
        exact this
      · rw [List.map_append, List.append_assoc, List.nodup_append]
        exact ⟨n1, by simpa [List.nodup_cons] using n2, fun a ha b hb => n3 a ha b (by simpa using hb)⟩
theorem ex_sub3 {w : World} {s : Shared} {l : Life} {xs : List Obj} {q : Pos} {t : Nat} (h11 : Nat.ble 11 xs.length = true) (ps : List KV) (hn : (ps.map fun x => hashInt x.1).Nodup) (h16 : 15 < ps.length) (hl : ps.length < 1000) :
    Ex w (2 + 13 * ps.length) (subDict (ps.map (trOf q))) (st s l xs t) xs.length (st s l (xs ++ [dO (ent3 t ps).toArray (ent3 t ps).length]) (t + 3 * ps.length)) := by
  unfold subDict
  rw [show 2 + 13 * ps.length = 1 + (1 + 13 * ps.length + 0) by omega]
  refine ex_bind' (n := 1) (k := 1 + 13 * ps.length + 0) (a := xs.length) (s' := st s l (xs ++ [dO #[] 0]) t) ?_ ?_
  · have : Ex w 1 (alloc { cls := .type "dict", data := .dict #[] }) (st s l xs t) (st s l xs t).heap.objs.size { st s l xs t with heap := (st s l xs t).heap.push { cls := .type "dict", data := .dict #[] } } := ex_alloc ex_pure
    rw [show (st s l xs t).heap.push { cls := .type "dict", data := .dict #[] } = HL l (xs ++ [dO #[] 0]) from hl_push, show (st s l xs t).heap.objs.size = xs.length from by simp] at this
    exact this
  refine ex_bind' (n := 1 + 13 * ps.length) (k := 0) (a := ()) (ex_holding ?_) ex_pure
  rw [if_neg (by rw [List.length_map]; omega)]
  refine ex_bind' (n := 1) (k := 13 * ps.length) (ex_rule ex_pure) ?_
  have := ex_loop3 (w := w) (s := s) (l := l) (xs := xs) (d := xs.length) (q := q) rfl h11 ps [] t (by simpa using hn) (by simpa using hl)
  rw [List.nil_append] at this
  refine ex_bind' (n := 13 * ps.length) (k := 0) this ex_pure
theorem ex_sub2 {w : World} {s : Shared} {l : Life} {xs : List Obj} {q : Pos} {t : Nat} (h11 : Nat.ble 11 xs.length = true) (ps : List KV) (hn : (ps.map fun x => hashInt x.1).Nodup) (h16 : ps.length ≤ 15) :
    Ex w (1 + 13 * ps.length) (subDict (ps.map (trOf q))) (st s l xs t) xs.length (st s l (xs ++ [dO (ent2 t ps).toArray (ent2 t ps).length]) (t + 3 * ps.length)) := by
  unfold subDict
  rw [show 1 + 13 * ps.length = 1 + (3 * ps.length + 10 * ps.length + 0) by omega]
  refine ex_bind' (n := 1) (a := xs.length) (s' := st s l (xs ++ [dO #[] 0]) t) ?_ ?_
  · have : Ex w 1 (alloc { cls := .type "dict", data := .dict #[] }) (st s l xs t) (st s l xs t).heap.objs.size { st s l xs t with heap := (st s l xs t).heap.push { cls := .type "dict", data := .dict #[] } } := ex_alloc ex_pure
    rw [show (st s l xs t).heap.push { cls := .type "dict", data := .dict #[] } = HL l (xs ++ [dO #[] 0]) from hl_push, show (st s l xs t).heap.objs.size = xs.length from by simp] at this
    exact this
  refine ex_bind' (n := 3 * ps.length + 10 * ps.length) (k := 0) (a := ()) (ex_holding ?_) ex_pure
  rw [if_pos (by rw [List.length_map]; omega)]
  refine ex_bind' (ex_pairs ps _) ?_
  refine ex_holding ?_
  have := ex_loop2 (w := w) (s := s) (l := l) (xs := xs) (d := xs.length) rfl h11 ps [] (t + 2 * ps.length) t (by simpa using hn) (by simp; omega)
  rw [List.nil_append, show t + 2 * ps.length + ps.length = t + 3 * ps.length by omega] at this
  exact ex_bind' (n := 10 * ps.length) (k := 0) this ex_pure
end Mine
end

section
open PySem PySem.W PyProof.Rows
set_option maxRecDepth 100000
set_option linter.unusedVariables false
namespace Mine
noncomputable abbrev Pr : Type := Sem Value × Sem Value
noncomputable abbrev It : Type := Option (Sem Value) × Sem Value
noncomputable abbrev Ls : Type := Option Addr × List Pr
noncomputable abbrev gI (p : Pr) : It := (some p.1, p.2)
noncomputable def flushD (run : List Pr) (d : Addr) : Sem (Option Addr) := do
  let sub ← holding [.ref d] (subDict run)
  (holding [.ref d, .ref sub] (mergeMapping d (.ref sub) false)).onRaise fun x => do let _ ← holding [.ref d, x] (runValue (.builtin "proto.let_go" {}))
  return some d
theorem gather {f : It → Ls → Sem (ForInStep Ls)} (hf : ∀ (p : Pr) (m : Option Addr) (run : List Pr), run.length + 1 < 17 → f (gI p) (m, run) = pure (.yield (m, run ++ [p]))) :
    ∀ (items : List Pr) (rest : List It) (m : Option Addr) (run : List Pr), run.length + items.length < 17 → forIn (items.map gI ++ rest) (m, run) f = forIn rest (m, run ++ items) f
  | [], rest, m, run, _ => by rw [List.map_nil, List.nil_append, List.append_nil]
  | p :: r, rest, m, run, h => by
    rw [List.length_cons] at h
    rw [List.map_cons, List.cons_append, List.forIn_cons, hf p m run (by omega), pure_bind]
    dsimp only
    rw [gather hf r rest m (run ++ [p]) (by rw [List.length_append, List.length_singleton]; omega), List.append_assoc, List.singleton_append]
noncomputable def entsL : Nat → List (List KV) → List DictEntry
  | _, [] => []
  | t, c :: L => ent3 t c ++ entsL (t + 51) L
noncomputable def subsL : Nat → List (List KV) → List Obj
  | _, [] => []
  | t, c :: L => dO (ent3 t c).toArray (ent3 t c).length :: subsL (t + 51) L
theorem ex_flush {w : World} {s : Shared} {l : Life} {xs ys : List Obj} {q : Pos} {t : Nat} {d : Nat} (hd : d = xs.length) (h40 : 40 ≤ d) (M : List DictEntry) (hM : M ≠ []) (c : List KV) (hc : c.length = 17)
    (hn : (M.map (·.hash) ++ c.map fun x => hashInt x.1).Nodup) (hl : M.length + 17 < 1000) :
    Ex w 330 (flushD (c.map (trOf q)) d) (st s l (xs ++ dO M.toArray M.length :: ys) t) (some d) (st s l (xs ++ dO (M ++ ent3 t c).toArray (M ++ ent3 t c).length :: (ys ++ [dO (ent3 t c).toArray (ent3 t c).length])) (t + 51)) := by
  have h11 : Nat.ble 11 d = true := Nat.ble_eq_true_of_le (by omega)
  unfold flushD
  have hs := ex_sub3 (w := w) (s := s) (l := l) (xs := xs ++ dO M.toArray M.length :: ys) (q := q) (t := t) (Nat.ble_eq_true_of_le (by rw [List.length_append]; omega)) c (List.nodup_append.mp hn).2.1 (by omega) (by omega)
  rw [hc, List.append_assoc, List.cons_append] at hs
  refine ex_bind' (n := 2 + 13 * 17) (k := 107) (ex_holding hs) ?_
  have ha : (xs ++ dO M.toArray M.length :: ys).length = xs.length + 1 + ys.length := by rw [List.length_append, List.length_cons]; omega
  have hy : (xs ++ dO M.toArray M.length :: ys).length ≠ (1 : Nat) := by rw [ha]; omega
  have hm := ex_merge (w := w) (s := s) (l := l) (ys := ys) (t := t + 3 * 17) (a := (xs ++ dO M.toArray M.length :: ys).length) hd h11 ha
    (beq_eq_false_iff_ne.mpr hy) M (ent3 t c) hM (ent3_int t c) (by rw [List.map_append, ent3_hash]; exact hn) (by rw [ent3_len, hc]; exact hl)
  rw [show (5 + 6 * (ent3 t c).length) = 107 by rw [ent3_len, hc]] at hm
  exact ex_bind' (n := 107) (k := 0) (ex_onRaise (ex_holding hm)) ex_pure
theorem ex_chunks {w : World} {s : Shared} {l : Life} {xs : List Obj} {q : Pos} {d : Nat} (hd : d = xs.length) (h40 : 40 ≤ d) {f : It → Ls → Sem (ForInStep Ls)} {rest : List It} {r : Ls} {k : Nat} {s'' : Shared}
    (hf : ∀ (p : Pr) (m : Option Addr) (run : List Pr), run.length + 1 < 17 → f (gI p) (m, run) = pure (.yield (m, run ++ [p])))
    (hf2 : ∀ (p : Pr) (run : List Pr), run.length + 1 = 17 → f (gI p) (some d, run) = (flushD (run ++ [p]) d >>= fun m => pure (.yield (m, [])))) :
    ∀ (L : List (List KV)) (M : List DictEntry) (ys : List Obj) (t : Nat), M ≠ [] → (∀ c ∈ L, c.length = 17) → (M.map (·.hash) ++ L.flatten.map fun x => hashInt x.1).Nodup → M.length + 17 * L.length < 1000 →
      Ex w k (forIn rest (some d, []) f) (st s l (xs ++ dO (M ++ entsL t L).toArray (M ++ entsL t L).length :: (ys ++ subsL t L)) (t + 51 * L.length)) r s'' →
      Ex w (330 * L.length + k) (forIn ((L.flatten.map (trOf q)).map gI ++ rest) (some d, []) f) (st s l (xs ++ dO M.toArray M.length :: ys) t) r s''
  | [], M, ys, t, hM, hL, hn, hl, h => by
    rw [entsL, subsL, List.append_nil, List.append_nil] at h
    rw [show 330 * ([] : List (List KV)).length + k = k by simp]
    exact h
  | c :: L, M, ys, t, hM, hL, hn, hl, h => by
    have hc := hL c (.head _)
    rw [List.length_cons] at hl
    obtain ⟨c', x, hcx⟩ : ∃ c' x, c = c' ++ [x] := ⟨c.dropLast, c.getLast (by intro e; rw [e] at hc; simp at hc), (List.dropLast_concat_getLast _).symm⟩
    have hc' : c'.length = 16 := by rw [hcx] at hc; simpa using hc
    rw [List.flatten_cons, List.map_append, ← List.append_assoc] at hn
    have hn1 := (List.nodup_append.mp hn).1
    have e1 : ((c :: L).flatten.map (trOf q)).map gI ++ rest = (c'.map (trOf q)).map gI ++ (gI (trOf q x) :: (((L.flatten.map (trOf q)).map gI) ++ rest)) := by rw [hcx]; simp
    rw [e1, gather hf _ _ _ _ (by simp [hc']), List.forIn_cons, List.nil_append, hf2 _ _ (by simp [hc'])]
    have e2 : c'.map (trOf q) ++ [trOf q x] = c.map (trOf q) := by rw [hcx]; simp
    rw [e2, show 330 * (c :: L).length + k = (330 + 0) + (330 * L.length + k) by rw [List.length_cons]; omega]
    refine ex_bind' (ex_bind' (ex_flush hd h40 M hM c hc hn1 (by omega)) ex_pure) ?_
    dsimp only
    refine ex_chunks hd h40 hf hf2 L (M ++ ent3 t c) _ (t + 51) (by simp [hM]) (fun c hc => hL c (.tail _ hc)) (by rw [List.map_append, ent3_hash]; exact hn) (by rw [List.length_append, ent3_len, hc]; omega) ?_
    rw [entsL, subsL, ← List.append_assoc] at h
    rw [List.append_assoc ys, List.singleton_append, show t + 51 + 51 * L.length = t + 51 * (c :: L).length by rw [List.length_cons]; omega]
    exact h
end Mine
end

section
open PySem PySem.W PyProof.Rows
set_option maxRecDepth 100000
set_option linter.unusedVariables false
namespace Mine
theorem ex_loopAll {w : World} {s : Shared} {l : Life} {xs : List Obj} {q : Pos} {t : Nat} (h40 : 40 ≤ xs.length) (c0 : List KV) (L : List (List KV)) (R : List KV) (h0 : c0.length = 17) (hL : ∀ c ∈ L, c.length = 17) (hR : R.length ≤ 15)
    (hn : ((c0 ++ L.flatten).map fun x => hashInt x.1).Nodup) (hl : 17 + 17 * L.length + R.length < 1000) {f : It → Ls → Sem (ForInStep Ls)}
    (hf : ∀ (p : Pr) (m : Option Addr) (run : List Pr), run.length + 1 < 17 → f (gI p) (m, run) = pure (.yield (m, run ++ [p])))
    (hf2 : ∀ (p : Pr) (run : List Pr), run.length + 1 = 17 → f (gI p) (some xs.length, run) = (flushD (run ++ [p]) xs.length >>= fun m => pure (.yield (m, []))))
    (hf3 : ∀ (p : Pr) (run : List Pr), run.length + 1 = 17 → f (gI p) (none, run) = ((subDict (run ++ [p]) >>= fun d => pure (some d)) >>= fun m => pure (.yield (m, [])))) :
    Ex w (223 + (330 * L.length + 0)) (forIn (((c0 ++ L.flatten ++ R).map (trOf q)).map gI) ((none, []) : Ls) f) (st s l xs t) (some xs.length, R.map (trOf q))
      (st s l (xs ++ dO (ent3 t c0 ++ entsL (t + 51) L).toArray (ent3 t c0 ++ entsL (t + 51) L).length :: (subsL (t + 51) L)) (t + 51 + 51 * L.length)) := by
  have e0 : ((c0 ++ L.flatten ++ R).map (trOf q)).map gI = (c0.map (trOf q)).map gI ++ (((L.flatten).map (trOf q)).map gI ++ ((R.map (trOf q)).map gI ++ [])) := by simp
  rw [e0]
  obtain ⟨c', x, hcx⟩ : ∃ c' x, c0 = c' ++ [x] := ⟨c0.dropLast, c0.getLast (by intro e; rw [e] at h0; simp at h0), (List.dropLast_concat_getLast _).symm⟩
  have hc' : c'.length = 16 := by rw [hcx] at h0; simpa using h0
  have e1 : (c0.map (trOf q)).map gI ++ (((L.flatten).map (trOf q)).map gI ++ ((R.map (trOf q)).map gI ++ [])) = (c'.map (trOf q)).map gI ++ (gI (trOf q x) :: (((L.flatten).map (trOf q)).map gI ++ ((R.map (trOf q)).map gI ++ []))) := by rw [hcx]; simp
  rw [List.map_append] at hn
  have hs := ex_sub3 (w := w) (s := s) (l := l) (xs := xs) (q := q) (t := t) (Nat.ble_eq_true_of_le (by omega)) c0 (List.nodup_append.mp hn).1 (by omega) (by omega)
  rw [h0, show t + 3 * 17 = t + 51 by omega] at hs
  rw [e1, gather hf _ _ _ _ (by simp [hc']), List.forIn_cons, List.nil_append, hf3 _ _ (by simp [hc'])]
  have e2 : c'.map (trOf q) ++ [trOf q x] = c0.map (trOf q) := by rw [hcx]; simp
  rw [e2]
  refine ex_bind' (n := 2 + 13 * 17 + 0 + 0) (ex_bind' (ex_bind' hs ex_pure) ex_pure) ?_
  dsimp only
  refine ex_chunks (xs := xs) rfl h40 hf hf2 L (ent3 t c0) [] (t + 51) (by intro e; have := ent3_len t c0; rw [e, h0] at this; simp at this) hL (by rw [ent3_hash]; exact hn) (by rw [ent3_len, h0]; omega) ?_
  rw [gather hf _ _ _ _ (by rw [List.length_map]; simp; omega), List.forIn_nil, List.nil_append, List.nil_append]
  exact ex_pure
theorem ex_display {w : World} {s : Shared} {l : Life} {xs : List Obj} {q : Pos} {t : Nat} (h40 : 40 ≤ xs.length) (c0 : List KV) (L : List (List KV)) (R : List KV) (h0 : c0.length = 17) (hL : ∀ c ∈ L, c.length = 17) (hR : R.length ≤ 15) (hR0 : 0 < R.length)
    (hn : ((c0 ++ L.flatten ++ R).map fun x => hashInt x.1).Nodup) (hl : 17 + 17 * L.length + R.length < 1000) (hE : (entsL (t + 51) L).length = 17 * L.length) :
    Ex w (223 + (330 * L.length + 0) + (1 + 13 * R.length + (5 + 6 * R.length + 0) + 0)) (dictDisplay (((c0 ++ L.flatten ++ R).map (trOf q)).map gI)) (st s l xs t) (.ref xs.length)
      (st s l (xs ++ dO (ent3 t c0 ++ entsL (t + 51) L ++ ent2 (t + 51 + 51 * L.length) R).toArray (ent3 t c0 ++ entsL (t + 51) L ++ ent2 (t + 51 + 51 * L.length) R).length :: (subsL (t + 51) L ++ [dO (ent2 (t + 51 + 51 * L.length) R).toArray (ent2 (t + 51 + 51 * L.length) R).length])) (t + 51 + 51 * L.length + 3 * R.length)) := by
  unfold dictDisplay
  dsimp only
  have hn1 : ((c0 ++ L.flatten).map fun x => hashInt x.1).Nodup := by rw [List.map_append] at hn; exact (List.nodup_append.mp hn).1
  refine ex_bind' (ex_loopAll h40 c0 L R h0 hL hR hn1 hl (fun p m run h => by
    have hne : ((run ++ [(p.1, p.2)]).length == 17) = false := by simp; omega
    simp only [hne, Bool.false_eq_true, if_false]) (fun p run h => by
    have hne : ((run ++ [(p.1, p.2)]).length == 17) = true := by simp; omega
    have hie : ((run ++ [(p.1, p.2)]).isEmpty) = false := by simp
    simp only [hne, hie, Bool.false_eq_true, if_false, if_true]
    rfl) (fun p run h => by
    have hne : ((run ++ [(p.1, p.2)]).length == 17) = true := by simp; omega
    have hie : ((run ++ [(p.1, p.2)]).isEmpty) = false := by simp
    simp only [hne, hie, Bool.false_eq_true, if_false, if_true])) ?_
  dsimp only
  have hie : (R.map (trOf q)).isEmpty = false := by cases R with | nil => simp at hR0 | cons => rfl
  rw [if_neg (by rw [hie]; exact Bool.false_ne_true)]
  have hs := ex_sub2 (w := w) (s := s) (l := l) (xs := xs ++ dO (ent3 t c0 ++ entsL (t + 51) L).toArray (ent3 t c0 ++ entsL (t + 51) L).length :: (subsL (t + 51) L)) (q := q) (t := t + 51 + 51 * L.length) (Nat.ble_eq_true_of_le (by rw [List.length_append]; omega)) R
    (by rw [List.map_append] at hn; exact (List.nodup_append.mp hn).2.1) hR
  rw [List.append_assoc xs, List.cons_append] at hs
  have hM : ((ent3 t c0 ++ entsL (t + 51) L).map (·.hash)) = (c0 ++ L.flatten).map fun x => hashInt x.1 := by
    rw [List.map_append, List.map_append, ent3_hash]
    congr 1
    clear hs hie hn1 hn hl hL hE
    generalize t + 51 = u
    induction L generalizing u with
    | nil => rfl
    | cons c L ih => rw [entsL, List.map_append, ent3_hash, List.flatten_cons, List.map_append, ih]
  have ha : (xs ++ dO (ent3 t c0 ++ entsL (t + 51) L).toArray (ent3 t c0 ++ entsL (t + 51) L).length :: (subsL (t + 51) L)).length = xs.length + 1 + (subsL (t + 51) L).length := by rw [List.length_append, List.length_cons]; omega
  have hy : (xs ++ dO (ent3 t c0 ++ entsL (t + 51) L).toArray (ent3 t c0 ++ entsL (t + 51) L).length :: (subsL (t + 51) L)).length ≠ (1 : Nat) := by rw [ha]; omega
  have hm := ex_merge (w := w) (s := s) (l := l) (xs := xs) (d := xs.length) (ys := subsL (t + 51) L) (t := t + 51 + 51 * L.length + 3 * R.length) rfl (Nat.ble_eq_true_of_le (by omega)) ha
    (beq_eq_false_iff_ne.mpr hy) (ent3 t c0 ++ entsL (t + 51) L) (ent2 (t + 51 + 51 * L.length) R) (by intro e; have := ent3_len t c0; rw [(List.append_eq_nil_iff.mp e).1, h0] at this; simp at this) (ent2_int _ R)
    (by rw [List.map_append, hM, ent2_hash, ← List.map_append]; exact hn) (by rw [List.length_append, ent3_len, ent2_len, h0, hE]; omega)
  rw [show 5 + 6 * (ent2 (t + 51 + 51 * L.length) R).length = 5 + 6 * R.length by rw [ent2_len]] at hm
  refine ex_bind' (n := 1 + 13 * R.length + (5 + 6 * R.length + 0)) (k := 0) (a := some xs.length) (ex_bind' (ex_holding hs) (ex_bind' (a := ()) (ex_onRaise (ex_holding ?_)) ex_pure)) ex_pure
  exact hm
end Mine
end

section
open PySem PySem.W PyProof.Rows
set_option maxRecDepth 100000
set_option linter.unusedVariables false
namespace Mine
noncomputable def constI : Option Expr → Int × Pos
  | some (.Constant (.int i) _ p) => (i, p)
  | _ => (0, ⟨0, 0, 0, 0⟩)
noncomputable def constS : Expr → Str × Pos
  | .Constant (.str s) _ p => (s, p)
  | _ => (⟨#[]⟩, ⟨0, 0, 0, 0⟩)
noncomputable def ts5 : List Expr := match stAt 5 with
  | .Assign t _ _ => t
  | _ => []
noncomputable def ks5 : List (Option Expr) := match stAt 5 with
  | .Assign _ (.Dict k _ _) _ => k
  | _ => []
noncomputable def vs5 : List Expr := match stAt 5 with
  | .Assign _ (.Dict _ v _) _ => v
  | _ => []
noncomputable def dpos : Pos := match stAt 5 with
  | .Assign _ (.Dict _ _ p) _ => p
  | _ => ⟨0, 0, 0, 0⟩
noncomputable def apos : Pos := match stAt 5 with
  | .Assign _ _ p => p
  | _ => ⟨0, 0, 0, 0⟩
theorem st5_eq : stAt 5 = .Assign ts5 (.Dict ks5 vs5 dpos) apos := by kernel_rfl
/-- the table b3, read off the text -/
noncomputable def kvl : List KV := List.zipWith (fun k v => ((constI k).1, (constI k).2, (constS v).1, (constS v).2)) ks5 vs5
theorem items_eq : (evalEachOpt ks5 env0).zip ((evalEach vs5 env0).map fun v => do let x ← v; standAt dpos; pure x) = (kvl.map (trOf dpos)).map gI := by kernel_rfl
noncomputable def ck0 : List KV := kvl.take 17
noncomputable def ckL : List (List KV) := (List.range 37).map fun j => (kvl.drop (17 * (j + 1))).take 17
noncomputable def ckR : List KV := kvl.drop 646
theorem kvl_eq : kvl = ck0 ++ ckL.flatten ++ ckR := by kernel_rfl
theorem ck0_len : ck0.length = 17 := by kernel_rfl
theorem ckL_len : ckL.length = 37 := by kernel_rfl
theorem ckR_len : ckR.length = 4 := by kernel_rfl
theorem ckL_all : ∀ c ∈ ckL, c.length = 17 := by
  have : (ckL.all fun c => Nat.beq c.length 17) = true := by kernel_rfl
  intro c hc
  exact Nat.eq_of_beq_eq_true (List.all_eq_true.mp this c hc)
noncomputable def ascI : List KV → Bool
  | [] => true
  | [_] => true
  | x :: y :: r => decide (0 ≤ x.1 ∧ x.1 < y.1 ∧ y.1 < 2000000) && ascI (y :: r)
theorem ascI_all : ∀ (l : List KV) (x : KV), ascI (x :: l) = true → ∀ y ∈ l, x.1 < y.1
  | [], x, _, y, h => nomatch h
  | z :: r, x, h, y, hy => by
    rw [ascI, Bool.and_eq_true, decide_eq_true_eq] at h
    rcases List.mem_cons.mp hy with rfl | hy
    · exact h.1.2.1
    · exact Int.lt_trans h.1.2.1 (ascI_all r z h.2 y hy)
theorem ascI_bd : ∀ (l : List KV), ascI l = true → 2 ≤ l.length → ∀ y ∈ l, 0 ≤ y.1 ∧ y.1 < 2000000
  | [], _, h, _, _ => by simp at h
  | [_], _, h, _, _ => by simp at h
  | [x, z], h, _, y, hy => by
    simp only [ascI, Bool.and_eq_true, decide_eq_true_eq] at h
    rcases List.mem_cons.mp hy with rfl | hy
    · omega
    · rcases List.mem_cons.mp hy with rfl | hy
      · omega
      · nomatch hy
  | x :: z :: u :: r, h, _, y, hy => by
    rw [ascI, Bool.and_eq_true, decide_eq_true_eq] at h
    rcases List.mem_cons.mp hy with rfl | hy
    · omega
    · exact ascI_bd (z :: u :: r) h.2 (by simp) y hy
theorem ascI_nodup : ∀ (l : List KV), ascI l = true → (l.map fun x => x.1).Nodup
  | [], _ => List.nodup_nil
  | [x], _ => by simp
  | x :: y :: r, h => by
    rw [List.map_cons, List.nodup_cons]
    refine ⟨fun hm => ?_, ascI_nodup (y :: r) (by rw [ascI, Bool.and_eq_true] at h; exact h.2)⟩
    obtain ⟨z, hz, he⟩ := List.mem_map.mp hm
    exact absurd (ascI_all (y :: r) x h z hz) (by rw [he]; exact Int.lt_irrefl _)
theorem hashInt_small {k : Int} (h0 : 0 ≤ k) (h1 : k < 2000000) : hashInt k = k := by
  have e : rawHash k = k := by
    have e1 : ((k.natAbs : Int) % ((2 ^ 61 - 1 : Nat) : Int)) = k := by
      rw [show ((2 ^ 61 - 1 : Nat) : Int) = 2305843009213693951 from rfl]
      omega
    unfold rawHash
    simp only [e1]
    rw [if_neg (show ¬ k < 0 by omega)]
    rw [if_neg (by simp only [beq_iff_eq]; omega)]
  unfold hashInt
  rw [e, if_neg (by simp only [beq_iff_eq]; omega)]
theorem kvl_asc : ascI kvl = true := by decide +kernel
theorem kvl_len : kvl.length = 650 := by kernel_rfl
theorem kvl_hash : kvl.map (fun x => hashInt x.1) = kvl.map fun x => x.1 :=
  List.map_congr_left fun x hx => have b := ascI_bd kvl kvl_asc (by rw [kvl_len]; omega) x hx; hashInt_small b.1 b.2
theorem kvl_nodup : (kvl.map fun x => hashInt x.1).Nodup := by rw [kvl_hash]; exact ascI_nodup kvl kvl_asc
noncomputable def b3E : List DictEntry := ent3 267 ck0 ++ entsL 318 ckL ++ ent2 2205 ckR
noncomputable def subsE : List Obj := subsL 318 ckL ++ [dO (ent2 2205 ckR).toArray (ent2 2205 ckR).length]
noncomputable def subD : Nat → Obj
  | 0 => dO b3E.toArray b3E.length
  | j + 1 => subsE.getD j ⟨.none, none, .plain, #[]⟩
theorem entsL_len : ∀ (L : List (List KV)) (t : Nat), (∀ c ∈ L, c.length = 17) → (entsL t L).length = 17 * L.length
  | [], _, _ => rfl
  | c :: L, t, h => by rw [entsL, List.length_append, ent3_len, h c (.head _), entsL_len L _ fun c hc => h c (.tail _ hc), List.length_cons]; omega
theorem ex_b3 {w : World} {s : Shared} {l : Life} {xs : List Obj} (h40 : xs.length = 40) :
    Ex w 12516 (eval (.Dict ks5 vs5 dpos) env0) (st s l xs 267) (.ref 40) (st s l (xs ++ subD 0 :: subsE) 2217) := by
  have h := ex_display (w := w) (s := s) (l := l) (xs := xs) (q := dpos) (t := 267) (by omega) ck0 ckL ckR ck0_len ckL_all (by rw [ckR_len]; omega) (by rw [ckR_len]; omega) (by rw [← kvl_eq]; exact kvl_nodup) (by rw [ckL_len, ckR_len]; omega) (entsL_len ckL _ ckL_all)
  rw [← kvl_eq, ckL_len, ckR_len, h40] at h
  rw [arm_eval_Dict, items_eq]
  exact ex_bind' (n := 1) (k := 12515) (ex_at ex_pure) h
end Mine
end

section
open PySem PySem.W PyProof.Rows
set_option maxRecDepth 100000
set_option linter.unusedVariables false
namespace Mine
noncomputable def o0x11 (P : Params) : Obj := ⟨.type "tuple", none, .seq #[] 0, #[]⟩
noncomputable def o0x12 (P : Params) : Obj := ⟨.none, none, .fields #[], #[]⟩
noncomputable def o0x13 (P : Params) : Obj := ⟨.type "code", none, .fields #[.str ⟨#[60, 109, 111, 100, 117, 108, 101, 62]⟩ 182, .str ⟨#[60, 109, 111, 100, 117, 108, 101, 62]⟩ 183, .str ⟨#[47, 99, 108, 97, 105, 109, 47, 99, 117, 116, 46, 112, 121]⟩ 184, .int 1 0, .int 0 0, .int 0 0, .int 0 0, .int 0 0, .ref 11, .bool false, .int 181 0, .ref 12, .none, .none, .none, .none, .int 185 0, .int 1 0, .str ⟨#[47, 99, 108, 97, 105, 109, 47, 99, 117, 116, 46, 112, 121]⟩ 186], #[]⟩
noncomputable def o0x14 (P : Params) : Obj := ⟨.type "frame", none, .plain, #[(some (.ref 13)), (some (.ref 3)), (some (.ref 3)), none, (some (.str ⟨#[95, 95, 109, 97, 105, 110, 95, 95]⟩ 164)), none, (some (.ref 0))]⟩
noncomputable def tr0 (P : Params) : BT := .node (boot_o_0 P) (.node (boot_o_1 P) (.node (boot_o_3 P) (.node (boot_o_7 P) (.nil) (.nil)) (.node (o0x11 P) (.nil) (.nil))) (.node (boot_o_5 P) (.node (boot_o_9 P) (.nil) (.nil)) (.node (o0x13 P) (.nil) (.nil)))) (.node (boot_o_2 P) (.node (boot_o_4 P) (.node (boot_o_8 P) (.nil) (.nil)) (.node (o0x12 P) (.nil) (.nil))) (.node (boot_o_6 P) (.node (boot_o_10 P) (.nil) (.nil)) (.node (o0x14 P) (.nil) (.nil))))
noncomputable def S0 (w : World) (os : OsState) : SharedT := ⟨tr0 w.params, 15, (boot_heap w.params).life, #[], boot_drawn, 187, os⟩
noncomputable def pos0 : Pos := ⟨0, 0, 0, 0⟩
noncomputable def o3x3 (P : Params) : Obj := ⟨.type "dict", none, .dict #[⟨PyData.keyHash P ⟨#[95, 95, 110, 97, 109, 101, 95, 95]⟩, .str ⟨#[95, 95, 110, 97, 109, 101, 95, 95]⟩ 165, .str ⟨#[99, 112, 121, 51, 49, 51, 46, 115, 116, 114, 105, 110, 103, 112, 114, 101, 112]⟩ 198⟩, ⟨PyData.keyHash P ⟨#[95, 95, 100, 111, 99, 95, 95]⟩, .str ⟨#[95, 95, 100, 111, 99, 95, 95]⟩ 166, .none⟩, ⟨PyData.keyHash P ⟨#[95, 95, 112, 97, 99, 107, 97, 103, 101, 95, 95]⟩, .str ⟨#[95, 95, 112, 97, 99, 107, 97, 103, 101, 95, 95]⟩ 167, .none⟩, ⟨PyData.keyHash P ⟨#[95, 95, 108, 111, 97, 100, 101, 114, 95, 95]⟩, .str ⟨#[95, 95, 108, 111, 97, 100, 101, 114, 95, 95]⟩ 168, .builtin "__main__.__loader__#opaque"⟩, ⟨PyData.keyHash P ⟨#[95, 95, 115, 112, 101, 99, 95, 95]⟩, .str ⟨#[95, 95, 115, 112, 101, 99, 95, 95]⟩ 169, .none⟩, ⟨PyData.keyHash P ⟨#[95, 95, 97, 110, 110, 111, 116, 97, 116, 105, 111, 110, 115, 95, 95]⟩, .str ⟨#[95, 95, 97, 110, 110, 111, 116, 97, 116, 105, 111, 110, 115, 95, 95]⟩ 170, .ref 6⟩, ⟨PyData.keyHash P ⟨#[95, 95, 98, 117, 105, 108, 116, 105, 110, 115, 95, 95]⟩, .str ⟨#[95, 95, 98, 117, 105, 108, 116, 105, 110, 115, 95, 95]⟩ 171, .ref 4⟩, ⟨PyData.keyHash P ⟨#[95, 95, 102, 105, 108, 101, 95, 95]⟩, .str ⟨#[95, 95, 102, 105, 108, 101, 95, 95]⟩ 173, .str ⟨#[47, 99, 108, 97, 105, 109, 47, 99, 117, 116, 46, 112, 121]⟩ 172⟩, ⟨PyData.keyHash P ⟨#[95, 95, 99, 97, 99, 104, 101, 100, 95, 95]⟩, .str ⟨#[95, 95, 99, 97, 99, 104, 101, 100, 95, 95]⟩ 174, .none⟩, ⟨PyData.keyHash P ⟨#[95, 112, 97, 114, 115, 101, 95, 118, 97, 114, 105, 110, 116]⟩, .str ⟨#[95, 112, 97, 114, 115, 101, 95, 118, 97, 114, 105, 110, 116]⟩ 197, .ref 21⟩] 10, #[]⟩
noncomputable def o3x12 (P : Params) : Obj := ⟨.none, none, .fields #[.int 2 0, .int 0 0, .ref 20], #[]⟩
noncomputable def o3x15 (P : Params) : Obj := ⟨.type "tuple", none, .seq #[] 0, #[]⟩
noncomputable def o3x16 (P : Params) : Obj := ⟨.none, none, .fields #[], #[]⟩
noncomputable def o3x17 (P : Params) : Obj := ⟨.type "tuple", none, .seq #[.str ⟨#[105, 116, 101, 114, 97, 116, 111, 114]⟩ 192, .str ⟨#[98]⟩ 193, .str ⟨#[118, 97, 108]⟩ 194] 0, #[]⟩
noncomputable def o3x18 (P : Params) : Obj := ⟨.type "tuple", none, .seq #[] 0, #[]⟩
noncomputable def o3x19 (P : Params) : Obj := ⟨.none, none, .func (fnAt 1 ⟨#[95, 112, 97, 114, 115, 101, 95, 118, 97, 114, 105, 110, 116]⟩ ⟨#[95, 112, 97, 114, 115, 101, 95, 118, 97, 114, 105, 110, 116]⟩ 0 (.none) (.none) (.none)), #[]⟩
noncomputable def o3x20 (P : Params) : Obj := ⟨.type "code", none, .fields #[.str ⟨#[95, 112, 97, 114, 115, 101, 95, 118, 97, 114, 105, 110, 116]⟩ 189, .str ⟨#[95, 112, 97, 114, 115, 101, 95, 118, 97, 114, 105, 110, 116]⟩ 190, .str ⟨#[47, 99, 108, 97, 105, 109, 47, 99, 117, 116, 46, 112, 121]⟩ 191, .int 2 0, .int 1 0, .int 0 0, .int 0 0, .int 3 0, .ref 15, .bool true, .int 181 0, .ref 16, .none, .ref 17, .ref 18, .ref 19, .int 195 0, .int 2 0, .str ⟨#[47, 99, 108, 97, 105, 109, 47, 99, 117, 116, 46, 112, 121]⟩ 196], #[]⟩
noncomputable def o3x21 (P : Params) : Obj := ⟨.type "function", none, .func (fnAt 1 ⟨#[95, 112, 97, 114, 115, 101, 95, 118, 97, 114, 105, 110, 116]⟩ ⟨#[95, 112, 97, 114, 115, 101, 95, 118, 97, 114, 105, 110, 116]⟩ 3 (.str ⟨#[99, 112, 121, 51, 49, 51, 46, 100, 105, 115]⟩ 187) (.ref 20) (.none)), #[]⟩
noncomputable def tr3 (P : Params) : BT := .node (boot_o_0 P) (.node (boot_o_1 P) (.node (o3x3 P) (.node (boot_o_7 P) (.node (o3x15 P) (.nil) (.nil)) (.nil)) (.node (o0x11 P) (.node (o3x19 P) (.nil) (.nil)) (.nil))) (.node (boot_o_5 P) (.node (boot_o_9 P) (.node (o3x17 P) (.nil) (.nil)) (.nil)) (.node (o0x13 P) (.node (o3x21 P) (.nil) (.nil)) (.nil)))) (.node (boot_o_2 P) (.node (boot_o_4 P) (.node (boot_o_8 P) (.node (o3x16 P) (.nil) (.nil)) (.nil)) (.node (o3x12 P) (.node (o3x20 P) (.nil) (.nil)) (.nil))) (.node (boot_o_6 P) (.node (boot_o_10 P) (.node (o3x18 P) (.nil) (.nil)) (.nil)) (.node (o0x14 P) (.nil) (.nil))))
noncomputable def S3 (w : World) (os : OsState) : SharedT := ⟨tr3 w.params, 22, (boot_heap w.params).life, #[], boot_drawn, 200, os⟩
noncomputable def pos3 : Pos := ⟨10, 0, 10, 8⟩
noncomputable def o4x3 (P : Params) : Obj := ⟨.type "dict", none, .dict #[⟨PyData.keyHash P ⟨#[95, 95, 110, 97, 109, 101, 95, 95]⟩, .str ⟨#[95, 95, 110, 97, 109, 101, 95, 95]⟩ 165, .str ⟨#[99, 112, 121, 51, 49, 51, 46, 115, 116, 114, 105, 110, 103, 112, 114, 101, 112]⟩ 198⟩, ⟨PyData.keyHash P ⟨#[95, 95, 100, 111, 99, 95, 95]⟩, .str ⟨#[95, 95, 100, 111, 99, 95, 95]⟩ 166, .none⟩, ⟨PyData.keyHash P ⟨#[95, 95, 112, 97, 99, 107, 97, 103, 101, 95, 95]⟩, .str ⟨#[95, 95, 112, 97, 99, 107, 97, 103, 101, 95, 95]⟩ 167, .none⟩, ⟨PyData.keyHash P ⟨#[95, 95, 108, 111, 97, 100, 101, 114, 95, 95]⟩, .str ⟨#[95, 95, 108, 111, 97, 100, 101, 114, 95, 95]⟩ 168, .builtin "__main__.__loader__#opaque"⟩, ⟨PyData.keyHash P ⟨#[95, 95, 115, 112, 101, 99, 95, 95]⟩, .str ⟨#[95, 95, 115, 112, 101, 99, 95, 95]⟩ 169, .none⟩, ⟨PyData.keyHash P ⟨#[95, 95, 97, 110, 110, 111, 116, 97, 116, 105, 111, 110, 115, 95, 95]⟩, .str ⟨#[95, 95, 97, 110, 110, 111, 116, 97, 116, 105, 111, 110, 115, 95, 95]⟩ 170, .ref 6⟩, ⟨PyData.keyHash P ⟨#[95, 95, 98, 117, 105, 108, 116, 105, 110, 115, 95, 95]⟩, .str ⟨#[95, 95, 98, 117, 105, 108, 116, 105, 110, 115, 95, 95]⟩ 171, .ref 4⟩, ⟨PyData.keyHash P ⟨#[95, 95, 102, 105, 108, 101, 95, 95]⟩, .str ⟨#[95, 95, 102, 105, 108, 101, 95, 95]⟩ 173, .str ⟨#[47, 99, 108, 97, 105, 109, 47, 99, 117, 116, 46, 112, 121]⟩ 172⟩, ⟨PyData.keyHash P ⟨#[95, 95, 99, 97, 99, 104, 101, 100, 95, 95]⟩, .str ⟨#[95, 95, 99, 97, 99, 104, 101, 100, 95, 95]⟩ 174, .none⟩, ⟨PyData.keyHash P ⟨#[95, 112, 97, 114, 115, 101, 95, 118, 97, 114, 105, 110, 116]⟩, .str ⟨#[95, 112, 97, 114, 115, 101, 95, 118, 97, 114, 105, 110, 116]⟩ 197, .ref 21⟩, ⟨PyData.keyHash P ⟨#[98, 49, 95, 115, 101, 116]⟩, .str ⟨#[98, 49, 95, 115, 101, 116]⟩ 259, .ref 29⟩] 11, #[]⟩
noncomputable def o4x22 (P : Params) : Obj := ⟨.type "list", none, .seq #[.int 173 200, .int 847 201, .int 6150 202, .int 6155 203, .int 6156 204, .int 6157 205, .int 8203 206, .int 8204 207, .int 8205 208, .int 8288 209, .int 65279 210] 0, #[]⟩
noncomputable def o4x23 (P : Params) : Obj := ⟨.type "range", none, .fields #[.int 65024 211, .int 65040 212, .int 1 213], #[]⟩
noncomputable def o4x24 (P : Params) : Obj := ⟨.type "list", none, .seq #[.int 65024 216, .int 65025 217, .int 65026 218, .int 65027 219, .int 65028 220, .int 65029 221, .int 65030 222, .int 65031 223, .int 65032 224, .int 65033 225, .int 65034 226, .int 65035 227, .int 65036 228, .int 65037 229, .int 65038 230, .int 65039 231] 18, #[]⟩
noncomputable def o4x25 (P : Params) : Obj := ⟨.type "range_iterator", none, .fields #[.int 65040 0, .int 0 0, .int 1 0], #[]⟩
noncomputable def o4x26 (P : Params) : Obj := ⟨.type "tuple", none, .seq #[] 0, #[]⟩
noncomputable def o4x27 (P : Params) : Obj := ⟨.type "StopIteration", none, .fields #[.ref 26, .none, .none, .none, .bool false, .none], #[]⟩
noncomputable def o4x28 (P : Params) : Obj := ⟨.type "list", none, .seq #[.int 173 200, .int 847 201, .int 6150 202, .int 6155 203, .int 6156 204, .int 6157 205, .int 8203 206, .int 8204 207, .int 8205 208, .int 8288 209, .int 65279 210, .int 65024 216, .int 65025 217, .int 65026 218, .int 65027 219, .int 65028 220, .int 65029 221, .int 65030 222, .int 65031 223, .int 65032 224, .int 65033 225, .int 65034 226, .int 65035 227, .int 65036 228, .int 65037 229, .int 65038 230, .int 65039 231] 0, #[]⟩
noncomputable def o4x29 (P : Params) : Obj := ⟨.type "set", none, .set #[(65024, .int 65024 216), (65025, .int 65025 217), (65026, .int 65026 218), (65027, .int 65027 219), (65028, .int 65028 220), (65029, .int 65029 221), (6150, .int 6150 202), (65030, .int 65030 222), (65031, .int 65031 223), (65032, .int 65032 224), (65033, .int 65033 225), (6155, .int 6155 203), (6156, .int 6156 204), (6157, .int 6157 205), (8203, .int 8203 206), (8204, .int 8204 207), (8205, .int 8205 208), (65034, .int 65034 226), (65035, .int 65035 227), (65036, .int 65036 228), (65037, .int 65037 229), (65038, .int 65038 230), (65039, .int 65039 231), (173, .int 173 200), (847, .int 847 201), (8288, .int 8288 209), (65279, .int 65279 210)] 29 ⟨127, #[0, 1, 2, 3, 4, 5, 6, 7, 8, 9, 10, 11, 12, 13, 14, 15, 16, 17, 18, 19, 20, 21, 22, 45, 79, 96, 127], #[], 0, !P.followText "set-order", 2, true⟩, #[]⟩
noncomputable def o4x30 (P : Params) : Obj := ⟨.type "list_iterator", none, .fields #[.none, .int 27 0], #[]⟩
noncomputable def o4x31 (P : Params) : Obj := ⟨.type "tuple", none, .seq #[] 0, #[]⟩
noncomputable def o4x32 (P : Params) : Obj := ⟨.type "StopIteration", none, .fields #[.ref 31, .none, .none, .none, .bool false, .none], #[]⟩
noncomputable def tr4 (P : Params) : BT := .node (boot_o_0 P) (.node (boot_o_1 P) (.node (o4x3 P) (.node (boot_o_7 P) (.node (o3x15 P) (.node (o4x31 P) (.nil) (.nil)) (.nil)) (.node (o4x23 P) (.nil) (.nil))) (.node (o0x11 P) (.node (o3x19 P) (.nil) (.nil)) (.node (o4x27 P) (.nil) (.nil)))) (.node (boot_o_5 P) (.node (boot_o_9 P) (.node (o3x17 P) (.nil) (.nil)) (.node (o4x25 P) (.nil) (.nil))) (.node (o0x13 P) (.node (o3x21 P) (.nil) (.nil)) (.node (o4x29 P) (.nil) (.nil))))) (.node (boot_o_2 P) (.node (boot_o_4 P) (.node (boot_o_8 P) (.node (o3x16 P) (.node (o4x32 P) (.nil) (.nil)) (.nil)) (.node (o4x24 P) (.nil) (.nil))) (.node (o3x12 P) (.node (o3x20 P) (.nil) (.nil)) (.node (o4x28 P) (.nil) (.nil)))) (.node (boot_o_6 P) (.node (boot_o_10 P) (.node (o3x18 P) (.nil) (.nil)) (.node (o4x26 P) (.nil) (.nil))) (.node (o0x14 P) (.node (o4x22 P) (.nil) (.nil)) (.node (o4x30 P) (.nil) (.nil)))))
noncomputable def S4 (w : World) (os : OsState) : SharedT := ⟨tr4 w.params, 33, (boot_heap w.params).life, #[], boot_drawn, 260, os⟩
noncomputable def pos4 : Pos := ⟨11, 0, 11, 6⟩
noncomputable def o5x3 (P : Params) : Obj := ⟨.type "dict", none, .dict #[⟨PyData.keyHash P ⟨#[95, 95, 110, 97, 109, 101, 95, 95]⟩, .str ⟨#[95, 95, 110, 97, 109, 101, 95, 95]⟩ 165, .str ⟨#[99, 112, 121, 51, 49, 51, 46, 115, 116, 114, 105, 110, 103, 112, 114, 101, 112]⟩ 198⟩, ⟨PyData.keyHash P ⟨#[95, 95, 100, 111, 99, 95, 95]⟩, .str ⟨#[95, 95, 100, 111, 99, 95, 95]⟩ 166, .none⟩, ⟨PyData.keyHash P ⟨#[95, 95, 112, 97, 99, 107, 97, 103, 101, 95, 95]⟩, .str ⟨#[95, 95, 112, 97, 99, 107, 97, 103, 101, 95, 95]⟩ 167, .none⟩, ⟨PyData.keyHash P ⟨#[95, 95, 108, 111, 97, 100, 101, 114, 95, 95]⟩, .str ⟨#[95, 95, 108, 111, 97, 100, 101, 114, 95, 95]⟩ 168, .builtin "__main__.__loader__#opaque"⟩, ⟨PyData.keyHash P ⟨#[95, 95, 115, 112, 101, 99, 95, 95]⟩, .str ⟨#[95, 95, 115, 112, 101, 99, 95, 95]⟩ 169, .none⟩, ⟨PyData.keyHash P ⟨#[95, 95, 97, 110, 110, 111, 116, 97, 116, 105, 111, 110, 115, 95, 95]⟩, .str ⟨#[95, 95, 97, 110, 110, 111, 116, 97, 116, 105, 111, 110, 115, 95, 95]⟩ 170, .ref 6⟩, ⟨PyData.keyHash P ⟨#[95, 95, 98, 117, 105, 108, 116, 105, 110, 115, 95, 95]⟩, .str ⟨#[95, 95, 98, 117, 105, 108, 116, 105, 110, 115, 95, 95]⟩ 171, .ref 4⟩, ⟨PyData.keyHash P ⟨#[95, 95, 102, 105, 108, 101, 95, 95]⟩, .str ⟨#[95, 95, 102, 105, 108, 101, 95, 95]⟩ 173, .str ⟨#[47, 99, 108, 97, 105, 109, 47, 99, 117, 116, 46, 112, 121]⟩ 172⟩, ⟨PyData.keyHash P ⟨#[95, 95, 99, 97, 99, 104, 101, 100, 95, 95]⟩, .str ⟨#[95, 95, 99, 97, 99, 104, 101, 100, 95, 95]⟩ 174, .none⟩, ⟨PyData.keyHash P ⟨#[95, 112, 97, 114, 115, 101, 95, 118, 97, 114, 105, 110, 116]⟩, .str ⟨#[95, 112, 97, 114, 115, 101, 95, 118, 97, 114, 105, 110, 116]⟩ 197, .ref 21⟩, ⟨PyData.keyHash P ⟨#[98, 49, 95, 115, 101, 116]⟩, .str ⟨#[98, 49, 95, 115, 101, 116]⟩ 259, .ref 29⟩, ⟨PyData.keyHash P ⟨#[105, 110, 95, 116, 97, 98, 108, 101, 95, 98, 49]⟩, .str ⟨#[105, 110, 95, 116, 97, 98, 108, 101, 95, 98, 49]⟩ 266, .ref 39⟩] 12, #[]⟩
noncomputable def o5x12 (P : Params) : Obj := ⟨.none, none, .fields #[.int 2 0, .int 0 0, .ref 20, .int 12 0, .int 0 0, .ref 38], #[]⟩
noncomputable def o5x33 (P : Params) : Obj := ⟨.type "tuple", none, .seq #[] 0, #[]⟩
noncomputable def o5x34 (P : Params) : Obj := ⟨.none, none, .fields #[], #[]⟩
noncomputable def o5x35 (P : Params) : Obj := ⟨.type "tuple", none, .seq #[.str ⟨#[99, 111, 100, 101]⟩ 263] 0, #[]⟩
noncomputable def o5x36 (P : Params) : Obj := ⟨.type "tuple", none, .seq #[] 0, #[]⟩
noncomputable def o5x37 (P : Params) : Obj := ⟨.none, none, .func (fnAt 4 ⟨#[105, 110, 95, 116, 97, 98, 108, 101, 95, 98, 49]⟩ ⟨#[105, 110, 95, 116, 97, 98, 108, 101, 95, 98, 49]⟩ 0 (.none) (.none) (.none)), #[]⟩
noncomputable def o5x38 (P : Params) : Obj := ⟨.type "code", none, .fields #[.str ⟨#[105, 110, 95, 116, 97, 98, 108, 101, 95, 98, 49]⟩ 260, .str ⟨#[105, 110, 95, 116, 97, 98, 108, 101, 95, 98, 49]⟩ 261, .str ⟨#[47, 99, 108, 97, 105, 109, 47, 99, 117, 116, 46, 112, 121]⟩ 262, .int 12 0, .int 1 0, .int 0 0, .int 0 0, .int 3 0, .ref 33, .bool true, .int 181 0, .ref 34, .none, .ref 35, .ref 36, .ref 37, .int 264 0, .int 12 0, .str ⟨#[47, 99, 108, 97, 105, 109, 47, 99, 117, 116, 46, 112, 121]⟩ 265], #[]⟩
noncomputable def o5x39 (P : Params) : Obj := ⟨.type "function", none, .func (fnAt 4 ⟨#[105, 110, 95, 116, 97, 98, 108, 101, 95, 98, 49]⟩ ⟨#[105, 110, 95, 116, 97, 98, 108, 101, 95, 98, 49]⟩ 3 (.str ⟨#[99, 112, 121, 51, 49, 51, 46, 115, 116, 114, 105, 110, 103, 112, 114, 101, 112]⟩ 198) (.ref 38) (.none)), #[]⟩
noncomputable def tr5 (P : Params) : BT := .node (boot_o_0 P) (.node (boot_o_1 P) (.node (o5x3 P) (.node (boot_o_7 P) (.node (o3x15 P) (.node (o4x31 P) (.nil) (.nil)) (.nil)) (.node (o4x23 P) (.node (o5x39 P) (.nil) (.nil)) (.nil))) (.node (o0x11 P) (.node (o3x19 P) (.node (o5x35 P) (.nil) (.nil)) (.nil)) (.node (o4x27 P) (.nil) (.nil)))) (.node (boot_o_5 P) (.node (boot_o_9 P) (.node (o3x17 P) (.node (o5x33 P) (.nil) (.nil)) (.nil)) (.node (o4x25 P) (.nil) (.nil))) (.node (o0x13 P) (.node (o3x21 P) (.node (o5x37 P) (.nil) (.nil)) (.nil)) (.node (o4x29 P) (.nil) (.nil))))) (.node (boot_o_2 P) (.node (boot_o_4 P) (.node (boot_o_8 P) (.node (o3x16 P) (.node (o4x32 P) (.nil) (.nil)) (.nil)) (.node (o4x24 P) (.nil) (.nil))) (.node (o5x12 P) (.node (o3x20 P) (.node (o5x36 P) (.nil) (.nil)) (.nil)) (.node (o4x28 P) (.nil) (.nil)))) (.node (boot_o_6 P) (.node (boot_o_10 P) (.node (o3x18 P) (.node (o5x34 P) (.nil) (.nil)) (.nil)) (.node (o4x26 P) (.nil) (.nil))) (.node (o0x14 P) (.node (o4x22 P) (.node (o5x38 P) (.nil) (.nil)) (.nil)) (.node (o4x30 P) (.nil) (.nil)))))
noncomputable def S5 (w : World) (os : OsState) : SharedT := ⟨tr5 w.params, 40, (boot_heap w.params).life, #[], boot_drawn, 267, os⟩
noncomputable def pos5 : Pos := ⟨12, 0, 13, 30⟩
noncomputable def o6x3 (P : Params) : Obj := ⟨.type "dict", none, .dict #[⟨PyData.keyHash P ⟨#[95, 95, 110, 97, 109, 101, 95, 95]⟩, .str ⟨#[95, 95, 110, 97, 109, 101, 95, 95]⟩ 165, .str ⟨#[99, 112, 121, 51, 49, 51, 46, 115, 116, 114, 105, 110, 103, 112, 114, 101, 112]⟩ 198⟩, ⟨PyData.keyHash P ⟨#[95, 95, 100, 111, 99, 95, 95]⟩, .str ⟨#[95, 95, 100, 111, 99, 95, 95]⟩ 166, .none⟩, ⟨PyData.keyHash P ⟨#[95, 95, 112, 97, 99, 107, 97, 103, 101, 95, 95]⟩, .str ⟨#[95, 95, 112, 97, 99, 107, 97, 103, 101, 95, 95]⟩ 167, .none⟩, ⟨PyData.keyHash P ⟨#[95, 95, 108, 111, 97, 100, 101, 114, 95, 95]⟩, .str ⟨#[95, 95, 108, 111, 97, 100, 101, 114, 95, 95]⟩ 168, .builtin "__main__.__loader__#opaque"⟩, ⟨PyData.keyHash P ⟨#[95, 95, 115, 112, 101, 99, 95, 95]⟩, .str ⟨#[95, 95, 115, 112, 101, 99, 95, 95]⟩ 169, .none⟩, ⟨PyData.keyHash P ⟨#[95, 95, 97, 110, 110, 111, 116, 97, 116, 105, 111, 110, 115, 95, 95]⟩, .str ⟨#[95, 95, 97, 110, 110, 111, 116, 97, 116, 105, 111, 110, 115, 95, 95]⟩ 170, .ref 6⟩, ⟨PyData.keyHash P ⟨#[95, 95, 98, 117, 105, 108, 116, 105, 110, 115, 95, 95]⟩, .str ⟨#[95, 95, 98, 117, 105, 108, 116, 105, 110, 115, 95, 95]⟩ 171, .ref 4⟩, ⟨PyData.keyHash P ⟨#[95, 95, 102, 105, 108, 101, 95, 95]⟩, .str ⟨#[95, 95, 102, 105, 108, 101, 95, 95]⟩ 173, .str ⟨#[47, 99, 108, 97, 105, 109, 47, 99, 117, 116, 46, 112, 121]⟩ 172⟩, ⟨PyData.keyHash P ⟨#[95, 95, 99, 97, 99, 104, 101, 100, 95, 95]⟩, .str ⟨#[95, 95, 99, 97, 99, 104, 101, 100, 95, 95]⟩ 174, .none⟩, ⟨PyData.keyHash P ⟨#[95, 112, 97, 114, 115, 101, 95, 118, 97, 114, 105, 110, 116]⟩, .str ⟨#[95, 112, 97, 114, 115, 101, 95, 118, 97, 114, 105, 110, 116]⟩ 197, .ref 21⟩, ⟨PyData.keyHash P ⟨#[98, 49, 95, 115, 101, 116]⟩, .str ⟨#[98, 49, 95, 115, 101, 116]⟩ 259, .ref 29⟩, ⟨PyData.keyHash P ⟨#[105, 110, 95, 116, 97, 98, 108, 101, 95, 98, 49]⟩, .str ⟨#[105, 110, 95, 116, 97, 98, 108, 101, 95, 98, 49]⟩ 266, .ref 39⟩, ⟨PyData.keyHash P ⟨#[98, 51, 95, 101, 120, 99, 101, 112, 116, 105, 111, 110, 115]⟩, .str ⟨#[98, 51, 95, 101, 120, 99, 101, 112, 116, 105, 111, 110, 115]⟩ 2217, .ref 40⟩] 13, #[]⟩
noncomputable def tr6 (P : Params) : BT := .node (boot_o_0 P) (.node (boot_o_1 P) (.node (o6x3 P) (.node (boot_o_7 P) (.node (o3x15 P) (.node (o4x31 P) (.node (subD 23) (.nil) (.nil)) (.nil)) (.node (subD 7) (.nil) (.nil))) (.node (o4x23 P) (.node (o5x39 P) (.node (subD 31) (.nil) (.nil)) (.nil)) (.node (subD 15) (.nil) (.nil)))) (.node (o0x11 P) (.node (o3x19 P) (.node (o5x35 P) (.node (subD 27) (.nil) (.nil)) (.nil)) (.node (subD 11) (.nil) (.nil))) (.node (o4x27 P) (.node (subD 3) (.node (subD 35) (.nil) (.nil)) (.nil)) (.node (subD 19) (.nil) (.nil))))) (.node (boot_o_5 P) (.node (boot_o_9 P) (.node (o3x17 P) (.node (o5x33 P) (.node (subD 25) (.nil) (.nil)) (.nil)) (.node (subD 9) (.nil) (.nil))) (.node (o4x25 P) (.node (subD 1) (.node (subD 33) (.nil) (.nil)) (.nil)) (.node (subD 17) (.nil) (.nil)))) (.node (o0x13 P) (.node (o3x21 P) (.node (o5x37 P) (.node (subD 29) (.nil) (.nil)) (.nil)) (.node (subD 13) (.nil) (.nil))) (.node (o4x29 P) (.node (subD 5) (.node (subD 37) (.nil) (.nil)) (.nil)) (.node (subD 21) (.nil) (.nil)))))) (.node (boot_o_2 P) (.node (boot_o_4 P) (.node (boot_o_8 P) (.node (o3x16 P) (.node (o4x32 P) (.node (subD 24) (.nil) (.nil)) (.nil)) (.node (subD 8) (.nil) (.nil))) (.node (o4x24 P) (.node (subD 0) (.node (subD 32) (.nil) (.nil)) (.nil)) (.node (subD 16) (.nil) (.nil)))) (.node (o5x12 P) (.node (o3x20 P) (.node (o5x36 P) (.node (subD 28) (.nil) (.nil)) (.nil)) (.node (subD 12) (.nil) (.nil))) (.node (o4x28 P) (.node (subD 4) (.node (subD 36) (.nil) (.nil)) (.nil)) (.node (subD 20) (.nil) (.nil))))) (.node (boot_o_6 P) (.node (boot_o_10 P) (.node (o3x18 P) (.node (o5x34 P) (.node (subD 26) (.nil) (.nil)) (.nil)) (.node (subD 10) (.nil) (.nil))) (.node (o4x26 P) (.node (subD 2) (.node (subD 34) (.nil) (.nil)) (.nil)) (.node (subD 18) (.nil) (.nil)))) (.node (o0x14 P) (.node (o4x22 P) (.node (o5x38 P) (.node (subD 30) (.nil) (.nil)) (.nil)) (.node (subD 14) (.nil) (.nil))) (.node (o4x30 P) (.node (subD 6) (.node (subD 38) (.nil) (.nil)) (.nil)) (.node (subD 22) (.nil) (.nil))))))
noncomputable def tr5b (P : Params) : BT := .node (boot_o_0 P) (.node (boot_o_1 P) (.node (o5x3 P) (.node (boot_o_7 P) (.node (o3x15 P) (.node (o4x31 P) (.node (subD 23) (.nil) (.nil)) (.nil)) (.node (subD 7) (.nil) (.nil))) (.node (o4x23 P) (.node (o5x39 P) (.node (subD 31) (.nil) (.nil)) (.nil)) (.node (subD 15) (.nil) (.nil)))) (.node (o0x11 P) (.node (o3x19 P) (.node (o5x35 P) (.node (subD 27) (.nil) (.nil)) (.nil)) (.node (subD 11) (.nil) (.nil))) (.node (o4x27 P) (.node (subD 3) (.node (subD 35) (.nil) (.nil)) (.nil)) (.node (subD 19) (.nil) (.nil))))) (.node (boot_o_5 P) (.node (boot_o_9 P) (.node (o3x17 P) (.node (o5x33 P) (.node (subD 25) (.nil) (.nil)) (.nil)) (.node (subD 9) (.nil) (.nil))) (.node (o4x25 P) (.node (subD 1) (.node (subD 33) (.nil) (.nil)) (.nil)) (.node (subD 17) (.nil) (.nil)))) (.node (o0x13 P) (.node (o3x21 P) (.node (o5x37 P) (.node (subD 29) (.nil) (.nil)) (.nil)) (.node (subD 13) (.nil) (.nil))) (.node (o4x29 P) (.node (subD 5) (.node (subD 37) (.nil) (.nil)) (.nil)) (.node (subD 21) (.nil) (.nil)))))) (.node (boot_o_2 P) (.node (boot_o_4 P) (.node (boot_o_8 P) (.node (o3x16 P) (.node (o4x32 P) (.node (subD 24) (.nil) (.nil)) (.nil)) (.node (subD 8) (.nil) (.nil))) (.node (o4x24 P) (.node (subD 0) (.node (subD 32) (.nil) (.nil)) (.nil)) (.node (subD 16) (.nil) (.nil)))) (.node (o5x12 P) (.node (o3x20 P) (.node (o5x36 P) (.node (subD 28) (.nil) (.nil)) (.nil)) (.node (subD 12) (.nil) (.nil))) (.node (o4x28 P) (.node (subD 4) (.node (subD 36) (.nil) (.nil)) (.nil)) (.node (subD 20) (.nil) (.nil))))) (.node (boot_o_6 P) (.node (boot_o_10 P) (.node (o3x18 P) (.node (o5x34 P) (.node (subD 26) (.nil) (.nil)) (.nil)) (.node (subD 10) (.nil) (.nil))) (.node (o4x26 P) (.node (subD 2) (.node (subD 34) (.nil) (.nil)) (.nil)) (.node (subD 18) (.nil) (.nil)))) (.node (o0x14 P) (.node (o4x22 P) (.node (o5x38 P) (.node (subD 30) (.nil) (.nil)) (.nil)) (.node (subD 14) (.nil) (.nil))) (.node (o4x30 P) (.node (subD 6) (.node (subD 38) (.nil) (.nil)) (.nil)) (.node (subD 22) (.nil) (.nil))))))
noncomputable def S5b (w : World) (os : OsState) : SharedT := ⟨tr5b w.params, 79, (boot_heap w.params).life, #[], boot_drawn, 2217, os⟩
noncomputable def S6 (w : World) (os : OsState) : SharedT := ⟨tr6 w.params, 79, (boot_heap w.params).life, #[], boot_drawn, 2218, os⟩
noncomputable def pos6 : Pos := ⟨14, 0, 14, 13⟩
noncomputable def o12x3 (P : Params) : Obj := ⟨.type "dict", none, .dict #[⟨PyData.keyHash P ⟨#[95, 95, 110, 97, 109, 101, 95, 95]⟩, .str ⟨#[95, 95, 110, 97, 109, 101, 95, 95]⟩ 165, .str ⟨#[99, 112, 121, 51, 49, 51, 46, 116, 114, 97, 99, 101, 98, 97, 99, 107]⟩ 2226⟩, ⟨PyData.keyHash P ⟨#[95, 95, 100, 111, 99, 95, 95]⟩, .str ⟨#[95, 95, 100, 111, 99, 95, 95]⟩ 166, .none⟩, ⟨PyData.keyHash P ⟨#[95, 95, 112, 97, 99, 107, 97, 103, 101, 95, 95]⟩, .str ⟨#[95, 95, 112, 97, 99, 107, 97, 103, 101, 95, 95]⟩ 167, .none⟩, ⟨PyData.keyHash P ⟨#[95, 95, 108, 111, 97, 100, 101, 114, 95, 95]⟩, .str ⟨#[95, 95, 108, 111, 97, 100, 101, 114, 95, 95]⟩ 168, .builtin "__main__.__loader__#opaque"⟩, ⟨PyData.keyHash P ⟨#[95, 95, 115, 112, 101, 99, 95, 95]⟩, .str ⟨#[95, 95, 115, 112, 101, 99, 95, 95]⟩ 169, .none⟩, ⟨PyData.keyHash P ⟨#[95, 95, 97, 110, 110, 111, 116, 97, 116, 105, 111, 110, 115, 95, 95]⟩, .str ⟨#[95, 95, 97, 110, 110, 111, 116, 97, 116, 105, 111, 110, 115, 95, 95]⟩ 170, .ref 6⟩, ⟨PyData.keyHash P ⟨#[95, 95, 98, 117, 105, 108, 116, 105, 110, 115, 95, 95]⟩, .str ⟨#[95, 95, 98, 117, 105, 108, 116, 105, 110, 115, 95, 95]⟩ 171, .ref 4⟩, ⟨PyData.keyHash P ⟨#[95, 95, 102, 105, 108, 101, 95, 95]⟩, .str ⟨#[95, 95, 102, 105, 108, 101, 95, 95]⟩ 173, .str ⟨#[47, 99, 108, 97, 105, 109, 47, 99, 117, 116, 46, 112, 121]⟩ 172⟩, ⟨PyData.keyHash P ⟨#[95, 95, 99, 97, 99, 104, 101, 100, 95, 95]⟩, .str ⟨#[95, 95, 99, 97, 99, 104, 101, 100, 95, 95]⟩ 174, .none⟩, ⟨PyData.keyHash P ⟨#[95, 112, 97, 114, 115, 101, 95, 118, 97, 114, 105, 110, 116]⟩, .str ⟨#[95, 112, 97, 114, 115, 101, 95, 118, 97, 114, 105, 110, 116]⟩ 197, .ref 21⟩, ⟨PyData.keyHash P ⟨#[98, 49, 95, 115, 101, 116]⟩, .str ⟨#[98, 49, 95, 115, 101, 116]⟩ 259, .ref 29⟩, ⟨PyData.keyHash P ⟨#[105, 110, 95, 116, 97, 98, 108, 101, 95, 98, 49]⟩, .str ⟨#[105, 110, 95, 116, 97, 98, 108, 101, 95, 98, 49]⟩ 266, .ref 39⟩, ⟨PyData.keyHash P ⟨#[98, 51, 95, 101, 120, 99, 101, 112, 116, 105, 111, 110, 115]⟩, .str ⟨#[98, 51, 95, 101, 120, 99, 101, 112, 116, 105, 111, 110, 115]⟩ 2217, .ref 40⟩, ⟨PyData.keyHash P ⟨#[109, 97, 112, 95, 116, 97, 98, 108, 101, 95, 98, 51]⟩, .str ⟨#[109, 97, 112, 95, 116, 97, 98, 108, 101, 95, 98, 51]⟩ 2225, .ref 85⟩, ⟨PyData.keyHash P ⟨#[95, 77, 65, 88, 95, 83, 84, 82, 73, 78, 71, 95, 83, 73, 90, 69]⟩, .str ⟨#[95, 77, 65, 88, 95, 83, 84, 82, 73, 78, 71, 95, 83, 73, 90, 69]⟩ 2229, .int 40 2228⟩, ⟨PyData.keyHash P ⟨#[95, 77, 79, 86, 69, 95, 67, 79, 83, 84]⟩, .str ⟨#[95, 77, 79, 86, 69, 95, 67, 79, 83, 84]⟩ 2231, .int 2 2230⟩, ⟨PyData.keyHash P ⟨#[95, 67, 65, 83, 69, 95, 67, 79, 83, 84]⟩, .str ⟨#[95, 67, 65, 83, 69, 95, 67, 79, 83, 84]⟩ 2233, .int 1 2232⟩, ⟨PyData.keyHash P ⟨#[95, 115, 117, 98, 115, 116, 105, 116, 117, 116, 105, 111, 110, 95, 99, 111, 115, 116]⟩, .str ⟨#[95, 115, 117, 98, 115, 116, 105, 116, 117, 116, 105, 111, 110, 95, 99, 111, 115, 116]⟩ 2241, .ref 92⟩] 18, #[]⟩
noncomputable def o12x12 (P : Params) : Obj := ⟨.none, none, .fields #[.int 2 0, .int 0 0, .ref 20, .int 12 0, .int 0 0, .ref 38, .int 15 0, .int 0 0, .ref 84, .int 24 0, .int 0 0, .ref 91], #[]⟩
noncomputable def o12x79 (P : Params) : Obj := ⟨.type "tuple", none, .seq #[] 0, #[]⟩
noncomputable def o12x80 (P : Params) : Obj := ⟨.none, none, .fields #[], #[]⟩
noncomputable def o12x81 (P : Params) : Obj := ⟨.type "tuple", none, .seq #[.str ⟨#[99, 111, 100, 101]⟩ 2221, .str ⟨#[114]⟩ 2222] 0, #[]⟩
noncomputable def o12x82 (P : Params) : Obj := ⟨.type "tuple", none, .seq #[] 0, #[]⟩
noncomputable def o12x83 (P : Params) : Obj := ⟨.none, none, .func (fnAt 6 ⟨#[109, 97, 112, 95, 116, 97, 98, 108, 101, 95, 98, 51]⟩ ⟨#[109, 97, 112, 95, 116, 97, 98, 108, 101, 95, 98, 51]⟩ 0 (.none) (.none) (.none)), #[]⟩
noncomputable def o12x84 (P : Params) : Obj := ⟨.type "code", none, .fields #[.str ⟨#[109, 97, 112, 95, 116, 97, 98, 108, 101, 95, 98, 51]⟩ 2218, .str ⟨#[109, 97, 112, 95, 116, 97, 98, 108, 101, 95, 98, 51]⟩ 2219, .str ⟨#[47, 99, 108, 97, 105, 109, 47, 99, 117, 116, 46, 112, 121]⟩ 2220, .int 15 0, .int 1 0, .int 0 0, .int 0 0, .int 3 0, .ref 79, .bool true, .int 181 0, .ref 80, .none, .ref 81, .ref 82, .ref 83, .int 2223 0, .int 15 0, .str ⟨#[47, 99, 108, 97, 105, 109, 47, 99, 117, 116, 46, 112, 121]⟩ 2224], #[]⟩
noncomputable def o12x85 (P : Params) : Obj := ⟨.type "function", none, .func (fnAt 6 ⟨#[109, 97, 112, 95, 116, 97, 98, 108, 101, 95, 98, 51]⟩ ⟨#[109, 97, 112, 95, 116, 97, 98, 108, 101, 95, 98, 51]⟩ 3 (.str ⟨#[99, 112, 121, 51, 49, 51, 46, 115, 116, 114, 105, 110, 103, 112, 114, 101, 112]⟩ 198) (.ref 84) (.none)), #[]⟩
noncomputable def o12x86 (P : Params) : Obj := ⟨.type "tuple", none, .seq #[] 0, #[]⟩
noncomputable def o12x87 (P : Params) : Obj := ⟨.none, none, .fields #[], #[]⟩
noncomputable def o12x88 (P : Params) : Obj := ⟨.type "tuple", none, .seq #[.str ⟨#[99, 104, 95, 97]⟩ 2237, .str ⟨#[99, 104, 95, 98]⟩ 2238] 0, #[]⟩
noncomputable def o12x89 (P : Params) : Obj := ⟨.type "tuple", none, .seq #[] 0, #[]⟩
noncomputable def o12x90 (P : Params) : Obj := ⟨.none, none, .func (fnAt 11 ⟨#[95, 115, 117, 98, 115, 116, 105, 116, 117, 116, 105, 111, 110, 95, 99, 111, 115, 116]⟩ ⟨#[95, 115, 117, 98, 115, 116, 105, 116, 117, 116, 105, 111, 110, 95, 99, 111, 115, 116]⟩ 0 (.none) (.none) (.none)), #[]⟩
noncomputable def o12x91 (P : Params) : Obj := ⟨.type "code", none, .fields #[.str ⟨#[95, 115, 117, 98, 115, 116, 105, 116, 117, 116, 105, 111, 110, 95, 99, 111, 115, 116]⟩ 2234, .str ⟨#[95, 115, 117, 98, 115, 116, 105, 116, 117, 116, 105, 111, 110, 95, 99, 111, 115, 116]⟩ 2235, .str ⟨#[47, 99, 108, 97, 105, 109, 47, 99, 117, 116, 46, 112, 121]⟩ 2236, .int 24 0, .int 2 0, .int 0 0, .int 0 0, .int 3 0, .ref 86, .bool true, .int 181 0, .ref 87, .none, .ref 88, .ref 89, .ref 90, .int 2239 0, .int 24 0, .str ⟨#[47, 99, 108, 97, 105, 109, 47, 99, 117, 116, 46, 112, 121]⟩ 2240], #[]⟩
noncomputable def o12x92 (P : Params) : Obj := ⟨.type "function", none, .func (fnAt 11 ⟨#[95, 115, 117, 98, 115, 116, 105, 116, 117, 116, 105, 111, 110, 95, 99, 111, 115, 116]⟩ ⟨#[95, 115, 117, 98, 115, 116, 105, 116, 117, 116, 105, 111, 110, 95, 99, 111, 115, 116]⟩ 3 (.str ⟨#[99, 112, 121, 51, 49, 51, 46, 116, 114, 97, 99, 101, 98, 97, 99, 107]⟩ 2226) (.ref 91) (.none)), #[]⟩
noncomputable def tr12 (P : Params) : BT := .node (boot_o_0 P) (.node (boot_o_1 P) (.node (o12x3 P) (.node (boot_o_7 P) (.node (o3x15 P) (.node (o4x31 P) (.node (subD 23) (.nil) (.nil)) (.nil)) (.node (subD 7) (.node (o12x79 P) (.nil) (.nil)) (.nil))) (.node (o4x23 P) (.node (o5x39 P) (.node (subD 31) (.nil) (.nil)) (.nil)) (.node (subD 15) (.node (o12x87 P) (.nil) (.nil)) (.nil)))) (.node (o0x11 P) (.node (o3x19 P) (.node (o5x35 P) (.node (subD 27) (.nil) (.nil)) (.nil)) (.node (subD 11) (.node (o12x83 P) (.nil) (.nil)) (.nil))) (.node (o4x27 P) (.node (subD 3) (.node (subD 35) (.nil) (.nil)) (.nil)) (.node (subD 19) (.node (o12x91 P) (.nil) (.nil)) (.nil))))) (.node (boot_o_5 P) (.node (boot_o_9 P) (.node (o3x17 P) (.node (o5x33 P) (.node (subD 25) (.nil) (.nil)) (.nil)) (.node (subD 9) (.node (o12x81 P) (.nil) (.nil)) (.nil))) (.node (o4x25 P) (.node (subD 1) (.node (subD 33) (.nil) (.nil)) (.nil)) (.node (subD 17) (.node (o12x89 P) (.nil) (.nil)) (.nil)))) (.node (o0x13 P) (.node (o3x21 P) (.node (o5x37 P) (.node (subD 29) (.nil) (.nil)) (.nil)) (.node (subD 13) (.node (o12x85 P) (.nil) (.nil)) (.nil))) (.node (o4x29 P) (.node (subD 5) (.node (subD 37) (.nil) (.nil)) (.nil)) (.node (subD 21) (.nil) (.nil)))))) (.node (boot_o_2 P) (.node (boot_o_4 P) (.node (boot_o_8 P) (.node (o3x16 P) (.node (o4x32 P) (.node (subD 24) (.nil) (.nil)) (.nil)) (.node (subD 8) (.node (o12x80 P) (.nil) (.nil)) (.nil))) (.node (o4x24 P) (.node (subD 0) (.node (subD 32) (.nil) (.nil)) (.nil)) (.node (subD 16) (.node (o12x88 P) (.nil) (.nil)) (.nil)))) (.node (o12x12 P) (.node (o3x20 P) (.node (o5x36 P) (.node (subD 28) (.nil) (.nil)) (.nil)) (.node (subD 12) (.node (o12x84 P) (.nil) (.nil)) (.nil))) (.node (o4x28 P) (.node (subD 4) (.node (subD 36) (.nil) (.nil)) (.nil)) (.node (subD 20) (.node (o12x92 P) (.nil) (.nil)) (.nil))))) (.node (boot_o_6 P) (.node (boot_o_10 P) (.node (o3x18 P) (.node (o5x34 P) (.node (subD 26) (.nil) (.nil)) (.nil)) (.node (subD 10) (.node (o12x82 P) (.nil) (.nil)) (.nil))) (.node (o4x26 P) (.node (subD 2) (.node (subD 34) (.nil) (.nil)) (.nil)) (.node (subD 18) (.node (o12x90 P) (.nil) (.nil)) (.nil)))) (.node (o0x14 P) (.node (o4x22 P) (.node (o5x38 P) (.node (subD 30) (.nil) (.nil)) (.nil)) (.node (subD 14) (.node (o12x86 P) (.nil) (.nil)) (.nil))) (.node (o4x30 P) (.node (subD 6) (.node (subD 38) (.nil) (.nil)) (.nil)) (.node (subD 22) (.nil) (.nil))))))
noncomputable def S12 (w : World) (os : OsState) : SharedT := ⟨tr12 w.params, 93, (boot_heap w.params).life, #[], boot_drawn, 2242, os⟩
noncomputable def pos12 : Pos := ⟨24, 0, 29, 21⟩
noncomputable def o18x3 (P : Params) : Obj := ⟨.type "dict", none, .dict #[⟨PyData.keyHash P ⟨#[95, 95, 110, 97, 109, 101, 95, 95]⟩, .str ⟨#[95, 95, 110, 97, 109, 101, 95, 95]⟩ 165, .str ⟨#[108, 97, 119, 95, 114, 108, 48, 49, 48, 56, 95, 48, 49]⟩ 2262⟩, ⟨PyData.keyHash P ⟨#[95, 95, 100, 111, 99, 95, 95]⟩, .str ⟨#[95, 95, 100, 111, 99, 95, 95]⟩ 166, .none⟩, ⟨PyData.keyHash P ⟨#[95, 95, 112, 97, 99, 107, 97, 103, 101, 95, 95]⟩, .str ⟨#[95, 95, 112, 97, 99, 107, 97, 103, 101, 95, 95]⟩ 167, .none⟩, ⟨PyData.keyHash P ⟨#[95, 95, 108, 111, 97, 100, 101, 114, 95, 95]⟩, .str ⟨#[95, 95, 108, 111, 97, 100, 101, 114, 95, 95]⟩ 168, .builtin "__main__.__loader__#opaque"⟩, ⟨PyData.keyHash P ⟨#[95, 95, 115, 112, 101, 99, 95, 95]⟩, .str ⟨#[95, 95, 115, 112, 101, 99, 95, 95]⟩ 169, .none⟩, ⟨PyData.keyHash P ⟨#[95, 95, 97, 110, 110, 111, 116, 97, 116, 105, 111, 110, 115, 95, 95]⟩, .str ⟨#[95, 95, 97, 110, 110, 111, 116, 97, 116, 105, 111, 110, 115, 95, 95]⟩ 170, .ref 6⟩, ⟨PyData.keyHash P ⟨#[95, 95, 98, 117, 105, 108, 116, 105, 110, 115, 95, 95]⟩, .str ⟨#[95, 95, 98, 117, 105, 108, 116, 105, 110, 115, 95, 95]⟩ 171, .ref 4⟩, ⟨PyData.keyHash P ⟨#[95, 95, 102, 105, 108, 101, 95, 95]⟩, .str ⟨#[95, 95, 102, 105, 108, 101, 95, 95]⟩ 173, .str ⟨#[47, 99, 108, 97, 105, 109, 47, 99, 117, 116, 46, 112, 121]⟩ 172⟩, ⟨PyData.keyHash P ⟨#[95, 95, 99, 97, 99, 104, 101, 100, 95, 95]⟩, .str ⟨#[95, 95, 99, 97, 99, 104, 101, 100, 95, 95]⟩ 174, .none⟩, ⟨PyData.keyHash P ⟨#[95, 112, 97, 114, 115, 101, 95, 118, 97, 114, 105, 110, 116]⟩, .str ⟨#[95, 112, 97, 114, 115, 101, 95, 118, 97, 114, 105, 110, 116]⟩ 197, .ref 21⟩, ⟨PyData.keyHash P ⟨#[98, 49, 95, 115, 101, 116]⟩, .str ⟨#[98, 49, 95, 115, 101, 116]⟩ 259, .ref 29⟩, ⟨PyData.keyHash P ⟨#[105, 110, 95, 116, 97, 98, 108, 101, 95, 98, 49]⟩, .str ⟨#[105, 110, 95, 116, 97, 98, 108, 101, 95, 98, 49]⟩ 266, .ref 39⟩, ⟨PyData.keyHash P ⟨#[98, 51, 95, 101, 120, 99, 101, 112, 116, 105, 111, 110, 115]⟩, .str ⟨#[98, 51, 95, 101, 120, 99, 101, 112, 116, 105, 111, 110, 115]⟩ 2217, .ref 40⟩, ⟨PyData.keyHash P ⟨#[109, 97, 112, 95, 116, 97, 98, 108, 101, 95, 98, 51]⟩, .str ⟨#[109, 97, 112, 95, 116, 97, 98, 108, 101, 95, 98, 51]⟩ 2225, .ref 85⟩, ⟨PyData.keyHash P ⟨#[95, 77, 65, 88, 95, 83, 84, 82, 73, 78, 71, 95, 83, 73, 90, 69]⟩, .str ⟨#[95, 77, 65, 88, 95, 83, 84, 82, 73, 78, 71, 95, 83, 73, 90, 69]⟩ 2229, .int 40 2228⟩, ⟨PyData.keyHash P ⟨#[95, 77, 79, 86, 69, 95, 67, 79, 83, 84]⟩, .str ⟨#[95, 77, 79, 86, 69, 95, 67, 79, 83, 84]⟩ 2231, .int 2 2230⟩, ⟨PyData.keyHash P ⟨#[95, 67, 65, 83, 69, 95, 67, 79, 83, 84]⟩, .str ⟨#[95, 67, 65, 83, 69, 95, 67, 79, 83, 84]⟩ 2233, .int 1 2232⟩, ⟨PyData.keyHash P ⟨#[95, 115, 117, 98, 115, 116, 105, 116, 117, 116, 105, 111, 110, 95, 99, 111, 115, 116]⟩, .str ⟨#[95, 115, 117, 98, 115, 116, 105, 116, 117, 116, 105, 111, 110, 95, 99, 111, 115, 116]⟩ 2241, .ref 92⟩, ⟨PyData.keyHash P ⟨#[95, 108, 101, 118, 101, 110, 115, 104, 116, 101, 105, 110, 95, 100, 105, 115, 116, 97, 110, 99, 101]⟩, .str ⟨#[95, 108, 101, 118, 101, 110, 115, 104, 116, 101, 105, 110, 95, 100, 105, 115, 116, 97, 110, 99, 101]⟩ 2261, .ref 99⟩, ⟨PyData.keyHash P ⟨#[95, 108, 97, 119, 95, 115, 105, 103, 110, 115]⟩, .str ⟨#[95, 108, 97, 119, 95, 115, 105, 103, 110, 115]⟩ 2272, .ref 106⟩, ⟨PyData.keyHash P ⟨#[95, 108, 97, 119, 95, 114, 101, 115, 116]⟩, .str ⟨#[95, 108, 97, 119, 95, 114, 101, 115, 116]⟩ 2284, .ref 113⟩, ⟨PyData.keyHash P ⟨#[95, 108, 97, 119, 95, 111, 99, 116, 101, 116, 115]⟩, .str ⟨#[95, 108, 97, 119, 95, 111, 99, 116, 101, 116, 115]⟩ 2290, .ref 118⟩, ⟨PyData.keyHash P ⟨#[108, 97, 119]⟩, .str ⟨#[108, 97, 119]⟩ 2296, .ref 123⟩] 23, #[]⟩
noncomputable def o18x12 (P : Params) : Obj := ⟨.none, none, .fields #[.int 2 0, .int 0 0, .ref 20, .int 12 0, .int 0 0, .ref 38, .int 15 0, .int 0 0, .ref 84, .int 24 0, .int 0 0, .ref 91, .int 30 0, .int 0 0, .ref 98, .int 69 0, .int 0 0, .ref 105, .int 73 0, .int 0 0, .ref 112, .int 79 0, .int 0 0, .ref 117, .int 88 0, .int 0 0, .ref 122], #[]⟩
noncomputable def o18x93 (P : Params) : Obj := ⟨.type "tuple", none, .seq #[] 0, #[]⟩
noncomputable def o18x94 (P : Params) : Obj := ⟨.none, none, .fields #[], #[]⟩
noncomputable def o18x95 (P : Params) : Obj := ⟨.type "tuple", none, .seq #[.str ⟨#[97]⟩ 2245, .str ⟨#[98]⟩ 2246, .str ⟨#[109, 97, 120, 95, 99, 111, 115, 116]⟩ 2247, .str ⟨#[112, 114, 101]⟩ 2248, .str ⟨#[112, 111, 115, 116]⟩ 2249, .str ⟨#[114, 111, 119]⟩ 2250, .str ⟨#[114, 101, 115, 117, 108, 116]⟩ 2251, .str ⟨#[98, 105, 110, 100, 101, 120]⟩ 2252, .str ⟨#[98, 99, 104, 97, 114]⟩ 2253, .str ⟨#[100, 105, 115, 116, 97, 110, 99, 101]⟩ 2254, .str ⟨#[109, 105, 110, 105, 109, 117, 109]⟩ 2255, .str ⟨#[105, 110, 100, 101, 120]⟩ 2256, .str ⟨#[115, 117, 98, 115, 116, 105, 116, 117, 116, 101]⟩ 2257, .str ⟨#[105, 110, 115, 101, 114, 116, 95, 100, 101, 108, 101, 116, 101]⟩ 2258] 0, #[]⟩
noncomputable def o18x96 (P : Params) : Obj := ⟨.type "tuple", none, .seq #[] 0, #[]⟩
noncomputable def o18x97 (P : Params) : Obj := ⟨.none, none, .func (fnAt 12 ⟨#[95, 108, 101, 118, 101, 110, 115, 104, 116, 101, 105, 110, 95, 100, 105, 115, 116, 97, 110, 99, 101]⟩ ⟨#[95, 108, 101, 118, 101, 110, 115, 104, 116, 101, 105, 110, 95, 100, 105, 115, 116, 97, 110, 99, 101]⟩ 0 (.none) (.none) (.none)), #[]⟩
noncomputable def o18x98 (P : Params) : Obj := ⟨.type "code", none, .fields #[.str ⟨#[95, 108, 101, 118, 101, 110, 115, 104, 116, 101, 105, 110, 95, 100, 105, 115, 116, 97, 110, 99, 101]⟩ 2242, .str ⟨#[95, 108, 101, 118, 101, 110, 115, 104, 116, 101, 105, 110, 95, 100, 105, 115, 116, 97, 110, 99, 101]⟩ 2243, .str ⟨#[47, 99, 108, 97, 105, 109, 47, 99, 117, 116, 46, 112, 121]⟩ 2244, .int 30 0, .int 3 0, .int 0 0, .int 0 0, .int 3 0, .ref 93, .bool true, .int 181 0, .ref 94, .none, .ref 95, .ref 96, .ref 97, .int 2259 0, .int 30 0, .str ⟨#[47, 99, 108, 97, 105, 109, 47, 99, 117, 116, 46, 112, 121]⟩ 2260], #[]⟩
noncomputable def o18x99 (P : Params) : Obj := ⟨.type "function", none, .func (fnAt 12 ⟨#[95, 108, 101, 118, 101, 110, 115, 104, 116, 101, 105, 110, 95, 100, 105, 115, 116, 97, 110, 99, 101]⟩ ⟨#[95, 108, 101, 118, 101, 110, 115, 104, 116, 101, 105, 110, 95, 100, 105, 115, 116, 97, 110, 99, 101]⟩ 3 (.str ⟨#[99, 112, 121, 51, 49, 51, 46, 116, 114, 97, 99, 101, 98, 97, 99, 107]⟩ 2226) (.ref 98) (.none)), #[]⟩
noncomputable def o18x100 (P : Params) : Obj := ⟨.type "tuple", none, .seq #[] 0, #[]⟩
noncomputable def o18x101 (P : Params) : Obj := ⟨.none, none, .fields #[], #[]⟩
noncomputable def o18x102 (P : Params) : Obj := ⟨.type "tuple", none, .seq #[.str ⟨#[107]⟩ 2267, .str ⟨#[115, 105, 103, 110, 115]⟩ 2268, .str ⟨#[109, 101, 97, 110, 115]⟩ 2269] 0, #[]⟩
noncomputable def o18x103 (P : Params) : Obj := ⟨.type "tuple", none, .seq #[] 0, #[]⟩
noncomputable def o18x104 (P : Params) : Obj := ⟨.none, none, .func (fnAt 14 ⟨#[95, 108, 97, 119, 95, 115, 105, 103, 110, 115]⟩ ⟨#[95, 108, 97, 119, 95, 115, 105, 103, 110, 115]⟩ 0 (.none) (.none) (.none)), #[]⟩
noncomputable def o18x105 (P : Params) : Obj := ⟨.type "code", none, .fields #[.str ⟨#[95, 108, 97, 119, 95, 115, 105, 103, 110, 115]⟩ 2264, .str ⟨#[95, 108, 97, 119, 95, 115, 105, 103, 110, 115]⟩ 2265, .str ⟨#[47, 99, 108, 97, 105, 109, 47, 99, 117, 116, 46, 112, 121]⟩ 2266, .int 69 0, .int 1 0, .int 0 0, .int 0 0, .int 3 0, .ref 100, .bool true, .int 181 0, .ref 101, .none, .ref 102, .ref 103, .ref 104, .int 2270 0, .int 69 0, .str ⟨#[47, 99, 108, 97, 105, 109, 47, 99, 117, 116, 46, 112, 121]⟩ 2271], #[]⟩
noncomputable def o18x106 (P : Params) : Obj := ⟨.type "function", none, .func (fnAt 14 ⟨#[95, 108, 97, 119, 95, 115, 105, 103, 110, 115]⟩ ⟨#[95, 108, 97, 119, 95, 115, 105, 103, 110, 115]⟩ 3 (.str ⟨#[108, 97, 119, 95, 114, 108, 48, 49, 48, 56, 95, 48, 49]⟩ 2262) (.ref 105) (.none)), #[]⟩
noncomputable def o18x107 (P : Params) : Obj := ⟨.type "tuple", none, .seq #[] 0, #[]⟩
noncomputable def o18x108 (P : Params) : Obj := ⟨.none, none, .fields #[], #[]⟩
noncomputable def o18x109 (P : Params) : Obj := ⟨.type "tuple", none, .seq #[.str ⟨#[107]⟩ 2276, .str ⟨#[120]⟩ 2277, .str ⟨#[111, 110, 101]⟩ 2278, .str ⟨#[116, 119, 111]⟩ 2279, .str ⟨#[104, 105, 100, 100, 101, 110]⟩ 2280, .str ⟨#[112, 108, 97, 99, 101]⟩ 2281] 0, #[]⟩
noncomputable def o18x110 (P : Params) : Obj := ⟨.type "tuple", none, .seq #[] 0, #[]⟩
noncomputable def o18x111 (P : Params) : Obj := ⟨.none, none, .func (fnAt 15 ⟨#[95, 108, 97, 119, 95, 114, 101, 115, 116]⟩ ⟨#[95, 108, 97, 119, 95, 114, 101, 115, 116]⟩ 0 (.none) (.none) (.none)), #[]⟩
noncomputable def o18x112 (P : Params) : Obj := ⟨.type "code", none, .fields #[.str ⟨#[95, 108, 97, 119, 95, 114, 101, 115, 116]⟩ 2273, .str ⟨#[95, 108, 97, 119, 95, 114, 101, 115, 116]⟩ 2274, .str ⟨#[47, 99, 108, 97, 105, 109, 47, 99, 117, 116, 46, 112, 121]⟩ 2275, .int 73 0, .int 2 0, .int 0 0, .int 0 0, .int 3 0, .ref 107, .bool true, .int 181 0, .ref 108, .none, .ref 109, .ref 110, .ref 111, .int 2282 0, .int 73 0, .str ⟨#[47, 99, 108, 97, 105, 109, 47, 99, 117, 116, 46, 112, 121]⟩ 2283], #[]⟩
noncomputable def o18x113 (P : Params) : Obj := ⟨.type "function", none, .func (fnAt 15 ⟨#[95, 108, 97, 119, 95, 114, 101, 115, 116]⟩ ⟨#[95, 108, 97, 119, 95, 114, 101, 115, 116]⟩ 3 (.str ⟨#[108, 97, 119, 95, 114, 108, 48, 49, 48, 56, 95, 48, 49]⟩ 2262) (.ref 112) (.none)), #[]⟩
noncomputable def o18x114 (P : Params) : Obj := ⟨.type "tuple", none, .seq #[] 0, #[]⟩
noncomputable def o18x115 (P : Params) : Obj := ⟨.none, none, .fields #[], #[]⟩
noncomputable def o18x116 (P : Params) : Obj := ⟨.none, none, .func (fnAt 16 ⟨#[95, 108, 97, 119, 95, 111, 99, 116, 101, 116, 115]⟩ ⟨#[95, 108, 97, 119, 95, 111, 99, 116, 101, 116, 115]⟩ 0 (.none) (.none) (.none)), #[]⟩
noncomputable def o18x117 (P : Params) : Obj := ⟨.type "code", none, .fields #[.str ⟨#[95, 108, 97, 119, 95, 111, 99, 116, 101, 116, 115]⟩ 2285, .str ⟨#[95, 108, 97, 119, 95, 111, 99, 116, 101, 116, 115]⟩ 2286, .str ⟨#[47, 99, 108, 97, 105, 109, 47, 99, 117, 116, 46, 112, 121]⟩ 2287, .int 79 0, .int 1 0, .int 0 0, .int 0 0, .int 3 0, .ref 114, .bool true, .int 181 0, .ref 115, .none, .none, .none, .ref 116, .int 2288 0, .int 79 0, .str ⟨#[47, 99, 108, 97, 105, 109, 47, 99, 117, 116, 46, 112, 121]⟩ 2289], #[]⟩
noncomputable def o18x118 (P : Params) : Obj := ⟨.type "function", none, .func (fnAt 16 ⟨#[95, 108, 97, 119, 95, 111, 99, 116, 101, 116, 115]⟩ ⟨#[95, 108, 97, 119, 95, 111, 99, 116, 101, 116, 115]⟩ 3 (.str ⟨#[108, 97, 119, 95, 114, 108, 48, 49, 48, 56, 95, 48, 49]⟩ 2262) (.ref 117) (.none)), #[]⟩
noncomputable def o18x119 (P : Params) : Obj := ⟨.type "tuple", none, .seq #[] 0, #[]⟩
noncomputable def o18x120 (P : Params) : Obj := ⟨.none, none, .fields #[], #[]⟩
noncomputable def o18x121 (P : Params) : Obj := ⟨.none, none, .func (fnAt 17 ⟨#[108, 97, 119]⟩ ⟨#[108, 97, 119]⟩ 0 (.none) (.none) (.none)), #[]⟩
noncomputable def o18x122 (P : Params) : Obj := ⟨.type "code", none, .fields #[.str ⟨#[108, 97, 119]⟩ 2291, .str ⟨#[108, 97, 119]⟩ 2292, .str ⟨#[47, 99, 108, 97, 105, 109, 47, 99, 117, 116, 46, 112, 121]⟩ 2293, .int 88 0, .int 1 0, .int 0 0, .int 0 0, .int 3 0, .ref 119, .bool true, .int 181 0, .ref 120, .none, .none, .none, .ref 121, .int 2294 0, .int 88 0, .str ⟨#[47, 99, 108, 97, 105, 109, 47, 99, 117, 116, 46, 112, 121]⟩ 2295], #[]⟩
noncomputable def o18x123 (P : Params) : Obj := ⟨.type "function", none, .func (fnAt 17 ⟨#[108, 97, 119]⟩ ⟨#[108, 97, 119]⟩ 3 (.str ⟨#[108, 97, 119, 95, 114, 108, 48, 49, 48, 56, 95, 48, 49]⟩ 2262) (.ref 122) (.none)), #[]⟩
noncomputable def tr18 (P : Params) : BT := .node (boot_o_0 P) (.node (boot_o_1 P) (.node (o18x3 P) (.node (boot_o_7 P) (.node (o3x15 P) (.node (o4x31 P) (.node (subD 23) (.nil) (.nil)) (.node (o18x95 P) (.nil) (.nil))) (.node (subD 7) (.node (o12x79 P) (.nil) (.nil)) (.node (o18x111 P) (.nil) (.nil)))) (.node (o4x23 P) (.node (o5x39 P) (.node (subD 31) (.nil) (.nil)) (.node (o18x103 P) (.nil) (.nil))) (.node (subD 15) (.node (o12x87 P) (.nil) (.nil)) (.node (o18x119 P) (.nil) (.nil))))) (.node (o0x11 P) (.node (o3x19 P) (.node (o5x35 P) (.node (subD 27) (.nil) (.nil)) (.node (o18x99 P) (.nil) (.nil))) (.node (subD 11) (.node (o12x83 P) (.nil) (.nil)) (.node (o18x115 P) (.nil) (.nil)))) (.node (o4x27 P) (.node (subD 3) (.node (subD 35) (.nil) (.nil)) (.node (o18x107 P) (.nil) (.nil))) (.node (subD 19) (.node (o12x91 P) (.nil) (.nil)) (.node (o18x123 P) (.nil) (.nil)))))) (.node (boot_o_5 P) (.node (boot_o_9 P) (.node (o3x17 P) (.node (o5x33 P) (.node (subD 25) (.nil) (.nil)) (.node (o18x97 P) (.nil) (.nil))) (.node (subD 9) (.node (o12x81 P) (.nil) (.nil)) (.node (o18x113 P) (.nil) (.nil)))) (.node (o4x25 P) (.node (subD 1) (.node (subD 33) (.nil) (.nil)) (.node (o18x105 P) (.nil) (.nil))) (.node (subD 17) (.node (o12x89 P) (.nil) (.nil)) (.node (o18x121 P) (.nil) (.nil))))) (.node (o0x13 P) (.node (o3x21 P) (.node (o5x37 P) (.node (subD 29) (.nil) (.nil)) (.node (o18x101 P) (.nil) (.nil))) (.node (subD 13) (.node (o12x85 P) (.nil) (.nil)) (.node (o18x117 P) (.nil) (.nil)))) (.node (o4x29 P) (.node (subD 5) (.node (subD 37) (.nil) (.nil)) (.node (o18x109 P) (.nil) (.nil))) (.node (subD 21) (.node (o18x93 P) (.nil) (.nil)) (.nil)))))) (.node (boot_o_2 P) (.node (boot_o_4 P) (.node (boot_o_8 P) (.node (o3x16 P) (.node (o4x32 P) (.node (subD 24) (.nil) (.nil)) (.node (o18x96 P) (.nil) (.nil))) (.node (subD 8) (.node (o12x80 P) (.nil) (.nil)) (.node (o18x112 P) (.nil) (.nil)))) (.node (o4x24 P) (.node (subD 0) (.node (subD 32) (.nil) (.nil)) (.node (o18x104 P) (.nil) (.nil))) (.node (subD 16) (.node (o12x88 P) (.nil) (.nil)) (.node (o18x120 P) (.nil) (.nil))))) (.node (o18x12 P) (.node (o3x20 P) (.node (o5x36 P) (.node (subD 28) (.nil) (.nil)) (.node (o18x100 P) (.nil) (.nil))) (.node (subD 12) (.node (o12x84 P) (.nil) (.nil)) (.node (o18x116 P) (.nil) (.nil)))) (.node (o4x28 P) (.node (subD 4) (.node (subD 36) (.nil) (.nil)) (.node (o18x108 P) (.nil) (.nil))) (.node (subD 20) (.node (o12x92 P) (.nil) (.nil)) (.nil))))) (.node (boot_o_6 P) (.node (boot_o_10 P) (.node (o3x18 P) (.node (o5x34 P) (.node (subD 26) (.nil) (.nil)) (.node (o18x98 P) (.nil) (.nil))) (.node (subD 10) (.node (o12x82 P) (.nil) (.nil)) (.node (o18x114 P) (.nil) (.nil)))) (.node (o4x26 P) (.node (subD 2) (.node (subD 34) (.nil) (.nil)) (.node (o18x106 P) (.nil) (.nil))) (.node (subD 18) (.node (o12x90 P) (.nil) (.nil)) (.node (o18x122 P) (.nil) (.nil))))) (.node (o0x14 P) (.node (o4x22 P) (.node (o5x38 P) (.node (subD 30) (.nil) (.nil)) (.node (o18x102 P) (.nil) (.nil))) (.node (subD 14) (.node (o12x86 P) (.nil) (.nil)) (.node (o18x118 P) (.nil) (.nil)))) (.node (o4x30 P) (.node (subD 6) (.node (subD 38) (.nil) (.nil)) (.node (o18x110 P) (.nil) (.nil))) (.node (subD 22) (.node (o18x94 P) (.nil) (.nil)) (.nil))))))
noncomputable def S18 (w : World) (os : OsState) : SharedT := ⟨tr18 w.params, 124, (boot_heap w.params).life, #[], boot_drawn, 2297, os⟩
noncomputable def pos18 : Pos := ⟨88, 0, 118, 15⟩
theorem g1 (w : World) (os : OsState) : segRunT treeTable pw w 11 (some (.ref 6)) 1 100 (S0 w os) (piecesOf [stAt 0, stAt 1, stAt 2] env0 cE pos0 BB) = some (.next, S3 w os, cE, pos3) := by
  rw [PySem.W.Fast.te10110043849684766642, PySem.W.Fast.te14364793385576792824]
  unfold piecesOf
  rw [PySem.W.Fast.te12563942051412417395]
  kernel_rfl
theorem g3 (w : World) (os : OsState) : segRunT treeTable pw w 11 (some (.ref 6)) 1 100 (S4 w os) (piecesOf [stAt 4] env0 cE pos4 BB) = some (.next, S5 w os, cE, pos5) := by
  rw [PySem.W.Fast.te10110043849684766642, PySem.W.Fast.te14364793385576792824]
  unfold piecesOf
  rw [PySem.W.Fast.te12563942051412417395]
  kernel_rfl
theorem g5 (w : World) (os : OsState) : segRunT treeTable pw w 11 (some (.ref 6)) 1 200 (S6 w os) (piecesOf [stAt 6, stAt 7, stAt 8, stAt 9, stAt 10, stAt 11] env0 cE pos6 BB) = some (.next, S12 w os, cE, pos12) := by
  rw [PySem.W.Fast.te10110043849684766642, PySem.W.Fast.te14364793385576792824]
  unfold piecesOf
  rw [PySem.W.Fast.te12563942051412417395]
  kernel_rfl
theorem g6 (w : World) (os : OsState) : segRunT treeTable pw w 11 (some (.ref 6)) 1 300 (S12 w os) (piecesOf [stAt 12, stAt 13, stAt 14, stAt 15, stAt 16, stAt 17] env0 cE pos12 BB) = some (.next, S18 w os, cE, pos18) := by
  rw [PySem.W.Fast.te10110043849684766642, PySem.W.Fast.te14364793385576792824]
  unfold piecesOf
  rw [PySem.W.Fast.te12563942051412417395]
  kernel_rfl
theorem g2a (w : World) : (fun os => segRunT treeTable pw ((w.withFollow "special-get-raises" false).withFollow "set-order" false) 11 (some (.ref 6)) 1 1100 (S3 ((w.withFollow "special-get-raises" false).withFollow "set-order" false) os) (piecesOf [stAt 3] env0 cE pos3 BB)) = fun os => some (.next, S4 ((w.withFollow "special-get-raises" false).withFollow "set-order" false) os, cE, pos4) := by
  rw [PySem.W.Fast.te10110043849684766642, PySem.W.Fast.te14364793385576792824]
  unfold piecesOf
  rw [PySem.W.Fast.te12563942051412417395]
  kernel_rfl
theorem g2b (w : World) : (fun os => segRunT treeTable pw ((w.withFollow "special-get-raises" false).withFollow "set-order" true) 11 (some (.ref 6)) 1 1100 (S3 ((w.withFollow "special-get-raises" false).withFollow "set-order" true) os) (piecesOf [stAt 3] env0 cE pos3 BB)) = fun os => some (.next, S4 ((w.withFollow "special-get-raises" false).withFollow "set-order" true) os, cE, pos4) := by
  rw [PySem.W.Fast.te10110043849684766642, PySem.W.Fast.te14364793385576792824]
  unfold piecesOf
  rw [PySem.W.Fast.te12563942051412417395]
  kernel_rfl
theorem g2c (w : World) : (fun os => segRunT treeTable pw ((w.withFollow "special-get-raises" true).withFollow "set-order" false) 11 (some (.ref 6)) 1 1100 (S3 ((w.withFollow "special-get-raises" true).withFollow "set-order" false) os) (piecesOf [stAt 3] env0 cE pos3 BB)) = fun os => some (.next, S4 ((w.withFollow "special-get-raises" true).withFollow "set-order" false) os, cE, pos4) := by
  rw [PySem.W.Fast.te10110043849684766642, PySem.W.Fast.te14364793385576792824]
  unfold piecesOf
  rw [PySem.W.Fast.te12563942051412417395]
  kernel_rfl
theorem g2d (w : World) : (fun os => segRunT treeTable pw ((w.withFollow "special-get-raises" true).withFollow "set-order" true) 11 (some (.ref 6)) 1 1100 (S3 ((w.withFollow "special-get-raises" true).withFollow "set-order" true) os) (piecesOf [stAt 3] env0 cE pos3 BB)) = fun os => some (.next, S4 ((w.withFollow "special-get-raises" true).withFollow "set-order" true) os, cE, pos4) := by
  rw [PySem.W.Fast.te10110043849684766642, PySem.W.Fast.te14364793385576792824]
  unfold piecesOf
  rw [PySem.W.Fast.te12563942051412417395]
  kernel_rfl
theorem g2 : ∀ w : World, (fun os => segRunT treeTable pw w 11 (some (.ref 6)) 1 1100 (S3 w os) (piecesOf [stAt 3] env0 cE pos3 BB)) = fun os => some (.next, S4 w os, cE, pos4) :=
  byRow2 "set-order" (P := fun w => (fun os => segRunT treeTable pw w 11 (some (.ref 6)) 1 1100 (S3 w os) (piecesOf [stAt 3] env0 cE pos3 BB)) = fun os => some (.next, S4 w os, cE, pos4))
    (byRow2 "special-get-raises" (P := fun w => (fun os => segRunT treeTable pw (w.withFollow "set-order" false) 11 (some (.ref 6)) 1 1100 (S3 (w.withFollow "set-order" false) os) (piecesOf [stAt 3] env0 cE pos3 BB)) = fun os => some (.next, S4 (w.withFollow "set-order" false) os, cE, pos4)) g2a g2c)
    (byRow2 "special-get-raises" (P := fun w => (fun os => segRunT treeTable pw (w.withFollow "set-order" true) 11 (some (.ref 6)) 1 1100 (S3 (w.withFollow "set-order" true) os) (piecesOf [stAt 3] env0 cE pos3 BB)) = fun os => some (.next, S4 (w.withFollow "set-order" true) os, cE, pos4)) g2b g2d)
end Mine
end

section
open PySem PySem.W PyProof.Rows
set_option maxRecDepth 100000
set_option linter.unusedVariables false
namespace Mine
theorem swaps5 : swapsWithSole ts5 (.Dict ks5 vs5 dpos) apos.line env0 = .pure false := by kernel_rfl
noncomputable def tail5 (v : Value) : Sem Flow := do assignStores env0 v (← swappedStores ts5 (.Dict ks5 vs5 dpos) env0) ((assignEach ts5 env0).map (·.2))
theorem g4t (w : World) (os : OsState) (pos : Pos) : segRunT treeTable pw w 11 (some (.ref 6)) 1 20 (S5b w os) ⟨(tail5 (.ref 40)).wrap doneF deadEnd id id, cE, pos, BB⟩ = some (.next, S6 w os, cE, pos6) := by
  rw [PySem.W.Fast.te10110043849684766642, PySem.W.Fast.te14364793385576792824]
  kernel_rfl
theorem s5_abs (w : World) (os : OsState) : (S5 w os).abs = st (S5 w os).abs (boot_heap w.params).life ((tr5 w.params).list 40) 267 := rfl
theorem s5b_abs (w : World) (os : OsState) : (S5b w os).abs = st (S5 w os).abs (boot_heap w.params).life ((tr5 w.params).list 40 ++ subD 0 :: subsE) 2217 := by
  have e : (tr5b w.params).list 79 = (tr5 w.params).list 40 ++ subD 0 :: subsE := by kernel_rfl
  show (⟨absHeap (tr5b w.params) 79 (boot_heap w.params).life, #[], boot_drawn, 2217, os⟩ : Shared) = _
  unfold absHeap
  rw [e]
  rfl
theorem g4 (w : World) (os : OsState) {K : Flow → Sem Fin} {H : Value → Sem Fin} {N : Nat} {r : Shared} (pos : Pos) (k : topRun treeTable pw w 11 (some (.ref 6)) N (S6 w os).abs ⟨K .next, cE, pos6, BB⟩ = some r) :
    topRun treeTable pw w 11 (some (.ref 6)) (12517 + (20 + N)) (S5 w os).abs ⟨(exec (stAt 5) env0).wrap K H id id, cE, pos, BB⟩ = some r := by
  have e : exec (stAt 5) env0 = (standAt apos >>= fun _ => (eval (.Dict ks5 vs5 dpos) env0 >>= tail5)) := by
    rw [st5_eq, arm_exec_Assign, swaps5]
    rfl
  have h1 : Ex w (1 + 12516) (standAt apos >>= fun _ => eval (.Dict ks5 vs5 dpos) env0) (S5 w os).abs (.ref 40) (S5b w os).abs := by
    rw [s5_abs, s5b_abs]
    exact ex_bind' (ex_at ex_pure) (ex_b3 (by simp [BT.list]))
  rw [e]
  have e2 : (standAt apos >>= fun _ => (eval (.Dict ks5 vs5 dpos) env0 >>= tail5)).wrap K H id id = (standAt apos >>= fun _ => eval (.Dict ks5 vs5 dpos) env0).wrap (fun v => (tail5 v).wrap K H id id) H id id := by
    rw [← bind_assoc, Sem.bind_eq_wrap', Sem.wrap_wrap]
    rfl
  rw [e2]
  refine h1 _ H id id cE _ [] pos (20 + N) r fun pos' => ?_
  obtain ⟨a, ha, hN⟩ := seg_top (res := id) (K' := K) (H' := H) (B := BB) rfl 20 (S5b w os).abs ⟨(tail5 (.ref 40)).wrap doneF deadEnd id id, cE, pos', BB⟩ ⟨(tail5 (.ref 40)).wrap K H id id, cE, pos', BB⟩ _ _ _ _ ⟨rfl, rfl, .inl ⟨rfl, rfl, _, rfl, rfl⟩⟩ (segRun_of (g4t w os pos'))
  obtain rfl : a = .next := ha
  exact hN N r k
end Mine
end

section
open PySem PySem.W PyProof.Rows
set_option maxRecDepth 100000
set_option linter.unusedVariables false
namespace Mine
theorem gpre (w : World) (os : OsState) : topGo treeTable pw w 11 (some (.ref 6)) 12 ⟨boot_heap w.params, Array.mk [], boot_drawn, boot_toks, os⟩ (topStub pw) = some ((S0 w os).abs, ⟨denote treeTable cE, cE, pos0, BB⟩) := by
  rw [PySem.W.Fast.te15667345088766844465, PySem.W.Fast.te14364793385576792824, PySem.W.Fast.te11892475500146522536]
  kernel_rfl
theorem gblock (w : World) (os : OsState) : segRun treeTable pw w 11 (some (.ref 6)) 1 1 (S0 w os).abs (blockOf (behindTheImports pw) env0 cE pos0 BB) = some (.next, (S0 w os).abs, cE, pos0) := by
  rw [PySem.W.Fast.te14374325043358763698, PySem.W.Fast.te14364793385576792824]
  kernel_rfl
theorem gfin (w : World) (os : OsState) : topRun treeTable pw w 11 (some (.ref 6)) 3 (S18 w os).abs ⟨doneF .next, cE, pos18, BB⟩ = some (S18 w os).abs := by
  rw [PySem.W.Fast.te14082659384304107361, PySem.W.Fast.te14364793385576792824]
  kernel_rfl
theorem body_eq : behindTheImports pw = [stAt 0, stAt 1, stAt 2] ++ ([stAt 3] ++ ([stAt 4] ++ (stAt 5 :: ([stAt 6, stAt 7, stAt 8, stAt 9, stAt 10, stAt 11] ++ ([stAt 12, stAt 13, stAt 14, stAt 15, stAt 16, stAt 17] ++ []))))) := by kernel_rfl
theorem grun (w : World) (os : OsState) : topRun treeTable pw w 11 (some (.ref 6)) 14500 ⟨boot_heap w.params, Array.mk [], boot_drawn, boot_toks, os⟩ (topStub pw) = some (S18 w os).abs := by
  have k7 := piece_nil (env := env0) (gfin w os)
  have k6 := piece_app (segRun_of (g6 w os)) k7
  have k5 := piece_app (segRun_of (g5 w os)) k6
  have k4 : topRun treeTable pw w 11 (some (.ref 6)) (12517 + (20 + (200 + (300 + 3)))) (S5 w os).abs (restOf (stAt 5 :: ([stAt 6, stAt 7, stAt 8, stAt 9, stAt 10, stAt 11] ++ ([stAt 12, stAt 13, stAt 14, stAt 15, stAt 16, stAt 17] ++ []))) env0 cE pos5 BB) = some (S18 w os).abs := by
    unfold restOf
    rw [execs_cons_wrap]
    exact g4 w os pos5 k5
  have k3 := piece_app (segRun_of (g3 w os)) k4
  have k2 := piece_app (segRun_of (congrFun (g2 w) os)) k3
  have k1 := piece_app (segRun_of (g1 w os)) k2
  rw [← body_eq] at k1
  have k0 := piece_block (gblock w os) k1
  have k := go_top (gpre w os) k0
  have e : 12 + (1 + (100 + (1100 + (100 + (12517 + (20 + (200 + (300 + 3)))))))) + 147 = 14500 := rfl
  rw [← e]
  exact topRun_mono 147 _ _ _ _ k
end Mine
end

section
open PySem PySem.W PyProof.Rows
set_option maxRecDepth 100000
set_option linter.unusedVariables false
namespace Mine
noncomputable def qv : Program := { pw with main := { pw.main with body := [stAt 1, stAt 4, stAt 6, stAt 8, stAt 9, stAt 10, stAt 11, stAt 12, stAt 14, stAt 15, stAt 16, stAt 17] } }
noncomputable def lo : List Str := [Str.ofString "b1_set", Str.ofString "b3_exceptions"]
/-- the written part of the heap -/
noncomputable def KF (P : Params) : Frag := [(nat_lit 2, boot_o_2 P), (nat_lit 3, o18x3 P), (nat_lit 6, boot_o_6 P),
  (nat_lit 20, o3x20 P), (nat_lit 21, o3x21 P), (nat_lit 38, o5x38 P), (nat_lit 39, o5x39 P), (nat_lit 84, o12x84 P), (nat_lit 85, o12x85 P), (nat_lit 91, o12x91 P), (nat_lit 92, o12x92 P), (nat_lit 98, o18x98 P), (nat_lit 99, o18x99 P), (nat_lit 105, o18x105 P), (nat_lit 106, o18x106 P), (nat_lit 112, o18x112 P), (nat_lit 113, o18x113 P), (nat_lit 117, o18x117 P), (nat_lit 118, o18x118 P), (nat_lit 122, o18x122 P), (nat_lit 123, o18x123 P)]
noncomputable def KA : List Addr := [2, 3, 6, 20, 21, 38, 39, 84, 85, 91, 92, 98, 99, 105, 106, 112, 113, 117, 118, 122, 123]
/-- the set of table B.1 and the table B.3 stand -/
noncomputable def Tabs (w : World) (h : Heap) : Prop := h.get? 29 = some (o4x29 w.params) ∧ h.get? 40 = some (subD 0)
noncomputable def HK : Hook where
  α := List (Option Obj) × Option Obj × Option Obj
  obs := fun s => (KA.map s.heap.get?, s.heap.get? 29, s.heap.get? 40)
  val := fun w => ((KF w.params).map fun p => some p.2, some (o4x29 w.params), some (subD 0))
  says := fun w h => InK KF w h ∧ Tabs w h
  of := fun w s e => ⟨InK.of (K := KF) (as := KA) (fun _ => rfl) w s (congrArg Prod.fst e), congrArg (fun x => x.2.1) e, congrArg (fun x => x.2.2) e⟩
  keeps := fun w h h' x k => ⟨InK.keeps w h h' x.1 k, k _ _ x.2.1, k _ _ x.2.2⟩
noncomputable abbrev xt (R : WRecords) (s : Shared) : Bool := xlAt qv [] s && recOk R s
noncomputable def H1 (P : Params) : Heap := absHeap (tr18 P) 124 (boot_heap P).life
theorem look1 (w : World) (os : OsState) : (staticsOk (importedModules pw.main.body) (boot_heap w.params) (H1 w.params) && namesBound pw (H1 w.params) && gensDone ⟨H1 w.params, Array.mk [], boot_drawn, 2297, os⟩ && laidKept (boot_heap w.params) (H1 w.params)) = true := by
  kernel_rfl
theorem look3 (w : World) (os : OsState) : HK.obs ⟨H1 w.params, Array.mk [], boot_drawn, 2297, os⟩ = HK.val w := by kernel_rfl
theorem look2 (w : World) (os : OsState) : openSeen qv lo (importedModules pw.main.body) (xt []) true ⟨H1 w.params, Array.mk [], boot_drawn, 2297, os⟩ = openGood qv lo := by
  rw [PySem.W.Fast.te4187177175401517315]
  kernel_rfl
theorem left : LeftO pw qv lo (xt []) HK.obs HK.val 14500 :=
  LeftO.of_pieces (H₀ := boot_heap) (H₁ := H1) (gs₀ := Array.mk []) (gs₁ := Array.mk []) (d₀ := boot_drawn) (d₁ := boot_drawn) (k₀ := boot_toks) (k₁ := 2297) (m₀ := 11) (ann := some (.ref 6)) (M := 14500)
    (boot_open (p := pw) (N := 14500) (by kernel_rfl) (by kernel_rfl) (fun s => by kernel_rfl))
    (fun w => by kernel_rfl) (fun w os => grun w os) (by kernel_rfl)
    (fun w => funext fun os => by
      rw [look1 w os, look2 w os, look3 w os])
end Mine
end

section
open PySem PySem.W PyProof.Rows
set_option maxRecDepth 100000
namespace Mine
/-- what a call of a def of the text gives: the ledger behind it and the value -/
noncomputable abbrev MClaim (w : World) (mean : ExcName → Option Value) (mg mb : Str → Option Value) (f : Addr) (news : List (Addr × Obj)) (pre : Heap → Prop) (vs : List Value) (post : Value → List (Addr × Obj) → Prop) : Prop :=
  ∀ (dp un : Nat) (gd : Option (List Code)) (cn : Str) (cs : Scope) (a : Addr) (ccd : Value) (cl : List (Str × Addr)) (outer : List Env) (A₀ : Around) (base h₀ : Heap) (L : Addr) (m : Str → Option Value) (s : Shared) (Q E : Value → Shared → Prop),
    Below A₀ base outer h₀ → Fr h₀ L s.heap m → (KF w.params).In h₀ → News h₀ L s.heap news → Top qv (looseW qv lo) mean mg mb h₀ → cs.kind = .function → Tabs w h₀ → pre h₀ → dp + 5 < recursionLimit → un + 40 < cLine →
    (∀ (r : Value) (news' : List (Addr × Obj)) (h' : Heap) (tk' : Nat), Fr h₀ L h' m → News h₀ L h' news' → post r news' → Q r { s with heap := h', toks := tk' }) →
    wpAny (model PySem.Challenge.rw_rl0108_01.row.prog w) (ktrTop dp un gd cn cs L a ccd cl outer) (call (.ref f) vs) Q E s
noncomputable def substF (x y : Str) : Int := if (x == y) = true then 0 else if (Txt.lower x == Txt.lower y) = true then 1 else 2
end Mine
end

section
open PySem PySem.W PySem.Calls PySem.Spec PyProof.Rows
set_option maxRecDepth 100000
namespace Mine
/-- an iterator over the list l, at place i -/
noncomputable def litO (l : Addr) (i : Nat) : Obj := { cls := .type "list_iterator", data := .fields #[.ref l, .int i 0] }
theorem litO_at {h : Heap} {it l : Addr} {i : Nat} (e : h.get? it = some (litO l i)) : h.IsListIter it l i := ⟨_, e, rfl, rfl⟩
section
variable {prog : Program} {w : World} {A : Around} {E : Value → Shared → Prop} {s : Shared} {h₀ : Heap} {L it l : Addr} {m : Str → Option Value} {news : List (Addr × Obj)} {g : Obj → List (Addr × Obj)} {i : Nat} {vs : List Value} {x : Value}
theorem special_lit {Q : Option Value → Shared → Prop} (ho : s.heap.get? it = some (litO l i)) (hl : s.heap.IsList l vs.toArray) (hx : vs[i]? = some x)
    (hQ : ∀ h', h'.get? it = some (litO l (i + 1)) → Heap.SameBut it s.heap h' → Q (some x) { s with heap := h' }) :
    wpAny (model prog w) A (callSpecial? (.ref it) (Str.ofString "__next__")) Q E s := by
  obtain ⟨ol, hol, _, nl, hdl⟩ := hl
  have hit := litO_at ho
  refine wpAny_callSpecial?_slot (name := Str.ofString "__next__") hit.typeIs slot_listiter_next
    (wpAny_call_entry slot_listiter_next hit.typeIs entry_listiter_next ?_ (args_listiter_next _))
  show wpAny _ _ (field (.ref it) 0 >>= _) _ _ s
  refine wpAny_bind (wpAny_field ho (show (litO l i).data = _ from rfl) (x := .ref l) rfl ?_)
  show wpAny _ _ (if (Value.ref l == Value.none) = true then _ else _) _ _ s
  rw [if_neg (show ¬ ((Value.ref l == Value.none) = true) from Bool.false_ne_true)]
  show wpAny _ _ (field (.ref it) 1 >>= _) _ _ s
  refine wpAny_bind (wpAny_field ho (show (litO l i).data = _ from rfl) (x := .int i 0) rfl ?_)
  show wpAny _ _ (seqItems? (.ref l) >>= _) _ _ s
  refine wpAny_bind (wpAny_seqItems hol hdl ?_)
  simp only [Int.toNat_natCast, List.getElem?_toArray, hx]
  refine wpAny_bind (wpAny_setField ho (show (litO l i).data = _ from rfl) (by simp) (wpAny_pure ⟨x, rfl, hQ _ ?_ (Heap.SameBut.update ..)⟩))
  rw [Heap.get?_update_self _ ho rfl]
  rfl
theorem next_lit {Q : Value → Shared → Prop} (F : Fr h₀ L s.heap m) (N : News h₀ L s.heap news) (U : UpdF it (litO l i) news g) (hl : s.heap.IsList l vs.toArray) (hx : vs[i]? = some x)
    (h : ∀ h', Fr h₀ L h' m → News h₀ L h' (g (litO l (i + 1))) → Q x { s with heap := h' }) :
    wpAny (model prog w) A (call (.builtin "next") [.ref it]) Q E s := by
  obtain ⟨pre, post, hl', hg, a, b⟩ := U.split
  have hmem : (it, litO l i) ∈ news := by rw [hl']; exact List.mem_append_right _ (.head _)
  have hm := N (it, litO l i) hmem
  have hit := litO_at hm.1
  refine call_function_entry (by decide +kernel) (by decide +kernel) kdk_entry_next (kdk_args_next _) ?_
  unfold Builtin.«next»
  refine wpAny_bind (m := someArgs "next" 1 2 _) (wpAny_of_eq (a := [Value.ref it]) (by first | rfl | kernel_rfl!) ?_)
  dsimp only
  refine wpAny_bind (wpAny_specialOf (name := Str.ofString "__next__") hit.typeIs slot_listiter_next.lookup ?_)
  refine wpAny_ite_split (fun hab => absurd hab (by decide)) (fun _ => ?_)
  refine wpAny_bind (special_lit hm.1 hl hx fun h' ho' hs => ?_)
  exact wpAny_pure ⟨_, rfl, h h' (F.change hs hm.2.1 hm.2.2) (hg _ ▸ (show News h₀ L s.heap (pre ++ (it, litO l i) :: post) from hl' ▸ N).setIn a b hs ho')⟩
end
end Mine
end

section
open PySem PySem.W PySem.Calls PySem.Spec PyProof.Rows
set_option maxRecDepth 100000
set_option maxHeartbeats 8000000
namespace Mine
/-- a stop for the walk -/
noncomputable def Hold (P : Prop) : Prop := P
theorem Hold.out {P : Prop} (h : Hold P) : P := h
theorem Hold.go {P : Prop} (h : P) : Hold P := h
/-- a frame by its names -/
noncomputable abbrev KB (l : List (Str × Value)) : Str → Option Value := kstB (fun _ => none) l
theorem lookup_kb : ∀ l : List (Str × Value), (fun y => List.lookup y l) = KB l
  | [] => rfl
  | p :: r => by
    funext y
    show List.lookup y ((p.1, p.2) :: r) = if y = p.1 then some p.2 else KB r y
    rw [List.lookup_cons, ← lookup_kb r]
    by_cases q : y = p.1
    · simp [q]
    · rw [if_neg q, show (y == p.fst) = false from by simpa using q]
theorem kb_of {h₀ h : Heap} {L : Addr} {l : List (Str × Value)} (F : Fr h₀ L h (fun y => List.lookup y l)) : Fr h₀ L h (KB l) := lookup_kb l ▸ F
theorem ints_at {vs : List Value} {os : List Int} (hi : IntsAre vs os) {i : Nat} {c : Int} (h : os[i]? = some c) : ∃ t, vs[i]? = some (.int c t) := by
  obtain ⟨t, e⟩ := hi.get i c h
  exact ⟨t, e⟩
end Mine
namespace Mine
/-- int constants, evaluated one behind the other -/
inductive AreConsts : List PySem.Expr → List Int → Prop
  | nil : AreConsts [] []
  | cons {i : Int} {k : Nat} {pos : Pos} {es : List PySem.Expr} {ks : List Int} : AreConsts es ks → AreConsts (.Constant (.int i) k pos :: es) (i :: ks)
noncomputable def intsAt (t : Nat) : List Int → List Value
  | [] => []
  | i :: r => .int i t :: intsAt (t + 1) r
theorem intsAt_are : ∀ (ks : List Int) (t : Nat), IntsAre (intsAt t ks) ks
  | [], _ => .nil
  | i :: r, t => .cons i t (intsAt_are r (t + 1))
theorem splice_ints {M : Model} {A : Around} {env : Env} {pos : Pos} {E : Value → Shared → Prop} {es : List PySem.Expr} {ks : List Int} (e : AreConsts es ks) : ∀ (s : Shared) (Q : List Value → Shared → Prop), Q (intsAt s.toks ks) { s with toks := s.toks + ks.length } →
    wpAny M A (spliced (backTo pos (starEach es env))) Q E s := by
  induction e with
  | nil => exact fun s Q h => spliced_none h
  | cons e ih =>
    rename_i i k pos' es ks
    intro s Q h
    refine spliced_more (wpAny_Constant_int (ih _ _ ?_))
    have e2 : s.toks + 1 + ks.length = s.toks + (ks.length + 1) := by omega
    show Q _ { s with toks := s.toks + 1 + ks.length }
    rw [e2]
    exact h
end Mine
end

section
open PySem PySem.W PySem.Calls PySem.Spec PyProof.Rows
set_option maxRecDepth 100000
set_option maxHeartbeats 8000000
set_option pp.deepTerms false
set_option pp.maxSteps 3000
namespace Mine
/-- what _parse_varint reads behind the octet b, v being read so far: the number, and how many octets more -/
noncomputable def decF : Int → Int → List Int → Option (Int × Nat)
  | b, v, rest => if Builtin.bitAnd b 64 = 0 then some (v, 0) else match rest with
    | [] => none
    | c :: r => if 0 ≤ v ∧ v < 1000000 then (decF c (Builtin.bitOr (v * 2 ^ 6) (Builtin.bitAnd c 63)) r).map fun p => (p.1, p.2 + 1) else none
theorem decF_end {b v n : Int} {k : Nat} {r : List Int} (h : decF b v r = some (n, k)) (hb : Builtin.bitAnd b 64 = 0) : n = v ∧ k = 0 := by
  unfold decF at h
  rw [if_pos hb] at h
  cases h
  exact ⟨rfl, rfl⟩
theorem decF_step {b v n : Int} {k : Nat} {r : List Int} (h : decF b v r = some (n, k)) (hb : Builtin.bitAnd b 64 ≠ 0) : ∃ c r' k', r = c :: r' ∧ 0 ≤ v ∧ v < 1000000 ∧ decF c (Builtin.bitOr (v * 2 ^ 6) (Builtin.bitAnd c 63)) r' = some (n, k') ∧ k = k' + 1 := by
  unfold decF at h
  rw [if_neg hb] at h
  cases r with
  | nil => cases h
  | cons c r' =>
    simp only at h
    split at h
    · rename_i hv
      cases hq : decF c (Builtin.bitOr (v * 2 ^ 6) (Builtin.bitAnd c 63)) r' with
      | none => rw [hq] at h; cases h
      | some p =>
        rw [hq] at h
        cases h
        exact ⟨c, r', p.2, rfl, hv.1, hv.2, hq, rfl⟩
    · cases h
theorem drop_cons {α : Type} {os : List α} {i : Nat} {c : α} {r : List α} (h : os.drop i = c :: r) : os[i]? = some c ∧ os.drop (i + 1) = r := by
  have h1 : (os.drop i)[0]? = some c := by rw [h]; rfl
  rw [List.getElem?_drop] at h1
  have h2 : (os.drop i).drop 1 = r := by rw [h]; rfl
  rw [List.drop_drop] at h2
  exact ⟨h1, h2⟩
section
local macro_rules | `(tactic| walk_at "KswEnd") => `(tactic| refine Hold.out ?_)
local macro_rules | `(tactic| walk_at "exec While BinOp cons nil") => `(tactic| refine Hold.out ?_)
local macro_rules | `(tactic| walk_at "call builtin:next") => `(tactic| refine Hold.out ?_)
theorem par_spec (w : World) (mean : ExcName → Option Value) (mg mb : Str → Option Value) (news : List (Addr × Obj)) (g : Obj → List (Addr × Obj)) (it l : Addr) (i e : Nat) (vs : List Value) (os : List Int) (c n : Int) (k : Nat) (U : ∀ i', UpdF it (litO l i') (g (litO l i')) g) (hg : news = g (litO l i)) (hm : ∀ i', (l, listOf vs.toArray e) ∈ g (litO l i')) (hi : IntsAre vs os) (hx : os[i]? = some c) (hd : decF c (Builtin.bitAnd c 63) (os.drop (i + 1)) = some (n, k)) : MClaim w mean mg mb 21 news (fun _ => True) [.ref it] (fun r news' => news' = g (litO l (i + 1 + k)) ∧ ∃ t, r = .int n t) := by
  w_on
  dsimp only [MClaim]
  k_fill
  intro dp un gd cn cs a ccd cl outer A₀ base h₀ L m s Q E hB hF hK hN hT hcs hTab hpre hdp hun hret
  refine wpAny_call ?_
  k_dflt cell_enter
  k_gentoks
  rename Fr _ _ _ _ => F1
  replace F1 : Fr _ _ _ (KB [(Str.ofString "iterator", Value.ref it)]) := kb_of F1
  obtain ⟨tc, hx'⟩ := ints_at hi hx
  subst hg
  k_steps
  rename News _ _ _ _ => N1
  refine Hold.go (next_lit (by k_asm) N1 (U i) ⟨_, (N1 _ (hm i)).1, rfl, _, rfl⟩ hx' ?_)
  intro h' F' N'
  k_steps
  refine Hold.go ?_
  rename Fr _ _ _ _ => F1
  rename News _ _ _ _ => N1
  obtain ⟨tv, F1⟩ : ∃ tv, Fr _ _ _ (KB [(Str.ofString "val", .int (Builtin.bitAnd c 63) tv), (Str.ofString "b", .int c tc), (Str.ofString "iterator", Value.ref it)]) := ⟨_, F1⟩
  refine ksw_while (σ := Int × Nat × Int × Nat × Nat) (fun c => g (litO l c.2.2.2.2)) (fun c => [(Str.ofString "b", .int c.1 c.2.1), (Str.ofString "val", .int c.2.2.1 c.2.2.2.1)]) (fun _ => True) []
    (fun c => c.2.2.2.2 ≤ i + 1 + k ∧ decF c.1 c.2.2.1 (os.drop c.2.2.2.2) = some (n, i + 1 + k - c.2.2.2.2)) (fun c => i + 1 + k - c.2.2.2.2) (c, tc, Builtin.bitAnd c 63, tv, i + 1) F1 N1 trivial (by kst_all) ?_ ?_
  · exact ⟨by dsimp only; omega, by dsimp only; rw [hd]; congr 2; omega⟩
  clear F1 N1
  rintro ⟨b, tb, v, tv, i'⟩ u h tk _ ⟨h1, h2⟩ F2 N2
  dsimp only at h1 h2 F2 N2
  k_steps
  · obtain ⟨c', r', k', e1, e2, e3, e4, e5⟩ := decF_step h2 (by assumption)
    obtain ⟨e6, e7⟩ := drop_cons e1
    obtain ⟨tc', hx''⟩ := ints_at hi e6
    refine ilshift_int_small (by decide) (by decide) (by omega) ?_
    k_steps
    rename News _ _ _ _ => N3
    refine Hold.go (next_lit (by k_asm) N3 (U i') ⟨_, (N3 _ (hm i')).1, rfl, _, rfl⟩ hx'' ?_)
    intro h' F' N'
    k_steps
    rename Fr _ _ _ _ => F4
    refine Hold.go (ksw_end (c', _, Builtin.bitOr (v * 2 ^ 6) (Builtin.bitAnd c' 63), _, i' + 1) F4 (by k_asm) (fun _ hp => hp) trivial (by kst_all) (by intro z h2 h3; simp only [List.forall_mem_cons, List.not_mem_nil, false_implies, implies_true, and_true, ne_eq] at h2; simp [kstB, h2]) ⟨by dsimp only; omega, ?_⟩ (by dsimp only; omega))
    dsimp only
    rw [e7, e4]
    congr 2
    omega
  · obtain ⟨e1, e2⟩ := decF_end h2 (by assumption)
    have e3 : i' = i + 1 + k := by omega
    subst e1 e3
    exact hret _ _ _ _ (by k_asm) (by k_asm) ⟨rfl, _, rfl⟩
end
end Mine
end

section
open PySem PySem.W PySem.Calls PySem.Spec PyProof.Rows
set_option maxRecDepth 100000
set_option maxHeartbeats 4000000
namespace Mine
section
variable {prog : Program} {w : World} {A : Around} {E : Value → Shared → Prop} {s : Shared}
theorem nextOf_tuple_item {it t : Addr} {i : Nat} {items : Array Value} {x : Value} {Q : Value → Shared → Prop} (hit : s.heap.IsTupleIter it t i)
    (ht : s.heap.IsTuple t items) (hx : items[i]? = some x)
    (hQ : ∀ h', h'.IsTupleIter it t (i + 1) → Heap.SameBut it s.heap h' → Q x { s with heap := h' }) :
    wpAny (model prog w) A (Builtin.SmallTypes.nextOf (.ref it)) Q E s := by
  obtain ⟨o, ho, hc, hd⟩ := id hit
  obtain ⟨ol, hol, _, nl, hdl⟩ := ht
  unfold Builtin.SmallTypes.nextOf
  refine wpAny_bind (wpAny_callSpecial?_slot (name := Str.ofString "__next__") hit.typeIs F.slot_tuple_iterator_next
    (wpAny_call_entry F.slot_tuple_iterator_next hit.typeIs F.entry_tuple_iterator_next ?_ (F.args_tuple_iterator_next_1 _)))
  show wpAny _ _ (field (.ref it) 0 >>= _) _ _ s
  refine wpAny_bind (wpAny_field ho hd (x := .ref t) rfl ?_)
  show wpAny _ _ (if (Value.ref t == Value.none) = true then _ else _) _ _ s
  rw [if_neg (show ¬ ((Value.ref t == Value.none) = true) from Bool.false_ne_true)]
  show wpAny _ _ (field (.ref it) 1 >>= _) _ _ s
  refine wpAny_bind (wpAny_field ho hd (x := .int i 0) rfl ?_)
  show wpAny _ _ (seqItems? (.ref t) >>= _) _ _ s
  refine wpAny_bind (wpAny_seqItems hol hdl ?_)
  simp only [Int.toNat_natCast, hx]
  refine wpAny_bind (wpAny_setField ho hd (by simp) (wpAny_pure ⟨x, rfl, wpAny_pure (hQ _ ?_ (Heap.SameBut.update ..))⟩))
  exact ⟨_, Heap.get?_update_self _ ho (Obj.isFreed_of_fields (Obj.data_mapFields hd _)), (Obj.cls_mapFields ..).trans hc, by
    rw [Obj.data_mapFields hd]; simp [rawInt]⟩
theorem nextOf_tuple_end {it t : Addr} {i : Nat} {items : Array Value} {Q : Value → Shared → Prop} (hh : A.handled = none)
    (hit : s.heap.IsTupleIter it t i) (ht : s.heap.IsTuple t items) (hx : items[i]? = none)
    (hE : ∀ h' e, Heap.ExtBut it s.heap h' → (∃ o, h'.get? e = some o ∧ o.cls = .type "StopIteration") → E (.ref e) { s with heap := h' }) :
    wpAny (model prog w) A (Builtin.SmallTypes.nextOf (.ref it)) Q E s := by
  obtain ⟨o, ho, hc, hd⟩ := id hit
  obtain ⟨ol, hol, _, nl, hdl⟩ := ht
  unfold Builtin.SmallTypes.nextOf
  refine wpAny_bind (wpAny_callSpecial?_slot (name := Str.ofString "__next__") hit.typeIs F.slot_tuple_iterator_next
    (wpAny_call_entry F.slot_tuple_iterator_next hit.typeIs F.entry_tuple_iterator_next ?_ (F.args_tuple_iterator_next_1 _)))
  show wpAny _ _ (field (.ref it) 0 >>= _) _ _ s
  refine wpAny_bind (wpAny_field ho hd (x := .ref t) rfl ?_)
  show wpAny _ _ (if (Value.ref t == Value.none) = true then _ else _) _ _ s
  rw [if_neg (show ¬ ((Value.ref t == Value.none) = true) from Bool.false_ne_true)]
  show wpAny _ _ (field (.ref it) 1 >>= _) _ _ s
  refine wpAny_bind (wpAny_field ho hd (x := .int i 0) rfl ?_)
  show wpAny _ _ (seqItems? (.ref t) >>= _) _ _ s
  refine wpAny_bind (wpAny_seqItems hol hdl ?_)
  simp only [Int.toNat_natCast, hx]
  refine wpAny_bind (wpAny_rule (wpAny_bind (wpAny_setField ho hd (by simp) ?_)))
  show wpAny _ _ (newExc (.type "StopIteration") [] >>= _) _ _ _
  refine wpAny_bind ?_
  simp only [newExc, newTuple]
  refine wpAny_bind (wpAny_newObj_type ?_ (by size_fits))
  refine wpAny_bind (m := firstArgMember _ _) (wpAny_of_eq (a := Value.none) (by first | rfl | (simp only [firstArgMember]; rfl)) ?_)
  refine wpAny_newObj_type ?_ (by size_fits)
  simp only [raiseNew]
  refine wpAny_bind (wpAny_handled ?_)
  first | rw [show A.in1.handled = none from hh] | rw [hh]
  refine wpAny_bind (wpAny_pure (wpAny_throw ?_))
  exact hE _ _ (((Heap.SameBut.update ..).extBut.push _).push _) ⟨_, Heap.get?_push_size _ rfl, rfl⟩

/-- the zip of a tuple and a list, k turns done -/
structure ZS (h : Heap) (z TI TO i1 i2 t l : Addr) (k : Nat) (xs ys : Array Value) : Prop where
  zip : ∃ f0 f1, (f0 = .none ∨ ∃ T : Nat, f0 = rawInt T) ∧ (f1 = .bool true ∨ f1 = .bool false) ∧ h.get? z = some { cls := .type "zip", dict := none, data := .fields #[f0, f1, .bool false, .ref TI, .ref TO], slots := #[] }
  ti : IsPair h TI (.ref i1) (.ref i2)
  to : ∃ a b, IsPair h TO a b
  it1 : h.IsTupleIter i1 t k
  it2 : h.IsListIter i2 l k
  tup : h.IsTuple t xs
  lst : h.IsList l ys
theorem tit_at {h h' : Heap} {a t : Addr} {i : Nat} (x : h.IsTupleIter a t i) (e : ∀ o, h.get? a = some o → h'.get? a = some o) : h'.IsTupleIter a t i := let ⟨o, ho, r⟩ := x; ⟨o, e o ho, r⟩
theorem tup_at {h h' : Heap} {a : Addr} {xs : Array Value} (x : h.IsTuple a xs) (e : ∀ o, h.get? a = some o → h'.get? a = some o) : h'.IsTuple a xs := let ⟨o, ho, r⟩ := x; ⟨o, e o ho, r⟩
theorem lst_at {h h' : Heap} {a : Addr} {xs : Array Value} (x : h.IsList a xs) (e : ∀ o, h.get? a = some o → h'.get? a = some o) : h'.IsList a xs := let ⟨o, ho, r⟩ := x; ⟨o, e o ho, r⟩
theorem ZS.keep {h h' : Heap} {z TI TO i1 i2 t l : Addr} {k : Nat} {xs ys : Array Value} (x : ZS h z TI TO i1 i2 t l k xs ys) (e : ∀ c ∈ [z, TI, TO, i1, i2, t, l], ∀ o, h.get? c = some o → h'.get? c = some o) : ZS h' z TI TO i1 i2 t l k xs ys where
  zip := let ⟨f0, f1, a, b, c⟩ := x.zip; ⟨f0, f1, a, b, e _ (by simp) _ c⟩
  ti := e _ (by simp) _ x.ti
  to := let ⟨a, b, c⟩ := x.to; ⟨a, b, e _ (by simp) _ c⟩
  it1 := tit_at x.it1 fun o => e _ (by simp) o
  it2 := x.it2.at fun o => e _ (by simp) o
  tup := tup_at x.tup fun o => e _ (by simp) o
  lst := lst_at x.lst fun o => e _ (by simp) o
theorem zs_free {z TI TO i1 i2 t l : Addr} {k : Nat} {xs ys : Array Value} {Q : Bool → Shared → Prop} (hz : ZS s.heap z TI TO i1 i2 t l k xs ys) (D : ZipApart z TI TO i1 i2 t l)
    (hQ : ∀ b h', ZS h' z TI TO i1 i2 t l k xs ys → Heap.SameBut z s.heap h' → Q b { s with heap := h' }) : wpAny (model prog w) A (Builtin.SmallTypes.ownedTupleIsFree (.ref z)) Q E s := by
  obtain ⟨f0, f1, hf0, hf1, hg⟩ := hz.zip
  unfold Builtin.SmallTypes.ownedTupleIsFree
  refine wpAny_bind (wpAny_field hg rfl (x := f0) rfl ?_)
  rcases hf0 with rfl | ⟨T, rfl⟩
  · exact wpAny_pure (hQ true s.heap hz (Heap.SameBut.refl _ _))
  · show wpAny _ _ (loadIfAlive ((T : Int).toNat) >>= _) _ _ _
    rw [Int.toNat_natCast]
    refine wpAny_bind ?_
    have al : ∀ {Q' : Option Obj → Shared → Prop}, Q' (s.heap.get? T) s → wpAny (model prog w) A (loadIfAlive T) Q' E s := fun h => fun _ _ _ => h
    refine al ?_
    cases s.heap.get? T with
    | none =>
      simp only [Option.isNone_none, if_true]
      exact wpAny_pure (hQ true s.heap hz (Heap.SameBut.refl _ _))
    | some oT =>
      simp only [Option.isNone_some, Bool.false_eq_true, if_false]
      refine wpAny_bind (wpAny_field hg rfl (x := f1) rfl ?_)
      rcases hf1 with rfl | rfl
      · rw [if_neg (show ¬ ((Value.bool true != Value.bool true) = true) from Bool.false_ne_true)]
        exact wpAny_pure (hQ false s.heap hz (Heap.SameBut.refl _ _))
      · rw [if_pos (show (Value.bool false != Value.bool true) = true from rfl)]
        refine wpAny_bind (wpAny_setField_rec hg (by simp) fun h₃ he₃ hs₃ => ?_)
        have k : ∀ c, c ≠ z → ∀ o, s.heap.get? c = some o → h₃.get? c = some o := fun c hc o e => hs₃.extBut c o hc e
        refine wpAny_pure (hQ false h₃ ⟨⟨_, _, .inr ⟨T, rfl⟩, .inl rfl, he₃⟩, k _ D.TIz _ hz.ti, ?_, tit_at hz.it1 (k _ D.i1z), hz.it2.at (k _ D.i2z), tup_at hz.tup (k _ D.l1z), lst_at hz.lst (k _ D.l2z)⟩ hs₃)
        obtain ⟨a, b, e⟩ := hz.to
        exact ⟨a, b, k _ D.TOz _ e⟩
/-- one turn of the zip -/
theorem zs_item {z TI TO i1 i2 t l : Addr} {k : Nat} {xs ys : Array Value} {x y : Value} {Q : Value → Shared → Prop} (D : ZipApart z TI TO i1 i2 t l) (hz : ZS s.heap z TI TO i1 i2 t l k xs ys) (hx : xs[k]? = some x) (hy : ys[k]? = some y)
    (hQ : ∀ h', ZS h' z TI TO i1 i2 t l (k + 1) xs ys → IsPair h' s.heap.objs.size x y → h'.objs.size = s.heap.objs.size + 1 →
      (∀ c o, c ≠ z → c ≠ TO → c ≠ i1 → c ≠ i2 → s.heap.get? c = some o → h'.get? c = some o) → Q (.ref s.heap.objs.size) { s with heap := h' }) :
    wpAny (model prog w) A (Builtin.«zip.__next__» ⟨[.ref z], []⟩) (fun fin s' => ∃ v, fin = .done (.ret v) ∧ Q v s') E s := by
  obtain ⟨f0, f1, hf0, hf1, hg⟩ := hz.zip
  show wpAny _ _ (field (.ref z) 2 >>= _) _ _ _
  refine wpAny_bind (wpAny_field hg rfl (x := .bool false) rfl ?_)
  show wpAny _ _ (field (.ref z) 3 >>= _) _ _ _
  refine wpAny_bind (wpAny_field hg rfl (x := .ref TI) rfl ?_)
  refine wpAny_bind (wpAny_seqItems hz.ti rfl ?_)
  show wpAny _ _ (Builtin.SmallTypes.ownedTupleIsFree (.ref z) >>= _) _ _ _
  refine wpAny_bind (zs_free hz D fun b h₀ hz₀ hs₀ => ?_)
  obtain ⟨f0', f1', hf0', hf1', hg₀⟩ := hz₀.zip
  obtain ⟨a, c, hTO₀⟩ := hz₀.to
  cases b with
  | true =>
    simp only [if_true]
    refine wpAny_bind (wpAny_rule ?_)
    refine wpAny_bind (wpAny_field hg₀ rfl (x := .ref TO) rfl ?_)
    refine wpAny_bind (wpAny_setField_rec hg₀ (by simp) fun h₁ hz₁ hs₁ => ?_)
    replace hz₁ : h₁.get? z = some { cls := .type "zip", dict := none, data := .fields #[.ellipsis, f1', .bool false, .ref TI, .ref TO], slots := #[] } := hz₁
    refine wpAny_bind ?_
    simp only [List.zipIdx_cons, List.zipIdx_nil, List.forIn_cons, List.forIn_nil]
    refine wpAny_bind (wpAny_bind (wpAny_onRaise ?_))
    show wpAny _ _ (Builtin.SmallTypes.nextOf (.ref i1) >>= _) _ _ _
    refine wpAny_bind (nextOf_tuple_item (hz₀.it1.extBut hs₁.extBut D.i1z) (hz₀.tup.extBut hs₁.extBut D.l1z) hx fun h₂ h1₂ hs₂ => wpAny_pure ?_)
    have hTO₂ : IsPair h₂ TO a c := hs₂.extBut _ _ D.TOi1 (hs₁.extBut _ _ D.TOz hTO₀)
    refine wpAny_bind (wpAny_seqItems hTO₂ rfl ?_)
    refine wpAny_bind (wpAny_updateSeq_pair hTO₂ fun h₃ hTO₃ hs₃ => ?_)
    replace hTO₃ : IsPair h₃ TO x c := hTO₃
    refine wpAny_bind (wpAny_letGo (wpAny_pure ?_))
    refine wpAny_bind (wpAny_bind (wpAny_onRaise ?_))
    show wpAny _ _ (Builtin.SmallTypes.nextOf (.ref i2) >>= _) _ _ _
    refine wpAny_bind (wpAny_nextOf_list_item (((hz₀.it2.extBut hs₁.extBut D.i2z).extBut hs₂.extBut D.i12.symm).extBut hs₃.extBut D.TOi2.symm)
      (((hz₀.lst.extBut hs₁.extBut D.l2z).extBut hs₂.extBut D.l2i1).extBut hs₃.extBut D.l2TO) hy fun h₄ h2₄ hs₄ => wpAny_pure ?_)
    have hTO₄ : IsPair h₄ TO x c := hs₄.extBut _ _ D.TOi2 hTO₃
    refine wpAny_bind (wpAny_seqItems hTO₄ rfl ?_)
    refine wpAny_bind (wpAny_updateSeq_pair hTO₄ fun h₅ hTO₅ hs₅ => ?_)
    replace hTO₅ : IsPair h₅ TO x y := hTO₅
    refine wpAny_bind (wpAny_letGo (wpAny_pure (wpAny_pure ?_)))
    refine wpAny_bind (wpAny_seqItems hTO₅ rfl ?_)
    refine wpAny_bind (wpAny_newTuple ?_)
    have hsz : h₅.objs.size = s.heap.objs.size := by rw [hs₅.1, hs₄.1, hs₃.1, hs₂.1, hs₁.1, hs₀.1]
    have hz₅ : h₅.get? z = some { cls := .type "zip", dict := none, data := .fields #[.ellipsis, f1', .bool false, .ref TI, .ref TO], slots := #[] } := hs₅.extBut _ _ D.TOz.symm (hs₄.extBut _ _ D.i2z.symm (hs₃.extBut _ _ D.TOz.symm (hs₂.extBut _ _ D.i1z.symm hz₁)))
    have hk₅ : ∀ c o, c ≠ z → c ≠ TO → c ≠ i1 → c ≠ i2 → s.heap.get? c = some o → h₅.get? c = some o := fun c o c1 c2 c3 c4 e =>
      hs₅.extBut _ _ c2 (hs₄.extBut _ _ c4 (hs₃.extBut _ _ c2 (hs₂.extBut _ _ c3 (hs₁.extBut _ _ c1 (hs₀.extBut _ _ c1 e)))))
    have h1₅ : h₅.IsTupleIter i1 t (k + 1) := ((h1₂.extBut hs₃.extBut D.TOi1.symm).extBut hs₄.extBut D.i12).extBut hs₅.extBut D.TOi1.symm
    have h2₅ : h₅.IsListIter i2 l (k + 1) := h2₄.extBut hs₅.extBut D.TOi2.symm
    have hzlt : z < h₅.objs.size := Heap.lt_size hz₅
    show wpAny _ _ (Builtin.SmallTypes.ownedTupleHandOut (.ref z) (.ref h₅.objs.size) >>= _) _ _ _
    refine wpAny_bind ?_
    unfold Builtin.SmallTypes.ownedTupleHandOut
    have hz₆ : (h₅.push { cls := .type "tuple", data := .seq #[x, y] }).get? z = some { cls := .type "zip", dict := none, data := .fields #[.ellipsis, f1', .bool false, .ref TI, .ref TO], slots := #[] } := Heap.get?_push_of_some _ hz₅
    refine wpAny_bind (wpAny_setField_rec hz₆ (by simp) fun h₇ hz₇ hs₇ => ?_)
    replace hz₇ : h₇.get? z = some { cls := .type "zip", dict := none, data := .fields #[rawInt h₅.objs.size, f1', .bool false, .ref TI, .ref TO], slots := #[] } := hz₇
    refine wpAny_setField_rec hz₇ (by simp) fun h₈ hz₈ hs₈ => ?_
    replace hz₈ : IsZip h₈ z TI TO (rawInt h₅.objs.size) := hz₈
    have up : ∀ c o, c ≠ z → h₅.get? c = some o → h₈.get? c = some o := fun c o c1 e => hs₈.extBut _ _ c1 (hs₇.extBut _ _ c1 (Heap.get?_push_of_some _ e))
    have hT₈ : IsPair h₈ h₅.objs.size x y := hs₈.extBut _ _ (Nat.ne_of_gt hzlt) (hs₇.extBut _ _ (Nat.ne_of_gt hzlt) (Heap.get?_push_size _ rfl))
    have hz8 : h₈.objs.size = h₅.objs.size + 1 := by rw [hs₈.1, hs₇.1, Heap.size_push]
    rw [hsz] at hz₈ hT₈ hz8
    refine wpAny_pure ⟨_, rfl, ?_⟩
    show Q (.ref h₅.objs.size) _
    rw [hsz]
    have upz : ∀ c o, c ≠ z → c ≠ TO → c ≠ i1 → c ≠ i2 → s.heap.get? c = some o → h₈.get? c = some o := fun c o c1 c2 c3 c4 e => up c o c1 (hk₅ c o c1 c2 c3 c4 e)
    exact hQ h₈ ⟨⟨_, _, .inr ⟨_, rfl⟩, .inr rfl, hz₈⟩, upz _ _ D.TIz D.TITO D.TIi1 D.TIi2 hz.ti, ⟨_, _, up _ _ D.TOz hTO₅⟩, tit_at h1₅ (fun o e => up _ o D.i1z e), h2₅.at (fun o e => up _ o D.i2z e),
      tup_at hz.tup (fun o e => upz _ o D.l1z D.l1TO D.l1i1 D.l1i2 e), lst_at hz.lst (fun o e => upz _ o D.l2z D.l2TO D.l2i1 D.l2i2 e)⟩ hT₈ hz8 upz
  | false =>
    simp only [Bool.false_eq_true, if_false]
    rw [← Array.forIn_toList]
    simp only [List.forIn_cons, List.forIn_nil]
    refine wpAny_bind (wpAny_bind (wpAny_bind (wpAny_holding ?_)))
    show wpAny _ _ (Builtin.SmallTypes.nextOf (.ref i1) >>= _) _ _ _
    refine wpAny_bind (nextOf_tuple_item hz₀.it1 hz₀.tup hx fun h₁ h1₁ hs₁ => wpAny_pure (wpAny_pure ?_))
    dsimp only
    refine wpAny_bind (wpAny_bind (wpAny_holding ?_))
    show wpAny _ _ (Builtin.SmallTypes.nextOf (.ref i2) >>= _) _ _ _
    refine wpAny_bind (wpAny_nextOf_list_item (hz₀.it2.extBut hs₁.extBut D.i12.symm) (hz₀.lst.extBut hs₁.extBut D.l2i1) hy fun h₂ h2₂ hs₂ => wpAny_pure (wpAny_pure ?_))
    dsimp only
    refine wpAny_pure ?_
    dsimp only
    refine wpAny_bind (wpAny_newTuple (hsz := by show 2 ≤ sizeLine; rw [sizeLine_eq]; omega) ?_)
    have hsz : h₂.objs.size = s.heap.objs.size := by rw [hs₂.1, hs₁.1, hs₀.1]
    have up : ∀ c o, c ≠ z → c ≠ TO → c ≠ i1 → c ≠ i2 → s.heap.get? c = some o → h₂.get? c = some o := fun c o c1 c2 c3 c4 e => hs₂.extBut _ _ c4 (hs₁.extBut _ _ c3 (hs₀.extBut _ _ c1 e))
    have hz2 : h₂.get? z = _ := hs₂.extBut _ _ D.i2z.symm (hs₁.extBut _ _ D.i1z.symm hg₀)
    have hTO2 : IsPair h₂ TO a c := hs₂.extBut _ _ D.TOi2 (hs₁.extBut _ _ D.TOi1 hTO₀)
    have h12 : h₂.IsTupleIter i1 t (k + 1) := h1₁.extBut hs₂.extBut D.i12
    have Z2 : ZS h₂ z TI TO i1 i2 t l (k + 1) xs ys := ⟨⟨_, _, hf0', hf1', hz2⟩, up _ _ D.TIz D.TITO D.TIi1 D.TIi2 hz.ti, ⟨_, _, hTO2⟩, h12, h2₂,
      tup_at hz.tup (fun o e => up _ o D.l1z D.l1TO D.l1i1 D.l1i2 e), lst_at hz.lst (fun o e => up _ o D.l2z D.l2TO D.l2i1 D.l2i2 e)⟩
    refine wpAny_pure ⟨_, rfl, ?_⟩
    have hT : IsPair (h₂.push { cls := .type "tuple", data := .seq #[x, y] }) h₂.objs.size x y := Heap.get?_push_size _ rfl
    show Q (.ref h₂.objs.size) _
    rw [hsz] at hT ⊢
    exact hQ _ (Z2.keep fun c _ o e => Heap.get?_push_of_some _ e) hT (by rw [Heap.size_push, hsz]) fun c o c1 c2 c3 c4 e => Heap.get?_push_of_some _ (up c o c1 c2 c3 c4 e)
/-- the zip's end -/
theorem zs_end {z TI TO i1 i2 t l : Addr} {k : Nat} {xs ys : Array Value} {Q : Fin → Shared → Prop} (hh : A.handled = none) (D : ZipApart z TI TO i1 i2 t l) (hz : ZS s.heap z TI TO i1 i2 t l k xs ys) (hx : xs[k]? = none)
    (hE : ∀ h' e, (∀ c o, c ≠ z → c ≠ TO → c ≠ i1 → c ≠ i2 → s.heap.get? c = some o → h'.get? c = some o) → (∃ o, h'.get? e = some o ∧ o.cls = .type "StopIteration") → E (.ref e) { s with heap := h' }) :
    wpAny (model prog w) A (Builtin.«zip.__next__» ⟨[.ref z], []⟩) Q E s := by
  obtain ⟨f0, f1, hf0, hf1, hg⟩ := hz.zip
  show wpAny _ _ (field (.ref z) 2 >>= _) _ _ _
  refine wpAny_bind (wpAny_field hg rfl (x := .bool false) rfl ?_)
  show wpAny _ _ (field (.ref z) 3 >>= _) _ _ _
  refine wpAny_bind (wpAny_field hg rfl (x := .ref TI) rfl ?_)
  refine wpAny_bind (wpAny_seqItems hz.ti rfl ?_)
  show wpAny _ _ (Builtin.SmallTypes.ownedTupleIsFree (.ref z) >>= _) _ _ _
  refine wpAny_bind (zs_free hz D fun b h₀ hz₀ hs₀ => ?_)
  obtain ⟨f0', f1', hf0', hf1', hg₀⟩ := hz₀.zip
  cases b with
  | true =>
    simp only [if_true]
    refine wpAny_bind (wpAny_rule ?_)
    refine wpAny_bind (wpAny_field hg₀ rfl (x := .ref TO) rfl ?_)
    refine wpAny_bind (wpAny_setField_rec hg₀ (by simp) fun h₁ hz₁ hs₁ => ?_)
    replace hz₁ : h₁.get? z = some { cls := .type "zip", dict := none, data := .fields #[.ellipsis, f1', .bool false, .ref TI, .ref TO], slots := #[] } := hz₁
    refine wpAny_bind ?_
    simp only [List.zipIdx_cons, List.zipIdx_nil, List.forIn_cons, List.forIn_nil]
    refine wpAny_bind (wpAny_bind (wpAny_onRaise ?_))
    show wpAny _ _ (Builtin.SmallTypes.nextOf (.ref i1) >>= _) _ _ _
    refine wpAny_bind (nextOf_tuple_end hh (hz₀.it1.extBut hs₁.extBut D.i1z) (hz₀.tup.extBut hs₁.extBut D.l1z) hx fun h₂ e hs₂ he => ?_)
    obtain ⟨oe, hoe, hce⟩ := he
    have hz₂ : h₂.get? z = some { cls := .type "zip", dict := none, data := .fields #[.ellipsis, f1', .bool false, .ref TI, .ref TO], slots := #[] } := hs₂ _ _ D.i1z.symm hz₁
    have hez : e ≠ z := fun x => by subst x; rw [hz₂] at hoe; cases hoe; simp at hce
    refine wpAny_setField_rec hz₂ (by simp) fun h₃ _ hs₃ => hE h₃ e (fun c o c1 _ c3 _ x => hs₃.extBut _ _ c1 (hs₂ _ _ c3 (hs₁.extBut _ _ c1 (hs₀.extBut _ _ c1 x)))) ⟨oe, hs₃.extBut _ _ hez hoe, hce⟩
  | false =>
    simp only [Bool.false_eq_true, if_false]
    rw [← Array.forIn_toList]
    simp only [List.forIn_cons, List.forIn_nil]
    refine wpAny_bind (wpAny_bind (wpAny_bind (wpAny_holding ?_)))
    show wpAny _ _ (Builtin.SmallTypes.nextOf (.ref i1) >>= _) _ _ _
    refine wpAny_bind (nextOf_tuple_end hh hz₀.it1 hz₀.tup hx fun h₂ e hs₂ he => ?_)
    exact hE h₂ e (fun c o c1 _ c3 _ x => hs₂ _ _ c3 (hs₀.extBut _ _ c1 x)) he

theorem zs_type {z TI TO i1 i2 t l : Addr} {k : Nat} {xs ys : Array Value} (hz : ZS s.heap z TI TO i1 i2 t l k xs ys) : s.TypeIs (.ref z) "zip" := let ⟨_, _, _, _, hg⟩ := hz.zip; ⟨_, hg, rfl⟩
theorem zs_next {z TI TO i1 i2 t l : Addr} {k : Nat} {xs ys : Array Value} {x y : Value} {Q : Option Value → Shared → Prop} (D : ZipApart z TI TO i1 i2 t l) (hz : ZS s.heap z TI TO i1 i2 t l k xs ys) (hx : xs[k]? = some x) (hy : ys[k]? = some y)
    (hQ : ∀ h', ZS h' z TI TO i1 i2 t l (k + 1) xs ys → IsPair h' s.heap.objs.size x y → h'.objs.size = s.heap.objs.size + 1 →
      (∀ c o, c ≠ z → c ≠ TO → c ≠ i1 → c ≠ i2 → s.heap.get? c = some o → h'.get? c = some o) → Q (some (.ref s.heap.objs.size)) { s with heap := h' }) :
    wpAny (model prog w) A (pyNext (.ref z)) Q E s := by
  have hT := zs_type hz
  unfold pyNext
  exact wpAny_bind (wpAny_attempt (wpAny_callSpecial?_slot (name := Str.ofString "__next__") hT F.slot_zip_next
    (wpAny_call_entry F.slot_zip_next hT F.entry_zip_next
      (zs_item D hz hx hy fun h' a1 a2 a3 a4 => wpAny_pure (hQ h' a1 a2 a3 a4)) (F.args_zip_next_1 _))))
theorem zs_nextEnd {z TI TO i1 i2 t l : Addr} {k : Nat} {xs ys : Array Value} {Q : Option Value → Shared → Prop} (hh : A.handled = none) (D : ZipApart z TI TO i1 i2 t l) (hz : ZS s.heap z TI TO i1 i2 t l k xs ys) (hx : xs[k]? = none)
    (hQ : ∀ h', (∀ c o, c ≠ z → c ≠ TO → c ≠ i1 → c ≠ i2 → s.heap.get? c = some o → h'.get? c = some o) → Q none { s with heap := h' }) : wpAny (model prog w) A (pyNext (.ref z)) Q E s := by
  have hT := zs_type hz
  unfold pyNext
  refine wpAny_bind (wpAny_attempt (wpAny_callSpecial?_slot (name := Str.ofString "__next__") hT F.slot_zip_next
    (wpAny_call_entry F.slot_zip_next hT F.entry_zip_next (zs_end hh D hz hx fun h' e hk he => ?_) (F.args_zip_next_1 _))))
  obtain ⟨o, ho, hc⟩ := he
  refine wpAny_bind (wpAny_isInstance (T := "StopIteration") (b := true) ⟨o, ho, hc⟩ isSubtype_stop ?_)
  exact wpAny_pure (hQ _ hk)
theorem zs_iter {z TI TO i1 i2 t l : Addr} {k : Nat} {xs ys : Array Value} {Q : Value → Shared → Prop} (hz : ZS s.heap z TI TO i1 i2 t l k xs ys) (h : Q (.ref z) s) : wpAny (model prog w) A (pyIter (.ref z)) Q E s := by
  have hT := zs_type hz
  refine wpAny_pyIter_slot hT F.slot_zip_iter (wpAny_call_entry F.slot_zip_iter hT F.entry_zip_iter ?_ (F.args_zip_iter_1 _))
  show wpAny _ _ (ret (.ref z)) _ _ s
  exact wpAny_pure ⟨_, rfl, "zip", _, hT, F.slot_zip_next.lookup, h⟩
/-- the tuples laid so far -/
structure ZG (xs ys : Array Value) (lo : Addr) (h : Heap) (as : List Addr) : Prop where
  above : ∀ a ∈ as, lo ≤ a
  rise : as.Pairwise (· < ·)
  pairs : ∀ (j : Nat) (a : Addr), as[j]? = some a → ∃ x y, xs[j]? = some x ∧ ys[j]? = some y ∧ IsPair h a x y
theorem ZG.there {xs ys : Array Value} {lo : Addr} {h : Heap} {as : List Addr} (g : ZG xs ys lo h as) {a : Addr} (ha : a ∈ as) : a < h.objs.size := by
  obtain ⟨j, hj⟩ := List.mem_iff_getElem?.mp ha
  obtain ⟨_, _, _, _, e⟩ := g.pairs j a hj
  exact Heap.lt_size e
theorem ZG.keep {xs ys : Array Value} {lo : Addr} {h h' : Heap} {as : List Addr} (g : ZG xs ys lo h as) (k : ∀ a ∈ as, ∀ o, h.get? a = some o → h'.get? a = some o) : ZG xs ys lo h' as :=
  ⟨g.above, g.rise, fun j a hj => let ⟨x, y, h1, h2, h3⟩ := g.pairs j a hj; ⟨x, y, h1, h2, k a (List.mem_of_getElem? hj) _ h3⟩⟩
theorem zs_loop {S z TI TO i1 i2 t l : Addr} {xs ys : Array Value} {R : Result → Shared → Prop} {h₁ : Heap} {lo : Addr} (hh : A.handled = none) (D : ZipApart z TI TO i1 i2 t l) (hS : ∀ b ∈ [z, TI, TO, i1, i2, t, l], b ≠ S) (hlo : ∀ b ∈ [z, TI, TO, i1, i2, t, l, S], b < lo) (hn : xs.size ≤ sizeLine) (hxy : xs.size = ys.size) (res : Value)
    (hR : ∀ h' tk acc c as, (∀ b o, b ≠ S → b ≠ z → b ≠ TO → b ≠ i1 → b ≠ i2 → h₁.get? b = some o → h'.get? b = some o) → h'.get? S = some { cls := .type "list", dict := none, data := .seq acc c, slots := #[] } → as.length = xs.size → ZG xs ys lo h' as →
      acc.toList = as.map Value.ref → R (.ok (.ret res)) { s with heap := h', toks := tk }) :
    ∀ (k i : Nat) (h : Heap) (tk c : Nat) (acc : Array Value) (as : List Addr), xs.size - i = k → i ≤ xs.size → ZS h z TI TO i1 i2 t l i xs ys → (∀ b o, b ≠ S → b ≠ z → b ≠ TO → b ≠ i1 → b ≠ i2 → h₁.get? b = some o → h.get? b = some o) →
      h.get? S = some { cls := .type "list", dict := none, data := .seq acc c, slots := #[] } → acc.toList = as.map Value.ref → as.length = i → ZG xs ys lo h as → lo ≤ h.objs.size →
      codeAny (model prog w) A (.builtin "list.extend.loop" ⟨[.ref S, .ref z, res], []⟩) R { s with heap := h, toks := tk } := by
  have hSz : S ≠ z := (hS z (by simp)).symm
  have hSTO : S ≠ TO := (hS TO (by simp)).symm
  have hSi1 : S ≠ i1 := (hS i1 (by simp)).symm
  have hSi2 : S ≠ i2 := (hS i2 (by simp)).symm
  intro k
  induction k with
  | zero =>
    intro i h tk c acc as hk hi hst hkeep hSg hacc hlen hG hlos
    have hin : i = xs.size := by omega
    refine codeAny_builtin F.entry_extend_loop ?_
    rw [Around.under_plainId F.plain_extend_loop _]
    show wpAny _ A.in1 (pyNext (.ref z) >>= _) _ _ _
    refine wpAny_bind (zs_nextEnd (s := { s with heap := h, toks := tk }) hh D hst (by subst hin; simp) fun h' hk' => ?_)
    refine wpAny_pure (hR h' tk acc c as (fun b o b0 b1 b2 b3 b4 e => hk' b o b1 b2 b3 b4 (hkeep b o b0 b1 b2 b3 b4 e)) (hk' _ _ hSz hSTO hSi1 hSi2 hSg) (by omega) (hG.keep fun a ha o e => ?_) hacc)
    have hal := hG.above a ha
    have ne : ∀ b ∈ [z, TI, TO, i1, i2, t, l, S], a ≠ b := fun b hb e => Nat.lt_irrefl _ (Nat.lt_of_lt_of_le (hlo b hb) (e ▸ hal))
    exact hk' a o (ne z (by simp)) (ne TO (by simp)) (ne i1 (by simp)) (ne i2 (by simp)) e
  | succ k ih =>
    intro i h tk c acc as hk hi hst hkeep hSg hacc hlen hG hlos
    have hlt : i < xs.size := by omega
    have hlt2 : i < ys.size := by omega
    refine codeAny_builtin F.entry_extend_loop ?_
    rw [Around.under_plainId F.plain_extend_loop _]
    show wpAny _ A.in1 (pyNext (.ref z) >>= _) _ _ _
    refine wpAny_bind (zs_next (s := { s with heap := h, toks := tk }) D hst (Array.getElem?_eq_getElem hlt) (Array.getElem?_eq_getElem hlt2) fun h' hst' hp hsz hk' => ?_)
    dsimp only at hp hsz hk' ⊢
    have hS' := hk' _ _ hSz hSTO hSi1 hSi2 hSg
    have hasz : acc.size = i := by have := congrArg List.length hacc; simp at this; omega
    show wpAny _ A.in1 (updateSeq S (·.push (Value.ref h.objs.size)) >>= _) _ _ _
    refine wpAny_bind ?_
    have hSlt : S < h.objs.size := Heap.lt_size hSg
    refine wpAny_updateSeq hS' rfl (wpAny_pure ⟨plainId_quiet F.plain_extend_loop _, ih (i + 1) _ _ _ (acc.push (Value.ref h.objs.size)) (as ++ [h.objs.size]) (by omega) hlt ?_ ?_ (Heap.get?_update_self _ hS' rfl) (by simp [hacc]) (by simp [hlen]) ?_ ?_⟩)
      (by omega) (by show (acc.push _).size ≤ sizeLine + 1; rw [Array.size_push]; omega)
    · exact hst'.keep fun c hc o e => (Heap.get?_update_other _ _ (hS c hc).symm).trans e
    · intro b o b0 b1 b2 b3 b4 e
      exact (Heap.get?_update_other _ _ (Ne.symm b0)).trans (hk' b o b1 b2 b3 b4 (hkeep b o b0 b1 b2 b3 b4 e))
    · have nw : ∀ a, lo ≤ a → ∀ b ∈ [z, TI, TO, i1, i2, t, l, S], a ≠ b := fun a hal b hb e => Nat.lt_irrefl _ (Nat.lt_of_lt_of_le (hlo b hb) (e ▸ hal))
      have k2 : ∀ a, lo ≤ a → ∀ o, h'.get? a = some o → (h'.update S (Obj.mapSeq (·.push (Value.ref h.objs.size)))).get? a = some o := fun a hal o e => (Heap.get?_update_other _ _ (nw a hal S (by simp)).symm).trans e
      refine ⟨?_, ?_, ?_⟩
      · intro a ha
        rcases List.mem_append.mp ha with ha | ha
        · exact hG.above a ha
        · rw [List.mem_singleton.mp ha]; exact hlos
      · rw [List.pairwise_append]
        refine ⟨hG.rise, List.pairwise_singleton .., fun a ha b hb => ?_⟩
        rw [List.mem_singleton.mp hb]
        exact hG.there ha
      · intro j a hj
        by_cases hji : j < as.length
        · rw [List.getElem?_append_left hji] at hj
          obtain ⟨x, y, e1, e2, e3⟩ := hG.pairs j a hj
          have hal := hG.above a (List.mem_of_getElem? hj)
          exact ⟨x, y, e1, e2, k2 a hal _ (hk' a _ (nw a hal z (by simp)) (nw a hal TO (by simp)) (nw a hal i1 (by simp)) (nw a hal i2 (by simp)) e3)⟩
        · rw [List.getElem?_append_right (by omega)] at hj
          have hj0 : j - as.length = 0 := by
            rcases Nat.eq_zero_or_pos (j - as.length) with q | q
            · exact q
            · rw [List.getElem?_eq_none (by simp; omega)] at hj; cases hj
          rw [hj0] at hj
          cases hj
          have hji' : j = i := by omega
          subst hji'
          exact ⟨_, _, Array.getElem?_eq_getElem hlt, Array.getElem?_eq_getElem hlt2, k2 _ hlos _ hp⟩
    · show lo ≤ (h'.update S _).objs.size
      rw [Heap.size_after_update, hsz]
      exact Nat.le_succ_of_le hlos

theorem zip_no_len : typeLookup (.type "zip") "__len__" = pure none := by rw [typeLookup_type, builtinLookup_eq_fast]; kernel_rfl
theorem zip_no_hint : typeLookup (.type "zip") "__length_hint__" = pure none := by rw [typeLookup_type, builtinLookup_eq_fast]; kernel_rfl
theorem zs_extend {S z TI TO i1 i2 t l : Addr} {xs ys : Array Value} {R : Result → Shared → Prop} (hh : A.handled = none) (D : ZipApart z TI TO i1 i2 t l) (hz : ZS s.heap z TI TO i1 i2 t l 0 xs ys) (hS : ∀ b ∈ [z, TI, TO, i1, i2, t, l], b ≠ S) (hlo : ∀ b ∈ [z, TI, TO, i1, i2, t, l, S], b < s.heap.objs.size) (hn : xs.size ≤ sizeLine) (hxy : xs.size = ys.size) (res : Value) (c₀ : Nat)
    (hSg : s.heap.get? S = some { cls := .type "list", data := .seq #[] c₀ })
    (hR : ∀ h' tk acc c as, (∀ b o, b ≠ S → b ≠ z → b ≠ TO → b ≠ i1 → b ≠ i2 → s.heap.get? b = some o → h'.get? b = some o) → h'.get? S = some { cls := .type "list", dict := none, data := .seq acc c, slots := #[] } → as.length = xs.size → ZG xs ys s.heap.objs.size h' as →
      acc.toList = as.map Value.ref → R (.ok (.ret res)) { s with heap := h', toks := tk }) :
    wpAny (model prog w) A.in1 (Builtin.List.listExtendWith (.ref S) (.ref z) res)
      (fun fin s' => match fin with | .done f => R (.ok f) s' | .again c' => c'.quiet = true ∧ codeAny (model prog w) A c' R s') (fun e s' => R (.error e) s') s := by
  have hT := zs_type hz
  have hSz : S ≠ z := (hS z (by simp)).symm
  unfold Builtin.List.listExtendWith
  refine wpAny_bind (wpAny_typeOf hT ?_)
  have h1 : Builtin.List.listSameRef (.ref S) (.ref z) = false := by simp [Builtin.List.listSameRef, hSz]
  have h2 : (Value.type "zip" == Value.type "list") = false := by decide
  have h3 : (Value.type "zip" == Value.type "tuple") = false := by decide
  simp only [h1, h2, h3, Bool.or_false, Bool.false_eq_true, if_false]
  refine wpAny_bind (zs_iter hz ?_)
  refine wpAny_bind (wpAny_holding ?_)
  unfold Builtin.List.listLengthHint
  refine wpAny_bind (wpAny_specialOf hT zip_no_len ?_)
  show wpAny _ A.in1 (specialOf (Value.ref z) (Str.ofString "__length_hint__") >>= _) _ _ _
  refine wpAny_bind (wpAny_specialOf hT zip_no_hint ?_)
  refine wpAny_pure ?_
  show wpAny _ A.in1 (rule "list.extend.makes-room" >>= fun _ => Builtin.List.listTouch (.ref S) >>= fun _ =>
    again (.builtin "list.extend.loop" ⟨[.ref S, .ref z, res], []⟩)) _ _ _
  refine wpAny_bind (wpAny_rule ?_)
  refine wpAny_bind ?_
  show wpAny _ A.in1 (updateSeq S (·.push .none) >>= fun _ => updateSeq S (·.pop)) _ _ _
  refine wpAny_bind (wpAny_updateSeq hSg rfl ?_)
  have hS₂ := Heap.get?_update_self (Obj.mapSeq (·.push Value.none)) hSg rfl
  refine wpAny_updateSeq (hz := by seq_fits) hS₂ rfl ?_
  have hS₃ := Heap.get?_update_self (Obj.mapSeq (·.pop)) hS₂ rfl
  have oth : ∀ b o, b ≠ S → s.heap.get? b = some o → ((s.heap.update S (Obj.mapSeq (·.push Value.none))).update S (Obj.mapSeq (·.pop))).get? b = some o :=
    fun b o hb e => (Heap.get?_update_other _ _ (Ne.symm hb)).trans ((Heap.get?_update_other _ _ (Ne.symm hb)).trans e)
  refine wpAny_pure ⟨plainId_quiet F.plain_extend_loop _, ?_⟩
  refine zs_loop (s := s) (h₁ := s.heap) (lo := s.heap.objs.size) hh D hS hlo hn hxy res hR xs.size 0 _ s.toks _ _ [] (by omega) (Nat.zero_le _) (hz.keep fun c hc o e => oth c o (hS c hc) e) (fun b o b0 _ _ _ _ e => oth b o b0 e) hS₃ rfl rfl
    ⟨fun _ h => (nomatch h), List.Pairwise.nil, fun j a hj => by simp at hj⟩ ?_
  rw [Heap.size_after_update, Heap.size_after_update]
  exact Nat.le_refl _
theorem zs_init {S z TI TO i1 i2 t l : Addr} {xs ys : Array Value} {R : Result → Shared → Prop} (hh : A.handled = none) (D : ZipApart z TI TO i1 i2 t l) (hz : ZS s.heap z TI TO i1 i2 t l 0 xs ys) (hS : ∀ b ∈ [z, TI, TO, i1, i2, t, l], b ≠ S) (hlo : ∀ b ∈ [z, TI, TO, i1, i2, t, l, S], b < s.heap.objs.size) (hn : xs.size ≤ sizeLine) (hxy : xs.size = ys.size)
    (hSg : s.heap.get? S = some { cls := .type "list", data := .seq #[] })
    (hR : ∀ h' tk acc c as, (∀ b o, b ≠ S → b ≠ z → b ≠ TO → b ≠ i1 → b ≠ i2 → s.heap.get? b = some o → h'.get? b = some o) → h'.get? S = some { cls := .type "list", dict := none, data := .seq acc c, slots := #[] } → as.length = xs.size → ZG xs ys s.heap.objs.size h' as →
      acc.toList = as.map Value.ref → R (.ok (.ret .none)) { s with heap := h', toks := tk }) :
    wpAny (model prog w) A.in1 (Builtin.«list.__init__» ⟨[.ref S, .ref z], []⟩)
      (fun fin s' => match fin with | .done f => R (.ok f) s' | .again c' => c'.quiet = true ∧ codeAny (model prog w) A c' R s') (fun e s' => R (.error e) s') s := by
  show wpAny _ A.in1 (do let old ← Builtin.List.listItems (.ref S); Builtin.List.listUpdate (.ref S) (fun _ => #[]); letGo old.toList.reverse; Builtin.List.listExtendWith (.ref S) (.ref z) .none) _ _ s
  refine wpAny_bind ?_
  unfold Builtin.List.listItems
  refine wpAny_bind (wpAny_seqItems hSg rfl (wpAny_pure ?_))
  show wpAny _ _ (updateSeq S (fun _ => #[]) >>= fun _ => letGo (#[] : Array Value).toList.reverse >>= fun _ => Builtin.List.listExtendWith (.ref S) (.ref z) .none) _ _ s
  refine wpAny_bind (wpAny_updateSeq hSg rfl ?_)
  have hS₂ := Heap.get?_update_self (Obj.mapSeq (fun _ => (#[] : Array Value))) hSg rfl
  have oth : ∀ b o, b ≠ S → s.heap.get? b = some o → (s.heap.update S (Obj.mapSeq (fun _ => (#[] : Array Value)))).get? b = some o :=
    fun b o hb e => (Heap.get?_update_other _ _ (Ne.symm hb)).trans e
  refine wpAny_bind (wpAny_letGo ?_)
  have hsz : (s.heap.update S (Obj.mapSeq (fun _ => (#[] : Array Value)))).objs.size = s.heap.objs.size := Heap.size_after_update ..
  refine zs_extend (s := { s with heap := s.heap.update S (Obj.mapSeq (fun _ => (#[] : Array Value))) }) hh D (hz.keep fun c hc o e => oth c o (hS c hc) e) hS (fun b hb => by show b < (s.heap.update S _).objs.size; rw [hsz]; exact hlo b hb) hn hxy .none _ hS₂ fun h' tk acc c as hk hS' hl hG hacc => ?_
  refine hR h' tk acc c as (fun b o b0 b1 b2 b3 b4 e => hk b o b0 b1 b2 b3 b4 (oth b o b0 e)) hS' hl (by rw [← hsz]; exact hG) hacc
/-- list of the zip -/
theorem zs_list {z TI TO i1 i2 t l : Addr} {xs ys : Array Value} {Q : Value → Shared → Prop} (hh : A.handled = none) (D : ZipApart z TI TO i1 i2 t l) (hz : ZS s.heap z TI TO i1 i2 t l 0 xs ys) (hlo : ∀ b ∈ [z, TI, TO, i1, i2, t, l], b < s.heap.objs.size) (hn : xs.size ≤ sizeLine) (hxy : xs.size = ys.size)
    (hQ : ∀ h' tk acc c as, (∀ b o, b ≠ z → b ≠ TO → b ≠ i1 → b ≠ i2 → s.heap.get? b = some o → h'.get? b = some o) → h'.get? s.heap.objs.size = some { cls := .type "list", dict := none, data := .seq acc c, slots := #[] } → as.length = xs.size → ZG xs ys (s.heap.objs.size + 1) h' as →
      acc.toList = as.map Value.ref → Q (.ref s.heap.objs.size) { s with heap := h', toks := tk }) :
    wpAny (model prog w) A (call (.type "list") [.ref z]) Q E s := by
  refine callType_codes (Q₁ := fun obj s₁ => obj = .ref s.heap.objs.size ∧ s₁ = { s with heap := s.heap.push { cls := .type "list", data := .seq #[] } }) F.called_list (F.typeCall_list_1 _) F.entry_list_init
    (code_list_new _ ⟨rfl, rfl⟩) fun obj s₁ h₁ => ?_
  obtain ⟨rfl, rfl⟩ := h₁
  have hS : (s.heap.push { cls := .type "list", data := .seq #[] }).get? s.heap.objs.size = some { cls := .type "list", data := .seq #[] } := Heap.get?_push_size _ rfl
  have hsz : (s.heap.push { cls := .type "list", data := .seq #[] }).objs.size = s.heap.objs.size + 1 := Heap.size_push ..
  refine ⟨⟨_, hS, rfl⟩, F.args_list_init_2 _ _, zs_init (s := { s with heap := s.heap.push { cls := .type "list", data := .seq #[] } }) (A := A.in1) hh D (hz.keep fun c _ o e => Heap.get?_push_of_some _ e) (fun b hb => Nat.ne_of_lt (hlo b hb)) (fun b hb => ?_) hn hxy hS fun h' tk acc c as hk hS' hl hG hacc => ?_⟩
  · show b < (s.heap.push _).objs.size
    rw [hsz]
    have hb' : b ∈ [z, TI, TO, i1, i2, t, l] ++ [s.heap.objs.size] := by simpa using hb
    rcases List.mem_append.mp hb' with q | q
    · exact Nat.lt_succ_of_lt (hlo b q)
    · rw [List.mem_singleton.mp q]; exact Nat.lt_succ_self _
  · refine ⟨rfl, hQ h' tk acc c as (fun b o b1 b2 b3 b4 e => hk b o (Nat.ne_of_lt (Heap.lt_size e)) b1 b2 b3 b4 (Heap.get?_push_of_some _ e)) hS' hl ?_ hacc⟩
    rw [← hsz]; exact hG
end
end Mine
end

section
open PySem PySem.W PySem.Calls PySem.Spec PyProof.Rows
set_option maxRecDepth 100000
set_option maxHeartbeats 4000000
namespace Mine
noncomputable abbrev zq1 (h : Heap) (t : Addr) : Heap := h.push { cls := .type "tuple_iterator", data := .fields #[.ref t, .int 0 0] }
noncomputable abbrev zq2 (h : Heap) (t l : Addr) : Heap := (zq1 h t).push { cls := .type "list_iterator", data := .fields #[.ref l, .int 0 0] }
noncomputable abbrev zq3 (h : Heap) (t l : Addr) : Heap := (zq2 h t l).push { cls := .type "tuple", data := .seq #[.ref h.objs.size, .ref (zq1 h t).objs.size] }
noncomputable abbrev zq4 (h : Heap) (t l : Addr) : Heap := (zq3 h t l).push { cls := .type "tuple", data := .seq #[.none, .none] }
noncomputable abbrev zq5 (h : Heap) (t l : Addr) : Heap := (zq4 h t l).push { cls := .type "zip", data := .fields #[.none, .bool false, .bool false, .ref (zq2 h t l).objs.size, .ref (zq3 h t l).objs.size] }
theorem meets_zip_tl (t l : Addr) (xs ys : Array Value) :
    Meets (Builtin.«zip.__new__» ⟨[.type "zip", .ref t, .ref l], []⟩) (fun _ R s => s.heap.IsTuple t xs ∧ s.heap.IsList l ys ∧
      R (.ok (.ret (.ref (zq4 s.heap t l).objs.size))) { s with heap := zq5 s.heap t l }) :=
  .of_wp fun prog w A R s h => by
    obtain ⟨hp, g, d, tk, os⟩ := s; obtain ⟨hl1, hl2, h⟩ := h
    have hsub := sub_zip
    have hL1 : Heap.IsTuple (Shared.heap ⟨hp, g, d, tk, os⟩) t xs := hl1
    have hL2 : Heap.IsList (Shared.heap ⟨hp.push { cls := .type "tuple_iterator", data := .fields #[.ref t, .int 0 0] }, g, d, tk, os⟩) l ys := Heap.IsList.push hl2 _
    wp_walk using wpAny_pyIter_tuple hL1, wpAny_pyIter_list hL2
    exact ⟨_, rfl, h⟩
/-- tuples of two, by their addresses -/
noncomputable abbrev tup2 (x y : Value) : Obj := { cls := .type "tuple", data := .seq #[x, y] }
noncomputable def tupL : List Addr → List Value → List Value → List (Addr × Obj)
  | a :: as, x :: xs, y :: ys => (a, tup2 x y) :: tupL as xs ys
  | _, _, _ => []
theorem tupL_mem : ∀ {as : List Addr} {xs ys : List Value} {p : Addr × Obj}, p ∈ tupL as xs ys → ∃ (j : Nat) (x y : Value), as[j]? = some p.1 ∧ xs[j]? = some x ∧ ys[j]? = some y ∧ p.2 = tup2 x y
  | a :: as, x :: xs, y :: ys, p, h => by
    rw [tupL] at h
    rcases List.mem_cons.mp h with rfl | h
    · exact ⟨0, x, y, rfl, rfl, rfl, rfl⟩
    · obtain ⟨j, x', y', h1, h2, h3, h4⟩ := tupL_mem h
      exact ⟨j + 1, x', y', h1, h2, h3, h4⟩
  | [], _, _, _, h => nomatch h
  | _ :: _, [], _, _, h => nomatch h
  | _ :: _, _ :: _, [], _, h => nomatch h
theorem mem_tupL : ∀ {as : List Addr} {xs ys : List Value} {j : Nat} {a : Addr} {x y : Value}, as[j]? = some a → xs[j]? = some x → ys[j]? = some y → (a, tup2 x y) ∈ tupL as xs ys
  | a :: as, x :: xs, y :: ys, 0, _, _, _, h1, h2, h3 => by cases h1; cases h2; cases h3; exact .head _
  | a :: as, x :: xs, y :: ys, j + 1, _, _, _, h1, h2, h3 => .tail _ (mem_tupL (as := as) (xs := xs) (ys := ys) (j := j) h1 h2 h3)
  | [], _, _, _, _, _, _, h1, _, _ => by simp at h1
  | _ :: _, [], _, _, _, _, _, _, h2, _ => by simp at h2
  | _ :: _, _ :: _, [], _, _, _, _, _, _, h3 => by simp at h3
noncomputable def ZipAt (h h₀ : Heap) (L : Addr) (news : List (Addr × Obj)) (z : Addr) (xs ys : List Value) : Prop :=
  ∃ TI TO i1 i2 t l, ZipApart z TI TO i1 i2 t l ∧ ZS h z TI TO i1 i2 t l 0 xs.toArray ys.toArray ∧ (∀ b ∈ [z, TI, TO, i1, i2, t, l], b < h.objs.size) ∧ ∀ b ∈ [z, TO, i1, i2], h₀.get? b = none ∧ b ≠ L ∧ ∀ p ∈ news, p.1 ≠ b
section
variable {prog : Program} {w : World} {A : Around} {E : Value → Shared → Prop} {s : Shared} {h₀ : Heap} {L : Addr} {m : Str → Option Value} {news : List (Addr × Obj)}
theorem zip_tl {t l : Addr} {xs ys : List Value} {Q : Value → Shared → Prop} (F : Fr h₀ L s.heap m) (N : News h₀ L s.heap news) (hl1 : s.heap.IsTuple t xs.toArray) (hl2 : s.heap.IsList l ys.toArray)
    (h : ∀ h' z, Fr h₀ L h' m → News h₀ L h' news → ZipAt h' h₀ L news z xs ys → Q (.ref z) { s with heap := h' }) :
    wpAny (model prog w) A (call (.type "zip") [.ref t, .ref l]) Q E s := by
  refine callType_new PySem.F.called_zip (by decide) (PySem.F.typeCall_zip_2 _ _) (PySem.F.newCall_zip_2 _ _) (fun obj => PySem.F.args_object_init_3 obj _ _) PySem.F.entry_zip_new
    (meets_zip_tl t l xs.toArray ys.toArray) ⟨hl1, hl2, ?_⟩
  have z1 : (zq1 s.heap t).objs.size = s.heap.objs.size + 1 := Heap.size_push ..
  have z2 : (zq2 s.heap t l).objs.size = s.heap.objs.size + 2 := by rw [Heap.size_push, z1]
  have z3 : (zq3 s.heap t l).objs.size = s.heap.objs.size + 3 := by rw [Heap.size_push, z2]
  have z4 : (zq4 s.heap t l).objs.size = s.heap.objs.size + 4 := by rw [Heap.size_push, z3]
  have z5 : (zq5 s.heap t l).objs.size = s.heap.objs.size + 5 := by rw [Heap.size_push, z4]
  have g5 : (zq5 s.heap t l).get? (zq4 s.heap t l).objs.size = some _ := Heap.get?_push_size _ rfl
  have g4 : (zq5 s.heap t l).get? (zq3 s.heap t l).objs.size = some _ := Heap.get?_push_of_some _ (Heap.get?_push_size _ rfl)
  have g3 : (zq5 s.heap t l).get? (zq2 s.heap t l).objs.size = some _ := Heap.get?_push_of_some _ (Heap.get?_push_of_some _ (Heap.get?_push_size _ rfl))
  have g2 : (zq5 s.heap t l).get? (zq1 s.heap t).objs.size = some _ := Heap.get?_push_of_some _ (Heap.get?_push_of_some _ (Heap.get?_push_of_some _ (Heap.get?_push_size _ rfl)))
  have g1 : (zq5 s.heap t l).get? s.heap.objs.size = some _ := Heap.get?_push_of_some _ (Heap.get?_push_of_some _ (Heap.get?_push_of_some _ (Heap.get?_push_of_some _ (Heap.get?_push_size _ rfl))))
  have hk : ∀ c o, s.heap.get? c = some o → (zq5 s.heap t l).get? c = some o := fun c o x =>
    Heap.get?_push_of_some _ (Heap.get?_push_of_some _ (Heap.get?_push_of_some _ (Heap.get?_push_of_some _ (Heap.get?_push_of_some _ x))))
  have a1 : t < s.heap.objs.size := by obtain ⟨_, e, _⟩ := hl1; exact Heap.lt_size e
  have a2 : l < s.heap.objs.size := by obtain ⟨_, e, _⟩ := hl2; exact Heap.lt_size e
  have hLs : L < s.heap.objs.size := F.ns.lt
  show _ ∧ _
  rw [z2, z3, z4] at g5
  rw [z1, z2] at g3
  rw [z3] at g4
  rw [z1] at g2
  rw [z4]
  refine ⟨⟨_, g5, rfl⟩, h _ _ (F.keeps hk) (fun p hp => ⟨hk _ _ (N p hp).1, (N p hp).2⟩) ⟨_, _, _, _, t, l, zipApart_new a1 a2,
    ⟨⟨_, _, .inl rfl, .inr rfl, g5⟩, g3, ⟨_, _, g4⟩, ⟨_, g1, rfl, rfl⟩, ⟨_, g2, rfl, rfl⟩, tup_at hl1 (fun o e => hk _ o e), lst_at hl2 (fun o e => hk _ o e)⟩, ?_, ?_⟩⟩
  · intro b hb
    rw [z5]
    simp only [List.mem_cons, List.not_mem_nil, or_false] at hb
    have up : ∀ k, k < 5 → s.heap.objs.size + k < s.heap.objs.size + 5 := fun k hk => Nat.add_lt_add_left hk _
    rcases hb with rfl | rfl | rfl | rfl | rfl | rfl | rfl
    · exact up 4 (by decide)
    · exact up 2 (by decide)
    · exact up 3 (by decide)
    · exact up 0 (by decide)
    · exact up 1 (by decide)
    · exact Nat.lt_of_lt_of_le a1 (Nat.le_add_right _ _)
    · exact Nat.lt_of_lt_of_le a2 (Nat.le_add_right _ _)
  · intro b hb
    have key : ∀ k, h₀.get? (s.heap.objs.size + k) = none ∧ s.heap.objs.size + k ≠ L ∧ ∀ p ∈ news, p.1 ≠ s.heap.objs.size + k := fun k =>
      ⟨Heap.get?_none_of_le (Nat.le_trans F.above (Nat.le_trans (Nat.le_of_lt hLs) (Nat.le_add_right _ k))), Nat.ne_of_gt (Nat.lt_of_lt_of_le hLs (Nat.le_add_right _ k)),
        fun p hp => Nat.ne_of_lt (Nat.lt_of_lt_of_le (Heap.lt_size (N p hp).1) (Nat.le_add_right _ k))⟩
    simp only [List.mem_cons, List.not_mem_nil, or_false] at hb
    rcases hb with rfl | rfl | rfl | rfl
    · exact key 4
    · exact key 3
    · exact key 0
    · exact key 1
theorem list_zip_tl {z : Addr} {xs ys : List Value} {Q : Value → Shared → Prop} (hh : A.handled = none) (F : Fr h₀ L s.heap m) (N : News h₀ L s.heap news) (Z : ZipAt s.heap h₀ L news z xs ys) (hn : xs.length ≤ 1000) (hxy : xs.length = ys.length)
    (h : ∀ h' tk c S as, Fr h₀ L h' m → News h₀ L h' ((S, listOf (as.map Value.ref).toArray c) :: (tupL as xs ys ++ news)) → as.length = xs.length → Q (.ref S) { s with heap := h', toks := tk }) :
    wpAny (model prog w) A (call (.type "list") [.ref z]) Q E s := by
  obtain ⟨TI, TO, i1, i2, t, l, D, hz, hlo, hfr⟩ := Z
  refine zs_list hh D hz hlo (by rw [sizeLine_eq]; simp; omega) (by simpa using hxy) fun h' tk acc c as hk hS hl hG hacc => ?_
  have hLs : L < s.heap.objs.size := F.ns.lt
  obtain ⟨oL, a1, a2, hL, a3⟩ := F.ns
  have kk : ∀ b o, (h₀.get? b ≠ none ∨ b = L ∨ ∃ p ∈ news, p.1 = b) → s.heap.get? b = some o → h'.get? b = some o := fun b o hb e => by
    have ne : ∀ c ∈ [z, TO, i1, i2], b ≠ c := fun c hc q => by
      subst q
      obtain ⟨q1, q2, q3⟩ := hfr b hc
      rcases hb with hb | hb | ⟨p, hp, hb⟩
      · exact hb q1
      · exact q2 hb
      · exact q3 p hp hb
    exact hk b o (ne z (by simp)) (ne TO (by simp)) (ne i1 (by simp)) (ne i2 (by simp)) e
  have F' : Fr h₀ L h' m := ⟨⟨oL, a1, a2, kk L oL (.inr (.inl rfl)) hL, a3⟩, fun b o e => kk b o (.inl (by rw [e]; simp)) (F.keep b o e), F.above⟩
  have e : acc = (as.map Value.ref).toArray := by rw [← hacc]
  subst e
  have nw : ∀ a, s.heap.objs.size ≤ a → a ≠ L ∧ h₀.get? a = none := fun a ha => ⟨Nat.ne_of_gt (Nat.lt_of_lt_of_le hLs ha), Heap.get?_none_of_le (Nat.le_trans F.above (Nat.le_trans (Nat.le_of_lt hLs) ha))⟩
  refine h h' tk c _ as F' ?_ (by simpa using hl)
  intro p hp
  rcases List.mem_cons.mp hp with rfl | hp
  · exact ⟨hS, nw _ (Nat.le_refl _)⟩
  · rcases List.mem_append.mp hp with hp | hp
    · obtain ⟨j, x, y, h1, h2, h3, h4⟩ := tupL_mem hp
      obtain ⟨x', y', h2', h3', h5⟩ := hG.pairs j p.1 h1
      simp only [List.getElem?_toArray] at h2' h3'
      rw [h2] at h2'; rw [h3] at h3'
      cases h2'; cases h3'
      rw [h4]
      exact ⟨h5, nw _ (Nat.le_of_succ_le (hG.above p.1 (List.mem_of_getElem? h1)))⟩
    · exact ⟨kk _ _ (.inr (.inr ⟨p, hp, rfl⟩)) (N p hp).1, (N p hp).2⟩
theorem isTup_news {t : Addr} {xs : Array Value} {n : Nat} {h : Heap} (N : News h₀ L h news) (hm : (t, ({ cls := .type "tuple", data := .seq xs n } : Obj)) ∈ news) : h.IsTuple t xs := ⟨_, (N _ hm).1, rfl, _, rfl⟩
theorem isList_news {t : Addr} {xs : Array Value} {n : Nat} {h : Heap} (N : News h₀ L h news) (hm : (t, listOf xs n) ∈ news) : h.IsList t xs := ⟨_, (N _ hm).1, rfl, _, rfl⟩
end
end Mine
end

section
open PySem PySem.W PySem.Calls PySem.Spec PyProof.Rows
set_option maxRecDepth 100000
set_option maxHeartbeats 8000000
set_option pp.deepTerms false
set_option pp.maxSteps 3000
namespace Mine
/-- the table of _law_signs -/
noncomputable def signC (k : Nat) : List Int := [[102, 70, 64256, 64257, 64258, 64259, 64260, 8464], [115, 83, 223, 383, 64261, 64262, 8360, 8475], [107, 8490, 13261, 13262, 13240, 13246, 13245, 8499], [104, 72, 8459, 13169, 13184, 13259, 13271, 8473]].getD k []
noncomputable def signM (k : Nat) : List Str := [[⟨#[102]⟩, ⟨#[102]⟩, ⟨#[102, 102]⟩, ⟨#[102, 105]⟩, ⟨#[102, 108]⟩, ⟨#[102, 102, 105]⟩, ⟨#[102, 102, 108]⟩, ⟨#[105]⟩],
  [⟨#[115]⟩, ⟨#[115]⟩, ⟨#[115, 115]⟩, ⟨#[115]⟩, ⟨#[115, 116]⟩, ⟨#[115, 116]⟩, ⟨#[114, 115]⟩, ⟨#[114]⟩],
  [⟨#[107]⟩, ⟨#[107]⟩, ⟨#[107, 107]⟩, ⟨#[107, 109]⟩, ⟨#[107, 118]⟩, ⟨#[107, 119]⟩, ⟨#[109, 119]⟩, ⟨#[109]⟩],
  [⟨#[104]⟩, ⟨#[104]⟩, ⟨#[104]⟩, ⟨#[104, 112, 97]⟩, ⟨#[112, 97]⟩, ⟨#[104, 112]⟩, ⟨#[112, 104]⟩, ⟨#[112]⟩]].getD k []
noncomputable def SigOk (k : Nat) (news : List (Addr × Obj)) (r : Value) (news' : List (Addr × Obj)) : Prop :=
  (∀ p ∈ news, p ∈ news') ∧ ∃ (S : Addr) (c : Nat) (as : List Addr), r = .ref S ∧ (S, listOf (as.map Value.ref).toArray c) ∈ news' ∧ as.length = 8 ∧
    ∀ (j : Nat) (a : Addr), as[j]? = some a → ∃ (n : Int) (t : Tok) (x : Str) (t' : Tok), (a, tup2 (.int n t) (.str x t')) ∈ news' ∧ (signC k)[j]? = some n ∧ (signM k)[j]? = some x
section
local macro_rules | `(tactic| walk_at "call type:zip") => `(tactic| refine Hold.out ?_)
local macro_rules | `(tactic| walk_at "call type:list") => `(tactic| refine Hold.out ?_)
local macro_rules | `(tactic| ktr_unf) => `(tactic| repeat' (first | (k_unfold; (try dsimp only)) | (k_end; wrow_close) | (walk1 <;> (try dsimp only)) | (dsimp only; walk1) | (leave1; walk_say "STEP leave1"; try dsimp only) | fail "no step"))
theorem sig_spec0 (w : World) (mean : ExcName → Option Value) (mg mb : Str → Option Value) (news : List (Addr × Obj)) (t1 : Tok) : MClaim w mean mg mb 106 news (fun _ => True) [.int 0 t1] (fun r news' => SigOk 0 news r news') := by
  w_on
  dsimp only [MClaim]
  k_fill
  intro dp un gd cn cs a ccd cl outer A₀ base h₀ L m s Q E hB hF hK hN hT hcs hTab hpre hdp hun hret
  refine wpAny_call ?_
  k_dflt cell_enter
  k_gentoks
  rename Fr _ _ _ _ => F1
  replace F1 : Fr _ _ _ (KB [(Str.ofString "k", Value.int 0 t1)]) := kb_of F1
  ktr_unf
  rename Fr _ _ _ _ => F1
  rename News _ _ _ _ => N1
  refine Hold.go (zip_tl F1 N1 (isTup_news N1 (by k_mem)) (isList_news N1 (by k_mem)) ?_)
  clear F1 N1
  intro h2 z2 F2 N2 Z2
  ktr_unf
  refine Hold.go (list_zip_tl rfl F2 N2 Z2 (Nat.le_of_ble_eq_true rfl) rfl ?_)
  clear F2 N2 Z2
  intro h3 tk3 c3 S3 as3 F3 N3 hl3
  ktr_unf
  have hl4 : as3.length = 8 := hl3
  refine hret _ _ _ _ (by k_asm) (by k_asm) ⟨?_, S3, c3, as3, rfl, .head _, hl4, ?_⟩
  · intro p hp
    refine List.Mem.tail _ (List.mem_append_right _ ?_)
    repeat (first | exact hp | refine List.Mem.tail _ ?_)
  · intro j a ha
    have hj : j < 8 := by
      rw [← hl4]
      exact (List.getElem?_eq_some_iff.mp ha).1
    rcases (show j = 0 ∨ j = 1 ∨ j = 2 ∨ j = 3 ∨ j = 4 ∨ j = 5 ∨ j = 6 ∨ j = 7 by omega) with rfl | rfl | rfl | rfl | rfl | rfl | rfl | rfl
    all_goals exact ⟨_, _, _, _, List.Mem.tail _ (List.mem_append_left _ (mem_tupL ha rfl rfl)), rfl, rfl⟩
theorem sig_spec1 (w : World) (mean : ExcName → Option Value) (mg mb : Str → Option Value) (news : List (Addr × Obj)) (t1 : Tok) : MClaim w mean mg mb 106 news (fun _ => True) [.int 1 t1] (fun r news' => SigOk 1 news r news') := by
  w_on
  dsimp only [MClaim]
  k_fill
  intro dp un gd cn cs a ccd cl outer A₀ base h₀ L m s Q E hB hF hK hN hT hcs hTab hpre hdp hun hret
  refine wpAny_call ?_
  k_dflt cell_enter
  k_gentoks
  rename Fr _ _ _ _ => F1
  replace F1 : Fr _ _ _ (KB [(Str.ofString "k", Value.int 1 t1)]) := kb_of F1
  ktr_unf
  rename Fr _ _ _ _ => F1
  rename News _ _ _ _ => N1
  refine Hold.go (zip_tl F1 N1 (isTup_news N1 (by k_mem)) (isList_news N1 (by k_mem)) ?_)
  clear F1 N1
  intro h2 z2 F2 N2 Z2
  ktr_unf
  refine Hold.go (list_zip_tl rfl F2 N2 Z2 (Nat.le_of_ble_eq_true rfl) rfl ?_)
  clear F2 N2 Z2
  intro h3 tk3 c3 S3 as3 F3 N3 hl3
  ktr_unf
  have hl4 : as3.length = 8 := hl3
  refine hret _ _ _ _ (by k_asm) (by k_asm) ⟨?_, S3, c3, as3, rfl, .head _, hl4, ?_⟩
  · intro p hp
    refine List.Mem.tail _ (List.mem_append_right _ ?_)
    repeat (first | exact hp | refine List.Mem.tail _ ?_)
  · intro j a ha
    have hj : j < 8 := by
      rw [← hl4]
      exact (List.getElem?_eq_some_iff.mp ha).1
    rcases (show j = 0 ∨ j = 1 ∨ j = 2 ∨ j = 3 ∨ j = 4 ∨ j = 5 ∨ j = 6 ∨ j = 7 by omega) with rfl | rfl | rfl | rfl | rfl | rfl | rfl | rfl
    all_goals exact ⟨_, _, _, _, List.Mem.tail _ (List.mem_append_left _ (mem_tupL ha rfl rfl)), rfl, rfl⟩
theorem sig_spec2 (w : World) (mean : ExcName → Option Value) (mg mb : Str → Option Value) (news : List (Addr × Obj)) (t1 : Tok) : MClaim w mean mg mb 106 news (fun _ => True) [.int 2 t1] (fun r news' => SigOk 2 news r news') := by
  w_on
  dsimp only [MClaim]
  k_fill
  intro dp un gd cn cs a ccd cl outer A₀ base h₀ L m s Q E hB hF hK hN hT hcs hTab hpre hdp hun hret
  refine wpAny_call ?_
  k_dflt cell_enter
  k_gentoks
  rename Fr _ _ _ _ => F1
  replace F1 : Fr _ _ _ (KB [(Str.ofString "k", Value.int 2 t1)]) := kb_of F1
  ktr_unf
  rename Fr _ _ _ _ => F1
  rename News _ _ _ _ => N1
  refine Hold.go (zip_tl F1 N1 (isTup_news N1 (by k_mem)) (isList_news N1 (by k_mem)) ?_)
  clear F1 N1
  intro h2 z2 F2 N2 Z2
  ktr_unf
  refine Hold.go (list_zip_tl rfl F2 N2 Z2 (Nat.le_of_ble_eq_true rfl) rfl ?_)
  clear F2 N2 Z2
  intro h3 tk3 c3 S3 as3 F3 N3 hl3
  ktr_unf
  have hl4 : as3.length = 8 := hl3
  refine hret _ _ _ _ (by k_asm) (by k_asm) ⟨?_, S3, c3, as3, rfl, .head _, hl4, ?_⟩
  · intro p hp
    refine List.Mem.tail _ (List.mem_append_right _ ?_)
    repeat (first | exact hp | refine List.Mem.tail _ ?_)
  · intro j a ha
    have hj : j < 8 := by
      rw [← hl4]
      exact (List.getElem?_eq_some_iff.mp ha).1
    rcases (show j = 0 ∨ j = 1 ∨ j = 2 ∨ j = 3 ∨ j = 4 ∨ j = 5 ∨ j = 6 ∨ j = 7 by omega) with rfl | rfl | rfl | rfl | rfl | rfl | rfl | rfl
    all_goals exact ⟨_, _, _, _, List.Mem.tail _ (List.mem_append_left _ (mem_tupL ha rfl rfl)), rfl, rfl⟩
theorem sig_spec3 (w : World) (mean : ExcName → Option Value) (mg mb : Str → Option Value) (news : List (Addr × Obj)) (t1 : Tok) : MClaim w mean mg mb 106 news (fun _ => True) [.int 3 t1] (fun r news' => SigOk 3 news r news') := by
  w_on
  dsimp only [MClaim]
  k_fill
  intro dp un gd cn cs a ccd cl outer A₀ base h₀ L m s Q E hB hF hK hN hT hcs hTab hpre hdp hun hret
  refine wpAny_call ?_
  k_dflt cell_enter
  k_gentoks
  rename Fr _ _ _ _ => F1
  replace F1 : Fr _ _ _ (KB [(Str.ofString "k", Value.int 3 t1)]) := kb_of F1
  ktr_unf
  rename Fr _ _ _ _ => F1
  rename News _ _ _ _ => N1
  refine Hold.go (zip_tl F1 N1 (isTup_news N1 (by k_mem)) (isList_news N1 (by k_mem)) ?_)
  clear F1 N1
  intro h2 z2 F2 N2 Z2
  ktr_unf
  refine Hold.go (list_zip_tl rfl F2 N2 Z2 (Nat.le_of_ble_eq_true rfl) rfl ?_)
  clear F2 N2 Z2
  intro h3 tk3 c3 S3 as3 F3 N3 hl3
  ktr_unf
  have hl4 : as3.length = 8 := hl3
  refine hret _ _ _ _ (by k_asm) (by k_asm) ⟨?_, S3, c3, as3, rfl, .head _, hl4, ?_⟩
  · intro p hp
    refine List.Mem.tail _ (List.mem_append_right _ ?_)
    repeat (first | exact hp | refine List.Mem.tail _ ?_)
  · intro j a ha
    have hj : j < 8 := by
      rw [← hl4]
      exact (List.getElem?_eq_some_iff.mp ha).1
    rcases (show j = 0 ∨ j = 1 ∨ j = 2 ∨ j = 3 ∨ j = 4 ∨ j = 5 ∨ j = 6 ∨ j = 7 by omega) with rfl | rfl | rfl | rfl | rfl | rfl | rfl | rfl
    all_goals exact ⟨_, _, _, _, List.Mem.tail _ (List.mem_append_left _ (mem_tupL ha rfl rfl)), rfl, rfl⟩
end
end Mine
end

section
open PySem PySem.W PyProof.Rows
set_option maxRecDepth 100000
set_option maxHeartbeats 8000000
namespace Mine
theorem subst_spec (w : World) (mean : ExcName → Option Value) (mg mb : Str → Option Value) (news : List (Addr × Obj)) (x y : Str) (t1 t2 : Tok) (hx : x.length = 1) (hy : y.length = 1) : MClaim w mean mg mb 92 news (fun _ => True) [.str x t1, .str y t2] (fun r news' => news' = news ∧ ∃ t, r = .int (substF x y) t) := by
  w_on
  dsimp only [MClaim]
  k_fill
  intro dp un gd cn cs a ccd cl outer A₀ base h₀ L m s Q E hB hF hK hN hT hcs hTab hpre hdp hun hret
  refine wpAny_call ?_
  k_dflt cell_enter
  k_steps
  all_goals (refine hret _ _ _ _ (by k_asm) (by k_asm) ⟨rfl, ?_⟩; unfold substF; simp only [*, if_true, if_false, Bool.false_eq_true]; exact ⟨_, rfl⟩)
end Mine
end

section
open PySem PySem.W PyProof.Rows
set_option maxRecDepth 100000
set_option maxHeartbeats 8000000
namespace Mine
/-- the elements of b1_set with their tokens, as the table holds them -/
noncomputable def b1T : List (Int × Nat) := [(65024, 216), (65025, 217), (65026, 218), (65027, 219), (65028, 220), (65029, 221), (6150, 202), (65030, 222), (65031, 223), (65032, 224), (65033, 225), (6155, 203), (6156, 204), (6157, 205), (8203, 206), (8204, 207), (8205, 208), (65034, 226), (65035, 227), (65036, 228), (65037, 229), (65038, 230), (65039, 231), (173, 200), (847, 201), (8288, 209), (65279, 210)]
noncomputable def inB1 (k : Int) : Bool := b1T.any fun p => p.1 == k
theorem b1_elems (P : Params) : ∃ ep t, (o4x29 P).data = .set (b1T.map fun p => (p.1, Value.int p.1 p.2)).toArray ep t ∧ t.fits 27 = true := ⟨29, _, rfl, rfl⟩
theorem b1_small : ∀ p ∈ b1T, 0 ≤ p.1 ∧ p.1 < 2000000 := by decide
theorem b1_setObj (P : Params) (prog : Program) (w : World) : (o4x29 P).SetObjOf (intKind prog w) inB1 27 := by
  obtain ⟨ep, t, hd, hf⟩ := b1_elems P
  refine ⟨⟨rfl, rfl, rfl⟩, _, ep, t, hd, ?_, ?_, by simp [b1T], by simpa [b1T] using hf⟩
  · intro e he
    rw [List.toList_toArray] at he
    obtain ⟨p, hp, rfl⟩ := List.mem_map.mp he
    have b := b1_small p hp
    exact ⟨⟨p.1, by show Value.isInt p.1 (.int p.1 p.2) = true; simp [Value.isInt], (hashInt_small b.1 b.2).symm⟩, rfl⟩
  · intro k
    rw [List.toList_toArray]
    unfold inB1
    rw [List.any_eq_true]
    constructor
    · rintro ⟨p, hp, e⟩
      refine ⟨_, List.mem_map.mpr ⟨p, hp, rfl⟩, ?_⟩
      show Value.isInt k (.int p.1 p.2) = true
      rw [beq_iff_eq] at e
      simp [Value.isInt, e]
    · rintro ⟨e, he, h⟩
      obtain ⟨p, hp, rfl⟩ := List.mem_map.mp he
      refine ⟨p, hp, ?_⟩
      have h' : Value.isInt k (.int p.1 p.2) = true := h
      simp only [Value.isInt] at h'
      simpa using h'
theorem tab1_spec (w : World) (mean : ExcName → Option Value) (mg mb : Str → Option Value) (news : List (Addr × Obj)) (x : Str) (t1 : Tok) (hx : x.length = 1) : MClaim w mean mg mb 39 news (fun _ => True) [.str x t1] (fun r news' => news' = news ∧ r = .bool (inB1 (x.cps.getD 0 0))) := by
  w_on
  dsimp only [MClaim]
  k_fill
  intro dp un gd cn cs a ccd cl outer A₀ base h₀ L m s Q E hB hF hK hN hT hcs hTab hpre hdp hun hret
  refine wpAny_call ?_
  k_dflt cell_enter
  k_steps
  rename Fr h₀ L _ m => FG
  rename Fr _ _ _ _ => F1
  have h29 := F1.keep _ _ (FG.keep _ _ hTab.1)
  refine wpAny_inSet_of (knd := intKind _ _) (k := (x.cps.getD 0 0 : Nat)) (by simp [intKind, Value.isInt]) rfl ((b1_setObj w.params _ _).setOf h29 (by decide)) ?_
  k_steps
  all_goals (refine hret _ _ _ _ (by k_asm) (by k_asm) ⟨rfl, rfl⟩)
end Mine
end

section
open PySem PySem.W PyProof.Rows
set_option maxRecDepth 100000
set_option maxHeartbeats 8000000
namespace Mine
/-- what the table B.3 has for a code -/
noncomputable def b3get (c : Int) : Option Str := (kvl.find? fun x => x.1 == c).map fun x => x.2.2.1
noncomputable def fold3 (x : Str) : Str := (b3get (x.cps.getD 0 0 : Nat)).getD (Txt.lower x)
noncomputable def Told3 (e : Option DictEntry) (x : Option KV) : Prop := match e, x with
  | some e, some x => ∃ u, e = en x u
  | none, none => True
  | _, _ => False
theorem ent3_find (k : Int) : ∀ (ps : List KV) (t : Nat), Told3 ((ent3 t ps).find? fun e => Value.isInt k e.key) (ps.find? fun x => x.1 == k)
  | [], _ => trivial
  | x :: r, t => by
    have hk : Value.isInt k (en x t).key = (x.1 == k) := by
      show Value.isInt k (.int x.1 t) = _
      simp only [Value.isInt]
    rw [ent3, List.find?_cons, List.find?_cons, hk]
    cases x.1 == k with
    | true => exact ⟨t, rfl⟩
    | false => exact ent3_find k r (t + 3)
theorem ent2_find (k : Int) : ∀ (ps : List KV) (t : Nat), Told3 ((ent2 t ps).find? fun e => Value.isInt k e.key) (ps.find? fun x => x.1 == k)
  | [], _ => trivial
  | x :: r, t => by
    have hk : Value.isInt k (en x t).key = (x.1 == k) := by
      show Value.isInt k (.int x.1 t) = _
      simp only [Value.isInt]
    rw [ent2, List.find?_cons, List.find?_cons, hk]
    cases x.1 == k with
    | true => exact ⟨t, rfl⟩
    | false => exact ent2_find k r (t + 2)
theorem told3_or {a b : Option DictEntry} {x y : Option KV} (h1 : Told3 a x) (h2 : Told3 b y) : Told3 (a.or b) (x.or y) := by
  cases a <;> cases x
  · exact h2
  · exact h1.elim
  · exact h1.elim
  · exact h1
theorem entsL_find (k : Int) : ∀ (L : List (List KV)) (t : Nat), Told3 ((entsL t L).find? fun e => Value.isInt k e.key) (L.flatten.find? fun x => x.1 == k)
  | [], _ => trivial
  | c :: L, t => by
    rw [entsL, List.flatten_cons, List.find?_append, List.find?_append]
    exact told3_or (ent3_find k c t) (entsL_find k L _)
theorem b3_find (k : Int) : Told3 (b3E.find? fun e => Value.isInt k e.key) (kvl.find? fun x => x.1 == k) := by
  rw [kvl_eq]
  unfold b3E
  rw [List.find?_append, List.find?_append, List.find?_append, List.find?_append]
  exact told3_or (told3_or (ent3_find k _ _) (entsL_find k _ _)) (ent2_find k _ _)
noncomputable def b3f (k : Int) : Option Value := findBy Value.isInt b3E.toArray k
theorem b3f_some {k : Int} {y : Str} (h : b3get k = some y) : ∃ t, b3f k = some (.str y t) := by
  have q := b3_find k
  unfold b3get at h
  unfold b3f findBy
  rw [List.find?_toArray]
  cases hx : kvl.find? fun x => x.1 == k with
  | none => rw [hx] at h; cases h
  | some x =>
    rw [hx] at h q
    cases he : b3E.find? fun e => Value.isInt k e.key with
    | none => rw [he] at q; exact q.elim
    | some e =>
      rw [he] at q
      obtain ⟨u, rfl⟩ := q
      cases h
      exact ⟨u + 1, rfl⟩
theorem b3f_none {k : Int} (h : b3get k = none) : b3f k = none := by
  have q := b3_find k
  unfold b3get at h
  unfold b3f findBy
  rw [List.find?_toArray]
  cases hx : kvl.find? fun x => x.1 == k with
  | some x => rw [hx] at h; cases h
  | none =>
    rw [hx] at q
    cases he : b3E.find? fun e => Value.isInt k e.key with
    | none => rfl
    | some e => rw [he] at q; exact q.elim
theorem b3_keys (prog : Program) (w : World) : KeysOf (intKind prog w) b3E.toArray := by
  have key : ∀ e ∈ b3E, ∃ x ∈ kvl, ∃ u, e = en x u := by
    have h3 : ∀ (ps : List KV) (t : Nat), ∀ e ∈ ent3 t ps, ∃ x ∈ ps, ∃ u, e = en x u := by
      intro ps
      induction ps with
      | nil => intro t e h; exact nomatch h
      | cons x r ih =>
        intro t e h
        rw [ent3] at h
        rcases List.mem_cons.mp h with rfl | h
        · exact ⟨x, .head _, t, rfl⟩
        · obtain ⟨y, hy, u, e'⟩ := ih _ e h
          exact ⟨y, .tail _ hy, u, e'⟩
    have h2 : ∀ (ps : List KV) (t : Nat), ∀ e ∈ ent2 t ps, ∃ x ∈ ps, ∃ u, e = en x u := by
      intro ps
      induction ps with
      | nil => intro t e h; exact nomatch h
      | cons x r ih =>
        intro t e h
        rw [ent2] at h
        rcases List.mem_cons.mp h with rfl | h
        · exact ⟨x, .head _, t, rfl⟩
        · obtain ⟨y, hy, u, e'⟩ := ih _ e h
          exact ⟨y, .tail _ hy, u, e'⟩
    have hL : ∀ (L : List (List KV)) (t : Nat), ∀ e ∈ entsL t L, ∃ x ∈ L.flatten, ∃ u, e = en x u := by
      intro L
      induction L with
      | nil => intro t e h; exact nomatch h
      | cons c L ih =>
        intro t e h
        rw [entsL] at h
        rw [List.flatten_cons]
        rcases List.mem_append.mp h with h | h
        · obtain ⟨y, hy, q⟩ := h3 _ _ e h
          exact ⟨y, List.mem_append_left _ hy, q⟩
        · obtain ⟨y, hy, q⟩ := ih _ e h
          exact ⟨y, List.mem_append_right _ hy, q⟩
    intro e he
    rw [kvl_eq]
    unfold b3E at he
    rcases List.mem_append.mp he with h | h
    · rcases List.mem_append.mp h with h | h
      · obtain ⟨y, hy, q⟩ := h3 _ _ e h
        exact ⟨y, List.mem_append_left _ (List.mem_append_left _ hy), q⟩
      · obtain ⟨y, hy, q⟩ := hL _ _ e h
        exact ⟨y, List.mem_append_left _ (List.mem_append_right _ hy), q⟩
    · obtain ⟨y, hy, q⟩ := h2 _ _ e h
      exact ⟨y, List.mem_append_right _ hy, q⟩
  intro e he
  obtain ⟨x, hx, u, rfl⟩ := key e (List.mem_toArray.mp he)
  exact ⟨x.1, by show Value.isInt x.1 (.int x.1 u) = true; simp [Value.isInt], rfl⟩
theorem b3_map {h : Heap} (prog : Program) (w : World) (h40 : h.get? 40 = some (subD 0)) : h.MapOf (intKind prog w) 40 b3f :=
  ⟨_, _, _, h40, ⟨rfl, rfl, rfl⟩, rfl, b3_keys prog w, fun _ => rfl⟩
end Mine
end

section
open PySem PySem.W PyProof.Rows
set_option maxRecDepth 100000
set_option maxHeartbeats 8000000
namespace Mine
theorem tab3_spec (w : World) (mean : ExcName → Option Value) (mg mb : Str → Option Value) (news : List (Addr × Obj)) (x : Str) (t1 : Tok) (hx : x.length = 1) : MClaim w mean mg mb 85 news (fun _ => True) [.str x t1] (fun r news' => news' = news ∧ ∃ t, r = .str (fold3 x) t) := by
  w_on
  dsimp only [MClaim]
  k_fill
  intro dp un gd cn cs a ccd cl outer A₀ base h₀ L m s Q E hB hF hK hN hT hcs hTab hpre hdp hun hret
  refine wpAny_call ?_
  k_dflt cell_enter
  k_steps
  rename Fr h₀ L _ m => FG
  rename Fr _ _ _ _ => F1
  have hm := b3_map PySem.Challenge.rw_rl0108_01.row.prog w (F1.keep _ _ (FG.keep _ _ hTab.2))
  refine getMethod_builtin (s := ⟨_, _, _, _, _⟩) hm.typeIs PySem.F.plainAttrs_dict PySem.F.slot_dict_get PySem.F.type_dict_get hm.noDict ?_
  k_steps
  refine call_meetsIn PySem.F.slot_dict_get (s := ⟨_, _, _, _, _⟩) hm.typeIs PySem.F.entry_dict_get (PySem.F.args_dict_get_2 _ _) (meets_dict_get (intKind _ _) 40 (intKind_is _ _ (x.cps.getD 0 0 : Nat) _) rfl) ⟨_, hm, ?_⟩
  cases hb : b3get (x.cps.getD 0 0 : Nat) with
  | none =>
    rw [b3f_none hb]
    dsimp only [Option.getD]
    k_steps
    all_goals (refine hret _ _ _ _ (by k_asm) (by k_asm) ⟨rfl, ?_⟩; unfold fold3; rw [hb]; exact ⟨_, rfl⟩)
  | some y =>
    obtain ⟨u, hu⟩ := b3f_some hb
    rw [hu]
    dsimp only [Option.getD]
    k_steps
    all_goals (refine hret _ _ _ _ (by k_asm) (by k_asm) ⟨rfl, ?_⟩; unfold fold3; rw [hb]; exact ⟨_, rfl⟩)
end Mine
end

section
open PySem PySem.W PySem.Calls PySem.Spec PyProof.Rows
set_option maxRecDepth 100000
set_option maxHeartbeats 4000000
namespace Mine
/-- as MClaim, with room for defs that call -/
noncomputable abbrev MClaim2 (w : World) (mean : ExcName → Option Value) (mg mb : Str → Option Value) (f : Addr) (news : List (Addr × Obj)) (pre : Heap → Prop) (vs : List Value) (post : Value → List (Addr × Obj) → Prop) : Prop :=
  ∀ (dp un : Nat) (gd : Option (List Code)) (cn : Str) (cs : Scope) (a : Addr) (ccd : Value) (cl : List (Str × Addr)) (outer : List Env) (A₀ : Around) (base h₀ : Heap) (L : Addr) (m : Str → Option Value) (s : Shared) (Q E : Value → Shared → Prop),
    Below A₀ base outer h₀ → Fr h₀ L s.heap m → (KF w.params).In h₀ → News h₀ L s.heap news → Top qv (looseW qv lo) mean mg mb h₀ → cs.kind = .function → Tabs w h₀ → pre h₀ → dp + 50 < recursionLimit → un + 400 < cLine →
    (∀ (r : Value) (news' : List (Addr × Obj)) (h' : Heap) (tk' : Nat), Fr h₀ L h' m → News h₀ L h' news' → post r news' → Q r { s with heap := h', toks := tk' }) →
    wpAny (model PySem.Challenge.rw_rl0108_01.row.prog w) (ktrTop dp un gd cn cs L a ccd cl outer) (call (.ref f) vs) Q E s
section
variable {w : World} {mean : ExcName → Option Value} {mg mb : Str → Option Value} {f : Addr} {news : List (Addr × Obj)} {pre : Heap → Prop} {vs : List Value} {post : Value → List (Addr × Obj) → Prop}
  {dp un : Nat} {gd : Option (List Code)} {cn : Str} {cs : Scope} {a : Addr} {ccd : Value} {cl : List (Str × Addr)} {outer : List Env} {A₀ : Around} {base h₀ : Heap} {L : Addr} {m : Str → Option Value} {s : Shared} {Q E : Value → Shared → Prop}
theorem MClaim.use (C : MClaim w mean mg mb f news pre vs post) (B : Below A₀ base outer h₀) (F : Fr h₀ L s.heap m) (X : (KF w.params).In h₀) (N : News h₀ L s.heap news) (T : Top qv (looseW qv lo) mean mg mb h₀) (hk : cs.kind = .function) (tb : Tabs w h₀) (hp : pre h₀) (hd : dp + 5 < recursionLimit) (hu : un + 40 < cLine)
    (k : ∀ (r : Value) (news' : List (Addr × Obj)) (h' : Heap) (tk' : Nat), Fr h₀ L h' m → News h₀ L h' news' → post r news' → Q r { s with heap := h', toks := tk' }) :
    wpAny (model PySem.Challenge.rw_rl0108_01.row.prog w) (ktrTop dp un gd cn cs L a ccd cl outer) (call (.ref f) vs) Q E s := C _ _ _ _ _ _ _ _ _ _ _ _ _ _ _ _ _ B F X N T hk tb hp hd hu k
theorem MClaim2.use (C : MClaim2 w mean mg mb f news pre vs post) (B : Below A₀ base outer h₀) (F : Fr h₀ L s.heap m) (X : (KF w.params).In h₀) (N : News h₀ L s.heap news) (T : Top qv (looseW qv lo) mean mg mb h₀) (hk : cs.kind = .function) (tb : Tabs w h₀) (hp : pre h₀) (hd : dp + 50 < recursionLimit) (hu : un + 400 < cLine)
    (k : ∀ (r : Value) (news' : List (Addr × Obj)) (h' : Heap) (tk' : Nat), Fr h₀ L h' m → News h₀ L h' news' → post r news' → Q r { s with heap := h', toks := tk' }) :
    wpAny (model PySem.Challenge.rw_rl0108_01.row.prog w) (ktrTop dp un gd cn cs L a ccd cl outer) (call (.ref f) vs) Q E s := C _ _ _ _ _ _ _ _ _ _ _ _ _ _ _ _ _ B F X N T hk tb hp hd hu k
end
theorem Tabs.up {w : World} {h₀ g : Heap} {L : Addr} {m : Str → Option Value} (t : Tabs w h₀) (F : Fr h₀ L g m) : Tabs w g := ⟨F.keep _ _ t.1, F.keep _ _ t.2⟩
end Mine
namespace Mine
theorem item_list {prog : Program} {w : World} {A : Around} {E : Value → Shared → Prop} {s : Shared} {value slice : PySem.Expr} {l : Addr} {vs : List Value} {k : Int} {u : Tok} {v : Value} {Q : Value → Shared → Prop}
    (hl : s.heap.IsList l vs.toArray) (h0 : 0 ≤ k) (hhi : k < 2 ^ 63) (hx : vs[k.toNat]? = some v) (h : Q v s)
    (hs : subscripted slice false (.ref l) (.int k u) = operate [.ref l, .int k u] (getItem (.ref l) (.int k u)) := by with_unfolding_all rfl) :
    wpAny (model prog w) A (subscriptTail value slice (.ref l) (.int k u)) Q E s :=
  tail_any hl.typeIs slot_list_getitem.lookup (wpAny_getItem_list hl h0 hhi (by simpa using hx) h) hs
theorem fm_bd (x : Int) {k : Int} (hk : 0 < k) : 0 ≤ x.fmod k ∧ x.fmod k < k := ⟨Int.fmod_nonneg_of_pos _ hk, Int.fmod_lt_of_pos _ hk⟩
theorem at_of_lt {α : Type} {l : List α} {n : Nat} {j : Nat} (hl : l.length = n) (hj : j < n) : ∃ a, l[j]? = some a := ⟨l[j], List.getElem?_eq_getElem (by omega)⟩
theorem map_at {l : List Addr} {j : Nat} {a : Addr} (h : l[j]? = some a) : (l.map Value.ref)[j]? = some (.ref a) := by simp [h]
end Mine
namespace Mine
theorem allNe_lt {l : List (Addr × Obj)} {d e : Nat} (h : ∀ p ∈ l, p.1 < d) (hd : @LE.le Nat _ d e) : ∀ p ∈ l, p.1 ≠ e := fun p hp => Nat.ne_of_lt (Nat.lt_of_lt_of_le (h p hp) hd)
end Mine
end

section
open PySem PySem.W PySem.Calls PySem.Spec PyProof.Rows
set_option maxRecDepth 100000
set_option maxHeartbeats 4000000
namespace Mine
theorem rmul_bool_list (p : Bool) (l : Addr) (items : Array Value) (n : Nat) :
    Meets (Builtin.«int.__rmul__» ⟨[.bool p, .ref l], []⟩) (fun _ R s => s.heap.get? l = some { cls := .type "list", dict := none, data := .seq items n, slots := #[] } ∧ R (.ok (.ret Value.notImplemented)) s) :=
  .of_wp fun prog w A R s h => by cases p <;> (obtain ⟨hp, g, d, tk, os⟩ := s; obtain ⟨hl, h⟩ := h; wp_walk; exact ⟨_, rfl, h⟩)
theorem list_mul_true (l : Addr) (x : Value) (n : Nat) :
    Meets (Builtin.«list.__mul__» ⟨[.ref l, .bool true], []⟩) (fun _ R s => s.heap.get? l = some { cls := .type "list", dict := none, data := .seq #[x] n, slots := #[] } ∧ R (.ok (.ret (Value.ref s.heap.objs.size))) { s with heap := s.heap.push { cls := .type "list", data := .seq #[x] } }) :=
  .of_wp fun prog w A R s h => by
    obtain ⟨hp, g, d, tk, os⟩ := s; obtain ⟨hl, h⟩ := h
    wp_walk
    exact ⟨_, rfl, h⟩
theorem list_mul_false (l : Addr) (x : Value) (n : Nat) :
    Meets (Builtin.«list.__mul__» ⟨[.ref l, .bool false], []⟩) (fun _ R s => s.heap.get? l = some { cls := .type "list", dict := none, data := .seq #[x] n, slots := #[] } ∧ R (.ok (.ret (Value.ref s.heap.objs.size))) { s with heap := s.heap.push { cls := .type "list", data := .seq #[] } }) :=
  .of_wp fun prog w A R s h => by
    obtain ⟨hp, g, d, tk, os⟩ := s; obtain ⟨hl, h⟩ := h
    wp_walk
    exact ⟨_, rfl, h⟩
section
variable {prog : Program} {w : World} {A : Around} {E : Value → Shared → Prop} {s : Shared} {h₀ : Heap} {L : Addr} {m : Str → Option Value} {news : List (Addr × Obj)}
theorem mul_list_bool {l : Addr} {x : Value} {k : Nat} {p : Bool} {Q : Value → Shared → Prop} (F : Fr h₀ L s.heap m) (N : News h₀ L s.heap news) (hm : (l, listOf #[x] k) ∈ news)
    (h : ∀ h' D, Fr h₀ L h' m → News h₀ L h' ((D, listOf (if p then [x] else []).toArray 0) :: news) → Q (.ref D) { s with heap := h' }) :
    wpAny (model prog w) A (binaryOp .Mult (.ref l) (.bool p)) Q E s := by
  have hl := (N _ hm).1
  refine wpAny_binaryOp_repeat_ref (T := "list") (U := "bool") (by decide) ⟨_, hl, rfl⟩ (fun s' => typeIs_bool' s' p) noFill_list_mul PySem.F.fills_bool_mul PySem.F.slot_bool_rmul repeat_list PySem.F.slot_bool_index.lookup
    (call_meets PySem.F.slot_bool_rmul (typeIs_bool' s p) PySem.F.entry_int_rmul (PySem.F.args_int_rmul_2 _ _) (rmul_bool_list p l #[x] k) ⟨hl, rfl, ⟨_, hl, rfl⟩, ?_⟩)
  cases p with
  | true => exact call_meets PySem.F.slot_list_mul ⟨_, hl, rfl⟩ PySem.F.entry_list_mul (PySem.F.args_list_mul_2 _ _) (list_mul_true l x k) ⟨hl, h _ _ (F.push _) (News.push F N _)⟩
  | false => exact call_meets PySem.F.slot_list_mul ⟨_, hl, rfl⟩ PySem.F.entry_list_mul (PySem.F.args_list_mul_2 _ _) (list_mul_false l x k) ⟨hl, h _ _ (F.push _) (News.push F N _)⟩
theorem add_listsD {l b : Addr} {vs ws : List Value} {Q : Value → Shared → Prop} (F : Fr h₀ L s.heap m) (N : News h₀ L s.heap news) (hl : s.heap.IsList l vs.toArray) (hb : s.heap.IsList b ws.toArray) (hsz : vs.length + ws.length ≤ 1000)
    (h : ∀ h' D, Fr h₀ L h' m → News h₀ L h' ((D, listOf (vs ++ ws).toArray 0) :: news) → (∀ p ∈ news, @LT.lt Nat _ p.1 D) → Q (.ref D) { s with heap := h' }) :
    wpAny (model prog w) A (binaryOp .Add (.ref l) (.ref b)) Q E s := add_lists F N hl hb (fun h' F' N' => h h' _ F' N' fun p hp => Heap.lt_size (N p hp).1) (by rw [sizeLine_eq]; omega)
theorem item_tup {value slice : PySem.Expr} {t : Addr} {l : List Value} {n : Nat} {k : Int} {u : Tok} {v : Value} {Q : Value → Shared → Prop} (N : News h₀ L s.heap news) (hm : (t, ({ cls := .type "tuple", data := .seq l.toArray n } : Obj)) ∈ news) (h0 : 0 ≤ k) (hk : k < 2 ^ 62) (hx : l[k.toNat]? = some v) (h : Q v s)
    (hs : subscripted slice false (.ref t) (.int k u) = operate [.ref t, .int k u] (getItem (.ref t) (.int k u)) := by with_unfolding_all rfl) :
    wpAny (model prog w) A (subscriptTail value slice (.ref t) (.int k u)) Q E s := by
  have hlt : k.toNat < l.length := (List.getElem?_eq_some_iff.mp hx).1
  refine item_tupleT (News.isTup N hm) (by omega) (by omega) (j := k.toNat) ?_ hx h hs
  unfold seqIndex?
  first | (simp; omega) | skip
theorem item_ints {value slice : PySem.Expr} {l : Addr} {its : List Value} {n : Nat} {ks : List Int} {k v : Int} {u : Tok} {Q : Value → Shared → Prop} (N : News h₀ L s.heap news) (hm : (l, listOf its.toArray n) ∈ news) (hi : IntsAre its ks) (h0 : 0 ≤ k) (hk : k < 2 ^ 63) (hx : ks[k.toNat]? = some v) (h : ∀ t, Q (.int v t) s)
    (hs : subscripted slice false (.ref l) (.int k u) = operate [.ref l, .int k u] (getItem (.ref l) (.int k u)) := by with_unfolding_all rfl) :
    wpAny (model prog w) A (subscriptTail value slice (.ref l) (.int k u)) Q E s := by
  obtain ⟨t, ht⟩ := ints_at hi hx
  exact item_list (isList_news N hm) h0 hk ht (h t) hs
end
end Mine
end

section
open PySem PySem.W PySem.Calls PySem.Spec PyProof.Rows
set_option maxRecDepth 100000
set_option maxHeartbeats 4000000
namespace Mine
section
variable {prog : Program} {w : World} {A : Around} {E : Value → Shared → Prop} {s : Shared} {h₀ : Heap} {L D b : Addr} {m : Str → Option Value} {news news' rest : List (Addr × Obj)} {vs ws : List Value} {n n2 : Nat}
theorem insert0 {u : Tok} {y : Value} {Q : Value → Shared → Prop} (F : Fr h₀ L s.heap m) (N : News h₀ L s.heap ((D, listOf vs.toArray n) :: rest)) (hne : ∀ p ∈ rest, p.1 ≠ D) (hz : vs.length ≤ 1000)
    (h : ∀ h', Fr h₀ L h' m → News h₀ L h' ((D, listOf (y :: vs).toArray (n + 1)) :: rest) → Q .none { s with heap := h' }) :
    wpAny (model prog w) A (call (.builtin "list.insert") [.ref D, .int 0 u, y]) Q E s :=
  kl_insert F N rfl (l := y :: vs) (by simp [kl_ins]) (Upd.head hne) (by rw [sizeLine_eq]; simp; omega) h
theorem extend_list {Q : Value → Shared → Prop} (F : Fr h₀ L s.heap m) (N : News h₀ L s.heap news) (hb : (b, listOf ws.toArray n2) ∈ news) (U : Upd D (listOf vs.toArray n) (listOf (vs ++ ws).toArray (n + 1)) news news') (hne : ws.length ≠ 0) (hz : vs.length + ws.length ≤ 1000)
    (h : ∀ h', Fr h₀ L h' m → News h₀ L h' news' → Q .none { s with heap := h' }) : wpAny (model prog w) A (call (.builtin "list.extend") [.ref D, .ref b]) Q E s :=
  kl_extend F N hb (by simp) (by simpa using hne) U (by simp [Builtin.List.listTooLong, sizeLine]; omega) (by rw [sizeLine_eq]; simp; omega) (by rw [sizeLine_eq]; simp; omega) h
end
end Mine
namespace Mine
theorem allLt_all {d : Nat} {l : List (Addr × Obj)} (h : AllLt d l) : ∀ p ∈ l, @LT.lt Nat _ p.1 d := by
  induction l with
  | nil => intro p hp; exact nomatch hp
  | cons q r ih =>
    intro p hp
    rcases List.mem_cons.mp hp with rfl | hp
    · exact h.1
    · exact ih h.2 p hp
end Mine
end

section
open PySem PySem.W PySem.Calls PySem.Spec PyProof.Rows
set_option maxRecDepth 100000
set_option maxHeartbeats 4000000
namespace Mine
section
variable {prog : Program} {w : World} {A : Around} {E : Value → Shared → Prop} {s : Shared} {h₀ : Heap} {L : Addr} {m : Str → Option Value} {env : Env}
theorem compEnd_mono {s₁ : Shared} {I C D : Addr} {oI oC oD : Obj} {S : List (Addr × Obj) → Prop} {rest rest' : Value → List (Addr × Obj) → Prop} {y : Value} {s₂ : Shared} (h : LCg.CompEnd h₀ L m s₁ I oI C oC D oD S rest y s₂) (k : ∀ y n, rest y n → rest' y n) : LCg.CompEnd h₀ L m s₁ I oI C oC D oD S rest' y s₂ :=
  let ⟨h', tk, news', a, b, c, d, e, f⟩ := h; ⟨h', tk, news', a, b, c, d, e, k _ _ f⟩
/-- a comprehension by what holds of its turns -/
theorem comp_inv {elt : PySem.Expr} {x : Str} {scope : Scope} {cl : List (Str × Addr)} {S : List (Addr × Obj) → Prop} {P : Nat → Value → Prop} {Fin : List Value → List (Addr × Obj) → Prop} (J : Nat → List Value → List (Addr × Obj) → Prop) (n : Nat)
    (turn : ∀ (i : Nat) (ys : List Value) (news : List (Addr × Obj)), i < n → J i ys news → ∀ v I oI C oC D m₂ h tk (E' : Value → Shared → Prop), P i v → LCg.NsObj oC m₂ → m₂ x = some v → Fr h₀ L h m → News h₀ L h ((I, oI) :: (C, oC) :: (D, LCg.lst ys) :: news) → LCg.Off3 I C D news → ((@Ne Nat I C) ∧ (@Ne Nat I D) ∧ (@Ne Nat C D)) →
      wpAny (model prog w) A (eval elt (compEnvC scope cl C env)) (LCg.CompEnd h₀ L m { s with heap := h, toks := tk } I oI C oC D (LCg.lst ys) S (fun y news' => J (i + 1) (ys ++ [y]) news')) E' { s with heap := h, toks := tk })
    (fin : ∀ ys news, J n ys news → Fin ys news) : ∀ (k i : Nat) (ys : List Value) (news : List (Addr × Obj)), i + k = n → J i ys news → LCg.CompRest prog w A h₀ L m env elt x scope cl s S P Fin k i ys news := by
  intro k
  induction k with
  | zero =>
    intro i ys news hi hJ
    have e : i = n := by omega
    subst e
    exact LCg.CompRest.zero (fin _ _ hJ)
  | succ k ih =>
    intro i ys news hi hJ
    refine LCg.CompRest.succ fun v I oI C oC D m₂ h tk E' hP hC hm F N off ne => ?_
    exact wpAny_mono (turn i ys news (by omega) hJ v I oI C oC D m₂ h tk E' hP hC hm F N off ne) (fun y s₂ q => compEnd_mono q fun y n' hJ' => ih (i + 1) _ _ (by omega) hJ') fun _ _ e => e
end
end Mine
namespace Mine
theorem range0 (n : Nat) (h : n ≤ 1000000) : Builtin.Range.small 0 (n : Int) 1 = true ∧ Builtin.Range.rangeSize 0 (n : Int) 1 = (n : Int) := by
  have e : Builtin.Range.rangeSize 0 (n : Int) 1 = (n : Int) := by
    unfold Builtin.Range.rangeSize
    cases n with
    | zero => simp
    | succ n => simp
  refine ⟨?_, e⟩
  unfold Builtin.Range.small
  rw [e]
  simp [Builtin.Range.rangeFitsLong]
  omega
end Mine
end

section
open PySem PySem.W PySem.Calls PySem.Spec PyProof PyProof.Rows
set_option maxRecDepth 100000
set_option maxHeartbeats 4000000
namespace Mine
/-- a text by its codes -/
noncomputable def S (l : List Nat) : Str := ⟨l.toArray⟩
theorem S_len (l : List Nat) : (S l).length = l.length := by simp [S, Str.length]
theorem S_inj {a b : List Nat} (h : S a = S b) : a = b := by
  have := congrArg Str.cps h
  simpa [S] using this
theorem S_beq (a b : List Nat) : (S a == S b) = decide (a = b) := by
  by_cases h : a = b
  · subst h; simp
  · have : ¬ S a = S b := fun e => h (S_inj e)
    simp [h, this]
theorem S_of (x : Str) : x = S x.cps.toList := by cases x; simp [S]
theorem S_append (a b : List Nat) : S a ++ S b = S (a ++ b) := by
  have h := Str.cps_append (S a) (S b)
  have : (S a ++ S b).cps = (S (a ++ b)).cps := by rw [h]; simp [S]
  revert this
  generalize S a ++ S b = z
  cases z
  intro this
  simp [S] at this
  simp [S, this]
theorem slice_from (X : List Nat) (p : Nat) (h : p ≤ X.length) : Txt.slice (S X) (some (p : Int)) none = S (X.drop p) := by
  rw [slice_from_eq (b := ((S X).length : Int)) (by omega) (by rw [S_len]; omega) rfl, S_len]
  have e : ((X.length : Int) - (p : Int)).toNat = (X.drop p).length := by rw [List.length_drop]; omega
  rw [e, Int.toNat_natCast]
  show Str.mk ((((S X).cps.toList.drop p).take (X.drop p).length).toArray) = _
  have e2 : (S X).cps.toList = X := by simp [S]
  rw [e2, List.take_length]
  rfl
theorem slice_all (X : List Nat) : Txt.slice (S X) none none = S X := by
  have h : (StrLaws.sliceText (S X) none none) = StrLaws.sliceText (S X) (some 0) none := by
    unfold StrLaws.sliceText
    rw [StrLaws.sliceIdx_none_lo]
  have h2 := slice_from X 0 (Nat.zero_le _)
  exact h.trans h2
theorem item_at (X : List Nat) (p : Nat) (c : Nat) (h : X[p]? = some c) : Txt.item (S X) (p : Int) = S [c] := by
  refine item_meets (by omega) ?_
  simpa [S] using h
theorem item_last (X : List Nat) (c : Nat) (h : X.getLast? = some c) : Txt.item (S X) (-1) = S [c] := by
  have hne : X ≠ [] := by intro e; rw [e] at h; cases h
  have hlen : 0 < X.length := by cases X with | nil => exact absurd rfl hne | cons => simp
  have q := beq_iff_eq.mp (item_closes_neg (x := S X) (i := -1) (j := -1 + ((S X).length : Int)) (by decide) (by rw [S_len]; omega) rfl)
  rw [q, S_len]
  have e : (-1 + (X.length : Int)).toNat = X.length - 1 := by omega
  rw [e]
  rw [List.getLast?_eq_getElem?] at h
  simp [S, h]
end Mine
namespace Mine
/-- a place where ways meet -/
noncomputable def Cut (P : Flow → Shared → Prop) (f : Flow) (s' : Shared) : Prop := P f s'
theorem Cut.mk {P : Flow → Shared → Prop} {f : Flow} {s' : Shared} (h : P f s') : Cut P f s' := h
/-- the frame at a meeting -/
noncomputable def Meet {τ : Type} (g : Heap) (L : Addr) (s : Shared) (ps : τ → List (Str × Value)) (news : List (Addr × Obj)) (f : Flow) (s' : Shared) : Prop :=
  f = .next ∧ ∃ (h' : Heap) (tk' : Nat) (t : τ), s' = { s with heap := h', toks := tk' } ∧ Fr g L h' (KB (ps t)) ∧ News g L h' news
theorem exec_cut {M : Model} {A : Around} {E : Value → Shared → Prop} {Q : Flow → Shared → Prop} {s : Shared} {env : Env} {h₀ : Heap} {L : Addr} {τ : Type} {stmt : Stmt} {m : Str → Option Value} (_F : Fr h₀ L s.heap m) (out : τ → List (Str × Value)) (nw : List (Addr × Obj)) (h : wpAny M A (exec stmt env) (Cut (Meet h₀ L s out nw)) E s)
    (k : ∀ (h' : Heap) (tk' : Nat) (t : τ), Fr h₀ L h' (KB (out t)) → News h₀ L h' nw → Q .next { s with heap := h', toks := tk' }) : wpAny M A (exec stmt env) Q E s := by
  refine wpAny_mono h (fun f s' hq => ?_) fun _ _ e => e
  obtain ⟨rfl, h', tk', t, rfl, F', N'⟩ := hq
  exact k h' tk' t F' N'
theorem drop_at {α : Type} {X : List α} {p : Nat} (h : p < X.length) : ∃ c, X[p]? = some c := ⟨X[p], List.getElem?_eq_getElem h⟩
theorem take_at {α : Type} {X Y : List α} {p c : Nat} (h : X.take p = Y.take p) (hc : c < p) : X[c]? = Y[c]? := by
  have h1 : (X.take p)[c]? = (Y.take p)[c]? := by rw [h]
  rwa [List.getElem?_take_of_lt hc, List.getElem?_take_of_lt hc] at h1
end Mine
namespace Mine
theorem while_cut {prog : Program} {w : World} {A : Around} {E : Value → Shared → Prop} {Q : Flow → Shared → Prop} {s : Shared} {env : Env} {h₀ : Heap} {L : Addr} {σ τ : Type} {test : PySem.Expr} {body : List Stmt} {pos : Pos} {m₀ : Str → Option Value}
    (out : τ → List (Str × Value)) (nw : List (Addr × Obj)) (Led : σ → List (Addr × Obj)) (ps : σ → List (Str × Value)) (Facts : σ → Prop) (stored : List Str) (P : σ → Prop) (μ : σ → Nat) (c₀ : σ)
    (F : Fr h₀ L s.heap m₀) (N : News h₀ L s.heap (Led c₀)) (hf : Facts c₀) (hk : ∀ p ∈ ps c₀, m₀ p.1 = some p.2) (hp : P c₀)
    (turn : ∀ (c : σ) (u : Str → Option Value) h tk, Facts c → P c → Fr h₀ L h (kstB (fun z => if stored.contains z then u z else m₀ z) (ps c)) → News h₀ L h (Led c) →
      wpAny (model prog w) A (isTrue test env (eval test env)) (fun b s₂ =>
        if b = true then wpAny (model prog w) A (execs body env) (KswPost h₀ L s Led ps Facts stored m₀ P μ (Cut (Meet h₀ L s out nw)) c) E s₂ else Cut (Meet h₀ L s out nw) .next s₂) E { s with heap := h, toks := tk })
    (k : ∀ (h' : Heap) (tk' : Nat) (t : τ), Fr h₀ L h' (KB (out t)) → News h₀ L h' nw → Q .next { s with heap := h', toks := tk' })
    (hE : PassesOwn (model prog w) A env E := by passes_own) : wpAny (model prog w) A (exec (.While test body [] pos) env) Q E s := by
  refine wpAny_mono (ksw_while (Q := Cut (Meet h₀ L s out nw)) Led ps Facts stored P μ c₀ F N hf hk hp turn hE) (fun f s' hq => ?_) fun _ _ e => e
  obtain ⟨rfl, h', tk', t, rfl, F', N'⟩ := hq
  exact k h' tk' t F' N'
end Mine
namespace Mine
theorem fr_eq {h₀ h : Heap} {L : Addr} {m m' : Str → Option Value} (F : Fr h₀ L h m) (e : ∀ z, m z = m' z) : Fr h₀ L h m' := (funext e : m = m') ▸ F
end Mine
namespace Mine
theorem slice_S_all {prog : Program} {w : World} {A : Around} {E : Value → Shared → Prop} {s : Shared} {value slice : PySem.Expr} {X : List Nat} {t : Tok} {h₀ : Heap} {L : Addr} {m : Str → Option Value} {news : List (Addr × Obj)} {Q : Value → Shared → Prop} (hF : Fr h₀ L s.heap m) (hN : News h₀ L s.heap news) (h : ∀ h' t' k, Fr h₀ L h' m → News h₀ L h' news → Q (.str (S X) t') { s with heap := h', toks := k })
    (hs : subscripted slice false (.str (S X) t) (.ref s.heap.objs.size) = operate [.ref s.heap.objs.size, .str (S X) t] (getItem (.str (S X) t) (.ref s.heap.objs.size)) := by with_unfolding_all rfl)
    (ht : ∀ r, letTemporaryGo value (.str (S X) t) r = pure () := by intro _; with_unfolding_all rfl) (hsz : (S X).length ≤ sizeLine := by size_fits) :
    wpAny (model prog w) A (subscriptTail value slice (.str (S X) t) (.ref s.heap.objs.size)) Q E { s with heap := s.heap.push { cls := .type "slice", data := .fields #[.none, .none, .none] } } :=
  slice_strN_nn (hsz := hsz) hF hN (fun h' t' k a b => by rw [slice_all]; exact h h' t' k a b) hs ht
end Mine
namespace Mine
/-- what a change of one letter costs -/
noncomputable def cst (c d : Nat) : Int := if c = d then 0 else 2
/-- a row of the table: the letters of a with the row above, the cell to the left above, the cell to the left, the least so far -/
noncomputable def inF (bc : Nat) : List (Nat × Int) → Int → Int → Int → List Int × Int × Int
  | [], _, r, mn => ([], r, mn)
  | (ac, rw) :: t, d, r, mn =>
    let r' := min (min r rw + 2) (d + cst bc ac)
    let q := inF bc t rw r' (if r' < mn then r' else mn)
    (r' :: q.1, q.2)
noncomputable def bigM : Int := 9223372036854775807
noncomputable def outF (A : List Nat) : List Nat → Int → List Int → Int → Int → Int
  | [], _, _, res, _ => res
  | bc :: t, bi, row, _, mx =>
    let q := inF bc (A.zip row) (bi * 2) (bi * 2) bigM
    if mx < q.2.2 then mx + 1 else outF A t (bi + 1) q.1 q.2.1 mx
noncomputable def row0 (n : Nat) : List Int := (List.range n).map fun (i : Nat) => ((i : Int) + 1) * 2
/-- what is told of two texts without a front or an end in common, a the shorter one -/
noncomputable def levT (A B : List Nat) (mx : Int) : Int := if mx < ((B.length : Int) - (A.length : Int)) * 2 then mx + 1 else outF A B 0 (row0 A.length) 0 mx
noncomputable def levR (A B A' B' : List Nat) (mx : Int) : Int := if A = [] ∨ B = [] then 2 * ((A.length : Int) + (B.length : Int)) else levT A' B' mx
end Mine
namespace Mine
/-- a meeting that names some of the frame alone -/
noncomputable def MeetK {τ : Type} (g : Heap) (L : Addr) (s : Shared) (ps : τ → List (Str × Value)) (Led : τ → List (Addr × Obj)) (Ok : τ → Prop) (f : Flow) (s' : Shared) : Prop :=
  f = .next ∧ ∃ (h' : Heap) (tk' : Nat) (t : τ) (m' : Str → Option Value), s' = { s with heap := h', toks := tk' } ∧ Fr g L h' m' ∧ (∀ p ∈ ps t, m' p.1 = some p.2) ∧ News g L h' (Led t) ∧ Ok t
theorem kst_self {m' : Str → Option Value} {ps : List (Str × Value)} (h : ∀ p ∈ ps, m' p.1 = some p.2) : kstB m' ps = m' := funext fun _ => kstB_eq h fun _ => rfl
theorem exec_cutK {M : Model} {A : Around} {E : Value → Shared → Prop} {Q : Flow → Shared → Prop} {s : Shared} {env : Env} {h₀ : Heap} {L : Addr} {τ : Type} {stmt : Stmt} {m : Str → Option Value} (_F : Fr h₀ L s.heap m) (out : τ → List (Str × Value)) (Led : τ → List (Addr × Obj)) (Ok : τ → Prop) (h : wpAny M A (exec stmt env) (Cut (MeetK h₀ L s out Led Ok)) E s)
    (k : ∀ (h' : Heap) (tk' : Nat) (t : τ) (m' : Str → Option Value), Fr h₀ L h' (kstB m' (out t)) → News h₀ L h' (Led t) → Ok t → Q .next { s with heap := h', toks := tk' }) : wpAny M A (exec stmt env) Q E s := by
  refine wpAny_mono h (fun f s' hq => ?_) fun _ _ e => e
  obtain ⟨rfl, h', tk', t, m', rfl, F', hm, N', ok⟩ := hq
  exact k h' tk' t m' (by rw [kst_self hm]; exact F') N' ok
end Mine
namespace Mine
theorem ints_of_items {a c : Int} : ∀ (n : Nat) (vs : List Value), vs.length = n → (∀ i, i < n → ∃ t, vs[i]? = some (.int (a + i * c) t)) → IntsAre vs (rangeInts a c n) := by
  intro n
  induction n with
  | zero => intro vs h _; cases vs with
    | nil => exact .nil
    | cons => cases h
  | succ n ih =>
    intro vs h hv
    obtain ⟨t, ht⟩ := hv n (Nat.lt_succ_self n)
    have e : vs = vs.take n ++ [.int (a + n * c) t] := by
      have h1 := List.take_append_drop n vs
      have h2 : vs.drop n = [.int (a + n * c) t] := by
        have h3 : (vs.drop n).length = 1 := by rw [List.length_drop]; omega
        match hd : vs.drop n with
        | [] => rw [hd] at h3; cases h3
        | [x] =>
          have h4 : (vs.drop n)[0]? = some x := by rw [hd]; rfl
          rw [List.getElem?_drop, Nat.add_zero, ht] at h4
          cases h4; rfl
        | x :: y :: r => rw [hd] at h3; simp at h3
      rw [← h2]; exact h1.symm
    have e2 : rangeInts a c (n + 1) = rangeInts a c n ++ [a + n * c] := by simp [rangeInts, List.range_succ]
    rw [e, e2]
    refine IntsAre.append (ih _ (by rw [List.length_take]; omega) fun i hi => ?_) (.cons _ _ .nil)
    obtain ⟨t', ht'⟩ := hv i (by omega)
    exact ⟨t', by rw [List.getElem?_take_of_lt hi]; exact ht'⟩
theorem list_rangeN {prog : Program} {w : World} {A : Around} {E : Value → Shared → Prop} {s : Shared} {h₀ : Heap} {L r : Addr} {m : Str → Option Value} {news : List (Addr × Obj)} {a b c : Int} {t u v : Tok} {n : Nat} {Q : Value → Shared → Prop} (hh : A.handled = none) (F : Fr h₀ L s.heap m) (N : News h₀ L s.heap news) (hr : IsRange s.heap r a b c t u v) (hsm : Builtin.Range.small a b c = true)
    (hn : Builtin.Range.rangeSize a b c = n) (hlen : n ≤ 1000)
    (h : ∀ h' tk D e vs, Fr h₀ L h' m → News h₀ L h' ((D, listOf vs.toArray e) :: news) → IntsAre vs (rangeInts a c n) → (∀ p ∈ news, @LT.lt Nat _ p.1 D) → Q (.ref D) { s with heap := h', toks := tk }) :
    wpAny (model prog w) A (call (.type "list") [.ref r]) Q E s := by
  refine call_list_range hh hr hsm hn (by omega) fun h' tk acc e hk hS hI => ?_
  obtain ⟨vs, rfl⟩ : ∃ vs : List Value, acc = vs.toArray := ⟨acc.toList, by simp⟩
  refine h h' tk s.heap.objs.size e vs (F.keeps hk) (fun p hp => ?_) ?_ fun p hp => Heap.lt_size (N p hp).1
  · rcases List.mem_cons.mp hp with rfl | hp
    · exact ⟨hS, Nat.ne_of_gt F.ns.lt, none_at_size F⟩
    · exact ⟨hk _ _ (N p hp).1, (N p hp).2⟩
  · have h1 := hI.1
    refine ints_of_items n vs (by simpa using h1) fun i hi => ?_
    have hl : vs.length = n := by simpa using h1
    have hx : vs[i]? = some vs[i] := List.getElem?_eq_getElem (by omega)
    obtain ⟨t', e'⟩ := hI.2 i vs[i] (by simpa using hx)
    exact ⟨t', by rw [hx, e']⟩
/-- range(2, 2 * (n + 1), 2) -/
theorem range2 (n : Nat) (h : n ≤ 1000) : Builtin.Range.small 2 (2 * ((n : Int) + 1)) 2 = true ∧ Builtin.Range.rangeSize 2 (2 * ((n : Int) + 1)) 2 = (n : Int) := by
  have e : Builtin.Range.rangeSize 2 (2 * ((n : Int) + 1)) 2 = (n : Int) := by
    unfold Builtin.Range.rangeSize
    rw [if_pos (by decide)]
    split <;> omega
  refine ⟨?_, e⟩
  unfold Builtin.Range.small
  rw [e]
  simp [Builtin.Range.rangeFitsLong]
  omega
theorem row0_eq (n : Nat) : rangeInts 2 2 n = row0 n := by
  unfold rangeInts row0
  refine List.map_congr_left fun i _ => ?_
  omega
end Mine
namespace Mine
noncomputable def lowL : List Nat := [97, 102, 104, 105, 107, 108, 109, 112, 114, 115, 116, 118, 119, 121, 122]
theorem substF_low : ∀ c ∈ lowL, ∀ d ∈ lowL, substF (S [c]) (S [d]) = cst c d := by decide +kernel
end Mine
end

section
open PySem PySem.W PySem.Calls PySem.Spec PyProof PyProof.Rows
set_option maxRecDepth 100000
set_option maxHeartbeats 4000000
namespace Mine
theorem drop_head {α : Type} {l : List α} {j : Nat} {x : α} (h : l[j]? = some x) : l.drop j = x :: l.drop (j + 1) := by
  obtain ⟨hj, e⟩ := List.getElem?_eq_some_iff.mp h
  rw [List.drop_eq_getElem_cons hj, e]
theorem zip_at {α β : Type} : ∀ {a : List α} {b : List β} {j : Nat} {x : α} {y : β}, a[j]? = some x → b[j]? = some y → (a.zip b)[j]? = some (x, y)
  | [], _, _, _, _, h, _ => by simp at h
  | _ :: _, [], _, _, _, _, h => by simp at h
  | p :: a, q :: b, 0, _, _, h1, h2 => by cases h1; cases h2; rfl
  | p :: a, q :: b, j + 1, _, _, h1, h2 => zip_at (a := a) (b := b) (j := j) h1 h2
theorem take_set {α : Type} {l : List α} {j : Nat} {x : α} (h : j < l.length) : (l.set j x).take (j + 1) = l.take j ++ [x] := by
  rw [List.take_set, List.take_add_one, List.getElem?_eq_getElem h]
  have e : (l.take j).length = j := by rw [List.length_take]; omega
  show (l.take j ++ [l[j]]).set j x = _
  rw [List.set_append_right _ _ (by omega), e, Nat.sub_self]
  rfl
theorem in_step {bc ac : Nat} {row row2 : List Int} {A' : List Nat} {j : Nat} {d r mn rw0 : Int} {FR : List Int} {FP : Int × Int} (hac : A'[j]? = some ac) (hrw : row[j]? = some rw0) (hl2 : row2.length = A'.length) (hd2 : row2.drop j = row.drop j)
    (hq1 : row2.take j ++ (inF bc ((A'.zip row).drop j) d r mn).1 = FR) (hq2 : (inF bc ((A'.zip row).drop j) d r mn).2 = FP) (r' : Int) (hr : r' = min (min r rw0 + 2) (d + cst bc ac)) (mn' : Int) (hm : mn' = if r' < mn then r' else mn) :
    (row2.set j r').length = A'.length ∧ (row2.set j r').drop (j + 1) = row.drop (j + 1) ∧ (row2.set j r').take (j + 1) ++ (inF bc ((A'.zip row).drop (j + 1)) rw0 r' mn').1 = FR ∧ (inF bc ((A'.zip row).drop (j + 1)) rw0 r' mn').2 = FP := by
  have hj : j < A'.length := (List.getElem?_eq_some_iff.mp hac).1
  rw [drop_head (zip_at hac hrw), inF] at hq1 hq2
  rw [← hr, ← hm] at hq1 hq2
  refine ⟨by rw [List.length_set, hl2], ?_, ?_, hq2⟩
  · rw [List.drop_set_of_lt (Nat.lt_succ_self j)]
    have := congrArg (List.drop 1) hd2
    rwa [List.drop_drop, List.drop_drop] at this
  · rw [take_set (by omega), List.append_assoc]
    exact hq1
theorem at_drop {α : Type} {a b : List α} {j : Nat} {x : α} (h : a.drop j = b.drop j) (hb : b[j]? = some x) : a[j]? = some x := by
  have := congrArg (fun l => l[0]?) h
  simpa [List.getElem?_drop, hb] using this
theorem min_ifs (r w e : Int) : (if e < (if w < r then w else r) + 2 then e else (if w < r then w else r) + 2) = min (min r w + 2) e := by
  rw [Int.min_def, Int.min_def]
  split <;> split <;> (try split) <;> (try split) <;> omega
theorem cut_at' {α : Type} {l : List α} {j : Nat} {x : α} {d : α} (h : l[j]? = some x) : l.getD j d = x := by rw [List.getD_eq_getElem?_getD, h]; rfl
end Mine
namespace Mine
theorem in_done {bc : Nat} {row row2 : List Int} {A' : List Nat} {n : Nat} {d r mn : Int} {q : List Int × Int × Int} (hn : n = A'.length) (hl2 : row2.length = A'.length) (hq1 : row2.take n ++ (inF bc ((A'.zip row).drop n) d r mn).1 = q.1) (hq2 : (inF bc ((A'.zip row).drop n) d r mn).2 = q.2) : q = (row2, r, mn) := by
  have e : (A'.zip row).drop n = [] := List.drop_eq_nil_of_le (by rw [List.length_zip]; omega)
  rw [e, inF] at hq1 hq2
  rw [List.take_of_length_le (by omega), List.append_nil] at hq1
  obtain ⟨q1, q2⟩ := q
  dsimp only at hq1 hq2
  rw [← hq1, ← hq2]
theorem out_step {A' B' : List Nat} {j bc : Nat} {row row2 : List Int} {res r mn b T : Int} (hb : B'[j]? = some bc) (h : outF A' (B'.drop j) (j : Int) row res b = T) (hq : inF bc (A'.zip row) ((j : Int) * 2) ((j : Int) * 2) bigM = (row2, r, mn)) : (if b < mn then b + 1 else outF A' (B'.drop (j + 1)) ((j + 1 : Nat) : Int) row2 r b) = T := by
  rw [drop_head hb, outF, hq] at h
  exact h
theorem out_done {A' B' : List Nat} {n : Nat} {row : List Int} {res b T : Int} {bi : Int} (hn : n = B'.length) (h : outF A' (B'.drop n) bi row res b = T) : res = T := by
  rw [List.drop_eq_nil_of_le (by omega), outF] at h
  exact h
end Mine
end

section
open PySem PySem.W PySem.Calls PySem.Spec PyProof.Rows
set_option maxRecDepth 100000
set_option maxHeartbeats 8000000
set_option pp.deepTerms false
set_option pp.maxSteps 3000
namespace Mine
/-- the 27 signs of table B.1 -/
noncomputable def hid : List Int := [173, 847, 6150, 6155, 6156, 6157, 8203, 8204, 8205, 8288, 65279] ++ rangeInts 65024 1 (65040 - 65024 : Int).toNat
theorem hid_length : hid.length = 27 := by rw [hid, List.length_append, rangeInts_length]; rfl
theorem cut_at {α : Type} {l : List α} {j : Nat} {x : α} {d : α} (h : l[j]? = some x) : l.getD j d = x := by rw [List.getD_eq_getElem?_getD, h]; rfl
/-- the codes and the letters of a rest -/
noncomputable def restI (x : Int) (q : Int) (b : Int) : Nat := ((x.fdiv q).fmod b).toNat
noncomputable def restC (k : Nat) (x : Int) : List Int :=
  let h := hid.getD (restI x 256 27) 0
  let a := (signC k).getD (restI x 4 8) 0
  let b := (signC k).getD (restI x 32 8) 0
  if (x.fdiv 6912).fmod 3 = 0 then [h, a, b] else if (x.fdiv 6912).fmod 3 = 1 then [a, h, b] else [a, b, h]
noncomputable def restL (k : Nat) (x : Int) : Str := (signM k).getD (restI x 4 8) Str.empty ++ (signM k).getD (restI x 32 8) Str.empty
theorem signM_len {k j : Nat} {x : Str} (h : (signM k)[j]? = some x) : x.length ≤ 3 := by
  have all : ∀ y ∈ signM k, y.length ≤ 3 := by
    match k with
    | 0 => decide
    | 1 => decide
    | 2 => decide
    | 3 => decide
    | n + 4 => intro y hy; exact nomatch hy
  exact all x (List.mem_of_getElem? h)
/-- what _law_rest gives back -/
noncomputable def RestOk (k : Nat) (x : Int) (news : List (Addr × Obj)) (r : Value) (news' : List (Addr × Obj)) : Prop :=
  (∀ p ∈ news, p ∈ news') ∧ ∃ (T l : Addr) (e z : Nat) (vs : List Value) (y : Str) (t' : Tok), r = .ref T ∧ (T, ({ cls := .type "tuple", data := .seq #[.ref l, .str y t'] z } : Obj)) ∈ news' ∧ (l, listOf vs.toArray e) ∈ news' ∧ y = restL k x ∧ IntsAre vs (restC k x) ∧ (∀ p ∈ news, @LT.lt Nat _ p.1 l) ∧ @LT.lt Nat _ l T
section
local macro_rules | `(tactic| walk_at "call ref") => `(tactic| refine Hold.out ?_)
local macro_rules | `(tactic| walk_at "subscriptTail") => `(tactic| refine Hold.out ?_)
local macro_rules | `(tactic| walk_at "binaryOp Add ref ref") => `(tactic| refine Hold.out ?_)
local macro_rules | `(tactic| walk_at "binaryOp Mult ref bool") => `(tactic| refine Hold.out ?_)
local macro_rules | `(tactic| ktr_unf) => `(tactic| repeat' (first | (k_unfold; (try dsimp only)) | (k_end; wrow_close) | (walk1 <;> (try dsimp only)) | (dsimp only; walk1) | (leave1; walk_say "STEP leave1"; try dsimp only) | fail "no step"))
theorem rest_spec (K : Nat) (kI : Int) (w : World) (mean : ExcName → Option Value) (mg mb : Str → Option Value) (news : List (Addr × Obj)) (x : Int) (t1 t2 : Tok) (hsig : ∀ news, MClaim w mean mg mb 106 news (fun _ => True) [.int kI t1] (fun r news' => SigOk K news r news')) : MClaim2 w mean mg mb 113 news (fun _ => True) [.int kI t1, .int x t2] (fun r news' => RestOk K x news r news') := by
  w_on
  dsimp only [MClaim, MClaim2]
  k_fill
  intro dp un gd cn cs a ccd cl outer A₀ base h₀ L m s Q E hB hF hK hN hT hcs hTab hpre hdp hun hret
  refine wpAny_call ?_
  k_dflt cell_enter
  k_gentoks
  rename Fr h₀ L _ m => FG
  have hTab2 := hTab.up FG
  rename Fr _ _ _ _ => F1
  replace F1 : Fr _ _ _ (KB [(Str.ofString "x", .int x t2), (Str.ofString "k", .int kI t1)]) := kb_of F1
  ktr_unf
  refine' Hold.go (MClaim.use (hsig _) ?B ?F ?X ?N ?T ?hk ?tb ?hp ?hd ?hu ?_)
  (case B => k_asm)
  (case F => k_asm)
  (case X => k_asm)
  (case N => k_asm)
  (case T => k_asm)
  (case hk => first | exact rfl | assumption)
  (case tb => assumption)
  (case hp => exact trivial)
  (case hd => ktr_room)
  (case hu => ktr_units)
  rintro r1 news1 h1 tk1 F1 N1 ⟨hs1, S1, c1, as1, rfl, hS1, hl1, hp1⟩
  ktr_unf
  rename Fr _ _ _ _ => F1
  rename News _ _ _ _ => N1
  have hb1 := fm_bd (x.fdiv 4) (k := 8) (by decide)
  obtain ⟨a1, ha1⟩ := at_of_lt hl1 (j := ((x.fdiv 4).fmod 8).toNat) (by omega)
  refine Hold.go (item_list (isList_news N1 hS1) (by omega) (by omega) (map_at ha1) ?_)
  obtain ⟨n1, u1, x1, v1, hm1, hc1, hx1⟩ := hp1 _ _ ha1
  ktr_unf
  refine' Hold.go (MClaim.use (hsig _) ?B ?F ?X ?N ?T ?hk ?tb ?hp ?hd ?hu ?_)
  (case B => k_asm)
  (case F => k_asm)
  (case X => k_asm)
  (case N => k_asm)
  (case T => k_asm)
  (case hk => first | exact rfl | assumption)
  (case tb => assumption)
  (case hp => exact trivial)
  (case hd => ktr_room)
  (case hu => ktr_units)
  rintro r2 news2 h2 tk2 F2 N2 ⟨hs2, S2, c2, as2, rfl, hS2, hl2, hp2⟩
  ktr_unf
  rename Fr _ _ _ _ => F2
  rename News _ _ _ _ => N2
  have hb2 := fm_bd (x.fdiv 32) (k := 8) (by decide)
  obtain ⟨a2, ha2⟩ := at_of_lt hl2 (j := ((x.fdiv 32).fmod 8).toNat) (by omega)
  refine Hold.go (item_list (isList_news N2 hS2) (by omega) (by omega) (map_at ha2) ?_)
  obtain ⟨n2, u2, x2, v2, hm2, hc2, hx2⟩ := hp2 _ _ ha2
  ktr_unf
  rename CarriedAll _ _ => hca
  rename Heap.IsList _ _ _ => hr3
  have hys := IntsAre.ofCarried hca
  rename Fr _ _ _ _ => F3
  rename News _ _ _ _ => N3
  have hlen3 : _ ≤ 16 := Nat.le_of_eq ((hys.length).trans (rangeInts_length _ _ _))
  refine Hold.go (add_listsD F3 N3 (isList_news N3 (by k_mem)) hr3 (by simp only [List.length_cons, List.length_nil]; omega) ?_)
  intro h4 D4 F4 N4 _
  ktr_unf
  rename Fr _ _ _ _ => F4
  rename News _ _ _ _ => N4
  have hb3 := fm_bd (x.fdiv 256) (k := 27) (by decide)
  obtain ⟨hv, hhv⟩ := at_of_lt hid_length (j := ((x.fdiv 256).fmod 27).toNat) (by omega)
  refine Hold.go (item_ints N4 (by k_mem) (IntsAre.append (by repeat (first | exact IntsAre.nil | refine IntsAre.cons _ _ ?_)) hys) (by omega) (by omega) hhv ?_)
  intro thv
  have hm1' := hs2 _ hm1
  ktr_unf
  rename Fr _ _ _ _ => F10
  rename News _ _ _ _ => N10
  refine Hold.go (mul_list_bool F10 N10 (by k_mem) ?_)
  clear F10 N10
  intro h10 D10 F10 N10
  ktr_unf
  rename Fr _ _ _ _ => F11
  rename News _ _ _ _ => N11
  refine Hold.go (item_tup (l := [_, _]) N11 (by repeat (first | exact hm1' | refine List.Mem.tail _ ?_)) (by decide) (by decide) rfl ?_)
  ktr_unf
  rename Fr _ _ _ _ => F12
  rename News _ _ _ _ => N12
  refine Hold.go (add_listsD F12 N12 (isList_news N12 (by k_mem)) (isList_news N12 (by k_mem)) ?_ ?_)
  · first | decide | (simp; done) | ((repeat' split) <;> simp) | (simp; (repeat' split) <;> simp) | (simp; (repeat' split) <;> omega)
  clear F12 N12
  intro h12 D12 F12 N12 hlt12
  ktr_unf
  rename Fr _ _ _ _ => F13
  rename News _ _ _ _ => N13
  refine Hold.go (mul_list_bool F13 N13 (by k_mem) ?_)
  clear F13 N13
  intro h13 D13 F13 N13
  ktr_unf
  rename Fr _ _ _ _ => F14
  rename News _ _ _ _ => N14
  refine Hold.go (add_listsD F14 N14 (isList_news N14 (by k_mem)) (isList_news N14 (by k_mem)) ?_ ?_)
  · first | decide | (simp; done) | ((repeat' split) <;> simp) | (simp; (repeat' split) <;> simp) | (simp; (repeat' split) <;> omega)
  clear F14 N14
  intro h14 D14 F14 N14 hlt14
  ktr_unf
  rename Fr _ _ _ _ => F15
  rename News _ _ _ _ => N15
  refine Hold.go (item_tup (l := [_, _]) N15 (by repeat (first | exact hm2 | refine List.Mem.tail _ ?_)) (by decide) (by decide) rfl ?_)
  ktr_unf
  rename Fr _ _ _ _ => F16
  rename News _ _ _ _ => N16
  refine Hold.go (add_listsD F16 N16 (isList_news N16 (by k_mem)) (isList_news N16 (by k_mem)) ?_ ?_)
  · first | decide | (simp; done) | ((repeat' split) <;> simp) | (simp; (repeat' split) <;> simp) | (simp; (repeat' split) <;> omega)
  clear F16 N16
  intro h16 D16 F16 N16 hlt16
  ktr_unf
  rename Fr _ _ _ _ => F17
  rename News _ _ _ _ => N17
  refine Hold.go (mul_list_bool F17 N17 (by k_mem) ?_)
  clear F17 N17
  intro h17 D17 F17 N17
  ktr_unf
  rename Fr _ _ _ _ => F18
  rename News _ _ _ _ => N18
  refine Hold.go (add_listsD F18 N18 (isList_news N18 (by k_mem)) (isList_news N18 (by k_mem)) ?_ ?_)
  · first | decide | (simp; done) | ((repeat' split) <;> simp) | (simp; (repeat' split) <;> simp) | (simp; (repeat' split) <;> omega)
  clear F18 N18
  intro h18 D18 F18 N18 hlt18
  ktr_unf
  rename Fr _ _ _ _ => F19
  rename News _ _ _ _ => N19
  refine Hold.go (item_tup (l := [_, _]) N19 (by repeat (first | exact hm1' | refine List.Mem.tail _ ?_)) (by decide) (by decide) rfl ?_)
  ktr_unf
  rename Fr _ _ _ _ => F20
  rename News _ _ _ _ => N20
  refine Hold.go (item_tup (l := [_, _]) N20 (by repeat (first | exact hm2 | refine List.Mem.tail _ ?_)) (by decide) (by decide) rfl ?_)
  ktr_unf
  have hltT : @LT.lt Nat _ D18 h18.objs.size := Heap.lt_size (N20 (D18, _) (List.Mem.head _)).1
  have hxl1 := signM_len hx1
  have hxl2 := signM_len hx2
  ktr_unf
  rename News h₀ _ _ _ => N21
  have eL : x1 ++ x2 = restL K x := by
    unfold restL restI
    rw [cut_at hx1, cut_at hx2]
  refine hret _ _ _ _ (by k_asm) N21 ⟨?_, _, _, _, _, _, _, _, rfl, List.Mem.head _, List.Mem.tail _ (List.Mem.head _), eL, ?_, ?_, hltT⟩
  · intro p hp
    have hp' := hs2 _ (hs1 _ hp)
    repeat (first | exact hp' | refine List.Mem.tail _ ?_)
  · have b3 := fm_bd (x.fdiv 6912) (k := 3) (by decide)
    unfold restC restI
    rw [cut_at hhv, cut_at hc1, cut_at hc2]
    rcases (show (x.fdiv 6912).fmod 3 = 0 ∨ (x.fdiv 6912).fmod 3 = 1 ∨ (x.fdiv 6912).fmod 3 = 2 by omega) with q | q | q <;>
      (rw [q]; exact .cons _ _ (.cons _ _ (.cons _ _ .nil)))
  · intro p hp
    have hp' := hs2 _ (hs1 _ hp)
    exact hlt18 p (by repeat (first | exact hp' | refine List.Mem.tail _ ?_))
end
end Mine
end

section
open PySem PySem.W PySem.Calls PySem.Spec PyProof.Rows
set_option maxRecDepth 100000
set_option maxHeartbeats 8000000
set_option pp.deepTerms false
set_option pp.maxSteps 3000
namespace Mine
/-- the digits of a number by 64, the greatest first, 64 more for all but the last -/
noncomputable def digN : Nat → Int → List Int → List Int
  | 0, _, ds => ds
  | f + 1, v, ds => if 64 ≤ v then digN f (v.fdiv 64) (((v.fdiv 64).fmod 64 + 64) :: ds) else ds
theorem digN_stop {v : Int} (h : v < 64) : ∀ (f : Nat) (ds : List Int), digN f v ds = ds
  | 0, _ => rfl
  | f + 1, ds => by rw [digN, if_neg (by omega)]
theorem digN_go {v : Int} (h : 64 ≤ v) (f : Nat) (ds : List Int) : digN (f + 1) v ds = digN f (v.fdiv 64) (((v.fdiv 64).fmod 64 + 64) :: ds) := by rw [digN, if_pos h]
theorem digN_len : ∀ (f : Nat) (v : Int) (ds : List Int), (digN f v ds).length ≤ ds.length + f
  | 0, _, _ => Nat.le_refl _
  | f + 1, v, ds => by
    rw [digN]
    split
    · have := digN_len f (v.fdiv 64) (((v.fdiv 64).fmod 64 + 64) :: ds)
      rw [List.length_cons] at this
      omega
    · omega
theorem fdiv64 {v : Int} {f : Nat} (h0 : 0 ≤ v) (h : v < 64 ^ (f + 1 + 1)) : 0 ≤ v.fdiv 64 ∧ v.fdiv 64 < 64 ^ (f + 1) := by
  have e : v.fdiv 64 = v / 64 := Int.fdiv_eq_ediv_of_nonneg _ (by decide)
  rw [Int.pow_succ] at h
  rw [e]
  omega
noncomputable def digs (v : Int) : List Int := digN 3 v [v.fmod 64]
theorem digs_len (v : Int) : (digs v).length ≤ 4 := digN_len 3 v [v.fmod 64]
theorem flat_len : ∀ pre : List Int, ((pre.map digs).flatten).length ≤ 4 * pre.length
  | [] => Nat.le_refl _
  | n :: r => by
    have h1 := digs_len n
    have h2 := flat_len r
    rw [List.map_cons, List.flatten_cons, List.length_append, List.length_cons]
    omega
noncomputable def octP (os : List Int) (i : Nat) : Int := os.getD i 0 + 128 * ((i : Int).fmod 2)
/-- what _law_octets gives of the numbers -/
noncomputable def octL (ns : List Int) : List Int := (List.range ((ns.map digs).flatten).length).map (octP ((ns.map digs).flatten))
noncomputable def OctOk (ns : List Int) (news : List (Addr × Obj)) (r : Value) (news' : List (Addr × Obj)) : Prop :=
  (∀ p ∈ news, p ∈ news') ∧ ∃ (D : Addr) (e : Nat) (ys : List Value), r = .ref D ∧ (D, listOf ys.toArray e) ∈ news' ∧ IntsAre ys (octL ns)
section
local macro_rules | `(tactic| walk_at "exec For Name Name cons nil") => `(tactic| refine Hold.out ?_)
local macro_rules | `(tactic| walk_at "exec While Compare cons nil") => `(tactic| refine Hold.out ?_)
local macro_rules | `(tactic| walk_at "pyIter ref") => `(tactic| refine Hold.out ?_)
local macro_rules | `(tactic| walk_at "call builtin:list.insert") => `(tactic| refine Hold.out ?_)
local macro_rules | `(tactic| walk_at "call builtin:list.extend") => `(tactic| refine Hold.out ?_)
local macro_rules | `(tactic| walk_at "call builtin:len") => `(tactic| refine Hold.out ?_)
local macro_rules | `(tactic| walk_at "CompSrc") => `(tactic| refine Hold.out ?_)
local macro_rules | `(tactic| walk_at "CompEnd") => `(tactic| refine Hold.out ?_)
local macro_rules | `(tactic| walk_at "KswEnd") => `(tactic| refine Hold.out ?_)
local macro_rules | `(tactic| walk_at "InvEndN") => `(tactic| refine Hold.out ?_)
local macro_rules | `(tactic| k_all) => `(tactic| exact allNe_lt (by assumption) (by omega))
local macro_rules | `(tactic| ktr_unf) => `(tactic| repeat' (first | (k_unfold; (try dsimp only)) | (k_end; wrow_close) | (walk1 <;> (try dsimp only)) | (dsimp only; walk1) | (leave1; walk_say "STEP leave1"; try dsimp only) | fail "no step"))
theorem oct_spec (w : World) (mean : ExcName → Option Value) (mg mb : Str → Option Value) (news : List (Addr × Obj)) (l : Addr) (e : Nat) (vs : List Value) (ns : List Int) (hi : IntsAre vs ns) (hm : (l, listOf vs.toArray e) ∈ news) (hb : ∀ n ∈ ns, 0 ≤ n ∧ n < 262144) (hlen : ns.length ≤ 30) : MClaim2 w mean mg mb 118 news (fun _ => True) [.ref l] (fun r news' => OctOk ns news r news') := by
  w_on
  dsimp only [MClaim, MClaim2]
  k_fill
  intro dp un gd cn cs a ccd cl outer A₀ base h₀ L m s Q E hB hF hK hN hT hcs hTab hpre hdp hun hret
  refine wpAny_call ?_
  k_dflt (refine' code_defC ?k1 ?k2 ?k3 ?k4 ?k5 ?kA ?kF ?kK ?k6 ?k7 ?k8 ?k9 ?kB ?kD ?_ ?c2 ?c3 ?c4; (case kA => exact rfl); (case kF => exact rfl); (case kK => assumption); (case k1 => k_asm); (case k2 => k_asm); (case k3 => k_asm); (case k4 => k_asm); (case k5 => k_asm); (case k6 => k_is); (case k7 => k_is); (case k8 => ktr_room); (case k9 => exact BindsTo.of_eq rfl); (case kB => exact rfl); (case kD => decide +kernel); (case c2 => exact rfl); (case c3 => exact rfl); (case c4 => exact rfl); k_whole; intro gg LL hh tk cells FG F1 N1 Y1 B1 X1 T1 hLL; k_cells Y1; (try simp only [List.cons_append, List.nil_append] at N1); (try dsimp only); (try k_fold))
  have hTab2 := hTab.up FG
  replace F1 : Fr gg LL hh (KB [(Str.ofString "numbers", .ref l)]) := F1
  ktr_unf
  refine Hold.go ?_
  rename Fr _ _ _ _ => F2
  rename News _ _ _ _ => N2
  with_unfolding_all refine' For_invVF F2 ?k1 ?k2 ?_; (case k1 => exact rfl); (case k2 => exact rfl)
  ktr_unf
  rename _ = Data.cell _ => dc2
  rename _ ∧ AllLt _ _ => l12
  refine Hold.go ?_
  obtain ⟨D, o, N2, dc2, hDL⟩ : ∃ D o, News gg LL _ ((D, listOf #[] 0) :: (LL + 1, o) :: news) ∧ o.data = Data.cell (some (.ref D)) ∧ @LT.lt Nat _ (LL + 1) D := ⟨_, _, N2, dc2, l12.1⟩
  refine kst_listL (σ := List Value × List Int × Nat) (fun c => (D, listOf c.1.toArray c.2.2) :: (LL + 1, o) :: news) (fun _ => []) (fun c => IntsAre c.1 c.2.1) [Str.ofString "digits"] (fun pre c => c.2.1 = (pre.map digs).flatten) ([], [], 0) rfl (fun c => List.Mem.tail _ (List.Mem.tail _ hm)) hi F2 N2 IntsAre.nil (fun _ h => nomatch h) rfl ?_ ?_
  · rintro ⟨tvs, tks, te⟩ pre post n t u h tk own hsplit hmem hoff hF hP F3 N3
    dsimp only at hF hP F3 N3 hoff
    simp only [List.cons_append] at N3
    have hbn := hb n hmem
    have hoD : ∀ p ∈ own, p.1 ≠ D := fun p hp => hoff p hp D (List.Mem.head _)
    have hnD : ∀ p ∈ (LL + 1, o) :: (news ++ own), p.1 ≠ D := fun p hp => by
      rcases List.mem_cons.mp hp with rfl | hp
      · exact Nat.ne_of_lt hDL
      · exact (List.mem_append.mp hp).elim (fun q => Nat.ne_of_lt (Nat.lt_trans (hLL p q) (Nat.lt_trans (Nat.lt_succ_self _) hDL))) (hoD p)
    have hpl : tks.length ≤ 4 * ns.length := by
      rw [hP]
      have h1 := flat_len pre
      have h2 : ns.length = pre.length + (post.length + 1) := by rw [hsplit]; simp
      omega
    have htl := hF.length
    ktr_unf
    refine Hold.go ?_
    rename Fr _ _ _ _ => F4
    rename News _ _ _ _ => N4
    rename _ ∧ _ ∧ AllLt _ _ => l14
    obtain ⟨G, tG, F4, N4, l14⟩ : ∃ (G : Addr) (tG : Tok), Fr gg LL _ (fun y => if y = Str.ofString "digits" then some (Value.ref G) else if y = Str.ofString "number" then some (Value.int n t) else kstB (fun z => if [Str.ofString "digits"].contains z = true then u z else KB [(Str.ofString "numbers", Value.ref l)] z) [] y) ∧
        News gg LL _ ((G, listOf #[Value.int (n.fmod 64) tG] 0) :: (D, listOf tvs.toArray te) :: (LL + 1, o) :: (news ++ own)) ∧ (∀ p ∈ (D, listOf tvs.toArray te) :: (LL + 1, o) :: (news ++ own), p.1 < G) := ⟨_, _, F4, N4, allLt_all (l := (D, listOf tvs.toArray te) :: (LL + 1, o) :: (news ++ own)) l14⟩
    refine ksw_while (σ := Int × Nat × Nat × List Value × List Int × Nat) (fun c => (G, listOf c.2.2.2.1.toArray c.2.2.2.2.2) :: (D, listOf tvs.toArray te) :: (LL + 1, o) :: (news ++ own)) (fun c => [(Str.ofString "number", .int c.1 c.2.1)]) (fun c => IntsAre c.2.2.2.1 c.2.2.2.2.1) []
      (fun c => digN c.2.2.1 c.1 c.2.2.2.2.1 = digs n ∧ 0 ≤ c.1 ∧ c.1 < 64 ^ (c.2.2.1 + 1) ∧ c.2.2.2.2.1.length + c.2.2.1 = 4 ∧ c.2.2.1 ≤ 3) (fun c => c.2.2.1) (n, t, 3, [.int (n.fmod 64) tG], [n.fmod 64], 0) F4 N4 (.cons _ _ .nil) (by kst_all) ⟨rfl, by dsimp only; omega, by dsimp only; omega, rfl, Nat.le_refl _⟩ ?_
    clear F4 N4
    rintro ⟨v, tv, f, dvs, dks, de⟩ u2 h2 tk2 hF2 ⟨hP1, hP2, hP3, hP4, hP5⟩ F5 N5
    dsimp only at hF2 hP1 hP2 hP3 hP4 hP5 F5 N5
    have hdl := hF2.length
    have hlG : ∀ p ∈ (D, listOf tvs.toArray te) :: (LL + 1, o) :: (news ++ own), p.1 ≠ G := fun p hp => Nat.ne_of_lt (l14 p hp)
    ktr_unf
    · rename Fr _ _ _ _ => F6
      rename News _ _ _ _ => N6
      refine Hold.go (insert0 F6 N6 hlG (by omega) ?_)
      clear F6 N6
      intro h6 F6 N6
      ktr_unf
      rename Fr _ _ _ _ => F7
      rename News _ _ _ _ => N7
      have h64 : 64 ≤ v := by assumption
      obtain ⟨f', rfl⟩ : ∃ f', f = f' + 1 := by
        cases f with
        | zero => exfalso; simp at hP3; omega
        | succ f' => exact ⟨f', rfl⟩
      obtain ⟨q1, q2⟩ := fdiv64 hP2 hP3
      refine Hold.go (ksw_end (v.fdiv 64, _, f', _ :: dvs, ((v.fdiv 64).fmod 64 + 64) :: dks, de + 1) F7 N7 (fun _ h => h) (.cons _ _ hF2) (by kst_all) (by intro z h2 h3; simp only [List.forall_mem_cons, List.not_mem_nil, false_implies, implies_true, and_true, ne_eq] at h2; simp [kstB, h2]) ⟨by rw [← hP1, digN_go h64], q1, q2, by dsimp only [List.length_cons]; omega, by dsimp only; omega⟩ (by dsimp only; omega))
    · rename Fr _ _ _ _ => F6
      rename News _ _ _ _ => N6
      have hdk : digs n = dks := by rw [← hP1, digN_stop (by omega)]
      refine Hold.go (extend_list F6 N6 (List.Mem.head _) (Upd.tail (Nat.ne_of_gt (l14 _ (List.Mem.head _))) (Upd.head hnD)) (by omega) (by omega) ?_)
      clear F6 N6
      intro h6 F6 N6
      ktr_unf
      rename Fr _ _ _ _ => F7
      rename News _ _ _ _ => N7
      refine Hold.go (kst_end (tvs ++ dvs, tks ++ dks, te + 1) F7 N7 (fun p hp => List.Mem.tail _ (List.mem_append_left own hp)) (fun p hp => List.Mem.tail _ (List.mem_append_right ((D, listOf (tvs ++ dvs).toArray (te + 1)) :: (LL + 1, o) :: news) hp)) rfl (IntsAre.append hF hF2) (fun _ h => nomatch h) ?_ (by simp [hP, hdk]))
      intro z h1 h2 h3
      simp only [List.contains_cons, List.contains_nil, Bool.or_false, beq_eq_false_iff_ne, ne_eq] at h3
      simp [kstB, h1, h3]
  · rintro ⟨tvs, tks, te⟩ u h tk hF hP F3 N3
    dsimp only at hF hP F3 N3
    ktr_unf
    rename Fr _ _ _ _ => F4
    rename News _ _ _ _ => N4
    have htl := hF.length
    have hpl : tks.length ≤ 4 * ns.length := by
      rw [hP]
      exact flat_len ns
    refine Hold.go (len_list (isList_news N4 (List.Mem.head _)) (by simp; omega) ?_)
    ktr_unf
    rename IsRange _ _ _ _ _ _ _ _ => hr5
    rename Fr _ _ _ _ => F5
    rename News _ _ _ _ => N5
    refine Hold.go (LCg.CompSrc.range (n := tks.length) rfl F5 N5 hr5 (range0 _ (by omega)).1 (range0 _ (by omega)).2 (by rw [sizeLine_eq]; omega) fun g => ?_)
    refine comp_inv (fun i ys nw => nw = (D, listOf tvs.toArray te) :: (LL + 1, o) :: news ∧ IntsAre ys ((List.range i).map (octP tks))) tks.length ?_ ?_ tks.length 0 [] _ (Nat.zero_add _) ⟨rfl, .nil⟩
    · rintro i ys nw hi ⟨rfl, hys⟩ v I oI C oC D' m₂ h' tk' E' ⟨t', rfl⟩ hC hm2 F6 N6 off ne
      ktr_unf
      rename Fr _ _ _ _ => F7
      rename News _ _ _ _ => N7
      refine Hold.go (LCg.CompEnd.intro F7 N7 ((D, listOf tvs.toArray te) :: (LL + 1, o) :: news) (fun _ hp => hp) off trivial ⟨rfl, ?_⟩)
      have e0 : (0 : Int) + (i : Int) = i := by omega
      rw [e0, List.range_succ, List.map_append]
      exact IntsAre.append hys (.cons _ _ .nil)
    · rintro ys nw ⟨rfl, hys⟩
      intro D' h' tk' F8 N8 off
      ktr_unf
      rename News h₀ _ _ _ => N9
      subst hP
      exact hret _ _ _ _ (by k_asm) N9 ⟨fun p hp => List.Mem.tail _ (List.Mem.tail _ (List.Mem.tail _ hp)), D', _, ys, rfl, List.Mem.head _, hys⟩
end
end Mine
end

section
open PySem PySem.W PySem.Calls PySem.Spec PyProof PyProof.Rows
set_option maxRecDepth 100000
set_option maxHeartbeats 4000000
namespace Mine
/-- a list of texts -/
inductive TextsAre : List Value → List (List Nat) → Prop
  | nil : TextsAre [] []
  | cons (d : List Nat) (t : Tok) {vs : List Value} {ds : List (List Nat)} : TextsAre vs ds → TextsAre (.str (S d) t :: vs) (d :: ds)
theorem TextsAre.length : ∀ {vs : List Value} {ds : List (List Nat)}, TextsAre vs ds → vs.length = ds.length
  | _, _, .nil => rfl
  | _, _, .cons _ _ h => congrArg (· + 1) h.length
theorem TextsAre.append : ∀ {vs ws : List Value} {ds es : List (List Nat)}, TextsAre vs ds → TextsAre ws es → TextsAre (vs ++ ws) (ds ++ es)
  | _, _, _, _, .nil, h => h
  | _, _, _, _, .cons d t g, h => .cons d t (g.append h)
theorem TextsAre.get : ∀ {vs : List Value} {ds : List (List Nat)}, TextsAre vs ds → ∀ {i : Nat} {d : List Nat}, ds[i]? = some d → ∃ t, vs[i]? = some (.str (S d) t)
  | _, _, .nil, _, _, h => by simp at h
  | _, _, .cons d t g, 0, _, h => by cases h; exact ⟨t, rfl⟩
  | _, _, .cons d t g, i + 1, _, h => by
    obtain ⟨t', e⟩ := g.get (i := i) h
    exact ⟨t', e⟩
noncomputable def dfl : List Int := [1420, 10218, 13871, 2285]
noncomputable def xk (ns : List Int) (k : Nat) : Int := if k < ns.length then ns.getD k 0 else dfl.getD k 0
/-- the letters of a rest -/
noncomputable def LT (k : Nat) (x : Int) : List Nat := (restL k x).cps.toList
theorem S_LT (k : Nat) (x : Int) : S (LT k x) = restL k x := (S_of _).symm
/-- the name ahead of name k -/
noncomputable def Dp (ns : List Int) : Nat → List Nat
  | 0 => []
  | k + 1 => (Dp ns k).take (min ((xk ns k).fmod 4) ((Dp ns k).length : Int)).toNat ++ LT k (xk ns k)
noncomputable def frk (ns : List Int) (k : Nat) : Int := min ((xk ns k).fmod 4) ((Dp ns k).length : Int)
noncomputable def numk (ns : List Int) (k : Nat) : List Int := frk ns k :: 3 :: restC k (xk ns k)
noncomputable def dueL (ns : List Int) (k : Nat) : List (List Nat) := (List.range k).map fun i => Dp ns (i + 1)
noncomputable def frL (ns : List Int) (k : Nat) : List Int := (List.range k).map (frk ns)
noncomputable def numL (ns : List Int) (k : Nat) : List Int := ((List.range k).map (numk ns)).flatten
theorem LT_len (k : Nat) (x : Int) : (LT k x).length ≤ 6 := by
  have h1 : (LT k x).length = (restL k x).length := by rw [← S_LT, S_len]
  rw [h1]
  unfold restL
  rw [Str.length_append]
  have one : ∀ i, ((signM k).getD i Str.empty).length ≤ 3 := by
    intro i
    rw [List.getD_eq_getElem?_getD]
    cases h : (signM k)[i]? with
    | none => decide
    | some x => exact signM_len h
  have := one (restI x 4 8)
  have := one (restI x 32 8)
  omega
theorem Dp_len (ns : List Int) : ∀ k, (Dp ns k).length ≤ 10
  | 0 => Nat.zero_le _
  | k + 1 => by
    rw [Dp, List.length_append, List.length_take]
    have h1 := LT_len k (xk ns k)
    have h2 := fm_bd (xk ns k) (k := 4) (by decide)
    omega
theorem frk_bd (ns : List Int) (k : Nat) : 0 ≤ frk ns k ∧ frk ns k ≤ 3 ∧ frk ns k ≤ (Dp ns k).length := by
  have h2 := fm_bd (xk ns k) (k := 4) (by decide)
  unfold frk
  omega
theorem Dp_succ (ns : List Int) (k : Nat) : Dp ns (k + 1) = (Dp ns k).take (frk ns k).toNat ++ LT k (xk ns k) := rfl
/-- a meeting that keeps the rest of the frame -/
noncomputable def MeetF {τ : Type} (g : Heap) (L : Addr) (s : Shared) (m₀ : Str → Option Value) (ps : τ → List (Str × Value)) (nw : List (Addr × Obj)) (f : Flow) (s' : Shared) : Prop :=
  f = .next ∧ ∃ (h' : Heap) (tk' : Nat) (t : τ), s' = { s with heap := h', toks := tk' } ∧ Fr g L h' (kstB m₀ (ps t)) ∧ News g L h' nw
theorem exec_cutF {M : Model} {A : Around} {E : Value → Shared → Prop} {Q : Flow → Shared → Prop} {s : Shared} {env : Env} {h₀ : Heap} {L : Addr} {τ : Type} {stmt : Stmt} {m : Str → Option Value} {nw : List (Addr × Obj)} (_F : Fr h₀ L s.heap m) (_N : News h₀ L s.heap nw) (out : τ → List (Str × Value)) (h : wpAny M A (exec stmt env) (Cut (MeetF h₀ L s m out nw)) E s)
    (k : ∀ (h' : Heap) (tk' : Nat) (t : τ), Fr h₀ L h' (kstB m (out t)) → News h₀ L h' nw → Q .next { s with heap := h', toks := tk' }) : wpAny M A (exec stmt env) Q E s := by
  refine wpAny_mono h (fun f s' hq => ?_) fun _ _ e => e
  obtain ⟨rfl, h', tk', t, rfl, F', N'⟩ := hq
  exact k h' tk' t F' N'
end Mine
end

section
open PySem PySem.W PySem.Calls PySem.Spec PyProof.Rows PyProof
set_option maxRecDepth 100000
set_option maxHeartbeats 4000000
namespace Mine
section
variable {prog : Program} {w : World} {A : Around} {E : Value → Shared → Prop} {s : Shared} {h₀ : Heap} {L D b : Addr} {m : Str → Option Value} {news news' rest : List (Addr × Obj)} {vs ws : List Value} {n n2 : Nat}
theorem truthy_listI {l : Addr} {Q : Bool → Shared → Prop} (hl : s.heap.IsList l vs.toArray) (hfit : vs.length ≤ 1000)
    (h : Q (!vs.isEmpty) { s with toks := s.toks + 1 + 1 }) : wpAny (model prog w) A (truthy (.ref l)) Q E s :=
  wpAny_truthy_list hl (by rw [List.size_toArray]; omega) (by rw [List.isEmpty_toArray]; exact h)
theorem item_neg1 {value slice : PySem.Expr} {l : Addr} {u : Tok} {v : Value} {Q : Value → Shared → Prop}
    (hl : s.heap.IsList l vs.toArray) (hx : vs.getLast? = some v) (h : Q v s)
    (hs : subscripted slice false (.ref l) (.int (-1) u) = operate [.ref l, .int (-1) u] (getItem (.ref l) (.int (-1) u)) := by with_unfolding_all rfl) :
    wpAny (model prog w) A (subscriptTail value slice (.ref l) (.int (-1) u)) Q E s := by
  have hne : 0 < vs.length := by cases vs with | nil => cases hx | cons => simp
  refine tail_any hl.typeIs slot_list_getitem.lookup (wpAny_getItem_list_neg hl (by decide) (by rw [List.size_toArray]; omega) (by decide) (x := v) ?_ h) hs
  rw [List.getLast?_eq_getElem?] at hx
  have e : (-1 + (vs.toArray.size : Int)).toNat = vs.length - 1 := by rw [List.size_toArray]; omega
  rw [e]
  simpa using hx
theorem append_list {x : Value} {Q : Value → Shared → Prop} (F : Fr h₀ L s.heap m) (N : News h₀ L s.heap news) (U : Upd D (listOf vs.toArray n) (listOf (vs ++ [x]).toArray (n + 1)) news news') (hz : vs.length ≤ 1000)
    (h : ∀ h', Fr h₀ L h' m → News h₀ L h' news' → Q .none { s with heap := h' }) : wpAny (model prog w) A (call (.builtin "list.append") [.ref D, x]) Q E s := by
  have e : (vs ++ [x]).toArray = vs.toArray.push x := by simp
  rw [e] at U
  exact append_K F N U h (by rw [sizeLine_eq, List.size_toArray]; omega)
end
theorem slice_to (X : List Nat) (p : Nat) (h : p ≤ X.length) : Txt.slice (S X) none (some (p : Int)) = S (X.take p) := by
  have e2 : (S X).cps.toList = X := by simp [S]
  show StrLaws.sliceText (S X) none (some (p : Int)) = _
  rw [StrLaws.sliceText_to (by rw [e2]; omega)]
  rw [e2]
  simp [S]
theorem TextsAre.snoc {vs : List Value} {ds : List (List Nat)} {d : List Nat} {t : Tok} (h : TextsAre vs ds) : TextsAre (vs ++ [.str (S d) t]) (ds ++ [d]) := h.append (.cons _ _ .nil)
theorem dueL_succ (ns : List Int) (j : Nat) : dueL ns (j + 1) = dueL ns j ++ [Dp ns (j + 1)] := by simp [dueL, List.range_succ]
theorem frL_succ (ns : List Int) (j : Nat) : frL ns (j + 1) = frL ns j ++ [frk ns j] := by simp [frL, List.range_succ]
theorem numL_succ (ns : List Int) (j : Nat) : numL ns (j + 1) = numL ns j ++ numk ns j := by simp [numL, List.range_succ]
theorem TextsAre.last {vs : List Value} {ns : List Int} {j : Nat} (h : TextsAre vs (dueL ns (j + 1))) : ∃ t, vs.getLast? = some (.str (S (Dp ns (j + 1))) t) := by
  have hl := h.length
  have e : (dueL ns (j + 1)).length = j + 1 := by simp [dueL]
  rw [List.getLast?_eq_getElem?, hl, e]
  exact h.get (by rw [dueL_succ]; simp [dueL])
end Mine
namespace Mine
theorem restC_len (k : Nat) (x : Int) : (restC k x).length = 3 := by unfold restC; dsimp only; (repeat' split) <;> rfl
theorem numk_len (ns : List Int) (k : Nat) : (numk ns k).length = 5 := by simp [numk, restC_len]
theorem numL_len (ns : List Int) : ∀ j, (numL ns j).length = 5 * j
  | 0 => rfl
  | j + 1 => by rw [numL_succ, List.length_append, numL_len ns j, numk_len]; omega
end Mine
end

section
open PySem PySem.W PySem.Calls PySem.Spec PyProof.Rows
set_option maxRecDepth 100000
set_option maxHeartbeats 8000000
set_option pp.deepTerms false
set_option pp.maxSteps 3000
namespace Mine
open PyProof
/-- law's frame -/
noncomputable abbrev EL (fa cw LL : Addr) : Env := envOfC (Str.ofString "law") (fScope (stAt 17)) LL fa (Value.ref cw)
noncomputable abbrev AL (fa cw LL : Addr) : Around := callerA.deeper (EL fa cw LL)
noncomputable def lawS (i : Nat) : Stmt := (fBody (stAt 17)).getD i (.Pass ⟨0, 0, 0, 0⟩)
section
local macro_rules | `(tactic| walk_at "exec For Name Call cons nil") => `(tactic| refine Hold.out ?_)
local macro_rules | `(tactic| walk_at "execs cons") => `(tactic| refine Hold.out ?_)
local macro_rules | `(tactic| walk_at "pyIter ref") => `(tactic| refine Hold.out ?_)
local macro_rules | `(tactic| walk_at "call ref") => `(tactic| refine Hold.out ?_)
local macro_rules | `(tactic| walk_at "InvEndN") => `(tactic| refine Hold.out ?_)
local macro_rules | `(tactic| walk_at "Cut") => `(tactic| refine Hold.out ?_)
local macro_rules | `(tactic| walk_at "binaryOp Add ref ref") => `(tactic| refine Hold.out ?_)
local macro_rules | `(tactic| walk_at "truthy ref") => `(tactic| refine Hold.out ?_)
local macro_rules | `(tactic| walk_at "subscriptTail Name UnaryOp ref int") => `(tactic| refine Hold.out ?_)
local macro_rules | `(tactic| k_all) => `(tactic| exact allNe_lt (by assumption) (by omega))
local macro_rules | `(tactic| ktr_unf) => `(tactic| repeat' (first | (k_unfold; (try dsimp only)) | (k_end; wrow_close) | (walk1 <;> (try dsimp only)) | (dsimp only; walk1) | (leave1; walk_say "STEP leave1"; try dsimp only) | fail "no step"))
theorem law_for (w : World) (mean : ExcName → Option Value) (mg mb : Str → Option Value) (sl Dd Df Dn : Addr) (vs : List Value) (ns : List Int) (o1 o2 : Obj) (hI : IntsAre vs ns) (hns : ns.length ≤ 1000000)
    : ∀ (H : Heap) (fa cw LL : Addr) (s : Shared) (m0 : Str → Option Value) (Qk : Flow → Shared → Prop) (Ek : Value → Shared → Prop),
      (KF w.params).In H → Top qv (looseW qv lo) mean mg mb H → Below callerA H [] H → Tabs w H → H.IsList sl vs.toArray →
      Fr H LL s.heap (kstB m0 [(Str.ofString "numbers", .ref Dn), (Str.ofString "fronts", .ref Df), (Str.ofString "due", .ref Dd), (Str.ofString "script", .ref sl)]) → News H LL s.heap ((Dn, listOf #[] 0) :: (Df, listOf #[] 0) :: (Dd, listOf #[] 0) :: (LL + 1 + 1, o2) :: (LL + 1, o1) :: []) → @LT.lt Nat _ (LL + 1 + 1) Dd → @LT.lt Nat _ Dd Df → @LT.lt Nat _ Df Dn →
      PassesOwn (model PySem.Challenge.rw_rl0108_01.row.prog w) (AL fa cw LL) (EL fa cw LL) Ek →
      (∀ (h' : Heap) (tk' : Nat) (m' : Str → Option Value) (dvs fvs nvs : List Value) (de fe ne : Nat), Fr H LL h' (kstB m' [(Str.ofString "numbers", .ref Dn), (Str.ofString "fronts", .ref Df), (Str.ofString "due", .ref Dd), (Str.ofString "script", .ref sl)]) → News H LL h' ((Dn, listOf nvs.toArray ne) :: (Df, listOf fvs.toArray fe) :: (Dd, listOf dvs.toArray de) :: (LL + 1 + 1, o2) :: (LL + 1, o1) :: []) →
        TextsAre dvs (dueL ns 4) → IntsAre fvs (frL ns 4) → IntsAre nvs (numL ns 4) → Qk .next { s with heap := h', toks := tk' }) →
      wpAny (model PySem.Challenge.rw_rl0108_01.row.prog w) (AL fa cw LL) (exec (lawS 3) (EL fa cw LL)) Qk Ek s := by
  w_on
  k_fill
  intro H fa cw LL s m0 Qk Ek X1 T1 B1 hTab2 hsl F1 N1 hl1 hl2 hl3 hPO hret
  ktr_unf
  refine Hold.go ?_
  with_unfolding_all refine' For_invVF F1 ?k1 ?k2 ?_ (hE := ?k3); (case k1 => exact rfl); (case k2 => exact rfl); (case k3 => exact hPO)
  ktr_unf
  refine Hold.go ?_
  rename IsRange _ _ _ _ _ _ _ _ => hr2
  rename Fr _ _ _ _ => F2
  rename News _ _ _ _ => N2
  refine kst_range (σ := (List Value × Nat) × (List Value × Nat) × (List Value × Nat)) (n := 4) (fun c => (Dn, listOf c.2.2.1.toArray c.2.2.2) :: (Df, listOf c.2.1.1.toArray c.2.1.2) :: (Dd, listOf c.1.1.toArray c.1.2) :: (LL + 1 + 1, o2) :: (LL + 1, o1) :: []) (fun _ => []) (fun _ => True) [Str.ofString "x", Str.ofString "codes", Str.ofString "letters", Str.ofString "ahead"]
    (fun pre c => TextsAre c.1.1 (dueL ns pre.length) ∧ IntsAre c.2.1.1 (frL ns pre.length) ∧ IntsAre c.2.2.1 (numL ns pre.length)) (([], 0), ([], 0), ([], 0)) rfl hr2 (by decide) (by decide) F2 N2 trivial (fun _ h => nomatch h) ⟨.nil, .nil, .nil⟩ ?_ ?_
  · clear F2 N2
    rintro ⟨⟨dvs, de⟩, ⟨fvs, fe⟩, ⟨nvs, ne⟩⟩ pre k t u h tk own hk hpn hoff _ ⟨hdv, hfv, hnv⟩ F3 N3
    dsimp only at hdv hfv hnv F3 N3 hoff
    have hk' : k = (pre.length : Int) := by omega
    subst hk'
    generalize hj : pre.length = j at hpn hdv hfv hnv F3
    refine Hold.go (wpAny_execs_cons ?_)
    refine exec_cutF F3 N3 (fun t => [(Str.ofString "x", .int (xk ns j) t)]) ?_ ?_
    · ktr_unf
      · have q : (j : Int) < (ns.length : Int) := by assumption
        have e : ns.getD ((j : Int)).toNat 0 = xk ns j := by rw [Int.toNat_natCast, xk, if_pos (by omega)]
        rename Fr _ _ _ _ => F4
        rename News _ _ _ _ => N4
        rw [e] at F4
        exact Hold.go (Cut.mk ⟨rfl, _, _, _, rfl, F4, N4⟩)
      · have q : ¬ (j : Int) < (ns.length : Int) := by assumption
        have e : [1420, 10218, 13871, 2285].getD ((j : Int)).toNat 0 = xk ns j := by rw [Int.toNat_natCast, xk, if_neg (by omega)]; rfl
        rename Fr _ _ _ _ => F4
        rename News _ _ _ _ => N4
        rw [e] at F4
        exact Hold.go (Cut.mk ⟨rfl, _, _, _, rfl, F4, fun q hq => N4 q (List.Mem.tail _ hq)⟩)
    · clear F3 N3
      intro h3 tk3 t3 F3 N3
      refine Hold.go (wpAny_execs_cons ?_)
      ktr_unf
      have hsig : ∀ (t : Tok) (nw : List (Addr × Obj)), MClaim w mean mg mb 106 nw (fun _ => True) [.int (j : Int) t] (fun r nw' => SigOk j nw r nw') := by
        intro t nw
        rcases (show j = 0 ∨ j = 1 ∨ j = 2 ∨ j = 3 by omega) with rfl | rfl | rfl | rfl
        · exact sig_spec0 w mean mg mb nw t
        · exact sig_spec1 w mean mg mb nw t
        · exact sig_spec2 w mean mg mb nw t
        · exact sig_spec3 w mean mg mb nw t
      refine' Hold.go (MClaim2.use (rest_spec j (j : Int) w mean mg mb _ (xk ns j) _ _ (hsig _)) ?B ?F ?X ?N ?T ?hk ?tb ?hp ?hd ?hu ?_)
      (case B => k_asm)
      (case F => k_asm)
      (case X => k_asm)
      (case N => k_asm)
      (case T => k_asm)
      (case hk => first | exact rfl | assumption)
      (case tb => assumption)
      (case hp => exact trivial)
      (case hd => ktr_room)
      (case hu => ktr_units)
      rintro r4 news4 h4 tk4 F4 N4 ⟨hsub, T, l, e4, z4, cvs, y4, ty4, rfl, hT, hl, hy, hci, hlt, hlT⟩
      rw [← S_LT] at hy
      subst hy
      have N5 : News H LL h4 ((T, ({ cls := .type "tuple", data := .seq #[.ref l, .str (S (LT j (xk ns j))) ty4] z4 } : Obj)) :: (l, listOf cvs.toArray e4) :: (Dn, listOf nvs.toArray ne) :: (Df, listOf fvs.toArray fe) :: (Dd, listOf dvs.toArray de) :: (LL + 1 + 1, o2) :: (LL + 1, o1) :: own) := by
        intro p hp
        rcases List.mem_cons.mp hp with rfl | hp
        · exact N4 _ hT
        · rcases List.mem_cons.mp hp with rfl | hp
          · exact N4 _ hl
          · exact N4 _ (hsub p hp)
      have q1 : @LT.lt Nat _ Dn l := hlt (Dn, _) (List.Mem.head _)
      have q2 : ∀ p ∈ own, @LT.lt Nat _ p.1 l := fun p hp => hlt p (List.mem_append_right [(Dn, listOf nvs.toArray ne), (Df, listOf fvs.toArray fe), (Dd, listOf dvs.toArray de), (LL + 1 + 1, o2), (LL + 1, o1)] hp)
      have q3 : ∀ p ∈ own, p.1 ≠ Dn ∧ p.1 ≠ Df ∧ p.1 ≠ Dd := fun p hp => ⟨hoff p hp Dn (List.Mem.head _), hoff p hp Df (List.Mem.tail _ (List.Mem.head _)), hoff p hp Dd (List.Mem.tail _ (List.Mem.tail _ (List.Mem.head _)))⟩
      clear hsub hlt N4 hT hl
      ktr_unf
      rename Fr _ _ _ _ => F6
      rename News _ _ _ _ => N6
      replace N6 : News H LL _ ((l, listOf cvs.toArray e4) :: (Dn, listOf nvs.toArray ne) :: (Df, listOf fvs.toArray fe) :: (Dd, listOf dvs.toArray de) :: (LL + 1 + 1, o2) :: (LL + 1, o1) :: own) := fun p hp => N6 p (List.Mem.tail _ hp)
      refine Hold.go (wpAny_execs_cons ?_)
      refine exec_cutF F6 N6 (fun t => [(Str.ofString "ahead", .str (S (Dp ns j)) t)]) ?_ ?_
      · have cs : ∀ (w1 : List Value), w1 = dvs → TextsAre w1 (dueL ns j) → True := fun _ _ _ => trivial
        clear cs
        rcases j with _ | j
        · obtain rfl : dvs = [] := by have := hdv.length; exact List.length_eq_zero_iff.mp this
          ktr_unf
          refine Hold.go ?_
          refine truthy_listI (vs := []) (isList_news N6 (by k_mem)) (by simp) ?_
          ktr_unf
          rename Fr _ _ _ _ => F8
          rename News _ _ _ _ => N8
          have e : Str.ofString "" = S (Dp ns 0) := rfl
          rw [e] at F8
          exact Hold.go (Cut.mk ⟨rfl, _, _, _, rfl, F8, N8⟩)
        · obtain ⟨a1, ha1⟩ := hdv.last
          have hne : dvs.isEmpty = false := by cases dvs with | nil => cases ha1 | cons => rfl
          have hlen := hdv.length
          have hlen2 : (dueL ns (j + 1)).length = j + 1 := by simp [dueL]
          ktr_unf
          refine Hold.go ?_
          refine truthy_listI (vs := dvs) (isList_news N6 (by k_mem)) (by omega) ?_
          rw [hne]
          ktr_unf
          refine Hold.go ?_
          refine item_neg1 (vs := dvs) (isList_news N6 (by k_mem)) ha1 ?_
          ktr_unf
          rename Fr _ _ _ _ => F8
          rename News _ _ _ _ => N8
          exact Hold.go (Cut.mk ⟨rfl, _, _, _, rfl, F8, N8⟩)
      · clear F6 N6
        intro h7 tk7 t7 F7 N7
        have hla := S_len (Dp ns j)
        have hlb := Dp_len ns j
        have hfr := frk_bd ns j
        have hfl := hfv.length
        have hfl2 : (frL ns j).length = j := by simp [frL]
        have hdl := hdv.length
        have hdl2 : (dueL ns j).length = j := by simp [dueL]
        have nF : ∀ p ∈ ((Dd, listOf dvs.toArray de) :: (LL + 1 + 1, o2) :: (LL + 1, o1) :: own : List (Addr × Obj)), p.1 ≠ Df := by
          intro p hp
          rcases List.mem_cons.mp hp with rfl | hp
          · exact Nat.ne_of_lt hl2
          · rcases List.mem_cons.mp hp with rfl | hp
            · exact Nat.ne_of_lt (Nat.lt_trans hl1 hl2)
            · rcases List.mem_cons.mp hp with rfl | hp
              · exact Nat.ne_of_lt (Nat.lt_trans (Nat.lt_succ_self _) (Nat.lt_trans hl1 hl2))
              · exact (q3 p hp).2.1
        have nD : ∀ p ∈ ((LL + 1 + 1, o2) :: (LL + 1, o1) :: own : List (Addr × Obj)), p.1 ≠ Dd := by
          intro p hp
          rcases List.mem_cons.mp hp with rfl | hp
          · exact Nat.ne_of_lt hl1
          · rcases List.mem_cons.mp hp with rfl | hp
            · exact Nat.ne_of_lt (Nat.lt_trans (Nat.lt_succ_self _) hl1)
            · exact (q3 p hp).2.2
        have nN : ∀ (f : Addr × Obj) (d : Addr × Obj), f.1 = Df → d.1 = Dd → ∀ p ∈ (f :: d :: (LL + 1 + 1, o2) :: (LL + 1, o1) :: own : List (Addr × Obj)), p.1 ≠ Dn := by
          intro f d hf hd p hp
          have z1 : @LT.lt Nat _ Dd Dn := Nat.lt_trans hl2 hl3
          rcases List.mem_cons.mp hp with rfl | hp
          · rw [hf]; exact Nat.ne_of_lt hl3
          · rcases List.mem_cons.mp hp with rfl | hp
            · rw [hd]; exact Nat.ne_of_lt z1
            · rcases List.mem_cons.mp hp with rfl | hp
              · exact Nat.ne_of_lt (Nat.lt_trans hl1 z1)
              · rcases List.mem_cons.mp hp with rfl | hp
                · exact Nat.ne_of_lt (Nat.lt_trans (Nat.lt_succ_self _) (Nat.lt_trans hl1 z1))
                · exact (q3 p hp).1
        have lN : l ≠ Dn := Nat.ne_of_gt q1
        have lF : l ≠ Df := Nat.ne_of_gt (Nat.lt_trans hl3 q1)
        have lD : l ≠ Dd := Nat.ne_of_gt (Nat.lt_trans hl2 (Nat.lt_trans hl3 q1))
        refine Hold.go (wpAny_execs_cons ?_)
        ktr_unf
        have e : (if ((S (Dp ns j)).length : Int) < (xk ns j).fmod 4 then ((S (Dp ns j)).length : Int) else (xk ns j).fmod 4) = frk ns j := by
          rw [S_len, frk]; split <;> omega
        rw [e]
        generalize (if ((S (Dp ns j)).length : Int) < (xk ns j).fmod 4 then tk7 + 1 + 1 + 1 else tk7 + 1) = tf
        rename Fr _ _ _ _ => F7
        rename News _ _ _ _ => N7
        refine append_list (vs := fvs) F7 N7 (Upd.tail lF (Upd.tail (Nat.ne_of_gt hl3) (Upd.head nF))) (by omega) ?_
        clear F7 N7
        intro h8 F8 N8
        refine Hold.go (wpAny_execs_cons ?_)
        ktr_unf
        have e2 : Txt.slice (S (Dp ns j)) none (some ((frL ns j ++ [frk ns j]).getD ((j : Int)).toNat 0)) = S ((Dp ns j).take (frk ns j).toNat) := by
          have e3 : (frL ns j ++ [frk ns j]).getD ((j : Int)).toNat 0 = ((frk ns j).toNat : Int) := by
            rw [Int.toNat_natCast, List.getD_eq_getElem?_getD, List.getElem?_append_right (by omega), hfl2, Nat.sub_self]
            simp only [List.getElem?_cons_zero, Option.getD_some]
            omega
          rw [e3, slice_to _ _ (by omega)]
        rw [e2]
        have hLT := LT_len j (xk ns j)
        refine add_str ?_ (by rw [S_len, S_len, sizeLine_eq, List.length_take]; omega)
        intro t9 tk9
        rw [S_append, ← Dp_succ]
        ktr_unf
        rename Fr _ _ _ _ => F9
        rename News _ _ _ _ => N9
        have z1 : @LT.lt Nat _ Dd Dn := Nat.lt_trans hl2 hl3
        refine append_list (vs := dvs) F9 N9 (Upd.tail lD (Upd.tail (Nat.ne_of_gt z1) (Upd.tail (Nat.ne_of_gt hl2) (Upd.head nD)))) (by omega) ?_
        clear F9 N9
        intro h9 F9 N9
        refine Hold.go (wpAny_execs_cons ?_)
        ktr_unf
        rename Fr _ _ _ _ => F10
        rename News _ _ _ _ => N10
        have hcl := hci.length
        rw [restC_len] at hcl
        have hnl := hnv.length
        rw [numL_len] at hnl
        refine Hold.go (add_listsD F10 N10 (isList_news N10 (List.Mem.head _)) (isList_news N10 (List.Mem.tail _ (List.Mem.head _))) (by simp only [List.length_cons, List.length_nil]; omega) ?_)
        clear F10 N10
        intro h11 D11 F11 N11 hlt11
        ktr_unf
        rename Fr _ _ _ _ => F12
        rename News _ _ _ _ => N12
        have g1 : @LT.lt Nat _ l D11 := hlt11 _ (List.Mem.tail _ (List.Mem.head _))
        have e3 : (frL ns j ++ [frk ns j]).getD ((j : Int)).toNat 0 = frk ns j := by
          rw [Int.toNat_natCast, List.getD_eq_getElem?_getD, List.getElem?_append_right (by omega), hfl2, Nat.sub_self]
          rfl
        rw [e3] at N12
        refine extend_list F12 N12 (List.Mem.head _) (Upd.tail (Nat.ne_of_gt (Nat.lt_trans q1 g1)) (Upd.tail (Nat.ne_of_gt (hlt11 _ (List.Mem.tail _ (List.Mem.tail _ (List.Mem.head _))) |> fun z => Nat.lt_of_lt_of_le (by omega) (Nat.le_refl _))) (Upd.tail lN (Upd.head (nN _ _ rfl rfl))))) (by simp) (by simp only [List.length_cons, List.length_append, List.length_nil]; omega) ?_
        clear F12 N12
        intro h13 F13 N13
        ktr_unf
        rename Fr _ _ _ _ => F14
        rename News _ _ _ _ => N14
        refine Hold.go (kst_end ((dvs ++ [Value.str (S (Dp ns (j + 1))) t9], de + 1), (fvs ++ [Value.int (frk ns j) tf], fe + 1), (nvs ++ ([Value.int (frk ns j) _, Value.int 3 _] ++ cvs), ne + 1)) F14 N14
          (fun p hp => List.Mem.tail _ (List.Mem.tail _ (List.Mem.tail _ (List.mem_append_left own hp))))
          (fun p hp => List.Mem.tail _ (List.Mem.tail _ (List.Mem.tail _ (List.mem_append_right [_, _, _, _, _] hp)))) rfl trivial (fun _ h => nomatch h) ?_ ?_)
        · intro z h1 h2 h3
          simp only [List.contains_cons, List.contains_nil, Bool.or_false, Bool.or_eq_false_iff, beq_eq_false_iff_ne, ne_eq] at h3
          simp [kstB, h1, h3]
        · dsimp only
          rw [List.length_append, hj, List.length_singleton, dueL_succ, frL_succ, numL_succ]
          exact ⟨hdv.snoc, hfv.append (.cons _ _ .nil), hnv.append (.cons _ _ (.cons _ _ hci))⟩
  · rintro ⟨⟨dvs, de⟩, ⟨fvs, fe⟩, ⟨nvs, ne⟩⟩ u h tk _ ⟨hdv, hfv, hnv⟩ F3 N3
    dsimp only at hdv hfv hnv F3 N3
    have e4 : ∀ (l : List Int), l.length = 4 → dueL ns l.length = dueL ns 4 := fun l h => by rw [h]
    refine hret h tk _ dvs fvs nvs de fe ne (by rw [kst_self]; exact F3; kst_all) N3 hdv hfv hnv
end
end Mine
end

section
open PySem PySem.W PySem.Calls PySem.Spec PyProof.Rows PyProof PyProof.Rows.LCg PyProof.Rows.LCt
set_option maxRecDepth 100000
set_option maxHeartbeats 4000000
namespace Mine
noncomputable def SrcST (prog : Program) (w : World) (A : Around) (h₀ : Heap) (L : Addr) (m : Str → Option Value) (env : Env) (ct elt : PySem.Expr) (x : Str) (scope : Scope) (cl : List (Str × Addr)) (Fin : Shared → List Value → List (Addr × Obj) → Prop) (xv : Value) (s₁ : Shared) : Prop :=
  ∃ X t news, xv = .str X t ∧ A.handled = none ∧ Fr h₀ L s₁.heap m ∧ News h₀ L s₁.heap news ∧ X.cps.size ≤ sizeLine ∧
    ∀ s₂ : Shared, (∃ h, s₂ = { s₁ with heap := h }) → CompRestT prog w A h₀ L m env ct elt x scope cl s₂ (fun _ => True) (SignAt X) (Fin s₂) X.cps.size 0 [] news
section
variable {prog : Program} {w : World} {A : Around} {E : Value → Shared → Prop} {s : Shared} {h₀ : Heap} {L : Addr} {m : Str → Option Value} {env : Env}
theorem SrcST.mk {ct elt : PySem.Expr} {x : Str} {scope : Scope} {cl : List (Str × Addr)} {Fin : Shared → List Value → List (Addr × Obj) → Prop} {X : Str} {t : Tok} {news : List (Addr × Obj)} {s₁ : Shared}
    (hh : A.handled = none) (F : Fr h₀ L s₁.heap m) (N : News h₀ L s₁.heap news) (hsz : X.cps.size ≤ sizeLine)
    (h : ∀ g, CompRestT prog w A h₀ L m env ct elt x scope cl { s₁ with heap := g } (fun _ => True) (SignAt X) (Fin { s₁ with heap := g }) X.cps.size 0 [] news) :
    SrcST prog w A h₀ L m env ct elt x scope cl Fin (.str X t) s₁ := ⟨X, t, news, rfl, hh, F, N, hsz, fun _ ⟨g, e⟩ => e ▸ h g⟩
theorem ListComp_TS {ct elt iter : PySem.Expr} {x : Str} {px : Pos} {scope : Scope} {cl : List (Str × Addr)} {pos : Pos} {Q : Value → Shared → Prop} (_F₀ : Fr h₀ L s.heap m)
    (hclos : closureFor scope env = pure cl) (hcell : ∀ y ∈ scope.names, y.2 ≠ .cell) (hkind : scope.kind = .function)
    (hnames : ∀ y ∈ scope.names, y.2 = .local → scope.names.lookup y.1 = some .local) (hx : scope.names.lookup x = some .local)
    (h : wpAny (model prog w) A (eval iter env) (SrcST prog w A h₀ L m env ct elt x scope cl (fun s₂ => FinE h₀ L m s₂ Q)) E s)
    (hs : ∀ x, foldedSetIterable iter env x = pure x := by intro _; rfl) :
    wpAny (model prog w) A (eval (.ListComp elt [⟨.Name x px, iter, [ct], 0⟩] scope pos) env) Q E s := by
  rw [eval_ListComp]
  refine wpAny_comprehension_free (use := none) rfl hs hclos hkind hnames (wpAny_mono h (fun xv s₁ h₁ => ?_) fun _ _ e => e)
  obtain ⟨X, t, news, rfl, hh, F, N, hsz, R⟩ := h₁
  cases ha : X.cps.all (· < 128)
  · refine wpAny_pyIter_wide ha ?_
    refine block_T (Walks.strWide hh _ X t) hsz (fun i h st => by obtain ⟨o, e, _⟩ := st; exact ⟨o, e⟩)
      (fun i h h' o nw st e e' _ _ _ => by obtain ⟨o2, h2, r⟩ := st; rw [e] at h2; cases h2; exact ⟨o, e', r⟩) hcell hkind hx ⟨_, Heap.get?_push_size _ rfl, rfl, rfl⟩ (fun b hb => ?_)
      (F.keeps fun _ _ e => Heap.get?_push_of_some _ e) (N.grown fun _ _ e => Heap.get?_push_of_some _ e) (Nat.ne_of_lt F.ns.lt) (next_is_new F) (fun p hp => Nat.ne_of_lt (Heap.lt_size (N p hp).1)) trivial (R _ ⟨_, rfl⟩) ?_
    · rw [List.mem_singleton.mp hb]
      show s₁.heap.objs.size < (s₁.heap.push _).objs.size
      rw [Heap.size_push]; exact Nat.lt_succ_self _
    · intro D C h tk m' ys news' F' N' o1 hn hC₀ hD₀ hCL hDL hCD offC fin
      refine ⟨m', hn, fun h'' hs'' => fin D h'' tk (F'.change hs'' hCL hC₀) (fun p hp => ?_) o1⟩
      refine ⟨hs''.extBut _ _ ?_ (N' p hp).1, (N' p hp).2⟩
      rcases List.mem_cons.mp hp with rfl | hp
      · exact Ne.symm hCD
      · exact offC p hp
  · refine wpAny_pyIter_ascii ha ?_
    refine block_T (Walks.strAscii hh _ X t) hsz (fun i h st => by obtain ⟨o, e, _⟩ := st; exact ⟨o, e⟩)
      (fun i h h' o nw st e e' _ _ _ => by obtain ⟨o2, h2, r⟩ := st; rw [e] at h2; cases h2; exact ⟨o, e', r⟩) hcell hkind hx ⟨_, Heap.get?_push_size _ rfl, rfl, rfl⟩ (fun b hb => ?_)
      (F.keeps fun _ _ e => Heap.get?_push_of_some _ e) (N.grown fun _ _ e => Heap.get?_push_of_some _ e) (Nat.ne_of_lt F.ns.lt) (next_is_new F) (fun p hp => Nat.ne_of_lt (Heap.lt_size (N p hp).1)) trivial (R _ ⟨_, rfl⟩) ?_
    · rw [List.mem_singleton.mp hb]
      show s₁.heap.objs.size < (s₁.heap.push _).objs.size
      rw [Heap.size_push]; exact Nat.lt_succ_self _
    · intro D C h tk m' ys news' F' N' o1 hn hC₀ hD₀ hCL hDL hCD offC fin
      refine ⟨m', hn, fun h'' hs'' => fin D h'' tk (F'.change hs'' hCL hC₀) (fun p hp => ?_) o1⟩
      refine ⟨hs''.extBut _ _ ?_ (N' p hp).1, (N' p hp).2⟩
      rcases List.mem_cons.mp hp with rfl | hp
      · exact Ne.symm hCD
      · exact offC p hp
end
end Mine
end

section
open PySem PySem.W PySem.Calls PySem.Spec PyProof.Rows PyProof
set_option maxRecDepth 100000
set_option maxHeartbeats 4000000
namespace Mine
section
variable {prog : Program} {w : World} {A : Around} {E : Value → Shared → Prop} {s : Shared} {h₀ : Heap} {L l : Addr} {m : Str → Option Value} {news : List (Addr × Obj)} {vs : List Value}
theorem iter_list {Q : Value → Shared → Prop} (F : Fr h₀ L s.heap m) (N : News h₀ L s.heap news) (hl : s.heap.IsList l vs.toArray)
    (h : ∀ (I : Addr) h', Fr h₀ L h' m → News h₀ L h' ((I, litO l 0) :: news) → (∀ p ∈ news, @LT.lt Nat _ p.1 I) → Q (.ref I) { s with heap := h' }) :
    wpAny (model prog w) A (call (.builtin "iter") [.ref l]) Q E s := by
  refine call_function_entry (by decide +kernel) (by decide +kernel) kdk_entry_iter (kdk_args_iter _) ?_
  unfold Builtin.«iter»
  refine wpAny_bind (m := someArgs "iter" 1 2 _) (wpAny_of_eq (a := [Value.ref l]) (by first | rfl | kernel_rfl!) ?_)
  show wpAny _ _ (pyIter (.ref l) >>= _) _ _ _
  refine wpAny_bind (wpAny_pyIter_list hl ?_)
  exact wpAny_pure ⟨_, rfl, h _ _ (F.push _) (News.push F N _ rfl) fun q hq => Heap.lt_size (N q hq).1⟩
end
/-- where each number of a tape begins -/
structure TapeOk (os nums : List Int) (off : Nat → Nat) : Prop where
  zero : off 0 = 0
  fin : off nums.length = os.length
  item : ∀ (i : Nat) (n : Int), nums[i]? = some n → ∃ (c : Int) (k : Nat), os[off i]? = some c ∧ decF c (Builtin.bitAnd c 63) (os.drop (off i + 1)) = some (n, k) ∧ off (i + 1) = off i + 1 + k
theorem read_spec (w : World) (mean : ExcName → Option Value) (mg mb : Str → Option Value) (g : Obj → List (Addr × Obj)) (it l : Addr) (e : Nat) (vs : List Value) (os nums : List Int) (off : Nat → Nat) (U : ∀ i', UpdF it (litO l i') (g (litO l i')) g) (hm : ∀ i', (l, listOf vs.toArray e) ∈ g (litO l i')) (hi : IntsAre vs os) (T : TapeOk os nums off) (i : Nat) (n : Int) (hn : nums[i]? = some n) :
    MClaim w mean mg mb 21 (g (litO l (off i))) (fun _ => True) [.ref it] (fun r news' => news' = g (litO l (off (i + 1))) ∧ ∃ t, r = .int n t) := by
  obtain ⟨c, k, h1, h2, h3⟩ := T.item i n hn
  rw [h3]
  exact par_spec w mean mg mb _ g it l (off i) e vs os c n k U rfl hm hi h1 h2
end Mine
end

section
open PySem PySem.W PySem.Calls PySem.Spec PyProof.Rows
set_option maxRecDepth 100000
set_option maxHeartbeats 8000000
set_option pp.deepTerms false
set_option pp.maxSteps 3000
namespace Mine
open PyProof
section
local macro_rules | `(tactic| walk_at "call ref") => `(tactic| refine Hold.out ?_)
local macro_rules | `(tactic| walk_at "call builtin:iter") => `(tactic| refine Hold.out ?_)
local macro_rules | `(tactic| k_all) => `(tactic| exact allNe_lt (by assumption) (by omega))
local macro_rules | `(tactic| ktr_unf) => `(tactic| repeat' (first | (k_unfold; (try dsimp only)) | (k_end; wrow_close) | (walk1 <;> (try dsimp only)) | (dsimp only; walk1) | (leave1; walk_say "STEP leave1"; try dsimp only) | fail "no step"))
theorem law_iter (w : World) (mean : ExcName → Option Value) (mg mb : Str → Option Value) (sl Dd Df Dn : Addr) (nvs : List Value) (nums : List Int) (ne de fe : Nat) (dvs fvs : List Value) (o1 o2 : Obj) (hI : IntsAre nvs nums) (hb : ∀ n ∈ nums, 0 ≤ n ∧ n < 262144) (hlen : nums.length ≤ 30) (ho1 : o1.data = .cell none) (ho2 : o2.data = .cell none)
    : ∀ (H : Heap) (fa cw LL : Addr) (s : Shared) (m0 : Str → Option Value) (Qk : Flow → Shared → Prop) (Ek : Value → Shared → Prop),
      (KF w.params).In H → Top qv (looseW qv lo) mean mg mb H → Below callerA H [] H → Tabs w H →
      Fr H LL s.heap (kstB m0 [(Str.ofString "numbers", .ref Dn), (Str.ofString "fronts", .ref Df), (Str.ofString "due", .ref Dd), (Str.ofString "script", .ref sl)]) → News H LL s.heap ((Dn, listOf nvs.toArray ne) :: (Df, listOf fvs.toArray fe) :: (Dd, listOf dvs.toArray de) :: (LL + 1 + 1, o2) :: (LL + 1, o1) :: []) → @LT.lt Nat _ (LL + 1 + 1) Dd → @LT.lt Nat _ Dd Df → @LT.lt Nat _ Df Dn →
      PassesOwn (model PySem.Challenge.rw_rl0108_01.row.prog w) (AL fa cw LL) (EL fa cw LL) Ek →
      (∀ (h' : Heap) (tk' : Nat) (it D : Addr) (e : Nat) (ys : List Value) (o1' : Obj), Fr H LL h' (kstB m0 [(Str.ofString "numbers", .ref Dn), (Str.ofString "fronts", .ref Df), (Str.ofString "due", .ref Dd), (Str.ofString "script", .ref sl)]) → o1'.data = .cell (some (.ref it)) →
        News H LL h' ((it, litO D 0) :: (D, listOf ys.toArray e) :: (Dn, listOf nvs.toArray ne) :: (Df, listOf fvs.toArray fe) :: (Dd, listOf dvs.toArray de) :: (LL + 1 + 1, o2) :: (LL + 1, o1') :: []) →
        IntsAre ys (octL nums) → @LT.lt Nat _ D it → D ≠ LL + 1 → D ≠ LL + 1 + 1 → (∀ p ∈ ((Dn, listOf nvs.toArray ne) :: (Df, listOf fvs.toArray fe) :: (Dd, listOf dvs.toArray de) :: (LL + 1 + 1, o2) :: (LL + 1, o1) :: [] : List (Addr × Obj)), @LT.lt Nat _ p.1 it) → Qk .next { s with heap := h', toks := tk' }) →
      wpAny (model PySem.Challenge.rw_rl0108_01.row.prog w) (AL fa cw LL) (exec (lawS 4) (EL fa cw LL)) Qk Ek s := by
  w_on
  k_fill
  intro H fa cw LL s m0 Qk Ek X1 T1 B1 hTab2 F1 N1 hl1 hl2 hl3 hPO hret
  conv => enter [3, 1]; whnf
  ktr_unf
  refine' Hold.go (MClaim2.use (oct_spec w mean mg mb _ Dn ne nvs nums hI (List.Mem.head _) hb hlen) ?B ?F ?X ?N ?T ?hk ?tb ?hp ?hd ?hu ?_)
  (case B => k_asm)
  (case F => k_asm)
  (case X => k_asm)
  (case N => k_asm)
  (case T => k_asm)
  (case hk => first | exact rfl | assumption)
  (case tb => assumption)
  (case hp => exact trivial)
  (case hd => ktr_room)
  (case hu => ktr_units)
  rintro r4 news4 h4 tk4 F4 N4 ⟨hsub, D, e, ys, rfl, hD, hys⟩
  ktr_unf
  rename Fr _ _ _ _ => F5
  rename News _ _ _ _ => N5
  refine Hold.go (iter_list F5 N5 (isList_news N5 hD) ?_)
  clear F5 N5
  intro I h5 F5 N5 hlt
  ktr_unf
  have N6 : News H LL h5 ((I, litO D 0) :: (D, listOf ys.toArray e) :: (Dn, listOf nvs.toArray ne) :: (Df, listOf fvs.toArray fe) :: (Dd, listOf dvs.toArray de) :: (LL + 1 + 1, o2) :: (LL + 1, o1) :: []) := by
    intro p hp
    rcases List.mem_cons.mp hp with rfl | hp
    · exact N5 _ (List.Mem.head _)
    · rcases List.mem_cons.mp hp with rfl | hp
      · exact N5 _ (List.Mem.tail _ hD)
      · exact N5 _ (List.Mem.tail _ (hsub p hp))
  have z0 : @LT.lt Nat _ (LL + 1) Dd := Nat.lt_trans (Nat.lt_succ_self _) hl1
  have hDn : D ≠ LL + 1 := by
    intro e
    have a := (N6 _ (List.Mem.tail _ (List.Mem.head _))).1
    have b := (N6 (LL + 1, o1) (List.Mem.tail _ (List.Mem.tail _ (List.Mem.tail _ (List.Mem.tail _ (List.Mem.tail _ (List.Mem.tail _ (List.Mem.head _)))))))).1
    rw [e] at a
    dsimp only at a b
    rw [a] at b
    cases b
    cases ho1
  have hDn2 : D ≠ LL + 1 + 1 := by
    intro e
    have a := (N6 _ (List.Mem.tail _ (List.Mem.head _))).1
    have b := (N6 (LL + 1 + 1, o2) (List.Mem.tail _ (List.Mem.tail _ (List.Mem.tail _ (List.Mem.tail _ (List.Mem.tail _ (List.Mem.head _))))))).1
    rw [e] at a
    dsimp only at a b
    rw [a] at b
    cases b
    cases ho2
  have hI : ∀ p ∈ ((Dn, listOf nvs.toArray ne) :: (Df, listOf fvs.toArray fe) :: (Dd, listOf dvs.toArray de) :: (LL + 1 + 1, o2) :: (LL + 1, o1) :: [] : List (Addr × Obj)), @LT.lt Nat _ p.1 I := fun p hp => hlt p (hsub p hp)
  have hIc : @LT.lt Nat _ (LL + 1) I := hI (LL + 1, o1) (List.Mem.tail _ (List.Mem.tail _ (List.Mem.tail _ (List.Mem.tail _ (List.Mem.head _)))))
  refine storeX_C F5 N6 rfl (UpdF.tail (Nat.ne_of_gt hIc) (UpdF.tail hDn (UpdF.tail (Nat.ne_of_gt (Nat.lt_trans z0 (Nat.lt_trans hl2 hl3))) (UpdF.tail (Nat.ne_of_gt (Nat.lt_trans z0 hl2)) (UpdF.tail (Nat.ne_of_gt z0) (UpdF.tail (Nat.ne_of_gt (Nat.lt_succ_self _)) (UpdF.head (fun _ h => nomatch h)))))))) ho1 ?_
  intro h7 o1' F7 N7 ho1'
  exact hret _ _ _ _ _ _ _ F7 ho1' N7 hys (hlt _ hD) hDn hDn2 hI
end
end Mine
end

section
open PySem PySem.W PySem.Calls PySem.Spec PyProof.Rows PyProof
set_option maxRecDepth 100000
set_option maxHeartbeats 4000000
namespace Mine
theorem numL_at (ns : List Int) (k j : Nat) (hj : j < 5) : ∀ n, k < n → (numL ns n)[5 * k + j]? = (numk ns k)[j]? := by
  intro n
  induction n with
  | zero => intro h; omega
  | succ n ih =>
    intro h
    rw [numL_succ]
    rcases Nat.lt_or_ge k n with hk | hk
    · rw [List.getElem?_append_left (by rw [numL_len]; omega)]
      exact ih hk
    · have e : k = n := by omega
      subst e
      rw [List.getElem?_append_right (by rw [numL_len]; omega), numL_len]
      congr 1
      omega
theorem sign_bd (k i : Nat) : 0 ≤ (signC k).getD i 0 ∧ (signC k).getD i 0 < 262144 := by
  have all : ∀ k, ∀ c ∈ signC k, (0 : Int) ≤ c ∧ c < 262144 := by
    intro k
    match k with
    | 0 => decide
    | 1 => decide
    | 2 => decide
    | 3 => decide
    | n + 4 => intro y hy; exact nomatch hy
  rw [List.getD_eq_getElem?_getD]
  cases h : (signC k)[i]? with
  | none => decide
  | some c => exact all k c (List.mem_of_getElem? h)
theorem hid_bd (i : Nat) : 0 ≤ hid.getD i 0 ∧ hid.getD i 0 < 262144 := by
  have all : ∀ c ∈ hid, (0 : Int) ≤ c ∧ c < 262144 := by decide +kernel
  rw [List.getD_eq_getElem?_getD]
  cases h : hid[i]? with
  | none => decide
  | some c => exact all c (List.mem_of_getElem? h)
theorem restC_bd (k : Nat) (x : Int) : ∀ c ∈ restC k x, 0 ≤ c ∧ c < 262144 := by
  have h1 := sign_bd k (restI x 4 8)
  have h2 := sign_bd k (restI x 32 8)
  have h3 := hid_bd (restI x 256 27)
  intro c hc
  unfold restC at hc
  dsimp only at hc
  split at hc
  · simp only [List.mem_cons, List.not_mem_nil, or_false] at hc; rcases hc with rfl | rfl | rfl <;> assumption
  · split at hc
    · simp only [List.mem_cons, List.not_mem_nil, or_false] at hc; rcases hc with rfl | rfl | rfl <;> assumption
    · simp only [List.mem_cons, List.not_mem_nil, or_false] at hc; rcases hc with rfl | rfl | rfl <;> assumption
theorem numL_bd (ns : List Int) : ∀ n, ∀ c ∈ numL ns n, 0 ≤ c ∧ c < 262144 := by
  intro n
  induction n with
  | zero => intro c hc; exact nomatch hc
  | succ n ih =>
    intro c hc
    rw [numL_succ] at hc
    rcases List.mem_append.mp hc with hc | hc
    · exact ih c hc
    · unfold numk at hc
      have := frk_bd ns n
      rcases List.mem_cons.mp hc with rfl | hc
      · omega
      · rcases List.mem_cons.mp hc with rfl | hc
        · omega
        · exact restC_bd _ _ c hc
/-- the signs of a rest, as codes -/
noncomputable def cN (ns : List Int) (k : Nat) : List Nat := (restC k (xk ns k)).map Int.toNat
theorem cN_len (ns : List Int) (k : Nat) : (cN ns k).length = 3 := by rw [cN, List.length_map, restC_len]
/-- the objects under the reading loop -/
noncomputable def ledW (LL Dd Df Dn D it Dm : Addr) (oN oF oD o1 o2 : Obj) (ys : List Value) (e : Nat) (nm : List Value) (me : Nat) (o : Obj) : List (Addr × Obj) :=
  (Dm, listOf nm.toArray me) :: (it, o) :: (D, listOf ys.toArray e) :: (Dn, oN) :: (Df, oF) :: (Dd, oD) :: (LL + 1 + 1, o2) :: (LL + 1, o1) :: []
theorem ledW_upd {LL Dd Df Dn D it Dm : Addr} {oN oF oD o1 o2 : Obj} {ys : List Value} {e : Nat} (h1 : @LT.lt Nat _ it Dm) (h2 : ∀ p ∈ ((D, oN) :: (Dn, oN) :: (Df, oF) :: (Dd, oD) :: (LL + 1 + 1, o2) :: (LL + 1, o1) :: [] : List (Addr × Obj)), @LT.lt Nat _ p.1 it) (nm : List Value) (me : Nat) (o : Obj) :
    UpdF it o (ledW LL Dd Df Dn D it Dm oN oF oD o1 o2 ys e nm me o) (ledW LL Dd Df Dn D it Dm oN oF oD o1 o2 ys e nm me) := by
  refine UpdF.tail (Nat.ne_of_gt h1) (UpdF.head fun p hp => Nat.ne_of_lt ?_)
  rcases List.mem_cons.mp hp with rfl | hp
  · exact h2 (D, oN) (List.Mem.head _)
  · exact h2 p (List.Mem.tail _ hp)
theorem updF_front {it : Addr} {o : Obj} {g : Obj → List (Addr × Obj)} {l : List (Addr × Obj)} (U : UpdF it o l g) (a b c : Addr × Obj) (ha : a.1 ≠ it) (hb : b.1 ≠ it) (hc : c.1 ≠ it) : UpdF it o (a :: b :: c :: l) (fun o' => a :: b :: c :: g o') :=
  UpdF.tail ha (UpdF.tail hb (UpdF.tail hc U))
end Mine
namespace Mine
theorem TextsAre.strs : ∀ {vs : List Value} {ds : List (List Nat)}, TextsAre vs ds → StrsAre vs (ds.map S)
  | _, _, .nil => .nil
  | _, _, .cons _ _ h => .cons _ _ (TextsAre.strs h)
theorem S_nil_append (a : List Nat) : Str.ofString "" ++ S a = S a := S_append [] a
theorem join_S : ∀ (ds : List (List Nat)), Str.join (Str.ofString "") (ds.map S) = S ds.flatten
  | [] => rfl
  | [a] => by simp [Str.join]
  | a :: b :: r => by
    have h := join_S (b :: r)
    simp only [List.map_cons] at h ⊢
    show S a ++ Str.ofString "" ++ Str.join (Str.ofString "") (S b :: List.map S r) = _
    rw [h]
    have e : S a ++ Str.ofString "" = S a := by rw [show Str.ofString "" = S [] from rfl, S_append, List.append_nil]
    rw [e, S_append]
    rfl
theorem join_texts {prog : Program} {w : World} {A : Around} {E : Value → Shared → Prop} {s : Shared} {D : Addr} {vs : List Value} {ds : List (List Nat)} {t : Tok} {Q : Value → Shared → Prop} (hl : s.heap.IsList D vs.toArray) (hi : TextsAre vs ds) (hz : ds.length ≤ 1000) (hz2 : (ds.map List.length).sum ≤ 1000)
    (h : ∀ t' k, Q (.str (S ds.flatten) t') { s with toks := k }) : wpAny (model prog w) A (call (.builtin "str.join") [.str (Str.ofString "") t, .ref D]) Q E s := by
  refine join_listW (ys := ds.map S) hl hi.strs (by decide) ?_ ?_
  · rw [List.length_map, List.map_map]
    have e : ((fun y : Str => y.length) ∘ S) = List.length := by funext x; exact S_len x
    have e2 : (List.map ((fun x : Str => x.length) ∘ S) ds) = ds.map List.length := by rw [e]
    rw [e2]
    omega
  · intro t' k
    rw [beq_iff_eq.mp (join_plain_closes _ _), join_S]
    exact h t' k
theorem off3_ledW {LL Dd Df Dn D it Dm I C Z : Addr} {oN oF oD o1 o2 : Obj} {ys : List Value} {e : Nat} {nm : List Value} {me : Nat} {o : Obj} (o' : Obj) (h : LCg.Off3 I C Z (ledW LL Dd Df Dn D it Dm oN oF oD o1 o2 ys e nm me o)) : LCg.Off3 I C Z (ledW LL Dd Df Dn D it Dm oN oF oD o1 o2 ys e nm me o') := h
end Mine
namespace Mine
theorem flat1 : ∀ l : List Nat, (l.map fun c => [c]).flatten = l
  | [] => rfl
  | a :: r => by rw [List.map_cons, List.flatten_cons, flat1 r]; rfl
theorem sum1 : ∀ l : List Nat, ((l.map fun c => [c]).map List.length).sum = l.length
  | [] => rfl
  | a :: r => by rw [List.map_cons, List.map_cons, List.sum_cons, sum1 r]; simp only [List.length_cons, List.length_nil]; omega
end Mine
end

section
open PySem PySem.W PySem.Calls PySem.Spec PyProof.Rows PyProof PyProof.Rows.LCg PyProof.Rows.LCt
set_option maxRecDepth 100000
set_option maxHeartbeats 4000000
namespace Mine
section
variable {prog : Program} {w : World} {A : Around} {E : Value → Shared → Prop} {s : Shared} {h₀ : Heap} {L : Addr} {m : Str → Option Value} {env : Env}
/-- a comprehension with a test by what holds of its turns -/
theorem comp_invT {ct elt : PySem.Expr} {x : Str} {scope : Scope} {cl : List (Str × Addr)} {S : List (Addr × Obj) → Prop} {P : Nat → Value → Prop} {Fin : List Value → List (Addr × Obj) → Prop} (J : Nat → List Value → List (Addr × Obj) → Prop) (n : Nat)
    (turn : ∀ (i : Nat) (ys : List Value) (news : List (Addr × Obj)), i < n → J i ys news → ∀ v I oI C oC D m₂ h tk (E' : Value → Shared → Prop), P i v → LCg.NsObj oC m₂ → m₂ x = some v → Fr h₀ L h m → News h₀ L h ((I, oI) :: (C, oC) :: (D, LCg.lst ys) :: news) → LCg.Off3 I C D news → ((@Ne Nat I C) ∧ (@Ne Nat I D) ∧ (@Ne Nat C D)) →
      wpAny (model prog w) A (isTrue ct (compEnvC scope cl C env) (eval ct (compEnvC scope cl C env))) (fun ok s' => if ok = true then
        wpAny (model prog w) A (eval elt (compEnvC scope cl C env)) (CompEnd h₀ L m { s with heap := h, toks := tk } I oI C oC D (lst ys) S (fun y news' => J (i + 1) (ys ++ [y]) news')) E' s'
        else CompEnd h₀ L m { s with heap := h, toks := tk } I oI C oC D (lst ys) S (fun _ news' => J (i + 1) ys news') Value.none s') E' { s with heap := h, toks := tk })
    (fin : ∀ ys news, J n ys news → Fin ys news) : ∀ (k i : Nat) (ys : List Value) (news : List (Addr × Obj)), i + k = n → J i ys news → CompRestT prog w A h₀ L m env ct elt x scope cl s S P Fin k i ys news := by
  intro k
  induction k with
  | zero =>
    intro i ys news hi hJ
    have e : i = n := by omega
    subst e
    exact CompRestT.zero (fin _ _ hJ)
  | succ k ih =>
    intro i ys news hi hJ
    refine CompRestT.succ fun v I oI C oC D m₂ h tk E' hP hC hm F N off ne => ?_
    refine wpAny_mono (turn i ys news (by omega) hJ v I oI C oC D m₂ h tk E' hP hC hm F N off ne) (fun ok s₂ q => ?_) fun _ _ e => e
    cases ok with
    | true =>
      simp only [if_true] at q ⊢
      exact wpAny_mono q (fun y s₃ q => compEnd_mono q fun y n' hJ' => ih (i + 1) _ _ (by omega) hJ') fun _ _ e => e
    | false =>
      simp only [Bool.false_eq_true, if_false] at q ⊢
      exact compEnd_mono q fun y n' hJ' => ih (i + 1) _ _ (by omega) hJ'
end
/-- a sign, folded -/
noncomputable def foldL (c : Nat) : List Nat := (fold3 (S [c])).cps.toList
theorem S_foldL (c : Nat) : fold3 (S [c]) = S (foldL c) := S_of _
noncomputable def restT (l : List Nat) : List (List Nat) := (l.filter fun (c : Nat) => !inB1 (c : Int)).map foldL
theorem restT_snoc (l : List Nat) (c : Nat) : restT (l ++ [c]) = if inB1 (c : Int) then restT l else restT l ++ [foldL c] := by
  unfold restT
  rw [List.filter_append]
  cases h : inB1 (c : Int) <;> simp [h]
end Mine
namespace Mine
theorem hid_in : ∀ i, i < 27 → inB1 (((hid.getD i 0).toNat : Nat) : Int) = true := by decide +kernel
theorem sign_out : ∀ k, k < 4 → ∀ i, i < 8 → inB1 ((((signC k).getD i 0).toNat : Nat) : Int) = false := by decide +kernel
theorem sign_fold : ∀ k, k < 4 → ∀ i, i < 8 → foldL ((signC k).getD i 0).toNat = ((signM k).getD i Str.empty).cps.toList := by decide +kernel
end Mine
namespace Mine
theorem restI_lt (x q : Int) {b : Int} (hb : 0 < b) : restI x q b < b.toNat := by
  have := fm_bd (x.fdiv q) hb
  unfold restI
  omega
theorem rest_law (k : Nat) (x : Int) (hk : k < 4) : (restT ((restC k x).map Int.toNat)).flatten = LT k x := by
  have e1 := hid_in _ (restI_lt x 256 (b := 27) (by decide))
  have e2 := sign_out k hk _ (restI_lt x 4 (b := 8) (by decide))
  have e3 := sign_out k hk _ (restI_lt x 32 (b := 8) (by decide))
  have f2 := sign_fold k hk _ (restI_lt x 4 (b := 8) (by decide))
  have f3 := sign_fold k hk _ (restI_lt x 32 (b := 8) (by decide))
  have e : LT k x = ((signM k).getD (restI x 4 8) Str.empty).cps.toList ++ ((signM k).getD (restI x 32 8) Str.empty).cps.toList := by
    unfold LT restL
    rw [Str.cps_append, Array.toList_append]
  rw [e, ← f2, ← f3]
  unfold restC restT
  dsimp only
  split
  · simp only [List.map_cons, List.map_nil, List.filter_cons, List.filter_nil, e1, e2, e3, Bool.not_true, Bool.not_false, if_true, Bool.false_eq_true, if_false, List.flatten_cons, List.flatten_nil, List.append_nil]
  · split <;> simp only [List.map_cons, List.map_nil, List.filter_cons, List.filter_nil, e1, e2, e3, Bool.not_true, Bool.not_false, if_true, Bool.false_eq_true, if_false, List.flatten_cons, List.flatten_nil, List.append_nil]
end Mine
end

section
open PySem PySem.W PySem.Calls PySem.Spec PyProof.Rows PyProof
set_option maxRecDepth 100000
set_option maxHeartbeats 4000000
namespace Mine
/-- an iterator that has ended -/
noncomputable def endO (i : Nat) : Obj := { cls := .type "list_iterator", data := .fields #[.none, .int i 0] }
section
variable {prog : Program} {w : World} {A : Around} {E : Value → Shared → Prop} {s : Shared} {h₀ : Heap} {L it l : Addr} {m : Str → Option Value} {news : List (Addr × Obj)} {g : Obj → List (Addr × Obj)} {i : Nat} {vs : List Value}
theorem special_stop {Q : Option Value → Shared → Prop} (hh : A.handled = none) (ho : s.heap.get? it = some (litO l i)) (hl : s.heap.IsList l vs.toArray) (hx : vs[i]? = none)
    (hE : ∀ h₁ h' e, h₁.get? it = some (endO i) → Heap.SameBut it s.heap h₁ → Heap.MadeExcOf h₁ h' e (.type "StopIteration") [] → E (.ref e) { s with heap := h' }) :
    wpAny (model prog w) A (callSpecial? (.ref it) (Str.ofString "__next__")) Q E s := by
  obtain ⟨ol, hol, _, nl, hdl⟩ := hl
  have hit := litO_at ho
  refine wpAny_callSpecial?_slot (name := Str.ofString "__next__") hit.typeIs slot_listiter_next
    (wpAny_call_entry slot_listiter_next hit.typeIs entry_listiter_next ?_ (args_listiter_next _))
  show wpAny _ _ (field (.ref it) 0 >>= _) _ _ s
  refine wpAny_bind (wpAny_field ho (show (litO l i).data = _ from rfl) (x := .ref l) rfl ?_)
  show wpAny _ _ (if (Value.ref l == Value.none) = true then _ else _) _ _ s
  rw [if_neg (show ¬ ((Value.ref l == Value.none) = true) from Bool.false_ne_true)]
  show wpAny _ _ (field (.ref it) 1 >>= _) _ _ s
  refine wpAny_bind (wpAny_field ho (show (litO l i).data = _ from rfl) (x := .int i 0) rfl ?_)
  show wpAny _ _ (seqItems? (.ref l) >>= _) _ _ s
  refine wpAny_bind (wpAny_seqItems hol hdl ?_)
  simp only [Int.toNat_natCast, List.getElem?_toArray, hx]
  refine wpAny_bind (wpAny_rule ?_)
  refine wpAny_bind (wpAny_setField ho (show (litO l i).data = _ from rfl) (by simp) ?_)
  have h1 : (s.heap.update it (Obj.mapFields (·.setIfInBounds 0 .none))).get? it = some (endO i) := by rw [Heap.get?_update_self _ ho rfl]; rfl
  have h2 : Heap.SameBut it s.heap (s.heap.update it (Obj.mapFields (·.setIfInBounds 0 .none))) := Heap.SameBut.update ..
  show wpAny _ _ (newExc (.type "StopIteration") [] >>= _) _ _ _
  refine wpAny_bind ?_
  simp only [newExc, newTuple]
  refine wpAny_bind (wpAny_newObj_type ?_ (by size_fits))
  refine wpAny_bind (m := firstArgMember _ _) (wpAny_of_eq (a := Value.none) (by first | rfl | (simp only [firstArgMember]; rfl)) ?_)
  refine wpAny_newObj_type ?_ (by size_fits)
  simp only [raiseNew]
  refine wpAny_bind (wpAny_handled ?_)
  first | rw [show A.in1.handled = none from hh] | rw [hh]
  first | refine wpAny_throw ?_ | refine wpAny_bind (wpAny_pure (wpAny_throw ?_)) | refine wpAny_bind (wpAny_throw ?_)
  refine hE _ _ _ h1 h2 ⟨fun b o hb => Heap.get?_push_of_some _ (Heap.get?_push_of_some _ hb), Heap.get?_none_of_le (by simp), _, ?_, Heap.get?_none_of_le (Nat.le_refl _), ?_⟩
  · exact Heap.get?_push_size _ rfl
  · exact Heap.get?_push_of_some _ (Heap.get?_push_size _ rfl)
theorem next_stop {Q : Value → Shared → Prop} (hh : A.handled = none) (F : Fr h₀ L s.heap m) (N : News h₀ L s.heap news) (U : UpdF it (litO l i) news g) (hl : s.heap.IsList l vs.toArray) (hx : vs[i]? = none)
    (hE : ∀ h₁ h' e, Fr h₀ L h₁ m → News h₀ L h₁ (g (endO i)) → Heap.MadeExcOf h₁ h' e (.type "StopIteration") [] → E (.ref e) { s with heap := h' }) :
    wpAny (model prog w) A (call (.builtin "next") [.ref it]) Q E s := by
  obtain ⟨pre, post, hl', hg, a, b⟩ := U.split
  have hmem : (it, litO l i) ∈ news := by rw [hl']; exact List.mem_append_right _ (.head _)
  have hm := N (it, litO l i) hmem
  have hit := litO_at hm.1
  refine call_function_entry (by decide +kernel) (by decide +kernel) kdk_entry_next (kdk_args_next _) ?_
  unfold Builtin.«next»
  refine wpAny_bind (m := someArgs "next" 1 2 _) (wpAny_of_eq (a := [Value.ref it]) (by first | rfl | kernel_rfl!) ?_)
  dsimp only
  refine wpAny_bind (wpAny_specialOf (name := Str.ofString "__next__") hit.typeIs slot_listiter_next.lookup ?_)
  refine wpAny_ite_split (fun hab => absurd hab (by decide)) (fun _ => ?_)
  exact wpAny_bind (special_stop hh hm.1 hl hx fun h₁ h' e ho' hs hx' => hE h₁ h' e (F.change hs hm.2.1 hm.2.2) (hg _ ▸ (show News h₀ L s.heap (pre ++ (it, litO l i) :: post) from hl' ▸ N).setIn a b hs ho') hx')
end
end Mine
end

section
open PySem PySem.W PySem.Calls PySem.Spec PyProof.Rows
set_option maxRecDepth 100000
set_option maxHeartbeats 8000000
set_option pp.deepTerms false
set_option pp.maxSteps 3000
namespace Mine
open PyProof
section
local macro_rules | `(tactic| walk_at "call builtin:next") => `(tactic| refine Hold.out ?_)
local macro_rules | `(tactic| walk_at "leaving ref") => `(tactic| refine Hold.out ?_)
local macro_rules | `(tactic| k_all) => `(tactic| exact allNe_lt (by assumption) (by omega))
local macro_rules | `(tactic| ktr_unf) => `(tactic| repeat' (first | (k_unfold; (try dsimp only)) | (k_end; wrow_close) | (walk1 <;> (try dsimp only)) | (dsimp only; walk1) | (leave1; walk_say "STEP leave1"; try dsimp only) | fail "no step"))
/-- the parser at the end of the tape -/
theorem par_stop (w : World) (mean : ExcName → Option Value) (mg mb : Str → Option Value) (g : Obj → List (Addr × Obj)) (it l : Addr) (i e : Nat) (vs : List Value) (U : ∀ o, UpdF it o (g o) g) (hm : ∀ o, (l, listOf vs.toArray e) ∈ g o) (hx : vs[i]? = none) :
  ∀ (dp un : Nat) (gd : Option (List Code)) (cn : Str) (cs : Scope) (a : Addr) (ccd : Value) (cl : List (Str × Addr)) (outer : List Env) (A₀ : Around) (base h₀ : Heap) (L : Addr) (m : Str → Option Value) (s : Shared) (Q E : Value → Shared → Prop),
    Below A₀ base outer h₀ → Fr h₀ L s.heap m → (KF w.params).In h₀ → News h₀ L s.heap (g (litO l i)) → Top qv (looseW qv lo) mean mg mb h₀ → cs.kind = .function → Tabs w h₀ → dp + 5 < recursionLimit → un + 40 < cLine →
    (∀ (h₁ h' : Heap) (tk' : Nat) (x t : Addr), Fr h₀ L h₁ m → h₁.UpToSlots h' → RaisedK base (envX cn cs L a ccd cl :: outer) x (.type "StopIteration") t [] (g (endO i)) h' → E (.ref x) { s with heap := h', toks := tk' }) →
    wpAny (model PySem.Challenge.rw_rl0108_01.row.prog w) (ktrTop dp un gd cn cs L a ccd cl outer) (call (.ref 21) [.ref it]) Q E s := by
  w_on
  skip
  k_fill
  intro dp un gd cn cs a ccd cl outer A₀ base h₀ L m s Q E hB hF hK hN hT hcs hTab hdp hun hraise
  refine wpAny_call ?_
  k_dflt cell_enter
  k_gentoks
  rename Fr h₀ L _ m => FG
  have hTab2 := hTab.up FG
  rename Fr _ _ _ _ => F1
  replace F1 : Fr _ _ _ (KB [(Str.ofString "iterator", Value.ref it)]) := kb_of F1
  ktr_unf
  rename News _ _ _ _ => N1
  refine Hold.go (next_stop rfl (by k_asm) N1 (U _) ⟨_, (N1 _ (hm _)).1, rfl, _, rfl⟩ hx ?_)
  intro h₁ h' x F' N' hx'
  ktr_unf
  refine Hold.go (leave_raiseK (by assumption) hx' F' N' ?_)
  intro h'' t R' U'
  exact hraise _ _ _ _ _ FG U' R'
end
end Mine
end

section
open PySem PySem.W PySem.Calls PySem.Spec PyProof.Rows PyProof
set_option maxRecDepth 100000
set_option maxHeartbeats 4000000
namespace Mine
section
variable {prog : Program} {w : World} {A₀ : Around} {E : Value → Shared → Prop} {s' : Shared} {h₀ h : Heap} {outer : List Env} {L a e t : Addr} {m : Str → Option Value} {name : Str} {scope : Scope} {cd : Value} {cl : List (Str × Addr)}
  {vs : List Value} {b₀ : Stmt} {suite : List Stmt} {pos np : Pos} {rest : List ExceptHandler} {Q : Flow → Shared → Prop} {news : List (Addr × Obj)}
  {K : Frag} {p : Program} {loose : List Str} {mg mb : Str → Option Value} {x : Str} {X T' : String}
/-- caught in a frame with cells -/
theorem caught_KX (B₀ : Below A₀ h₀ outer h₀) (F : Fr h₀ L h m) (hsm : h.UpToSlots s'.heap) (R : RaisedK h₀ (envX name scope L a cd cl :: outer) e (.type X) t vs news s'.heap)
    (XI : K.In h₀) (T : TopRead p loose mg mb h₀) (he : nsIn K mainGlobals x = some none) (hv : bootBuiltins x = some (.type T')) (hn : x ≠ "__name__")
    (hexc : isSubtype (.type T') (.type "BaseException") = pure true) (hnt : isSubtype (.type ((Manifest.find? T').elim "type" fun y => y.metatype)) (.type "tuple") = pure false) (hsub : isSubtype (.type X) (.type T') = pure true)
    (k : ∀ h', Fr h₀ L h' m → News h₀ L h' news → wpAny (model prog w) ((A₀.deeper (envX name scope L a cd cl)).mark (some (.ref e))) (execs (b₀ :: suite) (envX name scope L a cd cl)) Q E { s' with heap := h' })
    (hk : scope.kind = .function := by rfl) (hx : (envX name scope L a cd cl).kindOf x = some .globalImplicit := by rfl) (hd : (x == ("__debug__" : Str)) = false := by decide)
    (hE : PassesOwnAt (model prog w) ((A₀.deeper (envX name scope L a cd cl)).mark (some (.ref e))) (A₀.deeper (envX name scope L a cd cl)) (envX name scope L a cd cl) E := by passes_own) :
    wpAny (model prog w) (A₀.deeper (envX name scope L a cd cl)) (noteFrame (.ref e) (envX name scope L a cd cl))
      (fun _ s₂ => wpAny (model prog w) (A₀.deeper (envX name scope L a cd cl)) (setFlight (.ref e) none) (fun _ s₃ =>
        wpAny (model prog w) (A₀.deeper (envX name scope L a cd cl)) (handleBy (.ref e) (envX name scope L a cd cl) (.ExceptHandler (some (.Name x np)) none (b₀ :: suite) pos :: rest)) Q E s₃) E s₂) E s' := by
  obtain ⟨⟨B, hB, hl, hfl, hnew⟩, htup⟩ := R
  have hL : B.get? L = none := by
    obtain ⟨_, ⟨L', _, hf, hn', _⟩, _⟩ := hfl.2.2.1
    obtain rfl : L = L' := Option.some.inj hf
    exact hn'
  refine wpAny_looks_onW (Around.frames_deeper B₀.stack) rfl hfl fun h₄ hheld₄ hsm₄ => ?_
  refine wpAny_landsW hheld₄ fun h₅ hheld hsm₅' => ?_
  have hsm₅ := hsm₄.trans hsm₅'
  have hheld' := flyingW_base hB hheld
  have F₅ := F.of_stays hheld'.1 (hsm.trans hsm₅)
  obtain ⟨ob, hob, hobc⟩ := hheld'.there
  refine wpAny_handleBy_builtin (X := X) (T := T') (b := true) hexc hnt hsub (nameX_B F₅ XI T he hv hn ⟨rfl, ⟨ob, hob, hobc⟩, ?_⟩ hk hx hd)
  refine lands_againW hheld fun h₆ hfl₆ hsm₆ => ?_
  have hfl₆' := flyingW_base hB hfl₆
  have F₆ := F.of_stays hfl₆'.1 ((hsm.trans hsm₅).trans hsm₆)
  exact wpAny_passesOwnAt hE (k h₆ F₆ fun q hq => ⟨hfl₆.1 _ _ (hl q hq).1, (fun z => by have := (hl q hq).1; rw [z, hL] at this; cases this), (hl q hq).2⟩)
end
end Mine
end

section
open PySem PySem.W PySem.Calls PySem.Spec PyProof.Rows
set_option maxRecDepth 100000
set_option maxHeartbeats 8000000
set_option pp.deepTerms false
set_option pp.maxSteps 3000
namespace Mine
open PyProof
section
local macro_rules | `(tactic| walk_at "call ref") => `(tactic| refine Hold.out ?_)
local macro_rules | `(tactic| walk_at "call builtin:str.join") => `(tactic| refine Hold.out ?_)
local macro_rules | `(tactic| walk_at "call builtin:list.append") => `(tactic| refine Hold.out ?_)
local macro_rules | `(tactic| walk_at "CompSrc") => `(tactic| refine Hold.out ?_)
local macro_rules | `(tactic| walk_at "truthy ref") => `(tactic| refine Hold.out ?_)
local macro_rules | `(tactic| walk_at "subscriptTail Name UnaryOp ref int") => `(tactic| refine Hold.out ?_)
local macro_rules | `(tactic| walk_at "binaryOp Add str str") => `(tactic| refine Hold.out ?_)
local macro_rules | `(tactic| walk_at "CompSrcT") => `(tactic| refine Hold.out ?_)
local macro_rules | `(tactic| walk_at "CompEnd") => `(tactic| refine Hold.out ?_)
local macro_rules | `(tactic| walk_at "KswEnd") => `(tactic| refine Hold.out ?_)
local macro_rules | `(tactic| walk_at "eval ListComp") => `(tactic| (k_here; lct_look; refine Hold.out ?_))
local macro_rules | `(tactic| walk_at "exec While Constant cons nil") => `(tactic| refine Hold.out ?_)
local macro_rules | `(tactic| k_all) => `(tactic| exact allNe_lt (by assumption) (by omega))
local macro_rules | `(tactic| ktr_unf) => `(tactic| repeat' (first | (k_unfold; (try dsimp only)) | (k_end; wrow_close) | (walk1 <;> (try dsimp only)) | (dsimp only; walk1) | (leave1; walk_say "STEP leave1"; try dsimp only) | fail "no step"))
theorem law_read (w : World) (mean : ExcName → Option Value) (mg mb : Str → Option Value) (sl Dd Df Dn D it Dm : Addr) (ys : List Value) (e : Nat) (oN oF oD o1 o2 : Obj) (os : List Int) (ns : List Int) (off : Nat → Nat) (hI : IntsAre ys os) (hT : TapeOk os (numL ns 4) off) (ho1 : o1.data = .cell (some (.ref it))) (ho2 : o2.data = .cell (some (.ref Dm)))
    : ∀ (H : Heap) (fa cw LL : Addr) (s : Shared) (m0 : Str → Option Value) (Qk : Flow → Shared → Prop) (Ek : Value → Shared → Prop),
      (KF w.params).In H → Top qv (looseW qv lo) mean mg mb H → Below callerA H [] H → Tabs w H →
      Fr H LL s.heap (kstB m0 [(Str.ofString "numbers", .ref Dn), (Str.ofString "fronts", .ref Df), (Str.ofString "due", .ref Dd), (Str.ofString "script", .ref sl)]) → News H LL s.heap (ledW LL Dd Df Dn D it Dm oN oF oD o1 o2 ys e [] 0 (litO D 0)) → (∀ p ∈ ((it, oN) :: (D, oN) :: (Dn, oN) :: (Df, oF) :: (Dd, oD) :: (LL + 1 + 1, o2) :: (LL + 1, o1) :: [] : List (Addr × Obj)), @LT.lt Nat _ p.1 Dm) → (∀ p ∈ ((D, oN) :: (Dn, oN) :: (Df, oF) :: (Dd, oD) :: (LL + 1 + 1, o2) :: (LL + 1, o1) :: [] : List (Addr × Obj)), @LT.lt Nat _ p.1 it) →
      PassesOwn (model PySem.Challenge.rw_rl0108_01.row.prog w) (AL fa cw LL) (EL fa cw LL) Ek → (∀ x : Value, PassesOwnAt (model PySem.Challenge.rw_rl0108_01.row.prog w) ((AL fa cw LL).mark (some x)) (AL fa cw LL) (EL fa cw LL) Ek) →
      (∀ (h' : Heap) (tk' : Nat) (m' : Str → Option Value) (nm : List Value) (me : Nat) (o : Obj), Fr H LL h' (kstB m' [(Str.ofString "numbers", .ref Dn), (Str.ofString "fronts", .ref Df), (Str.ofString "due", .ref Dd), (Str.ofString "script", .ref sl)]) → News H LL h' (ledW LL Dd Df Dn D it Dm oN oF oD o1 o2 ys e nm me o) →
        TextsAre nm (dueL ns 4) → Qk .next { s with heap := h', toks := tk' }) →
      wpAny (model PySem.Challenge.rw_rl0108_01.row.prog w) (AL fa cw LL) (exec (lawS 6) (EL fa cw LL)) Qk Ek s := by
  w_on
  k_fill
  intro H fa cw LL s m0 Qk Ek X1 T1 B1 hTab2 F1 N1 hltM hltI hPO hPA hret
  conv => enter [3, 1]; whnf
  have hz : off 0 = 0 := hT.zero
  refine ksw_while (σ := Nat × List Value × Nat) (fun c => ledW LL Dd Df Dn D it Dm oN oF oD o1 o2 ys e c.2.1 c.2.2 (litO D (off (5 * c.1)))) (fun _ => []) (fun _ => True) [Str.ofString "front", Str.ofString "typed", Str.ofString "rest"]
    (fun c => c.1 ≤ 4 ∧ TextsAre c.2.1 (dueL ns c.1)) (fun c => 4 - c.1) (0, [], 0) F1 (by dsimp only; rw [Nat.mul_zero, hz]; exact N1) trivial (fun _ h => nomatch h) ⟨by decide, .nil⟩ ?_ hPO
  clear F1 N1
  rintro ⟨k, nm, me⟩ u h tk _ ⟨hk4, hnm⟩ F1 N1
  dsimp only at hk4 hnm F1 N1
  rcases Nat.lt_or_ge k 4 with hk | hk
  · have hU := ledW_upd (ys := ys) (e := e) (o1 := o1) (o2 := o2) (oD := oD) (oF := oF) (hltM (it, oN) (List.Mem.head _)) hltI nm me
    have hmD : ∀ i', (D, listOf ys.toArray e) ∈ ledW LL Dd Df Dn D it Dm oN oF oD o1 o2 ys e nm me (litO D i') := fun _ => List.Mem.tail _ (List.Mem.tail _ (List.Mem.head _))
    have hn0 : (numL ns 4)[5 * k]? = some (frk ns k) := numL_at ns k 0 (by decide) 4 hk
    have hn1 : (numL ns 4)[5 * k + 1]? = some 3 := numL_at ns k 1 (by decide) 4 hk
    have hn2 : ∀ i, i < 3 → (numL ns 4)[5 * k + 2 + i]? = (restC k (xk ns k))[i]? := fun i hi => by
      have := numL_at ns k (i + 2) (by omega) 4 hk
      rw [show 5 * k + 2 + i = 5 * k + (i + 2) by omega, this]
      rfl
    ktr_unf
    refine' Hold.go (MClaim.use (read_spec w mean mg mb (ledW LL Dd Df Dn D it Dm oN oF oD o1 o2 ys e nm me) it D e ys os (numL ns 4) off (fun i' => hU (litO D i')) hmD hI hT (5 * k) _ hn0) ?B ?F ?X ?N ?T ?hk ?tb ?hp ?hd ?hu ?_)
    (case B => k_asm)
    (case F => k_asm)
    (case X => k_asm)
    (case N => k_asm)
    (case T => k_asm)
    (case hk => first | exact rfl | assumption)
    (case tb => assumption)
    (case hp => exact trivial)
    (case hd => ktr_room)
    (case hu => ktr_units)
    clear F1 N1
    rintro r4 news4 h4 tk4 F4 N4 ⟨rfl, t4, rfl⟩
    ktr_unf
    refine' Hold.go (MClaim.use (read_spec w mean mg mb (ledW LL Dd Df Dn D it Dm oN oF oD o1 o2 ys e nm me) it D e ys os (numL ns 4) off (fun i' => hU (litO D i')) hmD hI hT (5 * k + 1) _ hn1) ?B ?F ?X ?N ?T ?hk ?tb ?hp ?hd ?hu ?_)
    (case B => k_asm)
    (case F => k_asm)
    (case X => k_asm)
    (case N => k_asm)
    (case T => k_asm)
    (case hk => first | exact rfl | assumption)
    (case tb => assumption)
    (case hp => exact trivial)
    (case hd => ktr_room)
    (case hu => ktr_units)
    rintro r5 news5 h5 tk5 F5 N5 ⟨rfl, t5, rfl⟩
    ktr_unf
    rename Fr _ _ _ _ => F6
    rename News _ _ _ _ => N6
    rename IsRange _ _ _ _ _ _ _ _ => hr6
    have hcb := restC_bd k (xk ns k)
    have hcl : (restC k (xk ns k)).length = 3 := restC_len _ _
    refine Hold.go (LCg.CompSrc.range (n := 3) rfl F6 N6 hr6 (by decide) (by decide) (by decide) fun g => ?_)
    refine comp_inv (fun i zs nw => nw = ledW LL Dd Df Dn D it Dm oN oF oD o1 o2 ys e nm me (litO D (off (5 * k + 2 + i))) ∧ TextsAre zs (((cN ns k).take i).map fun c => [c])) 3 ?_ ?_ 3 0 [] _ (Nat.zero_add _) ⟨rfl, .nil⟩
    · clear F6 N6 hr6
      rintro i zs nw hi ⟨rfl, hzs⟩ v I oI C oC Z m₂ h' tk' E' ⟨t', rfl⟩ hC hm2 F7 N7 off7 ne7
      have hc3 : ∃ c, (restC k (xk ns k))[i]? = some c := ⟨_, List.getElem?_eq_getElem (by omega)⟩
      obtain ⟨c, hc⟩ := hc3
      have hcb2 := hcb c (List.mem_of_getElem? hc)
      have hit := off7.mem (it, _) (List.Mem.tail _ (List.Mem.head _))
      ktr_unf
      refine' Hold.go (MClaim.use (read_spec w mean mg mb (fun o => (I, oI) :: (C, oC) :: (Z, LCg.lst zs) :: ledW LL Dd Df Dn D it Dm oN oF oD o1 o2 ys e nm me o) it D e ys os (numL ns 4) off (fun i' => updF_front (hU (litO D i')) _ _ _ hit.1.symm hit.2.1.symm hit.2.2.symm) (fun i' => List.Mem.tail _ (List.Mem.tail _ (List.Mem.tail _ (hmD i')))) hI hT (5 * k + 2 + i) _ ((hn2 i hi).trans hc)) ?B ?F ?X ?N ?T ?hk ?tb ?hp ?hd ?hu ?_)
      (case B => k_asm)
      (case F => k_asm)
      (case X => k_asm)
      (case N => k_asm)
      (case T => k_asm)
      (case hk => first | exact rfl | assumption)
      (case tb => assumption)
      (case hp => exact trivial)
      (case hd => ktr_room)
      (case hu => ktr_units)
      clear F7 N7
      rintro r8 news8 h8 tk8 F8 N8 ⟨rfl, t8, rfl⟩
      ktr_unf
      rename Fr _ _ _ _ => F9
      rename News _ _ _ _ => N9
      refine Hold.go (LCg.CompEnd.intro F9 N9 (ledW LL Dd Df Dn D it Dm oN oF oD o1 o2 ys e nm me (litO D (off (5 * k + 2 + (i + 1))))) (fun _ hp => hp) (off3_ledW _ off7) trivial ⟨rfl, ?_⟩)
      have e9 : (cN ns k).take (i + 1) = (cN ns k).take i ++ [c.toNat] := by
        rw [List.take_add_one]
        congr 1
        simp [cN, hc]
      rw [e9, List.map_append]
      exact hzs.append (.cons _ _ .nil)
    · rintro zs nw ⟨rfl, hzs⟩
      intro Z h10 tk10 F10 N10 off10
      have ecn : (cN ns k).take 3 = cN ns k := List.take_of_length_le (by rw [cN_len]; exact Nat.le_refl _)
      rw [ecn] at hzs
      have efl : ((cN ns k).map fun c => [c]).flatten = cN ns k := flat1 _
      ktr_unf
      rename Fr _ _ _ _ => F11
      rename News _ _ _ _ => N11
      refine Hold.go (join_texts (isList_news N11 (List.Mem.head _)) hzs (by rw [List.length_map, cN_len]; decide) (by rw [sum1, cN_len]; decide) ?_)
      intro t12 tk12
      rw [efl]
      ktr_unf
      rename Fr _ _ _ _ => F13
      rename News _ _ _ _ => N13
      refine Hold.go (ListComp_TS F13 (by with_unfolding_all rfl) (by decide) (by rfl) (by decide) (by rfl) ?_)
      ktr_unf
      rename Fr _ _ _ _ => F14
      rename News _ _ _ _ => N14
      replace N14 : News H LL _ (ledW LL Dd Df Dn D it Dm oN oF oD o1 o2 ys e nm me (litO D (off (5 * k + 2 + 3)))) := fun p hp => N14 p (List.Mem.tail _ hp)
      have ecl : (S (cN ns k)).cps.size = 3 := by show (cN ns k).toArray.size = 3; rw [List.size_toArray, cN_len]
      refine SrcST.mk rfl F14 N14 (by rw [ecl]; decide) fun g2 => ?_
      rw [ecl]
      refine comp_invT (fun i zs nw => nw = ledW LL Dd Df Dn D it Dm oN oF oD o1 o2 ys e nm me (litO D (off (5 * k + 2 + 3))) ∧ TextsAre zs (restT ((cN ns k).take i))) 3 ?_ ?_ 3 0 [] _ (Nat.zero_add _) ⟨rfl, .nil⟩
      · clear F14 N14
        rintro i zs nw hi ⟨rfl, hzs⟩ v I oI C oC Z m₂ h' tk' E' ⟨c, t', hc, rfl⟩ hC hm2 F15 N15 off15 ne15
        have hc2 : (cN ns k)[i]? = some c := by simpa [S] using hc
        have e15 : (cN ns k).take (i + 1) = (cN ns k).take i ++ [c] := by
          rw [List.take_add_one, hc2]; rfl
        rw [e15, restT_snoc]
        ktr_unf
        refine' Hold.go (MClaim.use (tab1_spec w mean mg mb _ (⟨#[c]⟩ : Str) t' rfl) ?B ?F ?X ?N ?T ?hk ?tb ?hp ?hd ?hu ?_)
        (case B => k_asm)
        (case F => k_asm)
        (case X => k_asm)
        (case N => k_asm)
        (case T => k_asm)
        (case hk => first | exact rfl | assumption)
        (case tb => assumption)
        (case hp => exact trivial)
        (case hd => ktr_room)
        (case hu => ktr_units)
        clear F15 N15
        rintro r16 news16 h16 tk16 F16 N16 ⟨rfl, rfl⟩
        have eb : inB1 ((((⟨#[c]⟩ : Str).cps.getD 0 0 : Nat)) : Int) = inB1 (c : Int) := rfl
        rw [eb]
        cases hb : inB1 (c : Int)
        · ktr_unf
          refine' Hold.go (MClaim.use (tab3_spec w mean mg mb _ (⟨#[c]⟩ : Str) t' rfl) ?B ?F ?X ?N ?T ?hk ?tb ?hp ?hd ?hu ?_)
          (case B => k_asm)
          (case F => k_asm)
          (case X => k_asm)
          (case N => k_asm)
          (case T => k_asm)
          (case hk => first | exact rfl | assumption)
          (case tb => assumption)
          (case hp => exact trivial)
          (case hd => ktr_room)
          (case hu => ktr_units)
          rintro r17 news17 h17 tk17 F17 N17 ⟨rfl, t17, rfl⟩
          have ef : fold3 (⟨#[c]⟩ : Str) = S (foldL c) := S_foldL c
          rw [ef]
          refine LCg.CompEnd.intro F17 N17 (ledW LL Dd Df Dn D it Dm oN oF oD o1 o2 ys e nm me (litO D (off (5 * k + 2 + 3)))) (fun _ hp => hp) off15 trivial ⟨rfl, ?_⟩
          rw [if_neg (by rw [hb]; decide)]
          exact hzs.append (.cons _ _ .nil)
        · ktr_unf
          rename Fr _ _ _ _ => F17
          rename News _ _ _ _ => N17
          refine Hold.go (LCg.CompEnd.intro F17 N17 (ledW LL Dd Df Dn D it Dm oN oF oD o1 o2 ys e nm me (litO D (off (5 * k + 2 + 3)))) (fun _ hp => hp) off15 trivial ⟨rfl, ?_⟩)
          rw [if_pos hb]
          exact hzs
      · rintro zs2 nw ⟨rfl, hzs2⟩
        rw [ecn] at hzs2
        have hl2 : (restT (cN ns k)).flatten = LT k (xk ns k) := rest_law k _ hk
        intro Z2 h20 tk20 F20 N20 off20
        ktr_unf
        rename Fr _ _ _ _ => F21
        rename News _ _ _ _ => N21
        have hrl : (restT (cN ns k)).length ≤ 3 := by
          unfold restT
          rw [List.length_map]
          exact Nat.le_trans (List.length_filter_le _ _) (by rw [cN_len]; exact Nat.le_refl _)
        refine Hold.go (join_texts (isList_news N21 (List.Mem.head _)) hzs2 (by omega) (by rw [← List.length_flatten, hl2]; have := LT_len k (xk ns k); omega) ?_)
        rw [hl2]
        intro t22 tk22
        ktr_unf
        rename Fr _ _ _ _ => F23
        rename News _ _ _ _ => N23
        have hfr := frk_bd ns k
        have hnl := hnm.length
        have hnl2 : (dueL ns k).length = k := by simp [dueL]
        have hLT := LT_len k (xk ns k)
        have hDl := Dp_len ns k
        have hla := S_len (Dp ns k)
        have hle : (frk ns k) = ((frk ns k).toNat : Int) := by omega
        have esl : Txt.slice (S (Dp ns k)) none (some (frk ns k)) = S ((Dp ns k).take (frk ns k).toNat) := by rw [hle, slice_to _ _ (by omega), Int.toNat_natCast]
        have hneM : ∀ p ∈ ((it, litO D (off (5 * k + 2 + 3))) :: (D, listOf ys.toArray e) :: (Dn, oN) :: (Df, oF) :: (Dd, oD) :: (LL + 1 + 1, o2) :: (LL + 1, o1) :: [] : List (Addr × Obj)), p.1 ≠ Dm := by
          intro p hp
          rcases List.mem_cons.mp hp with rfl | hp
          · exact Nat.ne_of_lt (hltM (it, oN) (List.Mem.head _))
          · rcases List.mem_cons.mp hp with rfl | hp
            · exact Nat.ne_of_lt (hltM (D, oN) (List.Mem.tail _ (List.Mem.head _)))
            · exact Nat.ne_of_lt (hltM p (List.Mem.tail _ (List.Mem.tail _ hp)))
        refine Hold.go (truthy_listI (vs := nm) (isList_news N23 (List.Mem.tail _ (List.Mem.head _))) (by omega) ?_)
        have etk : (Dp ns k).take (frk ns k).toNat = (Dp ns k).take (frk ns k).toNat := rfl
        by_cases hk0 : k = 0
        · have hnil : nm = [] := by have := hnm.length; rw [hk0] at this; exact List.length_eq_zero_iff.mp this
          have hne : nm.isEmpty = true := by rw [hnil]; rfl
          rw [hne]
          ktr_unf
          have e0 : Str.ofString "" = S ((Dp ns k).take (frk ns k).toNat) := by rw [hk0]; simp [Dp]; rfl
          rw [e0]
          refine Hold.go (add_str ?_ (by rw [S_len, S_len, sizeLine_eq, List.length_take]; omega))
          intro t24 tk24
          rw [S_append]
          ktr_unf
          rename Fr _ _ _ _ => F30
          rename News _ _ _ _ => N30
          replace N30 : News H LL _ (ledW LL Dd Df Dn D it Dm oN oF oD o1 o2 ys e nm me (litO D (off (5 * k + 2 + 3)))) := fun p hp => N30 p (List.Mem.tail _ hp)
          refine Hold.go (append_list F30 N30 (Upd.head hneM) (by omega) ?_)
          clear F30 N30
          intro h31 F31 N31
          ktr_unf
          rename Fr _ _ _ _ => F32
          rename News _ _ _ _ => N32
          refine Hold.go (ksw_end (k + 1, nm ++ [_], me + 1) F32 N32 (fun p hp => hp) trivial (fun _ h => nomatch h) ?_ ⟨hk, ?_⟩ (by dsimp only; omega))
          · intro z h2 h3
            simp only [List.contains_cons, List.contains_nil, Bool.or_false, Bool.or_eq_false_iff, beq_eq_false_iff_ne, ne_eq] at h3
            simp [kstB, h3]
          · rw [dueL_succ, Dp_succ]
            exact hnm.snoc
        · obtain ⟨a1, ha1⟩ : ∃ t, nm.getLast? = some (.str (S (Dp ns k)) t) := by
            obtain ⟨k', rfl⟩ : ∃ k', k = k' + 1 := ⟨k - 1, by omega⟩
            exact hnm.last
          have hne : nm.isEmpty = false := by cases nm with | nil => cases ha1 | cons => rfl
          rw [hne]
          ktr_unf
          rename News _ _ _ _ => N24
          refine Hold.go (item_neg1 (vs := nm) (isList_news N24 (List.Mem.tail _ (List.Mem.head _))) ha1 ?_)
          ktr_unf
          rw [esl]
          refine Hold.go (add_str ?_ (by rw [S_len, S_len, sizeLine_eq, List.length_take]; omega))
          intro t24 tk24
          rw [S_append]
          ktr_unf
          rename Fr _ _ _ _ => F30
          rename News _ _ _ _ => N30
          replace N30 : News H LL _ (ledW LL Dd Df Dn D it Dm oN oF oD o1 o2 ys e nm me (litO D (off (5 * k + 2 + 3)))) := fun p hp => N30 p (List.Mem.tail _ hp)
          refine Hold.go (append_list F30 N30 (Upd.head hneM) (by omega) ?_)
          clear F30 N30
          intro h31 F31 N31
          ktr_unf
          rename Fr _ _ _ _ => F32
          rename News _ _ _ _ => N32
          refine Hold.go (ksw_end (k + 1, nm ++ [_], me + 1) F32 N32 (fun p hp => hp) trivial (fun _ h => nomatch h) ?_ ⟨hk, ?_⟩ (by dsimp only; omega))
          · intro z h2 h3
            simp only [List.contains_cons, List.contains_nil, Bool.or_false, Bool.or_eq_false_iff, beq_eq_false_iff_ne, ne_eq] at h3
            simp [kstB, h3]
          · rw [dueL_succ, Dp_succ]
            exact hnm.snoc
  · obtain rfl : k = 4 := by omega
    have hlen := hI.length
    have hfin := hT.fin
    rw [numL_len] at hfin
    have hx : ys[off (5 * 4)]? = none := List.getElem?_eq_none (by rw [hfin]; omega)
    have hU := ledW_upd (ys := ys) (e := e) (o1 := o1) (o2 := o2) (oD := oD) (oF := oF) (hltM (it, oN) (List.Mem.head _)) hltI nm me
    have hmD : ∀ o', (D, listOf ys.toArray e) ∈ ledW LL Dd Df Dn D it Dm oN oF oD o1 o2 ys e nm me o' := fun _ => List.Mem.tail _ (List.Mem.tail _ (List.Mem.head _))
    ktr_unf
    refine' Hold.go (par_stop w mean mg mb (ledW LL Dd Df Dn D it Dm oN oF oD o1 o2 ys e nm me) it D (off (5 * 4)) e ys hU hmD hx _ _ _ _ _ _ _ _ _ _ _ _ _ _ _ _ _ ?B ?F ?X ?N ?T ?hk ?tb ?hd ?hu ?_)
    (case B => k_asm)
    (case F => k_asm)
    (case X => k_asm)
    (case N => k_asm)
    (case T => k_asm)
    (case hk => first | exact rfl | assumption)
    (case tb => assumption)
    (case hd => ktr_room)
    (case hu => ktr_units)
    clear F1 N1
    intro h₁ h' tk' x t F2 U2 R2
    try dsimp only
    refine caught_KX (T' := "StopIteration") B1 F2 U2 R2 X1 (by k_asm) (by with_unfolding_all rfl) PyProof.Rows.Boot.«StopIteration» (by decide +kernel) (by rw [isSubtype_type]; kernel_rfl) (by rw [isSubtype_type]; kernel_rfl) isSubtype_stop ?_ (hE := hPA _)
    intro h5 F5 N5
    ktr_unf
    rename Fr _ _ _ _ => F6
    rename News _ _ _ _ => N6
    have e6 : ∀ (f : Flow) (s₂ : Shared), Qk .next s₂ → Qk .next s₂ := fun _ _ q => q
    refine hret _ _ _ nm me _ (by rw [kst_self]; exact F6; kst_all) N6 hnm
end
end Mine
end

section
open PySem PySem.W PySem.Calls PySem.Spec PyProof.Rows PyProof PySem.SeqAt
set_option maxRecDepth 100000
set_option maxHeartbeats 4000000
namespace Mine
noncomputable def txD (ds : List (List Nat)) : List PyData := ds.map fun d => PyData.str (S d)
theorem readsAll_of_texts {h : Heap} : ∀ {vs : List Value} {ds : List (List Nat)}, TextsAre vs ds → ReadsAll h vs (txD ds) []
  | _, _, .nil => .nil
  | _, _, .cons d t r => by
    have := ReadsAll.cons (Reads.str (h := h) (S d) t) (readsAll_of_texts (h := h) r)
    simpa [txD] using this
theorem reads_of_texts {h : Heap} {a : Addr} {vs : List Value} {ds : List (List Nat)} (hl : h.IsList a vs.toArray) (hi : TextsAre vs ds) : Reads h (.ref a) (.list (txD ds)) [a] := by
  obtain ⟨o, ho, hc, n, hd⟩ := hl
  exact Reads.list ho hc hd (by simpa using readsAll_of_texts hi)
theorem canLayAll0_texts : ∀ ds : List (List Nat), (∀ d ∈ ds, PyData.strOk (S d) = true) → PyData.canLayAll0 (txD ds) = true
  | [], _ => by simp [PyData.canLayAll0, txD]
  | n :: r, h => by
    have := canLayAll0_texts r fun d hd => h d (List.Mem.tail _ hd)
    simp only [txD] at this
    simp [PyData.canLayAll0, PyData.canLay0, this, txD, h n (List.Mem.head _)]
theorem depthAll_texts : ∀ ds : List (List Nat), PyData.depthAll (txD ds) ≤ 1
  | [] => by simp [PyData.depthAll, txD]
  | n :: r => by
    have := depthAll_texts r
    simp only [txD] at this
    simp only [txD, List.map_cons, PyData.depthAll, PyData.depth]
    omega
theorem shaped_texts (ds : List (List Nat)) (hok : ∀ d ∈ ds, PyData.strOk (S d) = true) : shaped (.list (txD ds)) = true := by
  have h1 := depthAll_texts ds
  have h2 : PyData.depth (.list (txD ds)) ≤ 64 := by simp only [PyData.depth]; omega
  show (PyData.canLay0 (.list (txD ds)) && decide (PyData.depth (.list (txD ds)) ≤ 64)) = true
  rw [Bool.and_eq_true]
  exact ⟨by simp only [PyData.canLay0]; exact canLayAll0_texts ds hok, decide_eq_true h2⟩
theorem noMix_texts : ∀ ds es : List (List Nat), noMixAll (txD ds) (txD es) = true
  | [], [] => by simp [noMixAll, txD]
  | [], _ :: _ => by simp [noMixAll, txD]
  | _ :: _, [] => by simp [noMixAll, txD]
  | _ :: r, _ :: q => by
    have := noMix_texts r q
    simp only [txD] at this
    simp [noMixAll, noMix, this, txD]
theorem same_texts : ∀ ds : List (List Nat), PySem.Spec.sameAll (txD ds) (txD ds) = true
  | [] => by simp [PySem.Spec.sameAll, txD]
  | n :: r => by
    have := same_texts r
    simp only [txD] at this
    simp only [txD, List.map_cons, PySem.Spec.sameAll, PySem.Spec.same, this]
    simp
theorem ne_texts {prog : Program} {w : World} {A : Around} {E : Value → Shared → Prop} {s : Shared} {a b : Addr} {vs us : List Value} {ds : List (List Nat)} {Q : Value → Shared → Prop} (hl : s.heap.IsList a vs.toArray) (hi : TextsAre vs ds) (hl' : s.heap.IsList b us.toArray) (hi' : TextsAre us ds) (hok : ∀ d ∈ ds, PyData.strOk (S d) = true) (hu : A.units + 64 < cLine)
    (h : Q (.bool false) s) : wpAny (model prog w) A (compareOp .NotEq (.ref a) (.ref b)) Q E s :=
  ne_dataH_same (reads_of_texts hl hi) (reads_of_texts hl' hi') (shaped_texts ds hok) (shaped_texts ds hok) hu (by simp only [noMix]; exact noMix_texts ds ds) (by simp only [PySem.Spec.same]; rw [same_texts]; exact h)
end Mine
end

section
open PySem PySem.W PySem.Calls PySem.Spec PyProof.Rows
set_option maxRecDepth 100000
set_option maxHeartbeats 8000000
set_option pp.deepTerms false
set_option pp.maxSteps 3000
namespace Mine
open PyProof
section
local macro_rules | `(tactic| walk_at "call ref") => `(tactic| refine Hold.out ?_)
local macro_rules | `(tactic| walk_at "compareOp NotEq ref ref") => `(tactic| refine Hold.out ?_)
local macro_rules | `(tactic| k_all) => `(tactic| exact allNe_lt (by assumption) (by omega))
local macro_rules | `(tactic| ktr_unf) => `(tactic| repeat' (first | (k_unfold; (try dsimp only)) | (k_end; wrow_close) | (walk1 <;> (try dsimp only)) | (dsimp only; walk1) | (leave1; walk_say "STEP leave1"; try dsimp only) | fail "no step"))
theorem law_cmp (w : World) (mean : ExcName → Option Value) (mg mb : Str → Option Value) (sl Dd Df Dn Dm : Addr) (nm dvs : List Value) (me de : Nat) (ds : List (List Nat)) (hnm : TextsAre nm ds) (hdv : TextsAre dvs ds) (hok : ∀ d ∈ ds, PyData.strOk (S d) = true) (oc : Obj) (hoc : oc.data = .cell (some (.ref Dm)))
    : ∀ (H : Heap) (fa cw LL : Addr) (s : Shared) (news : List (Addr × Obj)) (m0 : Str → Option Value) (Qk : Flow → Shared → Prop) (Ek : Value → Shared → Prop),
      (KF w.params).In H → Top qv (looseW qv lo) mean mg mb H → Below callerA H [] H → Tabs w H →
      Fr H LL s.heap (kstB m0 [(Str.ofString "numbers", .ref Dn), (Str.ofString "fronts", .ref Df), (Str.ofString "due", .ref Dd), (Str.ofString "script", .ref sl)]) → News H LL s.heap news → (Dm, listOf nm.toArray me) ∈ news → (Dd, listOf dvs.toArray de) ∈ news → (LL + 1 + 1, oc) ∈ news →
      PassesOwn (model PySem.Challenge.rw_rl0108_01.row.prog w) (AL fa cw LL) (EL fa cw LL) Ek →
      (∀ (h' : Heap) (tk' : Nat), Fr H LL h' (kstB m0 [(Str.ofString "numbers", .ref Dn), (Str.ofString "fronts", .ref Df), (Str.ofString "due", .ref Dd), (Str.ofString "script", .ref sl)]) → News H LL h' news → Qk .next { s with heap := h', toks := tk' }) →
      wpAny (model PySem.Challenge.rw_rl0108_01.row.prog w) (AL fa cw LL) (exec (lawS 7) (EL fa cw LL)) Qk Ek s := by
  w_on
  k_fill
  intro H fa cw LL s news m0 Qk Ek X1 T1 B1 hTab2 F1 N1 hm1 hm2 hm3 hPO hret
  conv => enter [3, 1]; whnf
  ktr_unf
  refine Hold.go (ne_texts (isList_news N1 hm1) hnm (isList_news N1 hm2) hdv hok (by units_room) ?_)
  ktr_unf
  rename Fr _ _ _ _ => F2
  rename News _ _ _ _ => N2
  exact hret _ _ F2 N2
end
end Mine
end

section
open PySem PySem.W PySem.Calls PySem.Spec PyProof.Rows PyProof PyProof.Rows.LCg
set_option maxRecDepth 100000
set_option maxHeartbeats 4000000
namespace Mine
noncomputable def tupO (its : Array Value) (n : Nat) : Obj := { cls := .type "tuple", data := .seq its n }
noncomputable def SrcTU (prog : Program) (w : World) (A : Around) (h₀ : Heap) (L : Addr) (m : Str → Option Value) (env : Env) (elt : PySem.Expr) (x : Str) (scope : Scope) (cl : List (Str × Addr)) (Fin : Shared → List Value → List (Addr × Obj) → Prop) (xv : Value) (s₁ : Shared) : Prop :=
  ∃ ax its n news, xv = .ref ax ∧ A.handled = none ∧ Fr h₀ L s₁.heap m ∧ News h₀ L s₁.heap news ∧ (ax, tupO its n) ∈ news ∧ its.size ≤ sizeLine ∧
    ∀ s₂ : Shared, (∃ h, s₂ = { s₁ with heap := h }) → CompRest prog w A h₀ L m env elt x scope cl s₂ (fun nw => (ax, tupO its n) ∈ nw) (fun i v => its[i]? = some v) (Fin s₂) its.size 0 [] news
section
variable {prog : Program} {w : World} {A : Around} {E : Value → Shared → Prop} {s : Shared} {h₀ : Heap} {L : Addr} {m : Str → Option Value} {env : Env}
theorem SrcTU.mk {elt : PySem.Expr} {x : Str} {scope : Scope} {cl : List (Str × Addr)} {Fin : Shared → List Value → List (Addr × Obj) → Prop} {ax : Addr} {its : Array Value} {n : Nat} {news : List (Addr × Obj)} {s₁ : Shared}
    (hh : A.handled = none) (F : Fr h₀ L s₁.heap m) (N : News h₀ L s₁.heap news) (hm : (ax, tupO its n) ∈ news) (k3 : Nat) (h3 : its.size = k3) (hsz : k3 ≤ sizeLine)
    (h : ∀ g, CompRest prog w A h₀ L m env elt x scope cl { s₁ with heap := g } (fun nw => (ax, tupO its n) ∈ nw) (fun i v => its[i]? = some v) (Fin { s₁ with heap := g }) k3 0 [] news) :
    SrcTU prog w A h₀ L m env elt x scope cl Fin (.ref ax) s₁ := by subst h3; exact ⟨ax, its, n, news, rfl, hh, F, N, hm, hsz, fun _ ⟨g, e⟩ => e ▸ h g⟩
theorem ListComp_TU {elt iter : PySem.Expr} {x : Str} {px : Pos} {scope : Scope} {cl : List (Str × Addr)} {pos : Pos} {Q : Value → Shared → Prop} (_F₀ : Fr h₀ L s.heap m)
    (hclos : closureFor scope env = pure cl) (hcell : ∀ y ∈ scope.names, y.2 ≠ .cell) (hkind : scope.kind = .function)
    (hnames : ∀ y ∈ scope.names, y.2 = .local → scope.names.lookup y.1 = some .local) (hx : scope.names.lookup x = some .local)
    (h : wpAny (model prog w) A (eval iter env) (SrcTU prog w A h₀ L m env elt x scope cl (fun s₂ => FinE h₀ L m s₂ Q)) E s)
    (hs : ∀ x, foldedSetIterable iter env x = pure x := by intro _; rfl) :
    wpAny (model prog w) A (eval (.ListComp elt [⟨.Name x px, iter, [], 0⟩] scope pos) env) Q E s := by
  rw [eval_ListComp]
  refine wpAny_comprehension_free (use := none) rfl hs hclos hkind hnames (wpAny_mono h (fun xv s₁ h₁ => ?_) fun _ _ e => e)
  obtain ⟨ax, its, n, news, rfl, hh, F, N, hm, hsz, R⟩ := h₁
  have hl : s₁.heap.IsTuple ax its := ⟨_, (N _ hm).1, rfl, n, rfl⟩
  have hlt : ax < s₁.heap.objs.size := Heap.lt_size (N _ hm).1
  refine wpAny_pyIter_tuple hl ?_
  have up : ∀ b o, s₁.heap.get? b = some o → (s₁.heap.push { cls := .type "tuple_iterator", data := .fields #[.ref ax, .int 0 0] }).get? b = some o := fun b o e => Heap.get?_push_of_some _ e
  refine block_U (S := fun nw => (ax, tupO its n) ∈ nw) (Walks.tuple hh s₁.heap.objs.size ax (Nat.ne_of_lt hlt) its) hsz (fun i h st => by obtain ⟨o, e, _⟩ := st.1; exact ⟨o, e⟩)
    (fun i h h' o nw st e e' k N S => ⟨by obtain ⟨o', q, r⟩ := st.1; rw [e] at q; cases q; exact ⟨o, e', r⟩, ⟨_, (N _ S).1, rfl, n, rfl⟩⟩) hcell hkind hx ⟨⟨_, Heap.get?_push_size _ rfl, rfl, rfl⟩, ⟨_, up _ _ (N _ hm).1, rfl, n, rfl⟩⟩ (fun b hb => ?_)
    (F.keeps up) (N.grown up) (Nat.ne_of_lt F.ns.lt) (next_is_new F) (fun p hp => Nat.ne_of_lt (Heap.lt_size (N p hp).1)) hm (R _ ⟨_, rfl⟩) ?_
  · show b < (s₁.heap.push _).objs.size
    rw [Heap.size_push]
    rcases List.mem_cons.mp hb with rfl | hb
    · exact Nat.lt_succ_self _
    · rw [List.mem_singleton.mp hb]; exact Nat.lt_succ_of_lt hlt
  · intro D C h tk m' ys news' F' N' o1 hn hC₀ hD₀ hCL hDL hCD offC fin
    refine ⟨m', hn, fun h'' hs'' => fin D h'' tk (F'.change hs'' hCL hC₀) (fun p hp => ?_) o1⟩
    refine ⟨hs''.extBut _ _ ?_ (N' p hp).1, (N' p hp).2⟩
    rcases List.mem_cons.mp hp with rfl | hp
    · exact Ne.symm hCD
    · exact offC p hp
end
end Mine
namespace Mine
theorem comp_invC {prog : Program} {w : World} {A : Around} {s : Shared} {h₀ : Heap} {L : Addr} {m : Str → Option Value} {env : Env} {elt : PySem.Expr} {x : Str} {scope : Scope} {cl : List (Str × Addr)} {S : List (Addr × Obj) → Prop} {P : Nat → Value → Prop} {Fin : List Value → List (Addr × Obj) → Prop} {news : List (Addr × Obj)} {n : Nat} (J : Nat → List Value → Prop) (h0 : J 0 [])
    (turn : ∀ (i : Nat) (ys : List Value), i < n → J i ys → ∀ v I oI C oC D m₂ h tk (E' : Value → Shared → Prop), P i v → LCg.NsObj oC m₂ → m₂ x = some v → Fr h₀ L h m → News h₀ L h ((I, oI) :: (C, oC) :: (D, LCg.lst ys) :: news) → LCg.Off3 I C D news → ((@Ne Nat I C) ∧ (@Ne Nat I D) ∧ (@Ne Nat C D)) →
      wpAny (model prog w) A (eval elt (compEnvC scope cl C env)) (LCg.CompEnd h₀ L m { s with heap := h, toks := tk } I oI C oC D (LCg.lst ys) S (fun y news' => news' = news ∧ J (i + 1) (ys ++ [y]))) E' { s with heap := h, toks := tk })
    (fin : ∀ ys, J n ys → Fin ys news) : LCg.CompRest prog w A h₀ L m env elt x scope cl s S P Fin n 0 [] news := by
  refine comp_inv (fun i ys nw => nw = news ∧ J i ys) n ?_ ?_ n 0 [] news (Nat.zero_add _) ⟨rfl, h0⟩
  · rintro i ys nw hi ⟨rfl, hj⟩
    exact turn i ys hi hj
  · rintro ys nw ⟨rfl, hj⟩
    exact fin ys hj
end Mine
end

section
open PySem PySem.W PySem.Calls PySem.Spec PyProof.Rows
set_option maxRecDepth 100000
set_option maxHeartbeats 8000000
set_option pp.deepTerms false
set_option pp.maxSteps 3000
namespace Mine
open PyProof
section
local macro_rules | `(tactic| walk_at "exec If Compare") => `(tactic| refine Hold.out ?_)
local macro_rules | `(tactic| walk_at "exec For Name Call cons nil") => `(tactic| refine Hold.out ?_)
local macro_rules | `(tactic| walk_at "pyIter ref") => `(tactic| refine Hold.out ?_)
local macro_rules | `(tactic| walk_at "call ref") => `(tactic| refine Hold.out ?_)
local macro_rules | `(tactic| walk_at "InvEndN") => `(tactic| refine Hold.out ?_)
local macro_rules | `(tactic| walk_at "call type:list") => `(tactic| refine Hold.out ?_)
local macro_rules | `(tactic| walk_at "KswEnd") => `(tactic| refine Hold.out ?_)
local macro_rules | `(tactic| walk_at "Cut") => `(tactic| refine Hold.out ?_)
local macro_rules | `(tactic| k_all) => `(tactic| exact allNe_lt (by assumption) (by omega))
local macro_rules | `(tactic| walk_at "subscriptTail Name Slice str ref") => `(tactic| ((with_reducible show wpAny _ _ (subscriptTail _ (PySem.Expr.Slice none (some (PySem.Expr.BoolOp _ _ _)) none _) _ _) _ _ _); (with_reducible rename Fr _ _ _ _ => F'); (with_reducible rename News _ _ _ _ => N'); k_dflt (refine slice_S_all (hsz := ?hsz) (s := ⟨_, _, _, _, _⟩) F' N' ?_); (case hsz => size_fits); intro _ _ _ _ _))
local macro_rules | `(tactic| ktr_unf) => `(tactic| repeat' (first | (k_unfold; (try dsimp only)) | (k_end; wrow_close) | (walk1 <;> (try dsimp only)) | (dsimp only; walk1) | (leave1; walk_say "STEP leave1"; try dsimp only) | fail "no step"))
theorem lev_tail (w : World) (mean : ExcName → Option Value) (mg mb : Str → Option Value) (news : List (Addr × Obj)) (A B A' B' : List Nat) (b : Int) (t3 ta tb tp tpo : Tok) (p : Int) (hA : A.length ≤ 40) (hB : B.length ≤ 40) (hloA : ∀ c ∈ A, c ∈ lowL) (hloB : ∀ c ∈ B, c ∈ lowL)
    (hsw : (B.length < A.length ∧ A' = B ∧ B' = A) ∨ (¬ B.length < A.length ∧ A' = A ∧ B' = B)) :
    ∀ (dp un : Nat) (gd : Option (List Code)) (cn : Str) (cs : Scope) (L a : Addr) (ccd : Value) (cl : List (Str × Addr)) (outer : List Env) (base gg : Heap) (LL : Addr) (s : Shared) (Qk : Flow → Shared → Prop) (Ek : Value → Shared → Prop),
      (KF w.params).In gg → Top qv (looseW qv lo) mean mg mb gg → Below (ktrTop dp un gd cn cs L a ccd cl outer) base (envX cn cs L a ccd cl :: outer) gg → Tabs w gg →
      Fr gg LL s.heap (KB [(Str.ofString "post", .int 0 tpo), (Str.ofString "b", .str (S B) tb), (Str.ofString "a", .str (S A) ta), (Str.ofString "pre", .int p tp), (Str.ofString "max_cost", .int b t3)]) → News gg LL s.heap news → dp + 50 < recursionLimit → un + 400 < cLine →
      PassesOwn (model PySem.Challenge.rw_rl0108_01.row.prog w) ((ktrTop dp un gd cn cs L a ccd cl outer).deeper (envOf (Str.ofString "_levenshtein_distance") (fScope (stAt 12)) LL 99 (Value.ref 98))) (envOf (Str.ofString "_levenshtein_distance") (fScope (stAt 12)) LL 99 (Value.ref 98)) Ek →
      (∀ (t : Tok) (h' : Heap) (tk' : Nat) (m' : Str → Option Value), Fr gg LL h' m' → News gg LL h' news → Qk (.ret (.int (levR A B A' B' b) t)) { s with heap := h', toks := tk' }) →
      wpAny (model PySem.Challenge.rw_rl0108_01.row.prog w) ((ktrTop dp un gd cn cs L a ccd cl outer).deeper (envOf (Str.ofString "_levenshtein_distance") (fScope (stAt 12)) LL 99 (Value.ref 98)))
        (execs ((fBody (stAt 12)).drop 7) (envOf (Str.ofString "_levenshtein_distance") (fScope (stAt 12)) LL 99 (Value.ref 98))) Qk Ek s := by
  w_on
  k_fill
  intro dp un gd cn cs L a ccd cl outer base gg LL s Qk Ek X1 T1 B1 hTab2 F5 N5 hdp hun hPO hret
  have hla1 := S_len A
  have hlb1 := S_len B
  ktr_unf
  · rename Fr _ _ _ _ => F6
    rename News _ _ _ _ => N6
    have hna : A ≠ [] := by
      intro e
      have q : ((S A).length : Int) ≠ 0 := by assumption
      rw [S_len, e] at q
      exact q rfl
    have hnb : B ≠ [] := by
      intro e
      have q : ((S B).length : Int) ≠ 0 := by assumption
      rw [S_len, e] at q
      exact q rfl
    refine Hold.go (exec_cutK (τ := Tok × Tok) F6 (fun t => [(Str.ofString "b", .str (S B') t.2), (Str.ofString "a", .str (S A') t.1), (Str.ofString "max_cost", .int b t3)]) (fun _ => news) (fun _ => True) ?_ ?_)
    · refine wpAny_If ?_
      ktr_unf
      · have q : ((S B).length : Int) < ((S A).length : Int) := by assumption
        rw [hla1, hlb1] at q
        rename Fr _ _ _ _ => F8
        rename News _ _ _ _ => N8
        rcases hsw with ⟨_, rfl, rfl⟩ | ⟨q2, _, _⟩
        · exact Hold.go (Cut.mk ⟨rfl, _, _, (_, _), _, rfl, F8, (by kst_all), (fun q hq => N8 q (List.Mem.tail _ hq)), trivial⟩)
        · exact absurd (by omega) q2
      · have q : ¬ ((S B).length : Int) < ((S A).length : Int) := by assumption
        rw [hla1, hlb1] at q
        rename Fr _ _ _ _ => F8
        rename News _ _ _ _ => N8
        rcases hsw with ⟨q2, _, _⟩ | ⟨_, rfl, rfl⟩
        · exact absurd q2 (by omega)
        · exact Hold.go (Cut.mk ⟨rfl, _, _, (_, _), _, rfl, F8, (by kst_all), N8, trivial⟩)
    · clear F6 N6
      rintro h7 tk7 ⟨ta', tb'⟩ m7 F7 N7 _
      dsimp only at F7
      have hle : A'.length ≤ B'.length := by rcases hsw with ⟨q, rfl, rfl⟩ | ⟨q, rfl, rfl⟩ <;> omega
      have hloA' : ∀ c ∈ A', c ∈ lowL := by rcases hsw with ⟨q, rfl, rfl⟩ | ⟨q, rfl, rfl⟩ <;> assumption
      have hloB' : ∀ c ∈ B', c ∈ lowL := by rcases hsw with ⟨q, rfl, rfl⟩ | ⟨q, rfl, rfl⟩ <;> assumption
      have hB' : B'.length ≤ 40 := by rcases hsw with ⟨q, rfl, rfl⟩ | ⟨q, rfl, rfl⟩ <;> omega
      have hla2 := S_len A'
      have hlb2 := S_len B'
      have eR : levR A B A' B' b = levT A' B' b := by unfold levR; rw [if_neg (by simp [hna, hnb])]
      rw [eR] at hret
      clear eR hsw hla1 hlb1
      ktr_unf
      refine Hold.go (wpAny_If ?_)
      ktr_unf
      · have q : b < (((S B').length : Int) - ((S A').length : Int)) * 2 := by assumption
        rw [hla2, hlb2] at q
        have e : levT A' B' b = b + 1 := by unfold levT; rw [if_pos q]
        rw [e] at hret
        exact hret _ _ _ _ (by k_asm) (by k_asm)
      · have q : ¬ b < (((S B').length : Int) - ((S A').length : Int)) * 2 := by assumption
        rw [hla2, hlb2] at q
        have e : levT A' B' b = outF A' B' 0 (row0 A'.length) 0 b := by unfold levT; rw [if_neg q]
        rw [e] at hret
        clear e
        rename IsRange _ _ _ _ _ _ _ _ => hr8
        rename Fr _ _ _ _ => F8
        rename News _ _ _ _ => N8
        rw [hla2] at hr8
        refine Hold.go (list_rangeN rfl F8 N8 hr8 (range2 _ (by omega)).1 (range2 _ (by omega)).2 (by omega) ?_)
        clear F8 N8
        intro h8 tk8 D e8 vs8 F8 N8 hi8 hD
        rw [row0_eq] at hi8
        ktr_unf
        refine Hold.go ?_
        rename Fr _ _ _ _ => F9
        rename News _ _ _ _ => N9
        with_unfolding_all refine' For_invVF F9 ?k1 ?k2 ?_ (hE := ?k3); (case k1 => exact rfl); (case k2 => exact rfl); (case k3 => exact hPO)
        ktr_unf
        refine Hold.go ?_
        rename IsRange _ _ _ _ _ _ _ _ => hr10
        rename Fr _ _ _ _ => F10
        rename News _ _ _ _ => N10
        rw [hlb2] at hr10
        refine kst_range (σ := Int × Tok × List Value × List Int × Nat) (n := B'.length) (fun c => (D, listOf c.2.2.1.toArray c.2.2.2.2) :: news) (fun c => [(Str.ofString "result", .int c.1 c.2.1)]) (fun c => IntsAre c.2.2.1 c.2.2.2.1) [Str.ofString "bchar", Str.ofString "distance", Str.ofString "minimum", Str.ofString "index", Str.ofString "substitute", Str.ofString "insert_delete"]
          (fun pre c => c.2.2.2.1.length = A'.length ∧ outF A' (B'.drop pre.length) (pre.length : Int) c.2.2.2.1 c.1 b = outF A' B' 0 (row0 A'.length) 0 b) (0, _, vs8, row0 A'.length, e8) rfl hr10 (range0 _ (by omega)).1 (range0 _ (by omega)).2 F10 N10 hi8 (by kst_all) ⟨by simp [row0], rfl⟩ ?_ ?_
        · clear F10 N10
          rintro ⟨res, tres, rvs, row, re⟩ pre k t u h tk own hk hpn hoff hrv ⟨hrl, hT1⟩ F11 N11
          dsimp only at hrv hrl hT1 F11 N11
          ktr_unf
          refine Hold.go ?_
          have hk' : k = (pre.length : Int) := by omega
          subst hk'
          obtain ⟨bc, hbc⟩ := drop_at (X := B') hpn
          have hib := item_at B' pre.length bc hbc
          rename Fr _ _ _ _ => F12
          rename News _ _ _ _ => N12
          rw [hib] at F12
          simp only [List.cons_append] at N12
          have hrvl := hrv.length
          with_unfolding_all refine' For_invVF F12 ?k1 ?k2 ?_ (hE := ?k3); (case k1 => exact rfl); (case k2 => exact rfl); (case k3 => exact hPO)
          ktr_unf
          refine Hold.go ?_
          rename IsRange _ _ _ _ _ _ _ _ => hr13
          rename Fr _ _ _ _ => F13
          rename News _ _ _ _ => N13
          rw [hla2] at hr13
          refine kst_range (σ := Int × Tok × Int × Tok × Int × Tok × List Value × List Int × Nat) (n := A'.length) (fun c => (D, listOf c.2.2.2.2.2.2.1.toArray c.2.2.2.2.2.2.2.2) :: (news ++ own)) (fun c => [(Str.ofString "distance", .int c.1 c.2.1), (Str.ofString "result", .int c.2.2.1 c.2.2.2.1), (Str.ofString "minimum", .int c.2.2.2.2.1 c.2.2.2.2.2.1)]) (fun c => IntsAre c.2.2.2.2.2.2.1 c.2.2.2.2.2.2.2.1) [Str.ofString "substitute", Str.ofString "insert_delete"]
            (fun pr c => c.2.2.2.2.2.2.2.1.length = A'.length ∧ c.2.2.2.2.2.2.2.1.drop pr.length = row.drop pr.length ∧ c.2.2.2.2.2.2.2.1.take pr.length ++ (inF bc ((A'.zip row).drop pr.length) c.1 c.2.2.1 c.2.2.2.2.1).1 = (inF bc (A'.zip row) ((pre.length : Int) * 2) ((pre.length : Int) * 2) bigM).1 ∧ (inF bc ((A'.zip row).drop pr.length) c.1 c.2.2.1 c.2.2.2.2.1).2 = (inF bc (A'.zip row) ((pre.length : Int) * 2) ((pre.length : Int) * 2) bigM).2)
            ((pre.length : Int) * 2, _, (pre.length : Int) * 2, _, bigM, _, rvs, row, re) rfl hr13 (range0 _ (by omega)).1 (range0 _ (by omega)).2 F13 N13 hrv (by kst_all) ⟨hrl, rfl, rfl, rfl⟩ ?_ ?_
          · clear F13 N13
            rintro ⟨d, td, r, tr, mn, tm, rv2, row2, re2⟩ pre2 k2 t2' u2 h2 tk2 own2 hk2 hpn2 hoff2 hrv2 ⟨hl2, hd2, hq1, hq2⟩ F14 N14
            dsimp only at hrv2 hl2 hd2 hq1 hq2 F14 N14
            have hk' : k2 = (pre2.length : Int) := by omega
            subst hk'
            obtain ⟨ac, hac⟩ := drop_at (X := A') hpn2
            have hia := item_at A' pre2.length ac hac
            simp only [List.cons_append] at N14
            have hsub := substF_low bc (hloB' _ (List.mem_of_getElem? hbc)) ac (hloA' _ (List.mem_of_getElem? hac))
            ktr_unf
            rw [hia]
            refine' Hold.go (MClaim.use (subst_spec w mean mg mb _ (S [bc]) (S [ac]) _ _ (S_len _) (S_len _)) ?B ?F ?X ?N ?T ?hk ?tb ?hp ?hd ?hu ?_)
            (case B => k_asm)
            (case F => k_asm)
            (case X => k_asm)
            (case N => k_asm)
            (case T => k_asm)
            (case hk => first | exact rfl | assumption)
            (case tb => assumption)
            (case hp => exact trivial)
            (case hd => ktr_room)
            (case hu => ktr_units)
            rintro _ _ h15 tk15 F15 N15 ⟨rfl, tsub, rfl⟩
            rw [hsub]
            ktr_unf
            rename Fr _ _ _ _ => F16
            rename News _ _ _ _ => N16
            have hoD : ∀ p ∈ news ++ own ++ own2, p.1 ≠ D := fun q hq => by
              rcases List.mem_append.mp hq with hq | hq
              · rcases List.mem_append.mp hq with hq | hq
                · exact Nat.ne_of_lt (hD q hq)
                · exact hoff q hq D (List.Mem.head _)
              · exact hoff2 q hq D (List.Mem.head _)
            obtain ⟨rw0, hrw0⟩ := drop_at (X := row) (p := pre2.length) (by omega)
            have hrw2 := at_drop hd2 hrw0
            have eg : row2.getD ((pre2.length : Int)).toNat 0 = rw0 := by rw [Int.toNat_natCast]; exact cut_at' hrw2
            rw [eg] at F16 ⊢
            rw [min_ifs] at F16 ⊢
            refine ksa_set F16 N16 (Upd.head hoD) hrv2 (by omega) (by omega) (by omega) ?_
            clear F16 N16
            intro h17 F17 N17 hi17 _ _
            rw [Int.toNat_natCast] at N17 hi17
            have step := in_step hac hrw0 hl2 hd2 hq1 hq2 _ rfl _ rfl
            generalize hr' : min (min r rw0 + 2) (d + cst bc ac) = r' at F17 N17 hi17 step ⊢
            obtain ⟨st1, st2, st3, st4⟩ := step
            ktr_unf
            refine Hold.go (wpAny_If ?_)
            ktr_unf
            · have q : r' < mn := by assumption
              rw [if_pos q] at st3 st4
              rename Fr _ _ _ _ => F18
              rename News _ _ _ _ => N18
              refine Hold.go (kst_end (rw0, _, r', _, r', _, _, row2.set pre2.length r', re2) F18 N18 (fun x hx => List.mem_append_left own2 hx) (fun x hx => List.mem_append_right ((D, _) :: (news ++ own)) hx) rfl hi17 (by kst_all) ?_ ?_)
              · (intro z h1 h2 h3; (try dsimp only at h2); simp only [List.forall_mem_cons, List.not_mem_nil, false_implies, implies_true, and_true, ne_eq] at h2; simp only [List.contains_cons, List.contains_nil, Bool.or_false, Bool.or_eq_false_iff, beq_eq_false_iff_ne, ne_eq] at h3; simp [kstB, h1, h2, h3])
              · have e : (pre2 ++ [(pre2.length : Int)]).length = pre2.length + 1 := by simp
                rw [e]
                exact ⟨st1, st2, st3, st4⟩
            · have q : ¬ r' < mn := by assumption
              rw [if_neg q] at st3 st4
              rename Fr _ _ _ _ => F18
              rename News _ _ _ _ => N18
              refine Hold.go (kst_end (rw0, _, r', _, mn, _, _, row2.set pre2.length r', re2) F18 N18 (fun x hx => List.mem_append_left own2 hx) (fun x hx => List.mem_append_right ((D, _) :: (news ++ own)) hx) rfl hi17 (by kst_all) ?_ ?_)
              · (intro z h1 h2 h3; (try dsimp only at h2); simp only [List.forall_mem_cons, List.not_mem_nil, false_implies, implies_true, and_true, ne_eq] at h2; simp only [List.contains_cons, List.contains_nil, Bool.or_false, Bool.or_eq_false_iff, beq_eq_false_iff_ne, ne_eq] at h3; simp [kstB, h1, h2, h3])
              · have e : (pre2 ++ [(pre2.length : Int)]).length = pre2.length + 1 := by simp
                rw [e]
                exact ⟨st1, st2, st3, st4⟩
          · clear F13 N13
            rintro ⟨d, td, r, tr, mn, tm, rv2, row2, re2⟩ u2 h2 tk2 hrv2 ⟨hl2, hd2, hq1, hq2⟩ F14 N14
            dsimp only at hrv2 hl2 hd2 hq1 hq2 F14 N14
            have hq := in_done (rangeKs_length _ _) hl2 hq1 hq2
            have hstep := out_step hbc hT1 hq
            clear hd2 hq1 hq2
            ktr_unf
            refine Hold.go (wpAny_If ?_)
            ktr_unf
            · have q : b < mn := by assumption
              rw [if_pos q] at hstep
              rw [← hstep] at hret
              exact hret _ _ _ _ (by k_asm) (fun x hx => (by assumption : News gg LL _ ((D, _) :: (news ++ own))) x (List.Mem.tail _ (List.mem_append_left own hx)))
            · have q : ¬ b < mn := by assumption
              rw [if_neg q] at hstep
              rename Fr _ _ _ _ => F18
              rename News _ _ _ _ => N18
              refine Hold.go (kst_end (r, _, rv2, row2, re2) F18 N18 (fun x hx => List.mem_append_left own hx) (fun x hx => List.mem_append_right ((D, _) :: news) hx) rfl hrv2 (by kst_all) ?_ ?_)
              · (intro z h1 h2 h3; (try dsimp only at h2); simp only [List.forall_mem_cons, List.not_mem_nil, false_implies, implies_true, and_true, ne_eq] at h2; simp only [List.contains_cons, List.contains_nil, Bool.or_false, Bool.or_eq_false_iff, beq_eq_false_iff_ne, ne_eq] at h3; simp [kstB, h1, h2, h3])
              · have e : (pre ++ [(pre.length : Int)]).length = pre.length + 1 := by simp
                rw [e]
                exact ⟨hl2, hstep⟩
        · clear F10 N10
          rintro ⟨res, tres, rvs, row, re⟩ u h tk hrv ⟨hrl, hT1⟩ F11 N11
          dsimp only at hrv hrl hT1 F11 N11
          have hdone := out_done (rangeKs_length _ _) hT1
          ktr_unf
          rw [← hdone] at hret
          exact hret _ _ _ _ (by k_asm) (fun x hx => (by assumption : News gg LL _ ((D, _) :: news)) x (List.Mem.tail _ hx))
  · have q : ((S B).length : Int) = 0 := by assumption
    rw [S_len] at q
    have e : levR A B A' B' b = 2 * ((A.length : Int) + (B.length : Int)) := by unfold levR; rw [if_pos (Or.inr (List.length_eq_zero_iff.mp (by omega)))]
    rw [e] at hret
    rw [hla1, hlb1]
    exact hret _ _ _ _ (by k_asm) (by k_asm)
  · have q : ((S A).length : Int) = 0 := by assumption
    rw [S_len] at q
    have e : levR A B A' B' b = 2 * ((A.length : Int) + (B.length : Int)) := by unfold levR; rw [if_pos (Or.inl (List.length_eq_zero_iff.mp (by omega)))]
    rw [e] at hret
    rw [hla1, hlb1]
    exact hret _ _ _ _ (by k_asm) (by k_asm)
end
end Mine
end

section
open PySem PySem.W PySem.Calls PySem.Spec PyProof.Rows
set_option maxRecDepth 100000
set_option maxHeartbeats 8000000
set_option pp.deepTerms false
set_option pp.maxSteps 3000
namespace Mine
open PyProof
section
local macro_rules | `(tactic| walk_at "exec While BoolOp cons nil") => `(tactic| refine Hold.out ?_)
local macro_rules | `(tactic| walk_at "exec While") => `(tactic| refine Hold.out ?_)
local macro_rules | `(tactic| walk_at "KswEnd") => `(tactic| refine Hold.out ?_)
local macro_rules | `(tactic| walk_at "Cut") => `(tactic| refine Hold.out ?_)
local macro_rules | `(tactic| k_all) => `(tactic| exact allNe_lt (by assumption) (by omega))
local macro_rules | `(tactic| walk_at "subscriptTail Name Slice str ref") => `(tactic| ((with_reducible show wpAny _ _ (subscriptTail _ (PySem.Expr.Slice none (some (PySem.Expr.BoolOp _ _ _)) none _) _ _) _ _ _); (with_reducible rename Fr _ _ _ _ => F'); (with_reducible rename News _ _ _ _ => N'); k_dflt (refine slice_S_all (hsz := ?hsz) (s := ⟨_, _, _, _, _⟩) F' N' ?_); (case hsz => size_fits); intro _ _ _ _ _))
local macro_rules | `(tactic| ktr_unf) => `(tactic| repeat' (first | (k_unfold; (try dsimp only)) | (k_end; wrow_close) | (walk1 <;> (try dsimp only)) | (dsimp only; walk1) | (leave1; walk_say "STEP leave1"; try dsimp only) | fail "no step"))
theorem lev_spec (w : World) (mean : ExcName → Option Value) (mg mb : Str → Option Value) (news : List (Addr × Obj)) (X Y : List Nat) (b : Int) (t1 t2 t3 : Tok) (hx : X.length ≤ 40) (hy : Y.length ≤ 40) (hne : X ≠ Y) (p : Nat) (hpx : p ≤ X.length) (hpy : p ≤ Y.length) (hpe : X.take p = Y.take p) (hst : p = X.length ∨ p = Y.length ∨ X[p]? ≠ Y[p]?) (B A : List Nat) (hdA : X.drop p = A) (hdB : Y.drop p = B) (hla : A = [] ∨ B = [] ∨ A.getLast? ≠ B.getLast?) (A' B' : List Nat) (hsw : (B.length < A.length ∧ A' = B ∧ B' = A) ∨ (¬ B.length < A.length ∧ A' = A ∧ B' = B)) (hloX : ∀ c ∈ X, c ∈ lowL) (hloY : ∀ c ∈ Y, c ∈ lowL) : MClaim2 w mean mg mb 99 news (fun _ => True) [.str (S X) t1, .str (S Y) t2, .int b t3] (fun r news' => news' = news ∧ ∃ t, r = .int (levR A B A' B' b) t) := by
  w_on
  dsimp only [MClaim, MClaim2]
  k_fill
  intro dp un gd cn cs a ccd cl outer A₀ base h₀ L m s Q E hB hF hK hN hT hcs hTab hpre hdp hun hret
  refine wpAny_call ?_
  k_dflt cell_enter
  k_gentoks
  rename Fr h₀ L _ m => FG
  have hTab2 := hTab.up FG
  rename Fr _ _ _ _ => F1
  replace F1 : Fr _ _ _ (KB [(Str.ofString "max_cost", .int b t3), (Str.ofString "b", .str (S Y) t2), (Str.ofString "a", .str (S X) t1)]) := kb_of F1
  have hlx := S_len X
  have hly := S_len Y
  have hbe := S_beq X Y
  rw [decide_eq_false hne] at hbe
  ktr_unf
  rename Fr _ _ _ _ => F2
  rename News _ _ _ _ => N2
  refine Hold.go (while_cut (σ := Nat × Tok) (fun t => [(Str.ofString "pre", .int (p : Int) t), (Str.ofString "max_cost", .int b t3), (Str.ofString "b", .str (S Y) t2), (Str.ofString "a", .str (S X) t1)]) news (fun _ => news) (fun c => [(Str.ofString "pre", .int (c.1 : Int) c.2)]) (fun _ => True) [] (fun c => c.1 ≤ p) (fun c => p - c.1) (0, _) F2 N2 trivial (by kst_all) (Nat.zero_le _) ?_ ?_)
  · clear F2 N2
    rintro ⟨c, tp⟩ u h tk _ hp F3 N3
    dsimp only at hp F3 N3
    have hsx := slice_from X c (by omega)
    have hsy := slice_from Y c (by omega)
    have hlx2 : (S (X.drop c)).length = X.length - c := by rw [S_len, List.length_drop]
    have hly2 : (S (Y.drop c)).length = Y.length - c := by rw [S_len, List.length_drop]
    ktr_unf
    · have q1 : ((Txt.slice (S X) (some (c : Int)) none).length : Int) ≠ 0 := by assumption
      have q2 : ((Txt.slice (S Y) (some (c : Int)) none).length : Int) ≠ 0 := by assumption
      have q3 : (Txt.item (S X) (c : Int) == Txt.item (S Y) (c : Int)) = true := by assumption
      rw [hsx, hlx2] at q1
      rw [hsy, hly2] at q2
      obtain ⟨a1, ha1⟩ := drop_at (X := X) (p := c) (by omega)
      obtain ⟨a2, ha2⟩ := drop_at (X := Y) (p := c) (by omega)
      rw [item_at X c a1 ha1, item_at Y c a2 ha2, S_beq, decide_eq_true_eq] at q3
      cases q3
      have hcp : c ≠ p := by
        rintro rfl
        rcases hst with q | q | q
        · omega
        · omega
        · exact q (ha1.trans ha2.symm)
      rename Fr _ _ _ _ => F4
      rename News _ _ _ _ => N4
      refine Hold.go (ksw_end (c + 1, _) F4 N4 (fun _ h => h) trivial (by kst_all) (by intro z h2 h3; simp only [List.forall_mem_cons, List.not_mem_nil, false_implies, implies_true, and_true, ne_eq] at h2; simp [kstB, h2]) (by dsimp only; omega) (by dsimp only; omega))
    · have q3 : (Txt.item (S X) (c : Int) == Txt.item (S Y) (c : Int)) = false := by assumption
      have q1 : ((Txt.slice (S X) (some (c : Int)) none).length : Int) ≠ 0 := by assumption
      have q2 : ((Txt.slice (S Y) (some (c : Int)) none).length : Int) ≠ 0 := by assumption
      rw [hsx, hlx2] at q1
      rw [hsy, hly2] at q2
      obtain ⟨a1, ha1⟩ := drop_at (X := X) (p := c) (by omega)
      obtain ⟨a2, ha2⟩ := drop_at (X := Y) (p := c) (by omega)
      have hcp : c = p := by
        rcases Nat.lt_or_ge c p with q | q
        · have e := take_at hpe q
          rw [ha1, ha2] at e
          cases e
          rw [item_at X c a1 ha1, item_at Y c a1 ha2] at q3
          simp at q3
        · omega
      subst hcp
      rename Fr _ _ _ _ => F4
      rename News _ _ _ _ => N4
      exact Hold.go (Cut.mk ⟨rfl, _, _, tp, rfl, fr_eq F4 (by intro z; by_cases h : z = Str.ofString "pre" <;> simp [kstB, h]), N4⟩)
    · have q2 : ((Txt.slice (S Y) (some (c : Int)) none).length : Int) = 0 := by assumption
      rw [hsy, hly2] at q2
      have hcp : c = p := by omega
      subst hcp
      rename Fr _ _ _ _ => F4
      rename News _ _ _ _ => N4
      exact Hold.go (Cut.mk ⟨rfl, _, _, tp, rfl, fr_eq F4 (by intro z; by_cases h : z = Str.ofString "pre" <;> simp [kstB, h]), N4⟩)
    · have q1 : ((Txt.slice (S X) (some (c : Int)) none).length : Int) = 0 := by assumption
      rw [hsx, hlx2] at q1
      have hcp : c = p := by omega
      subst hcp
      rename Fr _ _ _ _ => F4
      rename News _ _ _ _ => N4
      exact Hold.go (Cut.mk ⟨rfl, _, _, tp, rfl, fr_eq F4 (by intro z; by_cases h : z = Str.ofString "pre" <;> simp [kstB, h]), N4⟩)
  · clear F2 N2
    intro h2 tk2 tp2 F2 N2
    have hsx := slice_from X p hpx
    have hsy := slice_from Y p hpy
    ktr_unf
    refine Hold.go ?_
    rename Fr _ _ _ _ => F4
    rename News _ _ _ _ => N4
    rw [hsx, hsy, hdA, hdB] at F4
    obtain ⟨tb, ta, tpo, F4⟩ : ∃ tb ta tpo, Fr _ _ _ (fun y => if y = Str.ofString "post" then some (Value.int 0 tpo) else if y = Str.ofString "b" then some (Value.str (S B) tb) else if y = Str.ofString "a" then some (Value.str (S A) ta) else KB [(Str.ofString "pre", .int (p : Int) tp2), (Str.ofString "max_cost", .int b t3), (Str.ofString "b", .str (S Y) t2), (Str.ofString "a", .str (S X) t1)] y) := ⟨_, _, _, F4⟩
    replace F4 : Fr _ _ _ (KB [(Str.ofString "post", .int 0 tpo), (Str.ofString "b", .str (S B) tb), (Str.ofString "a", .str (S A) ta), (Str.ofString "pre", .int (p : Int) tp2), (Str.ofString "max_cost", .int b t3)]) := fr_eq F4 (by intro z; by_cases h1 : z = Str.ofString "b" <;> by_cases h2 : z = Str.ofString "a" <;> simp [kstB, h1, h2])
    have hAl : A.length ≤ 40 := by rw [← hdA, List.length_drop]; omega
    have hBl : B.length ≤ 40 := by rw [← hdB, List.length_drop]; omega
    have hla1 := S_len A
    have hlb1 := S_len B
    have hsa := slice_all A
    have hsb := slice_all B
    clear hsx hsy
    refine while_cut (σ := Tok) (fun t => [(Str.ofString "post", .int 0 t), (Str.ofString "b", .str (S B) tb), (Str.ofString "a", .str (S A) ta), (Str.ofString "pre", .int (p : Int) tp2), (Str.ofString "max_cost", .int b t3)]) news (fun _ => news) (fun c => [(Str.ofString "post", .int 0 c)]) (fun _ => True) [] (fun c => True) (fun c => 0) tpo F4 N4 trivial (by kst_all) trivial ?_ ?_
    · clear F4 N4
      rintro c u h tk _ _ F5 N5
      have hia : Txt.item (S A) (0 - 1) = Txt.item (S A) (-1) := rfl
      have hib : Txt.item (S B) (0 - 1) = Txt.item (S B) (-1) := rfl
      ktr_unf
      · exfalso
        have q1 : ((S A).length : Int) ≠ 0 := by assumption
        have q2 : ((S B).length : Int) ≠ 0 := by assumption
        have q3 : (Txt.item (S A) (0 - 1) == Txt.item (S B) (0 - 1)) = true := by assumption
        rw [hla1] at q1
        rw [hlb1] at q2
        rw [hia, hib] at q3
        rcases hla with q | q | q
        · rw [q] at q1; exact q1 rfl
        · rw [q] at q2; exact q2 rfl
        · obtain ⟨a1, ha1⟩ : ∃ a1, A.getLast? = some a1 := by
            cases ha : A.getLast? with
            | none => rw [List.getLast?_eq_none_iff] at ha; rw [ha] at q1; exact absurd rfl q1
            | some a1 => exact ⟨a1, rfl⟩
          obtain ⟨b1, hb1⟩ : ∃ b1, B.getLast? = some b1 := by
            cases hb : B.getLast? with
            | none => rw [List.getLast?_eq_none_iff] at hb; rw [hb] at q2; exact absurd rfl q2
            | some b1 => exact ⟨b1, rfl⟩
          rw [item_last A a1 ha1, item_last B b1 hb1, S_beq, decide_eq_true_eq] at q3
          cases q3
          exact q (ha1.trans hb1.symm)
      all_goals
        rename Fr _ _ _ _ => F6
        rename News _ _ _ _ => N6
        exact Hold.go (Cut.mk ⟨rfl, _, _, c, rfl, fr_eq F6 (by intro z; by_cases h : z = Str.ofString "post" <;> simp [kstB, h]), N6⟩)
    · clear F4 N4
      intro h3 tk3 tp3 F5 N5
      refine lev_tail w mean mg mb news A B A' B' b t3 ta tb tp2 tp3 (p : Int) hAl hBl (fun c hc => hloX c (List.mem_of_mem_drop (hdA ▸ hc))) (fun c hc => hloY c (List.mem_of_mem_drop (hdB ▸ hc))) hsw _ _ _ _ _ _ _ _ _ _ _ _ _ _ _ _ (by assumption) (by assumption) (by assumption) hTab2 F5 N5 (by assumption) (by assumption) (by passes_own) ?_
      intro t h' tk' m' F6 N6
      ktr_unf
      exact hret _ _ _ _ (by k_asm) (by k_asm) ⟨rfl, _, rfl⟩
end
end Mine
end

section
open PySem PySem.W PySem.Calls PySem.Spec PyProof.Rows
set_option maxRecDepth 100000
set_option maxHeartbeats 8000000
set_option pp.deepTerms false
set_option pp.maxSteps 3000
namespace Mine
open PyProof
section
local macro_rules | `(tactic| walk_at "call ref") => `(tactic| refine Hold.out ?_)
local macro_rules | `(tactic| walk_at "compareOp NotEq ref ref") => `(tactic| refine Hold.out ?_)
local macro_rules | `(tactic| walk_at "eval ListComp") => `(tactic| refine Hold.out ?_)
local macro_rules | `(tactic| walk_at "CompEnd") => `(tactic| refine Hold.out ?_)
local macro_rules | `(tactic| walk_at "subscriptTail") => `(tactic| refine Hold.out ?_)
local macro_rules | `(tactic| walk_at "binaryOp Add str str") => `(tactic| refine Hold.out ?_)
local macro_rules | `(tactic| k_all) => `(tactic| exact allNe_lt (by assumption) (by omega))
local macro_rules | `(tactic| ktr_unf) => `(tactic| repeat' (first | (k_unfold; (try dsimp only)) | (k_end; wrow_close) | (walk1 <;> (try dsimp only)) | (dsimp only; walk1) | (leave1; walk_say "STEP leave1"; try dsimp only) | fail "no step"))
theorem law_y (w : World) (mean : ExcName → Option Value) (mg mb : Str → Option Value) (sl Dd Df Dn D it Dm : Addr) (ys : List Value) (e : Nat) (oN oF oD o1 oI : Obj) (nm : List Value) (me : Nat) (n0 : List Nat) (tn : Tok) (hnm : nm[0]? = some (.str (S n0) tn)) (hlen : n0.length ≤ 12) (hne : n0 ≠ []) (hlo : ∀ c ∈ n0, c ∈ lowL) (hhd : n0[0]? ≠ some 121) (hla : (121 :: n0).getLast? ≠ (n0 ++ [122]).getLast?) (hv : levR (121 :: n0) (n0 ++ [122]) (121 :: n0) (n0 ++ [122]) 4 = 4 ∧ levR (121 :: n0) (n0 ++ [122]) (121 :: n0) (n0 ++ [122]) 3 = 4 ∧ levR (121 :: n0) (n0 ++ [122]) (121 :: n0) (n0 ++ [122]) 0 = 1) (oc : Obj) (hoc : oc.data = .cell (some (.ref Dm)))
    : ∀ (H : Heap) (fa cw LL : Addr) (s : Shared) (m0 : Str → Option Value) (Qk : Flow → Shared → Prop) (Ek : Value → Shared → Prop),
      (KF w.params).In H → Top qv (looseW qv lo) mean mg mb H → Below callerA H [] H → Tabs w H →
      Fr H LL s.heap (kstB m0 [(Str.ofString "numbers", .ref Dn), (Str.ofString "fronts", .ref Df), (Str.ofString "due", .ref Dd), (Str.ofString "script", .ref sl)]) → News H LL s.heap (ledW LL Dd Df Dn D it Dm oN oF oD o1 oc ys e nm me oI) →
      PassesOwn (model PySem.Challenge.rw_rl0108_01.row.prog w) (AL fa cw LL) (EL fa cw LL) Ek →
      (∀ (h' : Heap) (tk' : Nat), Fr H LL h' (kstB m0 [(Str.ofString "numbers", .ref Dn), (Str.ofString "fronts", .ref Df), (Str.ofString "due", .ref Dd), (Str.ofString "script", .ref sl)]) → News H LL h' (ledW LL Dd Df Dn D it Dm oN oF oD o1 oc ys e nm me oI) → Qk .next { s with heap := h', toks := tk' }) →
      wpAny (model PySem.Challenge.rw_rl0108_01.row.prog w) (AL fa cw LL) (exec (lawS 8) (EL fa cw LL)) Qk Ek s := by
  w_on
  k_fill
  intro H fa cw LL s m0 Qk Ek X1 T1 B1 hTab2 F1 N1 hPO hret
  conv => enter [3, 1]; whnf
  have hst : (121 :: n0)[0]? ≠ (n0 ++ [122])[0]? := by
    cases n0 with
    | nil => exact absurd rfl hne
    | cons c r => intro e; apply hhd; simpa using e.symm
  have hXY : (121 :: n0) ≠ (n0 ++ [122]) := fun e => hst (by rw [e])
  have hlX : ∀ c ∈ (121 :: n0), c ∈ lowL := fun c hc => by
    rcases List.mem_cons.mp hc with rfl | hc
    · decide
    · exact hlo c hc
  have hlY : ∀ c ∈ (n0 ++ [122]), c ∈ lowL := fun c hc => by
    rcases List.mem_append.mp hc with hc | hc
    · exact hlo c hc
    · rw [List.mem_singleton.mp hc]; decide
  have hsl := S_len n0
  ktr_unf
  refine Hold.go (ListComp_TU F1 (by with_unfolding_all rfl) (by decide) (by rfl) (by decide) (by rfl) ?_)
  ktr_unf
  rename Fr _ _ _ _ => F2
  rename News _ _ _ _ => N2
  refine SrcTU.mk rfl F2 N2 (List.Mem.head _) 3 rfl (by decide) fun g => ?_
  refine comp_invC (fun i zs => IntsAre zs (([4, 4, 1] : List Int).take i)) .nil ?_ ?_
  · clear F2 N2
    rintro i zs hi hzs v I oI2 C oC Z m₂ h' tk' E' hv2 hC hm2 F3 N3 off3 ne3
    obtain ⟨b, tb, rfl, hb⟩ : ∃ b tb, v = Value.int b tb ∧ ∀ t5, IntsAre (zs ++ [Value.int (levR (121 :: n0) (n0 ++ [122]) (121 :: n0) (n0 ++ [122]) b) t5]) (([4, 4, 1] : List Int).take (i + 1)) := by
      obtain ⟨v1, v2, v3⟩ := hv
      rcases (show i = 0 ∨ i = 1 ∨ i = 2 by omega) with rfl | rfl | rfl
      · cases hv2; exact ⟨_, _, rfl, fun t5 => by rw [v1]; exact hzs.append (.cons _ _ .nil)⟩
      · cases hv2; exact ⟨_, _, rfl, fun t5 => by rw [v2]; exact hzs.append (.cons _ _ .nil)⟩
      · cases hv2; exact ⟨_, _, rfl, fun t5 => by rw [v3]; exact hzs.append (.cons _ _ .nil)⟩
    have ey : Str.ofString "y" ++ S n0 = S (121 :: n0) := S_append [121] n0
    have ez : S n0 ++ Str.ofString "z" = S (n0 ++ [122]) := S_append n0 [122]
    have ly : (Str.ofString "y").length = 1 := rfl
    have lz : (Str.ofString "z").length = 1 := rfl
    ktr_unf
    rename News _ _ _ _ => N4
    refine Hold.go (item_list (vs := nm) (isList_news N4 (List.Mem.tail _ (List.Mem.tail _ (List.Mem.tail _ (List.Mem.tail _ (List.Mem.head _)))))) (by decide) (by decide) hnm ?_)
    ktr_unf
    refine Hold.go (add_str ?_ (by rw [S_len, ly, sizeLine_eq]; omega))
    intro t5 tk5
    rw [ey]
    ktr_unf
    rename News _ _ _ _ => N5
    refine Hold.go (item_list (vs := nm) (isList_news N5 (List.Mem.tail _ (List.Mem.tail _ (List.Mem.tail _ (List.Mem.tail _ (List.Mem.head _)))))) (by decide) (by decide) hnm ?_)
    ktr_unf
    refine Hold.go (add_str ?_ (by rw [S_len, lz, sizeLine_eq]; omega))
    intro t6 tk6
    rw [ez]
    ktr_unf
    refine' Hold.go (MClaim2.use (lev_spec w mean mg mb _ (121 :: n0) (n0 ++ [122]) b _ _ _ (by rw [List.length_cons]; omega) (by rw [List.length_append, List.length_singleton]; omega) hXY 0 (Nat.zero_le _) (Nat.zero_le _) rfl (.inr (.inr hst)) (n0 ++ [122]) (121 :: n0) rfl rfl (.inr (.inr hla)) (121 :: n0) (n0 ++ [122]) (.inr ⟨by rw [List.length_cons, List.length_append, List.length_singleton]; omega, rfl, rfl⟩) hlX hlY) ?B ?F ?X ?N ?T ?hk ?tb ?hp ?hd ?hu ?_)
    (case B => k_asm)
    (case F => k_asm)
    (case X => k_asm)
    (case N => k_asm)
    (case T => k_asm)
    (case hk => first | exact rfl | assumption)
    (case tb => assumption)
    (case hp => exact trivial)
    (case hd => ktr_room)
    (case hu => ktr_units)
    rintro r7 news7 h7 tk7 F7 N7 ⟨rfl, t7, rfl⟩
    try dsimp only
    refine LCg.CompEnd.intro F7 N7 _ (fun _ hp => hp) off3 (List.Mem.head _) ⟨rfl, hb _⟩
  · intro zs hzs
    intro Z h8 tk8 F8 N8 off8
    ktr_unf
    rename News _ _ _ _ => N9
    refine Hold.go (ne_intsK (isList_news N9 (List.Mem.tail _ (List.Mem.head _))) hzs (vs := zs) (us := [_, _, _]) (ms := [4, 4, 1]) (isList_news N9 (List.Mem.head _)) (.cons _ _ (.cons _ _ (.cons _ _ .nil))) (by units_room) ?_)
    ktr_unf
    rename Fr _ _ _ _ => F10
    rename News _ _ _ _ => N10
    exact hret _ _ F10 fun p hp => N10 p (List.Mem.tail _ (List.Mem.tail _ (List.Mem.tail _ hp)))
end
end Mine
end

section
open PySem PySem.W PySem.Calls PySem.Spec PyProof.Rows PyProof
set_option maxRecDepth 100000
set_option maxHeartbeats 4000000
namespace Mine
/-- the least of the fronts between two names -/
noncomputable def minF (ns : List Int) (j : Nat) : Nat → Int
  | 0 => frk ns (j + 1)
  | n + 1 => min (minF ns j n) (frk ns (j + 2 + n))
noncomputable def farF (ns : List Int) (i j : Nat) : Int := 2 * max ((Dp ns (i + 1)).length : Int) ((Dp ns (j + 1)).length : Int) - 2 * minF ns j (i - j - 1)
noncomputable def frs (ns : List Int) (j : Nat) (n : Nat) : List Int := (List.range n).map fun d => frk ns (j + 1 + d)
theorem minF_mem (ns : List Int) (j : Nat) : ∀ n, minF ns j n ∈ frs ns j (n + 1)
  | 0 => by simp [frs, minF]
  | n + 1 => by
    have h := minF_mem ns j n
    unfold frs at h ⊢
    rw [List.range_succ, List.map_append]
    unfold minF
    rcases Int.le_total (minF ns j n) (frk ns (j + 2 + n)) with q | q
    · rw [Int.min_eq_left q]; exact List.mem_append_left _ h
    · rw [Int.min_eq_right q]
      refine List.mem_append_right _ ?_
      rw [show j + 2 + n = j + 1 + (n + 1) by omega]
      exact List.Mem.head _
theorem minF_le (ns : List Int) (j : Nat) : ∀ n, ∀ x ∈ frs ns j (n + 1), minF ns j n ≤ x
  | 0 => by intro x hx; simp [frs] at hx; subst hx; exact Int.le_refl _
  | n + 1 => by
    intro x hx
    have h := minF_le ns j n
    unfold frs at h hx
    rw [List.range_succ, List.map_append] at hx
    unfold minF
    rcases List.mem_append.mp hx with hx | hx
    · exact Int.le_trans (Int.min_le_left _ _) (h x hx)
    · simp only [List.map_cons, List.map_nil, List.mem_singleton] at hx
      subst hx
      rw [show j + 1 + (n + 1) = j + 2 + n by omega]
      exact Int.min_le_right _ _
theorem minF_eq {ns : List Int} {j n : Nat} {M : Int} (h1 : M ∈ frs ns j (n + 1)) (h2 : ∀ x ∈ frs ns j (n + 1), M ≤ x) : M = minF ns j n :=
  Int.le_antisymm (h2 _ (minF_mem ns j n)) (minF_le ns j n _ h1)
theorem fr_slice {fvs : List Value} {ns : List Int} (h : IntsAre fvs (frL ns 4)) (i j : Nat) (hji : j < i) (hi : i < 4) : IntsAre (slicePick fvs.toArray (some ((j : Int) + 1)) (some ((i : Int) + 1)) none).toList (frs ns j (i - j)) := by
  have e : frL ns 4 = [frk ns 0, frk ns 1, frk ns 2, frk ns 3] := rfl
  rw [e] at h
  cases h with | cons _ t0 h => cases h with | cons _ t1 h => cases h with | cons _ t2 h => cases h with | cons _ t3 h => cases h with | nil =>
  rcases (show (j = 0 ∧ i = 1) ∨ (j = 0 ∧ i = 2) ∨ (j = 0 ∧ i = 3) ∨ (j = 1 ∧ i = 2) ∨ (j = 1 ∧ i = 3) ∨ (j = 2 ∧ i = 3) by omega) with ⟨rfl, rfl⟩ | ⟨rfl, rfl⟩ | ⟨rfl, rfl⟩ | ⟨rfl, rfl⟩ | ⟨rfl, rfl⟩ | ⟨rfl, rfl⟩
  · exact .cons _ t1 .nil
  · exact .cons _ t1 (.cons _ t2 .nil)
  · exact .cons _ t1 (.cons _ t2 (.cons _ t3 .nil))
  · exact .cons _ t2 .nil
  · exact .cons _ t2 (.cons _ t3 .nil)
  · exact .cons _ t3 .nil
end Mine
namespace Mine
theorem slice_intsK {prog : Program} {w : World} {A : Around} {E : Value → Shared → Prop} {hp h₀ : Heap} {gs : Array GenState} {dr : Drawn} {tk : Tok} {ost : OsState} {L l : Addr} {m : Str → Option Value} {news : List (Addr × Obj)} {value slice : PySem.Expr} {vs : List Value} {ns ms : List Int} {a b : Int} {ta tb : Tok} {Q : Value → Shared → Prop}
    (F : Fr h₀ L hp m) (N : News h₀ L hp news) (hl : hp.IsList l vs.toArray) (hi : IntsAre vs ns) (hm : IntsAre (slicePick vs.toArray (some a) (some b) none).toList ms) (hz : vs.length ≤ 1000)
    (h : ∀ D ws h', Fr h₀ L h' m → News h₀ L h' ((D, listOf (List.toArray ws) 0) :: news) → (∀ p ∈ news, p.1 < D) → IntsAre ws ms → Q (.ref D) ⟨h', gs, dr, tk, ost⟩)
    (hs : subscripted slice false (.ref l) (.ref hp.objs.size) = operate [.ref hp.objs.size, .ref l] (getItem (.ref l) (.ref hp.objs.size)) := by with_unfolding_all rfl) (ht : ∀ r, letTemporaryGo value (.ref l) r = pure () := by intro _; with_unfolding_all rfl) :
    wpAny (model prog w) A (subscriptTail value slice (.ref l) (.ref hp.objs.size)) Q E ⟨hp.push { cls := .type "slice", data := .fields #[.int a ta, .int b tb, .none] }, gs, dr, tk, ost⟩ :=
  kmk_slice_ints (s := ⟨hp, gs, dr, tk, ost⟩) F N hl (IsPart.int _ _) (IsPart.int _ _) hi hm rfl (fun D ws h' F' N' l1 hI _ _ => h D ws h' F' N' l1 hI) hs ht (by rw [sizeLine_eq, List.size_toArray]; omega)
end Mine
end

section
open PySem PySem.W PySem.Calls PySem.Spec PyProof.Rows
set_option maxRecDepth 100000
set_option maxHeartbeats 8000000
set_option pp.deepTerms false
set_option pp.maxSteps 3000
namespace Mine
open PyProof
section
local macro_rules | `(tactic| walk_at "call ref") => `(tactic| refine Hold.out ?_)
local macro_rules | `(tactic| walk_at "exec For Name Call cons nil") => `(tactic| refine Hold.out ?_)
local macro_rules | `(tactic| walk_at "pyIter ref") => `(tactic| refine Hold.out ?_)
local macro_rules | `(tactic| walk_at "InvEndN") => `(tactic| refine Hold.out ?_)
local macro_rules | `(tactic| walk_at "subscriptTail") => `(tactic| refine Hold.out ?_)
local macro_rules | `(tactic| walk_at "call builtin:min") => `(tactic| refine Hold.out ?_)
local macro_rules | `(tactic| k_all) => `(tactic| exact allNe_lt (by assumption) (by omega))
local macro_rules | `(tactic| ktr_unf) => `(tactic| repeat' (first | (k_unfold; (try dsimp only)) | (k_end; wrow_close) | (walk1 <;> (try dsimp only)) | (dsimp only; walk1) | (leave1; walk_say "STEP leave1"; try dsimp only) | fail "no step"))
theorem law_far (w : World) (mean : ExcName → Option Value) (mg mb : Str → Option Value) (sl Dd Df Dn D it Dm : Addr) (ys : List Value) (e : Nat) (oN oD o1 oI : Obj) (nm fvs : List Value) (me fe : Nat) (ns : List Int) (hnm : TextsAre nm (dueL ns 4)) (hfv : IntsAre fvs (frL ns 4)) (oc : Obj) (hoc : oc.data = .cell (some (.ref Dm)))
    (hL : ∀ i j : Nat, j < i → i < 4 → ∀ b : Int, b = farF ns i j ∨ b = farF ns i j - 1 → ∀ nw t1 t2 t3, MClaim2 w mean mg mb 99 nw (fun _ => True) [.str (S (Dp ns (i + 1))) t1, .str (S (Dp ns (j + 1))) t2, .int b t3] (fun r nw' => nw' = nw ∧ ∃ t, r = .int (farF ns i j) t) ∧ MClaim2 w mean mg mb 99 nw (fun _ => True) [.str (S (Dp ns (j + 1))) t1, .str (S (Dp ns (i + 1))) t2, .int b t3] (fun r nw' => nw' = nw ∧ ∃ t, r = .int (farF ns i j) t))
    : ∀ (H : Heap) (fa cw LL : Addr) (s : Shared) (m0 : Str → Option Value) (Qk : Flow → Shared → Prop) (Ek : Value → Shared → Prop),
      (KF w.params).In H → Top qv (looseW qv lo) mean mg mb H → Below callerA H [] H → Tabs w H →
      Fr H LL s.heap (kstB m0 [(Str.ofString "numbers", .ref Dn), (Str.ofString "fronts", .ref Df), (Str.ofString "due", .ref Dd), (Str.ofString "script", .ref sl)]) → News H LL s.heap (ledW LL Dd Df Dn D it Dm oN (listOf fvs.toArray fe) oD o1 oc ys e nm me oI) →
      PassesOwn (model PySem.Challenge.rw_rl0108_01.row.prog w) (AL fa cw LL) (EL fa cw LL) Ek →
      (∀ (h' : Heap) (tk' : Nat) (m' : Str → Option Value), Fr H LL h' (kstB m' [(Str.ofString "numbers", .ref Dn), (Str.ofString "fronts", .ref Df), (Str.ofString "due", .ref Dd), (Str.ofString "script", .ref sl)]) → News H LL h' (ledW LL Dd Df Dn D it Dm oN (listOf fvs.toArray fe) oD o1 oc ys e nm me oI) → Qk .next { s with heap := h', toks := tk' }) →
      wpAny (model PySem.Challenge.rw_rl0108_01.row.prog w) (AL fa cw LL) (exec (lawS 9) (EL fa cw LL)) Qk Ek s := by
  w_on
  k_fill
  intro H fa cw LL s m0 Qk Ek X1 T1 B1 hTab2 F1 N1 hPO hret
  conv => enter [3, 1]; whnf
  ktr_unf
  refine Hold.go ?_
  with_unfolding_all refine' For_invVF F1 ?k1 ?k2 ?_ (hE := ?k3); (case k1 => exact rfl); (case k2 => exact rfl); (case k3 => exact hPO)
  ktr_unf
  refine Hold.go ?_
  rename IsRange _ _ _ _ _ _ _ _ => hr2
  rename Fr _ _ _ _ => F2
  rename News _ _ _ _ => N2
  refine kst_range (σ := Unit) (n := 4) (fun _ => (ledW LL Dd Df Dn D it Dm oN (listOf fvs.toArray fe) oD o1 oc ys e nm me oI)) (fun _ => []) (fun _ => True) [Str.ofString "j", Str.ofString "far"] (fun _ _ => True) () rfl hr2 (by decide) (by decide) F2 N2 trivial (fun _ h => nomatch h) trivial ?_ ?_
  · clear F2 N2
    rintro ⟨⟩ pre k t u h tk own hk hpn hoff _ _ F3 N3
    try dsimp only at F3 N3 hoff
    have hk' : k = (pre.length : Int) := by omega
    subst hk'
    generalize hj : pre.length = i at hpn F3
    ktr_unf
    refine Hold.go ?_
    with_unfolding_all refine' For_invVF F3 ?k1 ?k2 ?_ (hE := ?k3); (case k1 => exact rfl); (case k2 => exact rfl); (case k3 => exact hPO)
    ktr_unf
    refine Hold.go ?_
    rename IsRange _ _ _ _ _ _ _ _ => hr4
    rename Fr _ _ _ _ => F4
    rename News _ _ _ _ => N4
    refine kst_range (σ := Unit) (n := i) (fun _ => (ledW LL Dd Df Dn D it Dm oN (listOf fvs.toArray fe) oD o1 oc ys e nm me oI) ++ own) (fun _ => [(Str.ofString "i", .int (i : Int) t)]) (fun _ => True) [Str.ofString "far"] (fun _ _ => True) () rfl hr4 (range0 _ (by omega)).1 (range0 _ (by omega)).2 F4 N4 trivial (by kst_all) trivial ?_ ?_
    · clear F4 N4
      rintro ⟨⟩ pre2 k2 t2 u2 h2 tk2 own2 hk2 hpn2 hoff2 _ _ F5 N5
      try dsimp only at F5 N5 hoff2
      have hk2' : k2 = (pre2.length : Int) := by omega
      subst hk2'
      generalize hj2 : pre2.length = j at hpn2 F5
      have hji : j < i := by omega
      have hi4 : i < 4 := by omega
      obtain ⟨ti, hni⟩ : ∃ t, nm[i]? = some (.str (S (Dp ns (i + 1))) t) := hnm.get (by simp [dueL, hi4])
      have hj4 : j < 4 := by omega
      obtain ⟨tj, hnj⟩ : ∃ t, nm[j]? = some (.str (S (Dp ns (j + 1))) t) := hnm.get (by simp [dueL, hj4])
      have hsi := S_len (Dp ns (i + 1))
      have hsj := S_len (Dp ns (j + 1))
      have hli := Dp_len ns (i + 1)
      have hlj := Dp_len ns (j + 1)
      ktr_unf
      rename News _ _ _ _ => N6
      refine Hold.go (item_list (vs := nm) (isList_news N6 (List.Mem.head _)) (by omega) (by omega) (by rw [Int.toNat_natCast]; exact hni) ?_)
      ktr_unf
      rename News _ _ _ _ => N7
      refine Hold.go (item_list (vs := nm) (isList_news N7 (List.Mem.head _)) (by omega) (by omega) (by rw [Int.toNat_natCast]; exact hnj) ?_)
      ktr_unf
      rename Fr _ _ _ _ => F8
      rename News _ _ _ _ => N8
      have hsl := fr_slice hfv i j hji hi4
      have hfl : (frs ns j (i - j)).length = i - j := by simp [frs]
      refine Hold.go ?_
      have hmF : (Df, listOf fvs.toArray fe) ∈ ((ledW LL Dd Df Dn D it Dm oN (listOf fvs.toArray fe) oD o1 oc ys e nm me oI) ++ own ++ own2 : List (Addr × Obj)) := List.mem_append_left _ (List.mem_append_left _ (List.Mem.tail _ (List.Mem.tail _ (List.Mem.tail _ (List.Mem.tail _ (List.Mem.head _))))))
      have hfl4 : fvs.length = 4 := by rw [hfv.length]; simp [frL]
      refine slice_intsK F8 N8 (isList_news N8 hmF) hfv hsl (by omega) ?_
      clear F8 N8
      intro Z zs h9 F9 N9 hlt9 hzs
      ktr_unf
      rename Fr _ _ _ _ => F10
      rename News _ _ _ _ => N10
      refine Hold.go (kso_min F10 N10 (isList_news N10 (List.Mem.head _)) hzs (by rw [hfl]; omega) rfl ?_)
      clear F10 N10
      intro h11 M tM tk11 F11 N11 hM1 hM2
      have hMe : M = minF ns j (i - j - 1) := by
        have e9 : i - j = (i - j - 1) + 1 := by omega
        rw [e9] at hM1 hM2
        exact minF_eq hM1 hM2
      subst hMe
      ktr_unf
      have hmN : (Dm, listOf nm.toArray me) ∈ ((ledW LL Dd Df Dn D it Dm oN (listOf fvs.toArray fe) oD o1 oc ys e nm me oI) ++ own ++ own2 : List (Addr × Obj)) := List.mem_append_left _ (List.mem_append_left _ (List.Mem.head _))
      have ef : 2 * (if ((S (Dp ns (j + 1))).length : Int) > ((S (Dp ns (i + 1))).length : Int) then ((S (Dp ns (j + 1))).length : Int) else ((S (Dp ns (i + 1))).length : Int)) - 2 * minF ns j (i - j - 1) = farF ns i j := by
        rw [S_len, S_len, farF]; split <;> omega
      have hb : farF ns i j - ((i : Int) + (j : Int)).fmod 2 = farF ns i j ∨ farF ns i j - ((i : Int) + (j : Int)).fmod 2 = farF ns i j - 1 := by
        have := fm_bd ((i : Int) + (j : Int)) (k := 2) (by decide)
        omega
      rename Fr _ _ _ _ => F12
      rw [ef] at F12
      rename News _ _ _ _ => N12
      refine Hold.go (item_list (vs := nm) (isList_news N12 (List.Mem.tail _ hmN)) (by omega) (by omega) (by rw [Int.toNat_natCast]; exact hni) ?_)
      ktr_unf
      rename News _ _ _ _ => N13
      refine Hold.go (item_list (vs := nm) (isList_news N13 (List.Mem.tail _ hmN)) (by omega) (by omega) (by rw [Int.toNat_natCast]; exact hnj) ?_)
      ktr_unf
      refine' Hold.go (MClaim2.use ((hL i j hji hi4 _ hb _ _ _ _).1) ?B ?F ?X ?N ?T ?hk ?tb ?hp ?hd ?hu ?_)
      (case B => k_asm)
      (case F => k_asm)
      (case X => k_asm)
      (case N => k_asm)
      (case T => k_asm)
      (case hk => first | exact rfl | assumption)
      (case tb => assumption)
      (case hp => exact trivial)
      (case hd => ktr_room)
      (case hu => ktr_units)
      rintro r14 news14 h14 tk14 F14 N14 ⟨rfl, t14, rfl⟩
      ktr_unf
      all_goals try (exfalso; omega)
      rename News _ _ _ _ => N15
      refine Hold.go (item_list (vs := nm) (isList_news N15 (List.Mem.tail _ hmN)) (by omega) (by omega) (by rw [Int.toNat_natCast]; exact hnj) ?_)
      ktr_unf
      rename News _ _ _ _ => N16
      refine Hold.go (item_list (vs := nm) (isList_news N16 (List.Mem.tail _ hmN)) (by omega) (by omega) (by rw [Int.toNat_natCast]; exact hni) ?_)
      ktr_unf
      refine' Hold.go (MClaim2.use ((hL i j hji hi4 _ (.inr rfl) _ _ _ _).2) ?B ?F ?X ?N ?T ?hk ?tb ?hp ?hd ?hu ?_)
      (case B => k_asm)
      (case F => k_asm)
      (case X => k_asm)
      (case N => k_asm)
      (case T => k_asm)
      (case hk => first | exact rfl | assumption)
      (case tb => assumption)
      (case hp => exact trivial)
      (case hd => ktr_room)
      (case hu => ktr_units)
      rintro r17 news17 h17 tk17 F17 N17 ⟨rfl, t17, rfl⟩
      ktr_unf
      all_goals try (exfalso; omega)
      rename Fr _ _ _ _ => F18
      rename News _ _ _ _ => N18
      refine Hold.go (kst_end () F18 N18 (fun p hp => List.Mem.tail _ (List.mem_append_left own2 hp)) (fun p hp => List.Mem.tail _ (List.mem_append_right _ hp)) rfl trivial (by kst_all) ?_ trivial)
      intro z h1 h2 h3
      simp only [List.forall_mem_cons, List.not_mem_nil, false_implies, implies_true, and_true, ne_eq] at h2
      simp only [List.contains_cons, List.contains_nil, Bool.or_false, Bool.or_eq_false_iff, beq_eq_false_iff_ne, ne_eq] at h3
      simp [kstB, h1, h2, h3]
    · rintro ⟨⟩ u7 h7 tk7 _ _ F7 N7
      ktr_unf
      rename Fr _ _ _ _ => F8
      rename News _ _ _ _ => N8
      refine Hold.go (kst_end () F8 N8 (fun p hp => List.mem_append_left own hp) (fun p hp => List.mem_append_right _ hp) rfl trivial (fun _ h => nomatch h) ?_ trivial)
      intro z h1 h2 h3
      simp only [List.contains_cons, List.contains_nil, Bool.or_false, Bool.or_eq_false_iff, beq_eq_false_iff_ne, ne_eq] at h3
      simp [kstB, h1, h3]
  · rintro ⟨⟩ u7 h7 tk7 _ _ F7 N7
    refine hret _ _ _ (by rw [kst_self]; exact F7; kst_all) N7
end
end Mine
end

section
set_option maxRecDepth 100000
set_option maxHeartbeats 4000000
namespace Mine
/-- the row behind k letters, from place a0 on, n places -/
noncomputable def rowK (k a0 : Nat) : Nat → List Int
  | 0 => []
  | n + 1 => 2 * max (k : Int) ((a0 : Int) + 1) :: rowK k (a0 + 1) n
theorem row0_K (n : Nat) : row0 n = rowK 0 0 n := by
  have h : ∀ n a0 : Nat, (List.range' a0 n).map (fun (i : Nat) => ((i : Int) + 1) * 2) = rowK 0 a0 n := by
    intro n
    induction n with
    | zero => intro a0; rfl
    | succ n ih =>
      intro a0
      rw [List.range'_succ, List.map_cons, ih (a0 + 1), rowK]
      congr 1
      omega
  rw [row0, List.range_eq_range', h n 0]
theorem cst_ne {c d : Nat} (h : c ≠ d) : cst c d = 2 := if_neg h
theorem inF_dis (bc : Nat) : ∀ (A : List Nat) (k a0 : Nat) (r mn : Int), (∀ c ∈ A, bc ≠ c) → 2 * max (k : Int) (a0 : Int) ≤ r → mn ≤ 2 * max ((k : Int) + 1) ((a0 : Int) + 1) →
    inF bc (A.zip (rowK k a0 A.length)) (2 * max (k : Int) (a0 : Int)) r mn = (rowK (k + 1) a0 A.length, (if A = [] then r else 2 * max ((k : Int) + 1) ((a0 : Int) + A.length)), mn)
  | [], k, a0, r, mn, _, _, _ => by simp [inF, rowK]
  | c :: A, k, a0, r, mn, h, hr, hm => by
    have e1 : min (min r (2 * max (k : Int) ((a0 : Int) + 1)) + 2) (2 * max (k : Int) (a0 : Int) + cst bc c) = 2 * max ((k : Int) + 1) ((a0 : Int) + 1) := by
      rw [cst_ne (h c (List.Mem.head _))]; omega
    have ih := inF_dis bc A k (a0 + 1) (2 * max ((k : Int) + 1) ((a0 : Int) + 1)) mn (fun c hc => h c (List.Mem.tail _ hc)) (by omega) (by omega)
    rw [Int.natCast_add, Int.natCast_one] at ih
    show inF bc ((c, 2 * max (k : Int) ((a0 : Int) + 1)) :: A.zip (rowK k (a0 + 1) A.length)) _ r mn = _
    unfold inF
    dsimp only
    rw [e1, if_neg (by omega), ih, if_neg (List.cons_ne_nil _ _)]
    refine Prod.ext ?_ (Prod.ext ?_ rfl)
    · show _ :: rowK (k + 1) (a0 + 1) A.length = rowK (k + 1) a0 (A.length + 1)
      rw [rowK, Int.natCast_add, Int.natCast_one]
    · dsimp only
      rw [List.length_cons]
      by_cases hA : A = []
      · rw [if_pos hA, hA]; simp
      · rw [if_neg hA]; omega
/-- a row over letters that all differ -/
theorem inF_row (bc : Nat) (c : Nat) (A : List Nat) (k : Nat) (hk : k ≤ 100) (h : ∀ x ∈ c :: A, bc ≠ x) :
    inF bc ((c :: A).zip (rowK k 0 (A.length + 1))) ((k : Int) * 2) ((k : Int) * 2) bigM = (rowK (k + 1) 0 (A.length + 1), 2 * max ((k : Int) + 1) ((A.length : Int) + 1), 2 * ((k : Int) + 1)) := by
  have e1 : min (min ((k : Int) * 2) (2 * max (k : Int) (((0 : Nat) : Int) + 1)) + 2) ((k : Int) * 2 + cst bc c) = 2 * ((k : Int) + 1) := by
    rw [cst_ne (h c (List.Mem.head _))]; omega
  have e2 : 2 * max (k : Int) (((0 : Nat) : Int) + 1) = 2 * max (k : Int) (((1 : Nat) : Int)) := by omega
  have ih := inF_dis bc A k 1 (2 * ((k : Int) + 1)) (2 * ((k : Int) + 1)) (fun c hc => h c (List.Mem.tail _ hc)) (by omega) (by omega)
  show inF bc ((c, 2 * max (k : Int) (((0 : Nat) : Int) + 1)) :: A.zip (rowK k 1 A.length)) _ _ _ = _
  unfold inF
  dsimp only
  rw [e1, if_pos (by unfold bigM; omega), e2, ih]
  refine Prod.ext ?_ (Prod.ext ?_ rfl)
  · show _ :: rowK (k + 1) 1 A.length = rowK (k + 1) 0 (A.length + 1)
    rw [rowK]
    congr 1
    omega
  · dsimp only
    by_cases hA : A = []
    · rw [if_pos hA, hA]; simp; omega
    · rw [if_neg hA]; omega
end Mine
namespace Mine
theorem outF_far (c : Nat) (A : List Nat) : ∀ (B : List Nat) (k : Nat) (res mx : Int), k + B.length ≤ 100 → (∀ b ∈ B, ∀ x ∈ c :: A, b ≠ x) → 2 * ((k : Int) + B.length) ≤ mx → (B = [] → res = 2 * max (k : Int) ((A.length : Int) + 1)) →
    outF (c :: A) B k (rowK k 0 (A.length + 1)) res mx = 2 * max ((k : Int) + B.length) ((A.length : Int) + 1)
  | [], k, res, mx, _, _, _, hr => by
    rw [outF, hr rfl]; simp
  | b :: B, k, res, mx, hk, h, hm, _ => by
    rw [List.length_cons] at hk hm
    have e := inF_row b c A k (by omega) (h b (List.Mem.head _))
    unfold outF
    rw [e]
    dsimp only
    rw [if_neg (by omega)]
    have e2 : (k : Int) + 1 = ((k + 1 : Nat) : Int) := by omega
    have ih := outF_far c A B (k + 1) (2 * max ((k : Int) + 1) ((A.length : Int) + 1)) mx (by omega) (fun b hb => h b (List.Mem.tail _ hb)) (by omega) (fun hB => by omega)
    rw [e2] at ih ⊢
    rw [ih, List.length_cons]
    omega
theorem outF_near (c : Nat) (A : List Nat) : ∀ (B : List Nat) (k : Nat) (res mx : Int), B ≠ [] → k + B.length ≤ 100 → (∀ b ∈ B, ∀ x ∈ c :: A, b ≠ x) → mx = 2 * ((k : Int) + B.length) - 1 →
    outF (c :: A) B k (rowK k 0 (A.length + 1)) res mx = mx + 1
  | [], _, _, _, hne, _, _, _ => absurd rfl hne
  | b :: B, k, res, mx, _, hk, h, hm => by
    rw [List.length_cons] at hk hm
    have e := inF_row b c A k (by omega) (h b (List.Mem.head _))
    unfold outF
    rw [e]
    dsimp only
    by_cases hB : B = []
    · rw [if_pos (by rw [hB] at hm; simp at hm; omega)]
    · have hl : 0 < B.length := List.length_pos_iff.mpr hB
      rw [if_neg (by omega)]
      have e2 : (k : Int) + 1 = ((k + 1 : Nat) : Int) := by omega
      have ih := outF_near c A B (k + 1) (2 * max ((k : Int) + 1) ((A.length : Int) + 1)) mx hB (by omega) (fun b hb => h b (List.Mem.tail _ hb)) (by omega)
      rw [e2] at ih ⊢
      exact ih
/-- two texts without a letter in common -/
theorem levR_far {A B A' B' : List Nat} {mx : Int} (hA : A.length ≤ 40) (hB : B.length ≤ 40) (hd : ∀ a ∈ A, ∀ b ∈ B, a ≠ b) (hsw : (B.length < A.length ∧ A' = B ∧ B' = A) ∨ (¬ B.length < A.length ∧ A' = A ∧ B' = B))
    (hm : mx = 2 * max (A.length : Int) (B.length : Int) ∨ mx = 2 * max (A.length : Int) (B.length : Int) - 1) : levR A B A' B' mx = 2 * max (A.length : Int) (B.length : Int) := by
  unfold levR
  by_cases h0 : A = [] ∨ B = []
  · rw [if_pos h0]
    rcases h0 with h | h <;> rw [h] <;> simp <;> omega
  · rw [if_neg h0]
    have hA0 : A ≠ [] := fun e => h0 (.inl e)
    have hB0 : B ≠ [] := fun e => h0 (.inr e)
    have key : ∀ X Y : List Nat, X ≠ [] → Y ≠ [] → X.length ≤ Y.length → Y.length ≤ 40 → (∀ y ∈ Y, ∀ x ∈ X, y ≠ x) → (mx = 2 * (Y.length : Int) ∨ mx = 2 * (Y.length : Int) - 1) → levT X Y mx = 2 * (Y.length : Int) := by
      intro X Y hX hY hl h40 hdis hmx
      cases X with
      | nil => exact absurd rfl hX
      | cons c X =>
        rw [List.length_cons] at hl
        unfold levT
        rw [if_neg (by rw [List.length_cons]; omega), List.length_cons, row0_K]
        rcases hmx with e | e
        · have := outF_far c X Y 0 0 mx (by omega) hdis (by omega) (fun h => absurd h hY)
          rw [Int.natCast_zero] at this
          rw [this]; omega
        · have := outF_near c X Y 0 0 mx hY (by omega) hdis (by omega)
          rw [Int.natCast_zero] at this
          rw [this]; omega
    rcases hsw with ⟨h, rfl, rfl⟩ | ⟨h, rfl, rfl⟩
    · rw [key _ _ hB0 hA0 (by omega) hA hd (by omega)]; omega
    · rw [key _ _ hA0 hB0 (by omega) hB (fun y hy x hx => (hd x hx y hy).symm) (by omega)]; omega
end Mine
end

section
set_option maxRecDepth 100000
set_option maxHeartbeats 4000000
namespace Mine
open PySem
/-- the letters of a group -/
noncomputable def Gp (k : Nat) : List Nat := [[102, 105, 108], [114, 115, 116], [107, 109, 118, 119], [97, 104, 112]].getD k []
theorem sign_grp : ∀ k, k < 4 → ∀ i, i < 8 → ∀ c ∈ ((signM k).getD i Str.empty).cps.toList, c ∈ Gp k := by decide +kernel
theorem sign_ne : ∀ k, k < 4 → ∀ i, i < 8 → 0 < ((signM k).getD i Str.empty).cps.toList.length := by decide +kernel
theorem LT_eq (k : Nat) (x : Int) : LT k x = ((signM k).getD (restI x 4 8) Str.empty).cps.toList ++ ((signM k).getD (restI x 32 8) Str.empty).cps.toList := by
  unfold LT restL
  rw [Str.cps_append, Array.toList_append]
theorem LT_grp {k : Nat} (hk : k < 4) (x : Int) : ∀ c ∈ LT k x, c ∈ Gp k := by
  intro c hc
  rw [LT_eq] at hc
  rcases List.mem_append.mp hc with h | h
  · exact sign_grp k hk _ (restI_lt x 4 (b := 8) (by decide)) c h
  · exact sign_grp k hk _ (restI_lt x 32 (b := 8) (by decide)) c h
theorem grp_disj0 : ∀ k, k < 4 → ∀ k', k' < 4 → ∀ c ∈ Gp k, k = k' ∨ (Gp k').contains c = false := by decide +kernel
theorem grp_disj {k k' c : Nat} (h1 : k < 4) (h2 : k' < 4) (hne : k ≠ k') (hc : c ∈ Gp k) : c ∉ Gp k' := by
  intro h
  rcases grp_disj0 k h1 k' h2 c hc with e | e
  · exact hne e
  · rw [List.contains_iff_mem.mpr h] at e; cases e
theorem grp_low : ∀ k, k < 4 → ∀ c ∈ Gp k, c ∈ lowL := by decide +kernel
/-- where each letter of a name comes from -/
theorem Dp_grp (ns : List Int) : ∀ j, j ≤ 4 → ∀ c ∈ Dp ns j, ∃ k, k < j ∧ c ∈ Gp k
  | 0, _, c, hc => nomatch hc
  | j + 1, hj, c, hc => by
    rw [Dp_succ] at hc
    rcases List.mem_append.mp hc with h | h
    · obtain ⟨k, hk, hg⟩ := Dp_grp ns j (by omega) c (List.mem_of_mem_take h)
      exact ⟨k, by omega, hg⟩
    · exact ⟨j, by omega, LT_grp (by omega) _ c h⟩
/-- the front that two names share -/
noncomputable def frontN (ns : List Int) (j : Nat) : Nat → Nat
  | 0 => (Dp ns (j + 1)).length
  | n + 1 => min (frontN ns j n) (frk ns (j + 1 + n)).toNat
theorem front_law (ns : List Int) (j : Nat) : ∀ n, j + n < 4 → frontN ns j n ≤ (Dp ns (j + 1 + n)).length ∧ frontN ns j n ≤ (Dp ns (j + 1)).length ∧ (Dp ns (j + 1 + n)).take (frontN ns j n) = (Dp ns (j + 1)).take (frontN ns j n) ∧
    ∀ c ∈ (Dp ns (j + 1 + n)).drop (frontN ns j n), ∃ k, j < k ∧ k ≤ j + n ∧ c ∈ Gp k
  | 0, _ => by
    refine ⟨Nat.le_refl _, Nat.le_refl _, rfl, ?_⟩
    intro c hc
    rw [frontN, Nat.add_zero, List.drop_length] at hc
    exact nomatch hc
  | n + 1, hn => by
    obtain ⟨h1, h2, h3, h4⟩ := front_law ns j n (by omega)
    have hf := frk_bd ns (j + 1 + n)
    have hD : Dp ns (j + 1 + (n + 1)) = (Dp ns (j + 1 + n)).take (frk ns (j + 1 + n)).toNat ++ LT (j + 1 + n) (xk ns (j + 1 + n)) := Dp_succ ns (j + 1 + n)
    generalize hfe : (frk ns (j + 1 + n)).toNat = f at hD
    have hfl : f ≤ (Dp ns (j + 1 + n)).length := by omega
    have hp : frontN ns j (n + 1) = min (frontN ns j n) f := by rw [frontN, hfe]
    rw [hp, hD]
    generalize frontN ns j n = p at h1 h2 h3 h4
    have hlt : ((Dp ns (j + 1 + n)).take f).length = f := by rw [List.length_take]; omega
    refine ⟨by rw [List.length_append, hlt]; omega, by omega, ?_, ?_⟩
    · rw [List.take_append_of_le_length (by rw [hlt]; omega), List.take_take]
      have e1 : min (min p f) f = min (min p f) p := by omega
      rw [e1, ← List.take_take, h3, List.take_take]
      congr 1
      omega
    · intro c hc
      rw [List.drop_append_of_le_length (by rw [hlt]; omega)] at hc
      rcases List.mem_append.mp hc with h | h
      · rcases Nat.le_total p f with q | q
        · rw [Nat.min_eq_left q, List.drop_take] at h
          obtain ⟨k, a, b, g⟩ := h4 c (List.mem_of_mem_take h)
          exact ⟨k, a, by omega, g⟩
        · rw [Nat.min_eq_right q, List.drop_eq_nil_of_le (by rw [hlt]; exact Nat.le_refl _)] at h
          exact nomatch h
      · exact ⟨j + 1 + n, by omega, by omega, LT_grp (by omega) _ c h⟩
theorem frontN_min (ns : List Int) (j : Nat) : ∀ n, (frontN ns j (n + 1) : Int) = minF ns j n
  | 0 => by
    have hf := frk_bd ns (j + 1)
    simp only [frontN, minF, Nat.add_zero]
    omega
  | n + 1 => by
    have ih := frontN_min ns j n
    have hf := frk_bd ns (j + 2 + n)
    rw [frontN, minF, ← ih, show j + 1 + (n + 1) = j + 2 + n by omega]
    omega
end Mine
end

section
open PySem PySem.W PySem.Calls PySem.Spec PyProof.Rows
set_option maxRecDepth 100000
set_option maxHeartbeats 4000000
namespace Mine
theorem lev_pair (w : World) (mean : ExcName → Option Value) (mg mb : Str → Option Value) (nw : List (Addr × Obj)) (X Y : List Nat) (p : Nat) (b far : Int) (t1 t2 t3 : Tok) (hx : X.length ≤ 40) (hy : Y.length ≤ 40) (hne : X ≠ Y) (hpx : p ≤ X.length) (hpy : p ≤ Y.length) (hpe : X.take p = Y.take p)
    (hd : ∀ a ∈ X.drop p, ∀ b ∈ Y.drop p, a ≠ b) (hloX : ∀ c ∈ X, c ∈ lowL) (hloY : ∀ c ∈ Y, c ∈ lowL) (hf : far = 2 * max (X.length : Int) (Y.length : Int) - 2 * p) (hb : b = far ∨ b = far - 1) :
    MClaim2 w mean mg mb 99 nw (fun _ => True) [.str (S X) t1, .str (S Y) t2, .int b t3] (fun r nw' => nw' = nw ∧ ∃ t, r = .int far t) := by
  have hlA : (X.drop p).length = X.length - p := List.length_drop
  have hlB : (Y.drop p).length = Y.length - p := List.length_drop
  have hst : p = X.length ∨ p = Y.length ∨ X[p]? ≠ Y[p]? := by
    rcases Nat.lt_or_ge p X.length with h1 | h1
    · rcases Nat.lt_or_ge p Y.length with h2 | h2
      · refine .inr (.inr fun e => ?_)
        rw [List.getElem?_eq_getElem h1, List.getElem?_eq_getElem h2] at e
        refine hd X[p] ?_ Y[p] ?_ (Option.some.inj e)
        · rw [List.drop_eq_getElem_cons h1]; exact List.Mem.head _
        · rw [List.drop_eq_getElem_cons h2]; exact List.Mem.head _
      · exact .inr (.inl (by omega))
    · exact .inl (by omega)
  have hla : X.drop p = [] ∨ Y.drop p = [] ∨ (X.drop p).getLast? ≠ (Y.drop p).getLast? := by
    by_cases h1 : X.drop p = []
    · exact .inl h1
    · by_cases h2 : Y.drop p = []
      · exact .inr (.inl h2)
      · refine .inr (.inr fun e => ?_)
        rw [List.getLast?_eq_some_getLast h1, List.getLast?_eq_some_getLast h2] at e
        exact hd _ (List.getLast_mem h1) _ (List.getLast_mem h2) (Option.some.inj e)
  have go : ∀ A' B' : List Nat, ((Y.drop p).length < (X.drop p).length ∧ A' = Y.drop p ∧ B' = X.drop p) ∨ (¬ (Y.drop p).length < (X.drop p).length ∧ A' = X.drop p ∧ B' = Y.drop p) →
      MClaim2 w mean mg mb 99 nw (fun _ => True) [.str (S X) t1, .str (S Y) t2, .int b t3] (fun r nw' => nw' = nw ∧ ∃ t, r = .int far t) := by
    intro A' B' hsw
    have h := lev_spec w mean mg mb nw X Y b t1 t2 t3 hx hy hne p hpx hpy hpe hst (Y.drop p) (X.drop p) rfl rfl hla A' B' hsw hloX hloY
    have e : levR (X.drop p) (Y.drop p) A' B' b = far := by
      rw [levR_far (by omega) (by omega) hd hsw (by omega)]
      omega
    rw [e] at h
    exact h
  by_cases h : (Y.drop p).length < (X.drop p).length
  · exact go _ _ (.inl ⟨h, rfl, rfl⟩)
  · exact go _ _ (.inr ⟨h, rfl, rfl⟩)
theorem LT_pos {k : Nat} (hk : k < 4) (x : Int) : ∃ c, c ∈ LT k x := by
  rw [LT_eq]
  have h := sign_ne k hk _ (restI_lt x 4 (b := 8) (by decide))
  obtain ⟨c, hc⟩ := List.exists_mem_of_length_pos h
  exact ⟨c, List.mem_append_left _ hc⟩
theorem Dp_low (ns : List Int) (j : Nat) (hj : j ≤ 4) : ∀ c ∈ Dp ns j, c ∈ lowL := by
  intro c hc
  obtain ⟨k, hk, hg⟩ := Dp_grp ns j hj c hc
  exact grp_low k (by omega) c hg
theorem hL_law (w : World) (mean : ExcName → Option Value) (mg mb : Str → Option Value) (ns : List Int) : ∀ i j : Nat, j < i → i < 4 → ∀ b : Int, b = farF ns i j ∨ b = farF ns i j - 1 → ∀ nw t1 t2 t3, MClaim2 w mean mg mb 99 nw (fun _ => True) [.str (S (Dp ns (i + 1))) t1, .str (S (Dp ns (j + 1))) t2, .int b t3] (fun r nw' => nw' = nw ∧ ∃ t, r = .int (farF ns i j) t) ∧ MClaim2 w mean mg mb 99 nw (fun _ => True) [.str (S (Dp ns (j + 1))) t1, .str (S (Dp ns (i + 1))) t2, .int b t3] (fun r nw' => nw' = nw ∧ ∃ t, r = .int (farF ns i j) t) := by
  intro i j hji hi b hb nw t1 t2 t3
  obtain ⟨n, rfl⟩ : ∃ n, i = j + (n + 1) := ⟨i - j - 1, by omega⟩
  obtain ⟨h1, h2, h3, h4⟩ := front_law ns j (n + 1) (by omega)
  have ei : j + 1 + (n + 1) = j + (n + 1) + 1 := by omega
  rw [ei] at h1 h3 h4
  have hp := frontN_min ns j n
  have hf : farF ns (j + (n + 1)) j = 2 * max ((Dp ns (j + (n + 1) + 1)).length : Int) ((Dp ns (j + 1)).length : Int) - 2 * (frontN ns j (n + 1) : Int) := by
    rw [farF, hp, show j + (n + 1) - j - 1 = n by omega]
  have hdis : ∀ a ∈ (Dp ns (j + (n + 1) + 1)).drop (frontN ns j (n + 1)), ∀ c ∈ Dp ns (j + 1), a ≠ c := by
    intro a ha c hc e
    subst e
    obtain ⟨k, k1, k2, kg⟩ := h4 a ha
    obtain ⟨k', k1', kg'⟩ := Dp_grp ns (j + 1) (by omega) a hc
    exact grp_disj (by omega) (by omega) (by omega) kg kg'
  have hne : Dp ns (j + (n + 1) + 1) ≠ Dp ns (j + 1) := by
    intro e
    obtain ⟨c, hc⟩ := LT_pos hi (xk ns (j + (n + 1)))
    have hc2 : c ∈ Dp ns (j + (n + 1) + 1) := by rw [Dp_succ]; exact List.mem_append_right _ hc
    rw [e] at hc2
    obtain ⟨k', k1', kg'⟩ := Dp_grp ns (j + 1) (by omega) c hc2
    exact grp_disj hi (by omega) (by omega) (LT_grp hi _ c hc) kg'
  have l1 := Dp_len ns (j + (n + 1) + 1)
  have l2 := Dp_len ns (j + 1)
  have w1 := Dp_low ns (j + (n + 1) + 1) (by omega)
  have w2 := Dp_low ns (j + 1) (by omega)
  exact ⟨lev_pair w mean mg mb nw _ _ _ b _ t1 t2 t3 (by omega) (by omega) hne h1 h2 h3 (fun a ha c hc => hdis a ha c (List.mem_of_mem_drop hc)) w1 w2 hf hb,
    lev_pair w mean mg mb nw _ _ _ b _ t1 t2 t3 (by omega) (by omega) hne.symm h2 h1 h3.symm (fun a ha c hc => (hdis c hc a (List.mem_of_mem_drop ha)).symm) w2 w1 (by rw [hf]; omega) hb⟩
end Mine
end

section
open PySem PySem.W PySem.Calls PySem.Spec PyProof.Rows
set_option maxRecDepth 100000
set_option maxHeartbeats 4000000
namespace Mine
theorem last0 : ∀ d : Nat, d < 64 → ∀ p : Nat, p < 2 → Builtin.bitAnd ((d : Int) + 128 * (p : Int)) 64 = 0 ∧ Builtin.bitAnd ((d : Int) + 128 * (p : Int)) 63 = (d : Int) := by decide +kernel
theorem more0 : ∀ d : Nat, d < 64 → ∀ p : Nat, p < 2 → Builtin.bitAnd ((d : Int) + 64 + 128 * (p : Int)) 64 ≠ 0 ∧ Builtin.bitAnd ((d : Int) + 64 + 128 * (p : Int)) 63 = (d : Int) := by decide +kernel
theorem par_of (i : Nat) : ∃ p : Nat, p < 2 ∧ ((i : Int).fmod 2) = (p : Int) := by
  have := fm_bd (i : Int) (k := 2) (by decide)
  exact ⟨((i : Int).fmod 2).toNat, by omega, by omega⟩
theorem last_oct {d : Int} (h0 : 0 ≤ d) (h1 : d < 64) (i : Nat) : Builtin.bitAnd (d + 128 * ((i : Int).fmod 2)) 64 = 0 ∧ Builtin.bitAnd (d + 128 * ((i : Int).fmod 2)) 63 = d := by
  obtain ⟨p, hp, e⟩ := par_of i
  obtain ⟨n, rfl⟩ : ∃ n : Nat, d = n := ⟨d.toNat, by omega⟩
  rw [e]
  exact last0 n (by omega) p hp
theorem more_oct {d : Int} (h0 : 0 ≤ d) (h1 : d < 64) (i : Nat) : Builtin.bitAnd (d + 64 + 128 * ((i : Int).fmod 2)) 64 ≠ 0 ∧ Builtin.bitAnd (d + 64 + 128 * ((i : Int).fmod 2)) 63 = d := by
  obtain ⟨p, hp, e⟩ := par_of i
  obtain ⟨n, rfl⟩ : ∃ n : Nat, d = n := ⟨d.toNat, by omega⟩
  rw [e]
  exact more0 n (by omega) p hp
theorem and_shift (v d : Nat) (h : d < 64) : (v * 64) &&& d = 0 := by
  apply Nat.eq_of_testBit_eq
  intro i
  rw [Nat.testBit_and, Nat.zero_testBit]
  rcases Nat.lt_or_ge i 6 with hi | hi
  · have : (v * 64).testBit i = false := by
      rw [show v * 64 = 2 ^ 6 * v by omega, Nat.testBit_two_pow_mul]
      simp; omega
    rw [this, Bool.false_and]
  · have : d.testBit i = false := Nat.testBit_lt_two_pow (Nat.lt_of_lt_of_le h (show 2 ^ 6 ≤ 2 ^ i from Nat.pow_le_pow_right (by decide) hi))
    rw [this, Bool.and_false]
theorem or_shift {v d : Int} (hv : 0 ≤ v) (h0 : 0 ≤ d) (h1 : d < 64) : Builtin.bitOr (v * 2 ^ 6) d = v * 64 + d := by
  obtain ⟨n, rfl⟩ : ∃ n : Nat, v = n := ⟨v.toNat, by omega⟩
  obtain ⟨k, rfl⟩ : ∃ n : Nat, d = n := ⟨d.toNat, by omega⟩
  have e : Builtin.bitAnd ((n : Int) * 2 ^ 6) (k : Int) = 0 := by
    have e1 : (n : Int) * 2 ^ 6 = ((n * 64 : Nat) : Int) := by omega
    rw [e1]
    have e2 : Builtin.bitAnd ((n * 64 : Nat) : Int) (k : Int) = (((n * 64) &&& k : Nat) : Int) := rfl
    rw [e2, and_shift n k (by omega)]
    rfl
  rw [bitOr_and, e]
  omega
end Mine
namespace Mine
theorem decF_last {b v : Int} {r : List Int} (hb : Builtin.bitAnd b 64 = 0) : decF b v r = some (v, 0) := by
  unfold decF
  rw [if_pos hb]
theorem decF_more {b v c n : Int} {r : List Int} {k : Nat} (hb : Builtin.bitAnd b 64 ≠ 0) (h0 : 0 ≤ v) (h1 : v < 1000000) (h : decF c (Builtin.bitOr (v * 2 ^ 6) (Builtin.bitAnd c 63)) r = some (n, k)) : decF b v (c :: r) = some (n, k + 1) := by
  conv => lhs; unfold decF
  rw [if_neg hb]
  dsimp only
  rw [if_pos ⟨h0, h1⟩, h]
  rfl
/-- the octets of a number, the first at place i -/
noncomputable def octs (i : Nat) : List Int → List Int
  | [] => []
  | d :: r => (d + 128 * ((i : Int).fmod 2)) :: octs (i + 1) r
theorem octs_length (i : Nat) : ∀ l : List Int, (octs i l).length = l.length := by
  intro l
  induction l generalizing i with
  | nil => rfl
  | cons d r ih => rw [octs, List.length_cons, List.length_cons, ih]
theorem octs_append (i : Nat) : ∀ l m : List Int, octs i (l ++ m) = octs i l ++ octs (i + l.length) m := by
  intro l
  induction l generalizing i with
  | nil => intro m; rfl
  | cons d r ih =>
    intro m
    rw [List.cons_append, octs, ih, octs, List.cons_append, List.length_cons]
    congr 3
    omega
theorem digs_dec (n : Int) (h0 : 0 ≤ n) (h1 : n < 262144) (i : Nat) (rest : List Int) : ∃ c t, octs i (digs n) = c :: t ∧ decF c (Builtin.bitAnd c 63) (t ++ rest) = some (n, t.length) := by
  by_cases ha : n < 64
  · have e : digs n = [n] := by
      unfold digs
      rw [digN_stop ha, Int.fmod_eq_emod_of_nonneg _ (by decide)]
      congr 1
      omega
    rw [e]
    have ⟨l1, l2⟩ := last_oct h0 ha i
    exact ⟨_, _, rfl, by rw [l2]; exact decF_last l1⟩
  · by_cases hb : n < 4096
    · have e : digs n = [n / 64 + 64, n % 64] := by
        unfold digs digN
        rw [if_pos (by omega), Int.fdiv_eq_ediv_of_nonneg _ (by decide), Int.fmod_eq_emod_of_nonneg _ (by decide), Int.fmod_eq_emod_of_nonneg _ (by decide), digN_stop (by omega)]
        congr 2
        omega
      rw [e]
      have ⟨l1, l2⟩ := more_oct (d := n / 64) (by omega) (by omega) i
      have ⟨m1, m2⟩ := last_oct (d := n % 64) (by omega) (by omega) (i + 1)
      refine ⟨_, _, rfl, ?_⟩
      rw [l2]
      refine decF_more l1 (by omega) (by omega) ?_
      rw [m2, or_shift (by omega) (by omega) (by omega), decF_last m1]
      congr 2
      omega
    · have e : digs n = [n / 4096 + 64, n / 64 % 64 + 64, n % 64] := by
        unfold digs digN
        rw [if_pos (by omega), Int.fdiv_eq_ediv_of_nonneg _ (by decide), Int.fmod_eq_emod_of_nonneg _ (by decide), Int.fmod_eq_emod_of_nonneg _ (by decide)]
        unfold digN
        rw [if_pos (by omega), Int.fdiv_eq_ediv_of_nonneg _ (by decide), Int.fmod_eq_emod_of_nonneg _ (by decide), digN_stop (by omega)]
        congr 2
        omega
      rw [e]
      have ⟨l1, l2⟩ := more_oct (d := n / 4096) (by omega) (by omega) i
      have ⟨k1, k2⟩ := more_oct (d := n / 64 % 64) (by omega) (by omega) (i + 1)
      have ⟨m1, m2⟩ := last_oct (d := n % 64) (by omega) (by omega) (i + 1 + 1)
      refine ⟨_, _, rfl, ?_⟩
      rw [l2]
      refine decF_more l1 (by omega) (by omega) ?_
      rw [k2, or_shift (by omega) (by omega) (by omega)]
      refine decF_more k1 (by omega) (by omega) ?_
      rw [m2, or_shift (by omega) (by omega) (by omega), decF_last m1]
      congr 2
      omega
end Mine
end

section
open PySem PySem.W PySem.Calls PySem.Spec PyProof.Rows
set_option maxRecDepth 100000
set_option maxHeartbeats 4000000
namespace Mine
theorem octs_map (l : List Int) : ∀ (m : List Int) (i : Nat), l.drop i = m → octs i m = (List.range' i m.length).map (octP l)
  | [], _, _ => rfl
  | d :: r, i, h => by
    have hd : l.getD i 0 = d := by
      have h1 : (l.drop i)[0]? = some d := by rw [h]; rfl
      rw [List.getElem?_drop, Nat.add_zero] at h1
      rw [List.getD_eq_getElem?_getD, h1]; rfl
    have hr : l.drop (i + 1) = r := by
      rw [← List.drop_drop, h]; rfl
    rw [octs, octs_map l r (i + 1) hr, List.length_cons, List.range'_succ, List.map_cons, octP, hd]
theorem octL_eq (ns : List Int) : octL ns = octs 0 ((ns.map digs).flatten) := by
  rw [octL, octs_map ((ns.map digs).flatten) ((ns.map digs).flatten) 0 rfl, List.range_eq_range']
noncomputable def offN (ns : List Int) (i : Nat) : Nat := (((ns.take i).map digs).flatten).length
theorem tape_law (ns : List Int) (hb : ∀ n ∈ ns, 0 ≤ n ∧ n < 262144) : TapeOk (octL ns) ns (offN ns) where
  zero := rfl
  fin := by rw [octL_eq, octs_length, offN, List.take_length]
  item := by
    intro i n hn
    have hi : i < ns.length := (List.getElem?_eq_some_iff.mp hn).1
    have hbn := hb n (List.mem_of_getElem? hn)
    have e1 : ns = ns.take i ++ n :: ns.drop (i + 1) := by
      have h := List.drop_eq_getElem_cons hi
      have h2 : ns[i] = n := by rw [List.getElem?_eq_getElem hi] at hn; exact Option.some.inj hn
      rw [h2] at h
      rw [← h, List.take_append_drop]
    have e2 : (ns.map digs).flatten = ((ns.take i).map digs).flatten ++ (digs n ++ ((ns.drop (i + 1)).map digs).flatten) := by
      conv => lhs; rw [e1]
      rw [List.map_append, List.flatten_append, List.map_cons, List.flatten_cons]
    have e3 : octL ns = octs 0 (((ns.take i).map digs).flatten) ++ (octs (0 + offN ns i) (digs n) ++ octs (0 + offN ns i + (digs n).length) (((ns.drop (i + 1)).map digs).flatten)) := by
      rw [octL_eq, e2, octs_append, octs_append]
      rfl
    generalize octs (0 + offN ns i + (digs n).length) (((ns.drop (i + 1)).map digs).flatten) = rest at e3
    obtain ⟨c, t, ec, ed⟩ := digs_dec n hbn.1 hbn.2 (0 + offN ns i) rest
    have hl : (octs 0 (((ns.take i).map digs).flatten)).length = offN ns i := by rw [octs_length]; rfl
    have hdl : (digs n).length = t.length + 1 := by
      have := congrArg List.length ec
      rw [octs_length] at this
      exact this
    rw [ec] at e3
    refine ⟨c, t.length, ?_, ?_, ?_⟩
    · rw [e3, List.getElem?_append_right (by omega), hl, Nat.sub_self]
      rfl
    · rw [e3, List.drop_append, hl, List.drop_eq_nil_of_le (by omega), List.nil_append, Nat.add_sub_cancel_left]
      exact ed
    · unfold offN
      rw [List.take_add_one, hn, List.map_append, List.flatten_append, List.length_append]
      simp only [Option.toList_some, List.map_cons, List.map_nil, List.flatten_cons, List.flatten_nil, List.append_nil]
      omega
end Mine
end

section
open PySem PySem.W PySem.Calls PySem.Spec PyProof.Rows
set_option maxRecDepth 100000
set_option maxHeartbeats 4000000
namespace Mine
noncomputable def yOk (l : List Nat) : Prop := l ≠ [] ∧ l[0]? ≠ some 121 ∧ (121 :: l).getLast? ≠ (l ++ [122]).getLast? ∧ levR (121 :: l) (l ++ [122]) (121 :: l) (l ++ [122]) 4 = 4 ∧ levR (121 :: l) (l ++ [122]) (121 :: l) (l ++ [122]) 3 = 4 ∧ levR (121 :: l) (l ++ [122]) (121 :: l) (l ++ [122]) 0 = 1

theorem y_all : ∀ i, i < 8 → ∀ j, j < 8 → yOk (((signM 0).getD i Str.empty).cps.toList ++ ((signM 0).getD j Str.empty).cps.toList) := by unfold yOk; decide +kernel
theorem y_law (x : Int) : yOk (LT 0 x) := by
  rw [LT_eq]
  exact y_all _ (restI_lt x 4 (b := 8) (by decide)) _ (restI_lt x 32 (b := 8) (by decide))
theorem Dp_one (ns : List Int) : Dp ns 1 = LT 0 (xk ns 0) := by
  rw [Dp_succ]
  show ([] : List Nat).take _ ++ _ = _
  rw [List.take_nil, List.nil_append]
theorem low_ok : ∀ c ∈ lowL, c < 0x110000 := by decide
theorem Dp_ok (ns : List Int) (j : Nat) (hj : j ≤ 4) : PyData.strOk (S (Dp ns j)) = true := by
  show ((S (Dp ns j)).cps.all (· < 0x110000)) = true
  rw [Array.all_eq_true_iff_forall_mem]
  intro c hc
  exact decide_eq_true (low_ok c (Dp_low ns j hj c (by simpa [S] using hc)))
theorem dueL_ok (ns : List Int) : ∀ d ∈ dueL ns 4, PyData.strOk (S d) = true := by
  intro d hd
  unfold dueL at hd
  obtain ⟨i, hi, rfl⟩ := List.mem_map.mp hd
  exact Dp_ok ns (i + 1) (by have := List.mem_range.mp hi; omega)
end Mine
end

section
open PySem PySem.W PySem.Calls PySem.Spec PyProof.Rows
set_option maxRecDepth 100000
set_option maxHeartbeats 8000000
set_option pp.deepTerms false
set_option pp.maxSteps 3000
namespace Mine
open PyProof
section
local macro_rules | `(tactic| walk_at "exec For Name Call cons nil") => `(tactic| refine Hold.out ?_)
local macro_rules | `(tactic| walk_at "execs cons") => `(tactic| refine Hold.out ?_)
local macro_rules | `(tactic| k_all) => `(tactic| exact allNe_lt (by assumption) (by omega))
local macro_rules | `(tactic| ktr_unf) => `(tactic| repeat' (first | (k_unfold; (try dsimp only)) | (k_end; wrow_close) | (walk1 <;> (try dsimp only)) | (dsimp only; walk1) | (leave1; walk_say "STEP leave1"; try dsimp only) | fail "no step"))
theorem law_body (w : World) (mean : ExcName → Option Value) (mg mb : Str → Option Value) (sl : Addr) (vs : List Value) (ns : List Int) (o1 o2 : Obj) (hI : IntsAre vs ns) (hns : ns.length ≤ 1000000) (ho1 : o1.data = .cell none) (ho2 : o2.data = .cell none)
    : ∀ (H : Heap) (fa cw LL : Addr) (s : Shared) (Qk : Flow → Shared → Prop) (Ek : Value → Shared → Prop),
      (KF w.params).In H → Top qv (looseW qv lo) mean mg mb H → Below callerA H [] H → Tabs w H → H.IsList sl vs.toArray →
      Fr H LL s.heap (KB [(Str.ofString "script", .ref sl)]) → News H LL s.heap ((LL + 1 + 1, o2) :: (LL + 1, o1) :: []) →
      PassesOwn (model PySem.Challenge.rw_rl0108_01.row.prog w) (AL fa cw LL) (EL fa cw LL) Ek → (∀ x : Value, PassesOwnAt (model PySem.Challenge.rw_rl0108_01.row.prog w) ((AL fa cw LL).mark (some x)) (AL fa cw LL) (EL fa cw LL) Ek) →
      (∀ (h' : Heap) (tk' : Nat) (m' : Str → Option Value), Fr H LL h' m' → Qk (.ret (.bool true)) { s with heap := h', toks := tk' }) →
      wpAny (model PySem.Challenge.rw_rl0108_01.row.prog w) (AL fa cw LL) (execs [lawS 0, lawS 1, lawS 2, lawS 3, lawS 4, lawS 5, lawS 6, lawS 7, lawS 8, lawS 9, lawS 10] (EL fa cw LL)) Qk Ek s := by
  w_on
  k_fill
  intro H fa cw LL s Qk Ek X1 T1 B1 hTab2 hsl F1 N1 hPO hPA hret
  have hSt : ∀ k, execs [lawS 0, lawS 1, lawS 2, lawS 3, lawS 4, lawS 5, lawS 6, lawS 7, lawS 8, lawS 9, lawS 10] k = execs [lawS 0, lawS 1, lawS 2, lawS 3, lawS 4, lawS 5, lawS 6, lawS 7, lawS 8, lawS 9, lawS 10] k := fun _ => rfl
  clear hSt
  refine wpAny_execs_cons ?_
  conv => enter [3, 1]; whnf
  ktr_unf
  refine Hold.go (wpAny_execs_cons ?_)
  conv => enter [3, 1]; whnf
  ktr_unf
  refine Hold.go (wpAny_execs_cons ?_)
  conv => enter [3, 1]; whnf
  ktr_unf
  rename_i Dd h1 l1 h2 Df h3 l2 h4 Dn h5 l3 h6 F2 N2
  refine Hold.go (wpAny_execs_cons ?_)
  refine law_for w mean mg mb sl Dd Df Dn vs ns o1 o2 hI hns H fa cw LL _ (KB []) _ _ X1 T1 B1 hTab2 hsl (by exact F2) N2 l1.1 l2.1 l3.1 hPO ?_
  clear F2 N2
  intro h7 tk7 m7 dvs fvs nvs de fe ne F7 N7 hdv hfv hnv
  dsimp only
  refine wpAny_execs_cons ?_
  refine law_iter w mean mg mb sl Dd Df Dn nvs (numL ns 4) ne de fe dvs fvs o1 o2 hnv (numL_bd ns 4) (by rw [numL_len]; decide) ho1 ho2 H fa cw LL _ m7 _ _ X1 T1 B1 hTab2 F7 N7 l1.1 l2.1 l3.1 hPO ?_
  clear F7 N7
  intro h8 tk8 it D e ys o1' F8 ho1' N8 hys q1 q2 q3 q4
  dsimp only
  refine wpAny_execs_cons ?_
  conv => enter [3, 1]; whnf
  ktr_unf
  rename_i Dm h9 F9 N9 l4
  refine storeX_C F9 N9 rfl (UpdF.tail (Nat.ne_of_gt l4.2.2.2.2.2.1) (UpdF.tail (Nat.ne_of_gt (q4 (LL + 1 + 1, o2) (List.Mem.tail _ (List.Mem.tail _ (List.Mem.tail _ (List.Mem.head _)))))) (UpdF.tail q3 (UpdF.tail (Nat.ne_of_gt l3.2.2.1) (UpdF.tail (Nat.ne_of_gt l2.2.1) (UpdF.tail (Nat.ne_of_gt l1.1) (UpdF.head (fun p hp => by rw [List.mem_singleton.mp hp]; exact Nat.ne_of_lt (Nat.lt_succ_self _))))))))) ho2 ?_
  clear F9 N9
  intro h10 o2' F10 N10 ho2'
  refine wpAny_execs_cons ?_
  refine law_read w mean mg mb sl Dd Df Dn D it Dm ys e (listOf nvs.toArray ne) (listOf fvs.toArray fe) (listOf dvs.toArray de) o1' o2' (octL (numL ns 4)) ns (offN (numL ns 4)) hys (tape_law _ (numL_bd ns 4)) ho1' ho2' H fa cw LL _ m7 _ _ X1 T1 B1 hTab2 F10 N10 ?_ ?_ hPO hPA ?_
  · intro p hp
    simp only [List.mem_cons, List.not_mem_nil, or_false] at hp
    obtain ⟨a1, a2, a3, a4, a5, a6, a7⟩ := l4
    rcases hp with rfl | rfl | rfl | rfl | rfl | rfl | rfl <;> assumption
  · intro p hp
    rcases List.mem_cons.mp hp with rfl | hp
    · exact q1
    · simp only [List.mem_cons, List.not_mem_nil, or_false] at hp
      rcases hp with rfl | rfl | rfl | rfl | rfl
      · exact q4 (Dn, listOf nvs.toArray ne) (List.Mem.head _)
      · exact q4 (Df, listOf fvs.toArray fe) (List.Mem.tail _ (List.Mem.head _))
      · exact q4 (Dd, listOf dvs.toArray de) (List.Mem.tail _ (List.Mem.tail _ (List.Mem.head _)))
      · exact q4 (LL + 1 + 1, o2) (List.Mem.tail _ (List.Mem.tail _ (List.Mem.tail _ (List.Mem.head _))))
      · exact q4 (LL + 1, o1) (List.Mem.tail _ (List.Mem.tail _ (List.Mem.tail _ (List.Mem.tail _ (List.Mem.head _)))))
  clear F10 N10
  intro h11 tk11 m11 nm me oI F11 N11 hnm
  dsimp only
  refine wpAny_execs_cons ?_
  refine law_cmp w mean mg mb sl Dd Df Dn Dm nm dvs me de (dueL ns 4) hnm hdv (dueL_ok ns) o2' ho2' H fa cw LL _ _ m11 _ _ X1 T1 B1 hTab2 F11 N11 (List.Mem.head _) (List.Mem.tail _ (List.Mem.tail _ (List.Mem.tail _ (List.Mem.tail _ (List.Mem.tail _ (List.Mem.head _)))))) (List.Mem.tail _ (List.Mem.tail _ (List.Mem.tail _ (List.Mem.tail _ (List.Mem.tail _ (List.Mem.tail _ (List.Mem.head _))))))) hPO ?_
  clear F11 N11
  intro h12 tk12 F12 N12
  dsimp only
  obtain ⟨t0, hn0⟩ : ∃ t, nm[0]? = some (.str (S (Dp ns 1)) t) := hnm.get (by simp [dueL])
  have hy := y_law (xk ns 0)
  rw [← Dp_one] at hy
  obtain ⟨y1, y2, y3, y4⟩ := hy
  refine wpAny_execs_cons ?_
  refine law_y w mean mg mb sl Dd Df Dn D it Dm ys e _ _ _ o1' oI nm me (Dp ns 1) t0 hn0 (by have := Dp_len ns 1; omega) y1 (Dp_low ns 1 (by decide)) y2 y3 y4 o2' ho2' H fa cw LL _ m11 _ _ X1 T1 B1 hTab2 F12 N12 hPO ?_
  clear F12 N12
  intro h13 tk13 F13 N13
  dsimp only
  refine wpAny_execs_cons ?_
  refine law_far w mean mg mb sl Dd Df Dn D it Dm ys e _ _ o1' oI nm fvs me fe ns hnm hfv o2' ho2' (hL_law w mean mg mb ns) H fa cw LL _ m11 _ _ X1 T1 B1 hTab2 F13 N13 hPO ?_
  clear F13 N13
  intro h14 tk14 m14 F14 N14
  dsimp only
  refine wpAny_execs_cons ?_
  conv => enter [3, 1]; whnf
  ktr_unf
  exact hret _ _ _ F14
end
end Mine
end

section
open PySem PySem.W PySem.Calls PySem.Spec PyProof.Rows
set_option maxRecDepth 100000
set_option maxHeartbeats 8000000
namespace Mine
theorem saidL : PySem.Challenge.rw_rl0108_01.wellSaid = true := by
  unfold OpenLaw.wellSaid
  repeat' (first | with_reducible refine look_both ?_ ?_ | (unfold OpenRow.wellSaid) | (unfold OpenRow.partSaid) | (unfold looksOpen))
  all_goals decide +kernel
end Mine
end

section
open PySem PySem.W PySem.Calls PySem.Spec PyProof.Rows
set_option maxRecDepth 100000
set_option maxHeartbeats 8000000
set_option pp.deepTerms false
set_option pp.maxSteps 3000
namespace Mine
open PyProof
local macro_rules | `(tactic| k_all) => `(tactic| exact allNe_lt (by assumption) (by omega))
local macro_rules | `(tactic| ktr_unf) => `(tactic| repeat' (first | (k_unfold; (try dsimp only)) | (k_end; wrow_close) | (walk1 <;> (try dsimp only)) | (dsimp only; walk1) | (leave1; walk_say "STEP leave1"; try dsimp only) | fail "no step"))
local macro_rules | `(tactic| k_qdec) => `(tactic| decide +kernel)
theorem row : PySem.Challenge.rw_rl0108_01.Holds := by
  w_on
  refine holds_law saidL fun said => ?_
  refine holds_open (q := qv) (loose := lo) (Xt := xt []) (XP := XL qv []) (Yf := HK.obs) (Ya := HK.val) (YP := HK.says) (N := 14500) left HK.of HK.keeps (fun s e => xl_of s (Bool.and_eq_true_iff.mp e).1) XL.keeps (by rfl) (by rfl) (by rfl) (fun s e => recFacts_of (Bool.and_eq_true_iff.mp e).2) (by rfl) (by assumption) (by decide +kernel) ⟨rfl, rfl, rfl, rfl, rfl, by decide +kernel⟩ ?hw ?hc
  case hw => w_witness2
  k_fill
  intro w s₀ s₁ mg mb G Y fa o pm cd doc dV kV ho hd hcd hD hmg hg args vals as hpre hlay hrd hwl hlo
  have KX : (KF w.params).In s₁.heap := Y.1
  k_behind G ho hd hcd hD hmg hpre hlay hrd hwl hlo cd
  clear hcd hD
  rename Below _ _ _ _ => K0
  rename IntsAre _ _ => hI
  rename Heap.IsList _ _ _ => hsl
  rename Fr _ _ _ _ => F1
  rename News _ _ _ _ => N1
  rename Top _ _ _ _ _ _ => T1
  rename CellsAre _ _ _ => X0
  rename ¬ _ < _ => hc
  have hlen : ∀ {l : List Int}, ¬ ((63 : Nat) : Int) < (l.length : Int) → l.length ≤ 1000000 := fun h => by omega
  with_unfolding_all refine law_body w _ mg mb _ _ _ _ _ hI (hlen hc) ?ho1 ?ho2 s₁.heap fa _ s₁.heap.objs.size _ _ _ KX T1 K0 Y.2 hsl ?F N1 ?PO ?PA ?_
  case ho1 => rename_i hd2; with_unfolding_all exact hd2
  case ho2 => rename_i hd1 _; with_unfolding_all exact hd1
  case F => with_unfolding_all exact F1
  case PO => with_unfolding_all passes_own
  case PA => intro x; with_unfolding_all passes_own
  clear F1 N1 X0
  intro h9 tk9 m9 F9
  try dsimp only
  k_end
  wrow_close
end Mine
end

theorem PySem.Challenge.cw_rl0108_01_holds : PySem.Challenge.rw_rl0108_01.Holds := by
  exact Mine.row
