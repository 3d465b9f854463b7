import PyProof.Rows.All
import Wide.All
import OpenK.AllK
import Wide.FinOn
import PySem.Challenge.RW_ij0132_01
set_option Elab.async false
section G1_
open PySem PySem.W PyProof.Rows
set_option maxRecDepth 100000
set_option Elab.async false
namespace Mine
abbrev pw : Program := PySem.Challenge.pw_ij0132_01
def cEnv : Env := { scope := pw.main.scope, locals := mainNs, globals := mainNs, cells := [], code := .ref 13, frame := some 14 }
def cE : Code := .body pw.main.body cEnv
abbrev B : List Frame := [topFrame ⟨0,0,0,0⟩]
/-- the place of the display -/
abbrev q : Pos := ⟨92, 16, 92, 8704⟩
abbrev GoT (w : World) (n : Nat) (s : SharedT) (c : Sem Fin) : Option (SharedT × Thread) := segGoT treeTable pw w 11 (some (.ref 6)) 1 n s ⟨c, cE, q, B⟩

theorem segGoT_add {tb : String → Option Builtin} {p : Program} {w : World} {n₀ : Nat} {ann : Option Value} {b : Nat} (m : Nat) : ∀ (n : Nat) (s s' : SharedT) (t t' : Thread), segGoT tb p w n₀ ann b n s t = some (s', t') →
    segGoT tb p w n₀ ann b (n + m) s t = segGoT tb p w n₀ ann b m s' t'
  | 0, s, s', t, t', h => by
    obtain ⟨rfl, rfl⟩ : s = s' ∧ t = t' := by simpa [segGoT] using h
    rw [Nat.zero_add]
  | n + 1, s, s', t, t', h => by
    rw [show n + 1 + m = n + m + 1 by omega]
    unfold segGoT at h
    conv => lhs; unfold segGoT
    cases he : endAt b t with
    | some f => rw [he] at h; cases h
    | none =>
      rw [he] at h
      cases hk : stepOk n₀ ann t with
      | false => rw [hk] at h; cases h
      | true =>
        rw [hk] at h
        cases hs : stepT (denote tb) p w s t with
        | none => rw [hs] at h; cases h
        | some r => obtain ⟨s₂, t₂⟩ := r; rw [hs] at h; exact segGoT_add m n s₂ s' t₂ t' h

/-- x runs from s in n steps to a in s' -/
def Run (w : World) {α : Type} (n : Nat) (x : Sem α) (s : SharedT) (a : α) (s' : SharedT) : Prop :=
  ∀ (K : α → Sem Fin) (H : Value → Sem Fin) (gd : Bool → Bool) (lv : List Value → List Value), GoT w n s (x.wrap K H gd lv) = some (s', ⟨K a, cE, q, B⟩)

section
variable {w : World} {α β : Type} {s s' s'' : SharedT} {n m : Nat}
theorem Run.pure (a : α) : Run w 0 (Pure.pure a : Sem α) s a s := fun _ _ _ _ => rfl
theorem Run.bind {x : Sem α} {f : α → Sem β} {a : α} {b : β} (hx : Run w n x s a s') (hf : Run w m (f a) s' b s'') : Run w (n + m) (x >>= f) s b s'' := fun K H gd lv => by
  rw [Sem.bind_eq_wrap', Sem.wrap_wrap]
  exact (segGoT_add m n _ _ _ _ (hx _ _ _ _)).trans (hf K H gd lv)
theorem Run.keep {x : Sem α} {a : α} (vs : List Value) (hx : Run w n x s a s') : Run w n (x.keep vs) s a s' := fun K H gd lv => by
  rw [Sem.keep_eq_wrap, Sem.wrap_wrap]
  exact hx _ _ _ _
theorem Run.holding {x : Sem α} {a : α} (vs : List Value) (hx : Run w n x s a s') : Run w n (PySem.holding vs x) s a s' := by
  unfold PySem.holding
  split
  · exact hx
  · exact hx.keep _
theorem Run.onRaise {x : Sem α} {a : α} (h : Value → Sem Unit) (hx : Run w n x s a s') : Run w n (x.onRaise h) s a s' := fun K H gd lv => by
  rw [Sem.onRaise_eq_wrap, Sem.wrap_wrap]
  exact hx _ _ _ _
theorem Run.tryCatch {x : Sem α} {a : α} (h : Value → Sem α) (hx : Run w n x s a s') : Run w n (x.tryCatch h) s a s' := fun K H gd lv => by
  rw [Sem.tryCatch_eq_wrap, Sem.wrap_wrap]
  exact hx _ _ _ _
theorem Run.fresh : Run w 1 PySem.fresh s s.toks { s with toks := s.toks + 1 } := fun _ _ _ _ => rfl
theorem Run.rule (t : String) : Run w 1 (PySem.rule t) s () s := fun _ _ _ _ => rfl
theorem Run.at : Run w 1 (PySem.standAt q) s () s := fun _ _ _ _ => rfl
theorem Run.ask : Run w 1 PySem.ask s ⟨pw, w.params⟩ s := fun _ _ _ _ => rfl
theorem Run.loadPart {a : Addr} {o o' : Obj} (part : Option Value) (hn : Nat.blt a s.n = true) (ho : s.tree.get a = some o) (hl : alive o = some o') : Run w 1 (PySem.loadPart a part) s o' s := fun K H gd lv => by
  show segGoT treeTable pw w 11 (some (.ref 6)) 1 1 s ⟨.load a part fun o => (Sem.pure o).wrap K H gd lv, cE, q, B⟩ = _
  have hs : stepT (denote treeTable) pw w s ⟨.load a part fun o => (Sem.pure o).wrap K H gd lv, cE, q, B⟩ = some (s, ⟨K o', cE, q, B⟩) := by
    obtain ⟨T, n, life, gens, drawn, toks, os⟩ := s
    simp only [stepT]
    rw [hn, ho]
    simp only [hl]
    rfl
  unfold segGoT
  have h1 : endAt 1 (⟨.load a part fun o => (Sem.pure o).wrap K H gd lv, cE, q, B⟩ : Thread) = none := rfl
  have h2 : stepOk 11 (some (.ref 6)) (⟨.load a part fun o => (Sem.pure o).wrap K H gd lv, cE, q, B⟩ : Thread) = true := rfl
  rw [h1, h2, hs]
  rfl
theorem Run.updatePart {a : Addr} {o o' : Obj} {f : Obj → Obj} (part : Option Value) (ha : Nat.ble 11 a = true) (hn : Nat.blt a s.n = true) (ho : s.tree.get a = some o) (hl : alive o = some o') :
    Run w 1 (PySem.updatePart a part f) s () { s with tree := s.tree.set a f } := fun K H gd lv => by
  show segGoT treeTable pw w 11 (some (.ref 6)) 1 1 s ⟨.update a part f fun o => (Sem.pure o).wrap K H gd lv, cE, q, B⟩ = _
  have hs : stepT (denote treeTable) pw w s ⟨.update a part f fun o => (Sem.pure o).wrap K H gd lv, cE, q, B⟩ = some ({ s with tree := s.tree.set a f }, ⟨K (), cE, q, B⟩) := by
    obtain ⟨T, n, life, gens, drawn, toks, os⟩ := s
    simp only [stepT]
    rw [hn, ho]
    simp only [hl]
    rfl
  unfold segGoT
  have h1 : endAt 1 (⟨.update a part f fun o => (Sem.pure o).wrap K H gd lv, cE, q, B⟩ : Thread) = none := rfl
  have h2 : stepOk 11 (some (.ref 6)) (⟨.update a part f fun o => (Sem.pure o).wrap K H gd lv, cE, q, B⟩ : Thread) = true := by
    show (true && true && true && (Nat.ble 11 a || _ || _ || _)) = true
    rw [ha]; rfl
  rw [h1, h2, hs]
  rfl
theorem Run.alloc {o : Obj} (h : ((s.tree.ins s.n o).get s.n).isSome = true) : Run w 1 (PySem.alloc o) s s.n { s with tree := s.tree.ins s.n o, n := s.n + 1 } := fun K H gd lv => by
  show segGoT treeTable pw w 11 (some (.ref 6)) 1 1 s ⟨.alloc o fun o => (Sem.pure o).wrap K H gd lv, cE, q, B⟩ = _
  have hs : stepT (denote treeTable) pw w s ⟨.alloc o fun o => (Sem.pure o).wrap K H gd lv, cE, q, B⟩ = some ({ s with tree := s.tree.ins s.n o, n := s.n + 1 }, ⟨K s.n, cE, q, B⟩) := by
    obtain ⟨T, n, life, gens, drawn, toks, os⟩ := s
    simp only [stepT] at h ⊢
    rw [h]
    rfl
  unfold segGoT
  have h1 : endAt 1 (⟨.alloc o fun o => (Sem.pure o).wrap K H gd lv, cE, q, B⟩ : Thread) = none := rfl
  have h2 : stepOk 11 (some (.ref 6)) (⟨.alloc o fun o => (Sem.pure o).wrap K H gd lv, cE, q, B⟩ : Thread) = true := rfl
  rw [h1, h2, hs]
  rfl

theorem Run.hash0 (b : Bool) {i : Int} {t : Tok} : ∀ (K : Int → Sem Fin) (H : Value → Sem Fin) (gd : Bool → Bool) (lv : List Value → List Value),
    GoT (w.withFollow "special-get-raises" b) 5 s ((pyHash (.int i t)).wrap K H gd lv) = some ({ s with toks := s.toks + 1 }, ⟨(pyHashByItsType.reduced (rawHash i)).wrap K H gd lv, cE, q, B⟩) := by
  obtain ⟨T, n, life, gens, drawn, toks, os⟩ := s
  cases b
  · intro K H gd lv; with_unfolding_all rfl
  · intro K H gd lv; with_unfolding_all rfl
theorem Run.hash {i : Int} {t : Tok} : Run w 5 (pyHash (.int i t)) s (hashInt i) { s with toks := s.toks + 1 } := fun K H gd lv => by
  have h := Run.hash0 (w := w) (s := s) (w.params.followText "special-get-raises") (i := i) (t := t) K H gd lv
  rw [World.withFollow_self] at h
  rw [h]
  have hr := rawHash_range i
  have : pyHashByItsType.reduced (rawHash i) = (Pure.pure (hashInt i) : Sem Int) := by
    unfold pyHashByItsType.reduced
    rw [if_pos (by rw [decide_eq_true hr.1, decide_eq_true hr.2]; rfl)]
    rfl
  rw [this]
  rfl
end
end Mine

end G1_
section G2_
open PySem PySem.W PyProof.Rows
set_option maxRecDepth 100000
set_option Elab.async false
namespace Mine
section
variable {w : World} {α β : Type} {s s' s'' : SharedT} {n m : Nat}
abbrev dObj (es : Array DictEntry) (ep : Nat) : Obj := ⟨.type "dict", none, .dict es ep, #[]⟩
theorem Run.entries {d : Addr} {es : Array DictEntry} {ep : Nat} (part : Option Value) (hn : Nat.blt d s.n = true) (ho : s.tree.get d = some (dObj es ep)) : Run w 1 (dictEntries d part) s es s := by
  unfold dictEntries
  exact Run.bind (n := 1) (m := 0) (Run.loadPart part hn ho rfl) (Run.pure es)
theorem Run.epoch {d : Addr} {es : Array DictEntry} {ep : Nat} (part : Option Value) (hn : Nat.blt d s.n = true) (ho : s.tree.get d = some (dObj es ep)) : Run w 1 (dictEpoch d part) s ep s := by
  unfold dictEpoch
  exact Run.bind (n := 1) (m := 0) (Run.loadPart part hn ho rfl) (Run.pure ep)
theorem Run.find {d : Addr} {es : Array DictEntry} {ep : Nat} {i : Int} {t : Tok} {h : Int} (hn : Nat.blt d s.n = true) (ho : s.tree.get d = some (dObj es ep))
    (hp : placesWithHash es.size (fun i => es[i]?.map (·.hash)) h = []) : Run w 1 (dictFind d (.int i t) h) s none s := by
  unfold dictFind
  refine Run.holding _ (Run.bind (n := 1) (m := 0) (Run.entries _ hn ho) ?_)
  dsimp only
  rw [hp]
  exact Run.pure none
theorem line_push {es : Array DictEntry} {ep : Nat} (hz : es.size < 100000) (e : DictEntry) : (Data.dict (es.push e) (ep + 1)).pastItsLine = none := by
  unfold Data.pastItsLine
  simp only [Array.size_push, sizeLine_eq]
  rw [if_neg (by omega)]
theorem Run.putNew {d : Addr} {es : Array DictEntry} {ep : Nat} {f : Array DictEntry → Array DictEntry} (part : Option Value) (ha : Nat.ble 11 d = true) (hn : Nat.blt d s.n = true) (ho : s.tree.get d = some (dObj es ep)) (hl : (Data.dict (f es) (ep + 1)).pastItsLine = none) :
    Run w 3 (updateDictKeys d f part) s () { s with tree := s.tree.set d (Obj.mapDictKeys f) } := by
  unfold updateDictKeys
  refine Run.bind (n := 1) (m := 2) (Run.loadPart part hn ho rfl) ?_
  dsimp only
  refine Run.bind (n := 1) (m := 1) (Run.updatePart part ha hn ho rfl) ?_
  unfold lookBehind
  have g : (s.tree.set d (Obj.mapDictKeys f)).get d = some (Obj.mapDictKeys f (dObj es ep)) := by rw [BT.get_set, if_pos rfl, ho]; rfl
  exact Run.bind (n := 1) (m := 0) (s := { s with tree := s.tree.set d (Obj.mapDictKeys f) }) (Run.loadPart part hn g rfl) (by
    show Run w 0 (match (Data.dict (f es) (ep + 1)).pastItsLine with | some what => unsupported what | x => Pure.pure ()) _ _ _
    rw [hl]; exact Run.pure ())
theorem Run.set {d : Addr} {es : Array DictEntry} {ep : Nat} {i : Int} {t : Tok} {v : Value} (ha : Nat.ble 11 d = true) (hn : Nat.blt d s.n = true) (ho : s.tree.get d = some (dObj es ep))
    (hp : placesWithHash es.size (fun i => es[i]?.map (·.hash)) (hashInt i) = []) (hz : es.size < 100000) :
    Run w 10 (dictSet d (.int i t) v) s () { s with tree := s.tree.set d (Obj.mapDictKeys (·.push ⟨hashInt i, .int i t, v⟩)), toks := s.toks + 1 } := by
  unfold dictSet
  refine Run.holding _ (Run.bind (n := 5) (m := 5) Run.hash ?_)
  unfold dictSetHashed
  refine Run.holding _ (Run.bind (n := 1) (m := 4) (s := { s with toks := s.toks + 1 }) (Run.find hn ho hp) ?_)
  exact Run.bind (n := 1) (m := 3) (Run.rule _) (Run.putNew (s := { s with toks := s.toks + 1 }) _ ha hn ho (line_push hz _))
theorem Run.put {d : Addr} {es : Array DictEntry} {ep : Nat} {i : Int} {t : Tok} {h : Int} {v : Value} (ha : Nat.ble 11 d = true) (hn : Nat.blt d s.n = true) (ho : s.tree.get d = some (dObj es ep))
    (hp : placesWithHash es.size (fun i => es[i]?.map (·.hash)) h = []) (hz : es.size < 100000) :
    Run w 4 (dictPut d h (.int i t) v) s () { s with tree := s.tree.set d (Obj.mapDictKeys (·.push ⟨h, .int i t, v⟩)) } := by
  unfold dictPut
  exact Run.bind (n := 1) (m := 3) (Run.find hn ho hp) (Run.putNew _ ha hn ho (line_push hz _))
end
end Mine

end G2_
section G3_
open PySem PySem.W PyProof.Rows
set_option maxRecDepth 100000
set_option Elab.async false
namespace Mine

theorem set_set (f g : Obj → Obj) : ∀ (t : BT) (a : Nat), (t.set a f).set a g = t.set a fun o => g (f o)
  | .nil, _ => rfl
  | .node v l r, a => by
    rw [BT.set_node, BT.set_node v l r a]
    by_cases ha : a = 0
    · rw [if_pos ha, if_pos ha, BT.set_node, if_pos ha]
    · by_cases pa : a % 2 = 1
      · rw [if_neg ha, if_pos pa, if_neg ha, if_pos pa, BT.set_node, if_neg ha, if_pos pa, set_set f g l]
      · rw [if_neg ha, if_neg pa, if_neg ha, if_neg pa, BT.set_node, if_neg ha, if_neg pa, set_set f g r]

def Full (t : BT) (n : Nat) : Prop := ∀ i, i < n → (t.get i).isSome = true
theorem Full.ins_get (o : Obj) : ∀ {t : BT} {n : Nat}, Full t n → ((t.ins n o).get n).isSome = true
  | .nil, n, h => by
    have : n = 0 := by
      rcases Nat.eq_zero_or_pos n with q | q
      · exact q
      · have := h 0 q; cases this
    subst this; rfl
  | .node v l r, n, h => by
    rw [BT.ins_node]
    by_cases hn : n = 0
    · rw [if_pos hn, BT.get_node, if_pos hn]; rfl
    · by_cases pn : n % 2 = 1
      · rw [if_neg hn, if_pos pn, BT.get_node, if_neg hn, if_pos pn]
        refine Full.ins_get o fun j hj => ?_
        have := h (2 * j + 1) (by omega)
        rw [BT.get_node, if_neg (by omega), if_pos (by omega), show (2 * j + 1) / 2 = j by omega] at this
        exact this
      · rw [if_neg hn, if_neg pn, BT.get_node, if_neg hn, if_neg pn]
        refine Full.ins_get o fun j hj => ?_
        have := h (2 * j + 2) (by omega)
        rw [BT.get_node, if_neg (by omega), if_neg (by omega), show (2 * j + 2) / 2 - 1 = j by omega] at this
        exact this
theorem Full.get_ins {t : BT} {n : Nat} (h : Full t n) (o : Obj) (i : Nat) : (t.ins n o).get i = if i = n then some o else t.get i := BT.get_ins o t n (h.ins_get o) i
theorem Full.ins {t : BT} {n : Nat} (h : Full t n) (o : Obj) : Full (t.ins n o) (n + 1) := fun i hi => by
  rw [h.get_ins]
  by_cases e : i = n
  · rw [if_pos e]; rfl
  · rw [if_neg e]; exact h i (by omega)
theorem Full.set {t : BT} {n : Nat} (h : Full t n) (a : Nat) (f : Obj → Obj) : Full (t.set a f) n := fun i hi => by
  rw [BT.get_set]
  have := h i hi
  by_cases e : i = a
  · subst e; rw [if_pos rfl, Option.isSome_map]; exact this
  · rw [if_neg e]; exact this

/-- an entry of the display: the key, the text, the key's token (the text's is the next) -/
def ent (k : Int) (x : Str) (t : Nat) : DictEntry := ⟨hashInt k, .int k t, .str x (t + 1)⟩
/-- the entries of a display whose keys' tokens are t, t + c, .. -/
def ents (c : Nat) : List (Int × Str) → Nat → List DictEntry
  | [], _ => []
  | (k, x) :: r, t => ent k x t :: ents c r (t + c)
theorem ents_length (c : Nat) : ∀ (l : List (Int × Str)) (t : Nat), (ents c l t).length = l.length
  | [], _ => rfl
  | (k, x) :: r, t => by rw [ents, List.length_cons, ents_length c r, List.length_cons]
theorem ents_hash (c : Nat) : ∀ (l : List (Int × Str)) (t : Nat), (ents c l t).map (·.hash) = l.map fun p => hashInt p.1
  | [], _ => rfl
  | (k, x) :: r, t => by rw [ents, List.map_cons, ents_hash c r, List.map_cons]; rfl

/-- no entry of the list has that hash -/
def Free (h : Int) (es : List DictEntry) : Prop := ∀ e ∈ es, e.hash ≠ h
theorem places_free {h : Int} {es : List DictEntry} (hf : Free h es) : placesWithHash es.toArray.size (fun i => es.toArray[i]?.map (·.hash)) h = [] := by
  unfold placesWithHash
  rw [List.filter_eq_nil_iff]
  intro i hi
  rw [List.mem_range, List.size_toArray] at hi
  simp only [List.getElem?_toArray, List.getElem?_eq_getElem hi, Option.map_some, beq_iff_eq, Option.some.injEq]
  exact hf _ (List.getElem_mem hi)

/-- the state with the dict at d turned, and the tokens -/
def St (s : SharedT) (d : Addr) (es : List DictEntry) (ep tk : Nat) : SharedT := { s with tree := s.tree.set d fun _ => dObj es.toArray ep, toks := tk }
theorem St.get {s : SharedT} {d : Addr} {es : List DictEntry} {ep tk : Nat} (h : (s.tree.get d).isSome = true) : (St s d es ep tk).tree.get d = some (dObj es.toArray ep) := by
  show (s.tree.set d _).get d = _
  rw [BT.get_set, if_pos rfl]
  obtain ⟨o, ho⟩ := Option.isSome_iff_exists.mp h
  rw [ho]; rfl
theorem St.get_ne {s : SharedT} {d a : Addr} {es : List DictEntry} {ep tk : Nat} (h : a ≠ d) : (St s d es ep tk).tree.get a = s.tree.get a := by
  show (s.tree.set d _).get a = _
  rw [BT.get_set, if_neg h]

section
variable {w : World} {s : SharedT}
theorem St.push {d : Addr} {es : List DictEntry} {ep tk tk' : Nat} (e : DictEntry) :
    { St s d es ep tk with tree := (St s d es ep tk).tree.set d (Obj.mapDictKeys (·.push e)), toks := tk' } = St s d (es ++ [e]) (ep + 1) tk' := by
  unfold St
  simp only [set_set]
  rw [show (fun o : Obj => Obj.mapDictKeys (·.push e) (dObj es.toArray ep)) = fun _ => dObj (es ++ [e]).toArray (ep + 1) from by
    funext _; show dObj (es.toArray.push e) (ep + 1) = _; rw [List.push_toArray]]

def litK (k : Int) : Sem Value := constValue cEnv (.int k)
def litV (x : Str) : Sem Value := do let x ← constValue cEnv (.str x); standAt q; pure x
theorem Run.semK (k : Int) (s : SharedT) : Run w 1 (litK k) s (.int k s.toks) { s with toks := s.toks + 1 } := fun _ _ _ _ => rfl
theorem Run.semV (x : Str) (s : SharedT) : Run w 2 (litV x) s (.str x s.toks) { s with toks := s.toks + 1 } := fun _ _ _ _ => rfl

/-- the hashes of what stands and of what comes are apart -/
def Apart (es : List DictEntry) (P : List (Int × Str)) : Prop := (es.map (·.hash) ++ P.map fun p => hashInt p.1).Nodup
theorem Apart.free {es : List DictEntry} {k : Int} {x : Str} {P : List (Int × Str)} (h : Apart es ((k, x) :: P)) : Free (hashInt k) es := fun e he q => by
  unfold Apart at h
  rw [List.nodup_append] at h
  exact h.2.2 _ (List.mem_map.mpr ⟨e, he, rfl⟩) (hashInt k) (by simp) q
theorem Apart.next {es : List DictEntry} {k : Int} {x : Str} {P : List (Int × Str)} (h : Apart es ((k, x) :: P)) (t : Nat) : Apart (es ++ [ent k x t]) P := by
  unfold Apart at h ⊢
  rw [List.map_append, List.append_assoc]
  exact h

abbrev bodyA (d : Addr) (x : Sem Value × Sem Value) (_ : PUnit.{1}) : Sem (ForInStep PUnit.{1}) :=
  match x with
  | (k, v) => do
    let kv ← k
    let vv ← holding [kv] v
    holding [kv, vv] (dictSet d kv vv)
    pure (ForInStep.yield PUnit.unit.{1})
abbrev sems (P : List (Int × Str)) : List (Sem Value × Sem Value) := P.map fun p => (litK p.1, litV p.2)

theorem Run.loopA {d : Addr} (ha : Nat.ble 11 d = true) (hn : Nat.blt d s.n = true) (hd : (s.tree.get d).isSome = true) : ∀ (P : List (Int × Str)) (es : List DictEntry) (ep tk : Nat), Apart es P → es.length + P.length < 100000 →
    Run w (13 * P.length) (forIn (sems P) PUnit.unit.{1} (bodyA d)) (St s d es ep tk) PUnit.unit.{1} (St s d (es ++ ents 3 P tk) (ep + P.length) (tk + 3 * P.length))
  | [], es, ep, tk, _, _ => by
    rw [show sems [] = [] from rfl, List.forIn_nil, ents, List.append_nil]
    exact Run.pure _
  | (k, x) :: P, es, ep, tk, hf, hz => by
    rw [List.length_cons] at hz
    rw [show sems ((k, x) :: P) = (litK k, litV x) :: sems P from rfl, List.forIn_cons]
    have h1 : Run w 13 (bodyA d (litK k, litV x) PUnit.unit.{1}) (St s d es ep tk) (.yield PUnit.unit.{1}) (St s d (es ++ [ent k x tk]) (ep + 1) (tk + 3)) := by
      refine Run.bind (n := 1) (m := 12) (Run.semK k _) ?_
      refine Run.bind (n := 2) (m := 10) (Run.holding _ (Run.semV x _)) ?_
      rw [← St.push (ent k x tk) (tk := tk)]
      exact Run.bind (n := 10) (m := 0) (Run.holding _ (Run.set (s := { St s d es ep tk with toks := tk + 1 + 1 }) ha hn (St.get hd) (places_free hf.free) (by rw [List.size_toArray]; omega))) (Run.pure _)
    have h2 := Run.loopA ha hn hd P (es ++ [ent k x tk]) (ep + 1) (tk + 3) (hf.next tk) (by rw [List.length_append, List.length_singleton]; omega)
    rw [ents, List.length_cons, show 13 * (P.length + 1) = 13 + 13 * P.length by omega, show ep + (P.length + 1) = ep + 1 + P.length by omega, show tk + 3 * (P.length + 1) = tk + 3 + 3 * P.length by omega,
      show es ++ ent k x tk :: ents 3 P (tk + 3) = es ++ [ent k x tk] ++ ents 3 P (tk + 3) by simp]
    exact Run.bind h1 h2

/-- the merge's turns: what the sub dict holds from place j on -/
abbrev bodyM (d a : Addr) (epoch : Nat) (i : Nat) (_ : PUnit.{1}) : Sem (ForInStep PUnit.{1}) := do
  let es ← dictEntries a
  match es[i]? with
  | some e => do
    holding [e.key, e.val] (dictPut d e.hash e.key e.val)
    let n ← dictEpoch a
    if (n != epoch) = true then do
      unsupported "dict.changed-during-merge"
      pure (ForInStep.yield PUnit.unit.{1})
    else pure (ForInStep.yield PUnit.unit.{1})
  | _ => do
    unsupported "dict.changed-during-merge"
    pure (ForInStep.yield PUnit.unit.{1})
theorem ents_get (c : Nat) : ∀ (P : List (Int × Str)) (t j : Nat) (k : Int) (x : Str), P[j]? = some (k, x) → (ents c P t)[j]? = some (ent k x (t + c * j))
  | [], _, _, _, _, h => by simp at h
  | (k, x) :: P, t, 0, k', x', h => by
    simp only [List.getElem?_cons_zero, Option.some.injEq, Prod.mk.injEq] at h
    obtain ⟨rfl, rfl⟩ := h
    rfl
  | (k, x) :: P, t, j + 1, k', x', h => by
    rw [List.getElem?_cons_succ] at h
    rw [ents, List.getElem?_cons_succ, ents_get c P (t + c) j k' x' h, Nat.mul_add, Nat.mul_one, Nat.add_assoc, Nat.add_comm c]

theorem Run.loopM {c : Nat} {d a : Addr} {P₀ : List (Int × Str)} {t₀ ep₀ : Nat} (ha : Nat.ble 11 d = true) (hn : Nat.blt d s.n = true) (hna : Nat.blt a s.n = true) (hd : (s.tree.get d).isSome = true) (had : a ≠ d)
    (hs : s.tree.get a = some (dObj (ents c P₀ t₀).toArray ep₀)) : ∀ (P : List (Int × Str)) (j : Nat) (es : List DictEntry) (ep tk : Nat), (∀ i (p : Int × Str), P[i]? = some p → P₀[j + i]? = some p) → Apart es P → es.length + P.length < 100000 →
    Run w (6 * P.length) (forIn (List.range' j P.length) PUnit.unit.{1} (bodyM d a ep₀)) (St s d es ep tk) PUnit.unit.{1} (St s d (es ++ ents c P (t₀ + c * j)) (ep + P.length) tk)
  | [], j, es, ep, tk, _, _, _ => by
    rw [ents, List.append_nil]
    exact Run.pure _
  | (k, x) :: P, j, es, ep, tk, hP, hf, hz => by
    rw [List.length_cons] at hz
    rw [List.length_cons, List.range'_succ, List.forIn_cons]
    have hj : (ents c P₀ t₀)[j]? = some (ent k x (t₀ + c * j)) := ents_get _ _ _ _ _ _ (by have := hP 0 (k, x) rfl; simpa using this)
    have hsa : (St s d es ep tk).tree.get a = some (dObj (ents c P₀ t₀).toArray ep₀) := (St.get_ne had).trans hs
    have hsb : (St s d (es ++ [ent k x (t₀ + c * j)]) (ep + 1) tk).tree.get a = some (dObj (ents c P₀ t₀).toArray ep₀) := (St.get_ne had).trans hs
    have h1 : Run w 6 (bodyM d a ep₀ j PUnit.unit.{1}) (St s d es ep tk) (.yield PUnit.unit.{1}) (St s d (es ++ [ent k x (t₀ + c * j)]) (ep + 1) tk) := by
      refine Run.bind (n := 1) (m := 5) (Run.entries none hna hsa) ?_
      rw [List.getElem?_toArray, hj]
      dsimp only
      refine Run.bind (n := 4) (m := 1) (s' := St s d (es ++ [ent k x (t₀ + c * j)]) (ep + 1) tk) (a := ()) ?_ ?_
      · rw [← St.push (ent k x (t₀ + c * j)) (tk := tk)]
        exact Run.holding _ (Run.put (s := St s d es ep tk) ha hn (St.get hd) (places_free hf.free) (by rw [List.size_toArray]; omega))
      · refine Run.bind (n := 1) (m := 0) (Run.epoch none hna hsb) ?_
        rw [if_neg (by simp)]
        exact Run.pure _
    have h2 := Run.loopM ha hn hna hd had hs P (j + 1) (es ++ [ent k x (t₀ + c * j)]) (ep + 1) tk (fun i p hi => by have := hP (i + 1) p (by simpa using hi); rwa [show j + 1 + i = j + (i + 1) by omega]) (hf.next _) (by rw [List.length_append, List.length_singleton]; omega)
    rw [ents, show t₀ + c * j + c = t₀ + c * (j + 1) by rw [Nat.mul_add, Nat.mul_one, Nat.add_assoc], show 6 * (P.length + 1) = 6 + 6 * P.length by omega, show ep + (P.length + 1) = ep + 1 + P.length by omega,
      show es ++ ent k x (t₀ + c * j) :: ents c P (t₀ + c * (j + 1)) = es ++ [ent k x (t₀ + c * j)] ++ ents c P (t₀ + c * (j + 1)) by simp]
    exact Run.bind h1 h2
end
end Mine

end G3_
section G4_
open PySem PySem.W PyProof.Rows
set_option maxRecDepth 100000
set_option Elab.async false
namespace Mine
theorem set_self : ∀ (t : BT) (a : Nat) (o : Obj), t.get a = some o → t.set a (fun _ => o) = t
  | .nil, _, _, _ => rfl
  | .node v l r, a, o, h => by
    rw [BT.get_node] at h
    rw [BT.set_node]
    by_cases ha : a = 0
    · rw [if_pos ha] at h ⊢; cases h; rfl
    · by_cases pa : a % 2 = 1
      · rw [if_neg ha, if_pos pa] at h ⊢; rw [set_self l _ o h]
      · rw [if_neg ha, if_neg pa] at h ⊢; rw [set_self r _ o h]
theorem St.self {s : SharedT} {d : Addr} {es : List DictEntry} {ep : Nat} (h : s.tree.get d = some (dObj es.toArray ep)) : St s d es ep s.toks = s := by
  unfold St
  rw [set_self _ _ _ h]
theorem St.self' {s : SharedT} {d : Addr} {es : List DictEntry} {ep tk : Nat} (h : s.tree.get d = some (dObj es.toArray ep)) : St s d es ep tk = { s with toks := tk } := by
  unfold St
  rw [set_self _ _ _ h]
theorem St.again {s : SharedT} {d : Addr} {es es' : List DictEntry} {ep ep' tk tk' : Nat} : St (St s d es ep tk) d es' ep' tk' = St s d es' ep' tk' := by
  unfold St
  simp only [set_set]

section
variable {w : World} {s : SharedT}
/-- the state in which a new empty dict has been laid -/
def Al (s : SharedT) : SharedT := { s with tree := s.tree.ins s.n (dObj #[] 0), n := s.n + 1 }
theorem Al.get (h : Full s.tree s.n) : (Al s).tree.get s.n = some (dObj ([] : List DictEntry).toArray 0) := by
  show (s.tree.ins _ _).get _ = _
  rw [h.get_ins, if_pos rfl]
theorem blt_succ (n : Nat) : Nat.blt n (n + 1) = true := Nat.ble_eq_true_of_le (Nat.le_refl _)
theorem blt_of {a n : Nat} (h : a < n) : Nat.blt a n = true := Nat.ble_eq_true_of_le h

theorem forIn_unit_bind (x : Sem PUnit.{1}) : (do x; pure () : Sem PUnit.{1}) = x := by
  show x.bind (fun _ => .pure ()) = x
  induction x <;> simp only [Sem.bind, *]

theorem Run.subLong {P : List (Int × Str)} (h15 : 15 < P.length) (hz : P.length < 100000) (hF : Full s.tree s.n) (ha : Nat.ble 11 s.n = true) (hp : Apart [] P) :
    Run w (2 + 13 * P.length) (subDict (sems P)) s s.n (St (Al s) s.n (ents 3 P s.toks) P.length (s.toks + 3 * P.length)) := by
  unfold subDict
  rw [show 2 + 13 * P.length = 1 + (1 + 13 * P.length + 0) by omega]
  refine Run.bind (s' := Al s) (Run.alloc (hF.ins_get _)) ?_
  refine Run.bind (a := ()) (s' := St (Al s) s.n (ents 3 P s.toks) P.length (s.toks + 3 * P.length)) (Run.holding _ ?_) (Run.pure _)
  rw [if_neg (by rw [List.length_map]; omega)]
  refine Run.bind (a := ()) (Run.rule _) ?_
  rw [forIn_unit_bind]
  have h := Run.loopA (w := w) (s := Al s) (d := s.n) ha (blt_succ _) (by rw [Al.get hF]; rfl) P [] 0 s.toks hp (by simpa using hz)
  rw [show St (Al s) s.n [] 0 s.toks = Al s from St.self (s := Al s) (Al.get hF), List.nil_append, Nat.zero_add] at h
  exact h

/-- what the short road's pairs come to -/
def vals : List (Int × Str) → Nat → List (Value × Value)
  | [], _ => []
  | (k, x) :: r, t => (.int k t, .str x (t + 1)) :: vals r (t + 2)
theorem Run.pairs : ∀ (P : List (Int × Str)) (s : SharedT), Run w (3 * P.length) (evalPairs (sems P)) s (vals P s.toks) { s with toks := s.toks + 2 * P.length }
  | [], s => Run.pure _
  | (k, x) :: P, s => by
    rw [show sems ((k, x) :: P) = (litK k, litV x) :: sems P from rfl, evalPairs, List.length_cons, show 3 * (P.length + 1) = 1 + (2 + (3 * P.length + 0)) by omega]
    refine Run.bind (Run.semK k s) (Run.bind (Run.holding _ (Run.semV x _)) (Run.bind (Run.holding _ (Run.pairs P _)) ?_))
    rw [show s.toks + 2 * (P.length + 1) = s.toks + 1 + 1 + 2 * P.length by omega]
    exact Run.pure _
abbrev bodyS (d : Addr) (x : Value × Value) (_ : PUnit.{1}) : Sem (ForInStep PUnit.{1}) :=
  match x with
  | (k, v) => do
    dictSet d k v
    pure (ForInStep.yield PUnit.unit.{1})
theorem Run.loopS {d : Addr} (ha : Nat.ble 11 d = true) (hn : Nat.blt d s.n = true) (hd : (s.tree.get d).isSome = true) : ∀ (P : List (Int × Str)) (es : List DictEntry) (ep t tk : Nat), Apart es P → es.length + P.length < 100000 →
    Run w (10 * P.length) (forIn (vals P t) PUnit.unit.{1} (bodyS d)) (St s d es ep tk) PUnit.unit.{1} (St s d (es ++ ents 2 P t) (ep + P.length) (tk + P.length))
  | [], es, ep, t, tk, _, _ => by
    rw [vals, List.forIn_nil, ents, List.append_nil]
    exact Run.pure _
  | (k, x) :: P, es, ep, t, tk, hf, hz => by
    rw [List.length_cons] at hz
    rw [vals, List.forIn_cons]
    have h1 : Run w 10 (bodyS d (.int k t, .str x (t + 1)) PUnit.unit.{1}) (St s d es ep tk) (.yield PUnit.unit.{1}) (St s d (es ++ [ent k x t]) (ep + 1) (tk + 1)) := by
      rw [← St.push (ent k x t) (tk := tk)]
      exact Run.bind (n := 10) (m := 0) (Run.set (s := St s d es ep tk) ha hn (St.get hd) (places_free hf.free) (by rw [List.size_toArray]; omega)) (Run.pure _)
    have h2 := Run.loopS ha hn hd P (es ++ [ent k x t]) (ep + 1) (t + 2) (tk + 1) (hf.next t) (by rw [List.length_append, List.length_singleton]; omega)
    rw [ents, List.length_cons, show 10 * (P.length + 1) = 10 + 10 * P.length by omega, show ep + (P.length + 1) = ep + 1 + P.length by omega, show tk + (P.length + 1) = tk + 1 + P.length by omega,
      show es ++ ent k x t :: ents 2 P (t + 2) = es ++ [ent k x t] ++ ents 2 P (t + 2) by simp]
    exact Run.bind h1 h2
theorem Run.subShort {P : List (Int × Str)} (h15 : P.length ≤ 15) (hF : Full s.tree s.n) (ha : Nat.ble 11 s.n = true) (hp : Apart [] P) :
    Run w (1 + 13 * P.length) (subDict (sems P)) s s.n (St (Al s) s.n (ents 2 P s.toks) P.length (s.toks + 3 * P.length)) := by
  unfold subDict
  rw [show 1 + 13 * P.length = 1 + (3 * P.length + 10 * P.length + 0) by omega]
  refine Run.bind (s' := Al s) (Run.alloc (hF.ins_get _)) ?_
  refine Run.bind (a := ()) (s' := St (Al s) s.n (ents 2 P s.toks) P.length (s.toks + 3 * P.length)) (Run.holding _ ?_) (Run.pure _)
  rw [if_pos (by rw [List.length_map]; exact h15)]
  refine Run.bind (Run.pairs P (Al s)) (Run.holding _ ?_)
  rw [forIn_unit_bind]
  have h := Run.loopS (w := w) (s := Al s) (d := s.n) ha (blt_succ _) (by rw [Al.get hF]; rfl) P [] 0 s.toks (s.toks + 2 * P.length) hp (by simp; omega)
  rw [St.self' (Al.get hF), List.nil_append, Nat.zero_add, show s.toks + 2 * P.length + P.length = s.toks + 3 * P.length by omega] at h
  exact h

theorem GoT_load {a : Addr} {o o' : Obj} {k : Nat} {part : Option Value} {C : Obj → Sem PySem.Fin} (hn : Nat.blt a s.n = true) (ho : s.tree.get a = some o) (hl : alive o = some o') :
    GoT w (k + 1) s (.load a part C) = GoT w k s (C o') := by
  have hs : stepT (denote treeTable) pw w s ⟨.load a part C, cE, q, B⟩ = some (s, ⟨C o', cE, q, B⟩) := by
    obtain ⟨T, n, life, gens, drawn, toks, os⟩ := s
    simp only [stepT]
    rw [hn, ho]
    simp only [hl]
  conv => lhs; unfold GoT segGoT
  have h1 : endAt 1 (⟨.load a part C, cE, q, B⟩ : Thread) = none := rfl
  have h2 : stepOk 11 (some (.ref 6)) (⟨.load a part C, cE, q, B⟩ : Thread) = true := rfl
  rw [h1, h2, hs]
theorem Run.isInst {a : Addr} {es : Array DictEntry} {ep : Nat} (hn : Nat.blt a s.n = true) (ho : s.tree.get a = some (dObj es ep)) : Run w 1 (isInstance (.ref a) (.type "dict")) s true s := fun K H gd lv => by
  refine (GoT_load (C := fun o => _) hn ho rfl).trans ?_
  with_unfolding_all rfl
end
end Mine

end G4_
section G5_
open PySem PySem.W PyProof.Rows
set_option maxRecDepth 100000
set_option Elab.async false
namespace Mine
section
variable {w : World} {s : SharedT}
theorem Run.special {a : Addr} {es : Array DictEntry} {ep : Nat} (hn : Nat.blt a s.n = true) (ho : s.tree.get a = some (dObj es ep)) : Run w 1 (specialOf (.ref a) (Str.ofString "__iter__")) s (some (.builtin "dict.__iter__")) s := fun K H gd lv => by
  refine (GoT_load (C := fun o => _) hn ho rfl).trans ?_
  with_unfolding_all rfl
theorem Run.merge {c : Nat} {d a : Addr} {P : List (Int × Str)} {t₀ ep₀ : Nat} (ha : Nat.ble 11 d = true) (hn : Nat.blt d s.n = true) (hna : Nat.blt a s.n = true) (hd : (s.tree.get d).isSome = true) (had : a ≠ d) (hsys : (a == sysModules) = false)
    (hs : s.tree.get a = some (dObj (ents c P t₀).toArray ep₀)) (es : List DictEntry) (ep tk : Nat) (h0 : es ≠ []) (hp : Apart es P) (hz : es.length + P.length < 100000) :
    Run w (5 + 6 * P.length) (mergeMapping d (.ref a) false) (St s d es ep tk) PUnit.unit.{1} (St s d (es ++ ents c P t₀) (ep + P.length) tk) := by
  have hsa : (St s d es ep tk).tree.get a = some (dObj (ents c P t₀).toArray ep₀) := (St.get_ne had).trans hs
  unfold mergeMapping
  rw [show 5 + 6 * P.length = 1 + (1 + (0 + (1 + (1 + (1 + (6 * P.length + 0)))))) by omega]
  refine Run.bind (Run.isInst hna hsa) ?_
  dsimp only
  rw [if_pos rfl]
  refine Run.bind (Run.special hna hsa) ?_
  refine Run.bind (Run.pure _) ?_
  rw [show (some (Value.builtin "dict.__iter__") == some (Value.builtin "dict.__iter__")) = true by decide]
  dsimp only
  rw [hsys]
  rw [if_neg (by decide)]
  refine Run.bind (Run.entries none hn (St.get hd)) ?_
  rw [if_neg (by
    cases es with
    | nil => exact absurd rfl h0
    | cons e r => simp [Array.isEmpty])]
  refine Run.bind (Run.entries none hna hsa) ?_
  refine Run.bind (Run.epoch none hna hsa) ?_
  refine Run.bind (a := PUnit.unit.{1}) (s' := St s d (es ++ ents c P t₀) (ep + P.length) tk) ?_ (Run.pure _)
  have h := Run.loopM (w := w) (s := s) (c := c) (d := d) (a := a) (P₀ := P) (t₀ := t₀) (ep₀ := ep₀) ha hn hna hd had hs P 0 es ep tk (fun i p hi => by rw [Nat.zero_add]; exact hi) hp hz
  rw [Nat.mul_zero, Nat.add_zero] at h
  rw [List.size_toArray, ents_length, List.range_eq_range']
  exact h

/-- the first chunk -/
abbrev St0 (s : SharedT) (c : Nat) (P : List (Int × Str)) : SharedT := St (Al s) s.n (ents c P s.toks) P.length (s.toks + 3 * P.length)
/-- a chunk that is merged into d -/
def St1 (s : SharedT) (c : Nat) (d : Addr) (es : List DictEntry) (P : List (Int × Str)) : SharedT := St (St0 s c P) d (es ++ ents c P s.toks) (es.length + P.length) (s.toks + 3 * P.length)

abbrev flush (run : List (Sem Value × Sem Value)) (main : Option Addr) : Sem (Option Addr) :=
  if run.isEmpty = true then pure main
  else
    match main with
    | none => do
      let x ← subDict run
      pure (some x)
    | some d => do
      let sub ← holding [Value.ref d] (subDict run)
      (holding [Value.ref d, Value.ref sub] (mergeMapping d (Value.ref sub) false)).onRaise fun x => do
          let _ ← holding [Value.ref d, x] (runValue (Code.builtin "proto.let_go" { }))
          pure ()
      pure (some d)

theorem Run.flush0 {P : List (Int × Str)} (h15 : 15 < P.length) (hz : P.length < 100000) (hF : Full s.tree s.n) (ha : Nat.ble 11 s.n = true) (hp : Apart [] P) :
    Run w (2 + 13 * P.length) (flush (sems P) none) s (some s.n) (St0 s 3 P) := by
  unfold flush
  rw [if_neg (by cases P with
    | nil => simp at h15
    | cons p r => simp)]
  rw [show 2 + 13 * P.length = 2 + 13 * P.length + 0 by omega]
  exact Run.bind (Run.subLong h15 hz hF ha hp) (Run.pure _)
theorem Apart.right {es : List DictEntry} {P : List (Int × Str)} (h : Apart es P) : Apart [] P := by
  unfold Apart at h ⊢
  exact (List.nodup_append.mp h).2.1
theorem Run.flush1 {c : Nat} {k : Nat} {d : Addr} {es : List DictEntry} {P : List (Int × Str)} (hsub : Run w k (subDict (sems P)) s s.n (St0 s c P)) (hP : P ≠ []) (hF : Full s.tree s.n)
    (ha : Nat.ble 11 d = true) (hn : d < s.n) (hd : s.tree.get d = some (dObj es.toArray es.length)) (hsys : (s.n == sysModules) = false) (h0 : es ≠ []) (hp : Apart es P) (hz : es.length + P.length < 100000) :
    Run w (k + (5 + 6 * P.length)) (flush (sems P) (some d)) s (some d) (St1 s c d es P) := by
  unfold flush
  rw [if_neg (by cases P with
    | nil => exact absurd rfl hP
    | cons p r => simp)]
  have hne : s.n ≠ d := Nat.ne_of_gt hn
  have hd1 : (St0 s c P).tree.get d = some (dObj es.toArray es.length) := by
    rw [St.get_ne (Ne.symm hne)]
    show (s.tree.ins s.n _).get d = _
    rw [hF.get_ins, if_neg (Ne.symm hne)]
    exact hd
  have hs1 : (St0 s c P).tree.get s.n = some (dObj (ents c P s.toks).toArray P.length) := St.get (by rw [Al.get hF]; rfl)
  refine Run.bind (Run.holding _ hsub) ?_
  rw [show 5 + 6 * P.length = 5 + 6 * P.length + 0 by omega]
  refine Run.bind (a := ()) (Run.onRaise _ (Run.holding _ ?_)) (Run.pure _)
  have h := Run.merge (w := w) (s := St0 s c P) (c := c) (d := d) (a := s.n) ha (blt_of (Nat.lt_succ_of_lt hn)) (blt_succ _) (by rw [hd1]; rfl) hne hsys hs1 es es.length (s.toks + 3 * P.length) h0 hp hz
  rw [show St (St0 s c P) d es es.length (s.toks + 3 * P.length) = St0 s c P from St.self (s := St0 s c P) hd1] at h
  exact h
end
end Mine

end G5_
section G6_
open PySem PySem.W PyProof.Rows
set_option maxRecDepth 100000
set_option Elab.async false
namespace Mine
section
variable {w : World}
abbrev Items := List (Sem Value × Sem Value)
abbrev opt (c : Items) : List (Option (Sem Value) × Sem Value) := c.map fun p => (some p.1, p.2)
abbrev DSt := Option Addr × Items
abbrev DBody := (Option (Sem Value) × Sem Value) → DSt → Sem (ForInStep DSt)
theorem forIn_chunk (f : DBody) (hf : ∀ (p : Sem Value × Sem Value) (main : Option Addr) (run : Items), run.length + 1 < 17 → f (some p.1, p.2) (main, run) = pure (.yield (main, run ++ [p]))) :
    ∀ (c : Items) (rest : List (Option (Sem Value) × Sem Value)) (main : Option Addr) (run : Items), run.length + c.length < 17 → forIn (opt c ++ rest) (main, run) f = forIn rest (main, run ++ c) f
  | [], rest, main, run, _ => by simp [opt]
  | p :: c, rest, main, run, h => by
    rw [List.length_cons] at h
    rw [show opt (p :: c) ++ rest = (some p.1, p.2) :: (opt c ++ rest) from rfl, List.forIn_cons, hf p main run (by omega), pure_bind]
    have := forIn_chunk f hf c rest main (run ++ [p]) (by rw [List.length_append, List.length_singleton]; omega)
    simpa using this
theorem forIn_full (f : DBody) (hf : ∀ (p : Sem Value × Sem Value) (main : Option Addr) (run : Items), run.length + 1 < 17 → f (some p.1, p.2) (main, run) = pure (.yield (main, run ++ [p])))
    (hg : ∀ (p : Sem Value × Sem Value) (main : Option Addr) (run : Items), run.length + 1 = 17 → f (some p.1, p.2) (main, run) = (do let m ← flush (run ++ [p]) main; pure (.yield (m, []))))
    (c : Items) (rest : List (Option (Sem Value) × Sem Value)) (main : Option Addr) (h : c.length = 17) : forIn (opt c ++ rest) (main, []) f = (do let m ← flush c main; forIn rest (m, []) f) := by
  obtain ⟨c', p, rfl⟩ : ∃ c' p, c = c' ++ [p] := ⟨c.dropLast, c.getLast (by intro e; subst e; simp at h), (List.dropLast_concat_getLast _).symm⟩
  rw [List.length_append, List.length_singleton] at h
  rw [show opt (c' ++ [p]) ++ rest = opt c' ++ ((some p.1, p.2) :: rest) by simp [opt], forIn_chunk f hf c' _ main [] (by simp; omega), List.nil_append, List.forIn_cons, hg p main c' h, bind_assoc]
  rfl

/-- the state behind the chunks that are merged into d -/
def endSt (d : Addr) : List (List (Int × Str)) → List (Int × Str) → SharedT → List DictEntry → SharedT
  | [], last, s, es => St1 s 2 d es last
  | P :: r, last, s, es => endSt d r last (St1 s 3 d es P) (es ++ ents 3 P s.toks)
def cnt : List (List (Int × Str)) → List (Int × Str) → Nat
  | [], last => 1 + 13 * last.length + (5 + 6 * last.length)
  | P :: r, last => (2 + 13 * P.length + (5 + 6 * P.length)) + cnt r last

theorem Apart.more {c : Nat} {es : List DictEntry} {P Q : List (Int × Str)} (h : Apart es (P ++ Q)) (t : Nat) : Apart (es ++ ents c P t) Q := by
  unfold Apart at h ⊢
  rw [List.map_append, ents_hash, List.append_assoc]
  rwa [List.map_append] at h
theorem Apart.left {es : List DictEntry} {P Q : List (Int × Str)} (h : Apart es (P ++ Q)) : Apart es P := by
  unfold Apart at h ⊢
  rw [List.map_append, ← List.append_assoc] at h
  exact (List.nodup_append.mp h).1

theorem runChunks (f : DBody) (hf : ∀ (p : Sem Value × Sem Value) (main : Option Addr) (run : Items), run.length + 1 < 17 → f (some p.1, p.2) (main, run) = pure (.yield (main, run ++ [p])))
    (hg : ∀ (p : Sem Value × Sem Value) (main : Option Addr) (run : Items), run.length + 1 = 17 → f (some p.1, p.2) (main, run) = (do let m ← flush (run ++ [p]) main; pure (.yield (m, []))))
    {d : Addr} (ha : Nat.ble 11 d = true) : ∀ (C : List (List (Int × Str))) (last : List (Int × Str)) (s : SharedT) (es : List DictEntry), (∀ P ∈ C, P.length = 17) → last ≠ [] → last.length ≤ 15 → Full s.tree s.n → d < s.n → 11 ≤ s.n →
      s.tree.get d = some (dObj es.toArray es.length) → es ≠ [] → Apart es (C.flatten ++ last) → es.length + (C.flatten ++ last).length < 100000 →
      Run w (cnt C last) (do let st ← forIn (opt (sems (C.flatten ++ last))) (some d, []) f; flush st.2 st.1) s (some d) (endSt d C last s es)
  | [], last, s, es, _, hl, hl', hF, hd, h11, ho, h0, hp, hz => by
    have hsub : Run w (1 + 13 * last.length) (subDict (sems last)) s s.n (St0 s 2 last) := Run.subShort hl' hF (Nat.ble_eq_true_of_le h11) hp.right
    have e : forIn (opt (sems (([] : List (List (Int × Str))).flatten ++ last))) ((some d, []) : DSt) f = pure (some d, sems last) := by
      have := forIn_chunk f hf (sems last) [] (some d) [] (by simp; omega)
      simpa using this
    rw [e, pure_bind]
    exact Run.flush1 hsub hl hF ha hd ho (beq_eq_false_iff_ne.mpr (by intro q; rw [q] at h11; exact absurd h11 (by decide))) h0 hp hz
  | P :: C, last, s, es, hC, hl, hl', hF, hd, h11, ho, h0, hp, hz => by
    have hP : P.length = 17 := hC P (.head _)
    rw [List.flatten_cons, List.append_assoc] at hp hz
    have hsub : Run w (2 + 13 * P.length) (subDict (sems P)) s s.n (St0 s 3 P) := Run.subLong (by omega) (by omega) hF (Nat.ble_eq_true_of_le h11) hp.left.right
    have e : (do let st ← forIn (opt (sems ((P :: C).flatten ++ last))) ((some d, []) : DSt) f; flush st.2 st.1) = (do let m ← flush (sems P) (some d); let st ← forIn (opt (sems (C.flatten ++ last))) ((m, []) : DSt) f; flush st.2 st.1) := by
      have := forIn_full f hf hg (sems P) (opt (sems (C.flatten ++ last))) (some d) (by simpa using hP)
      rw [show opt (sems ((P :: C).flatten ++ last)) = opt (sems P) ++ opt (sems (C.flatten ++ last)) by simp [opt, sems], this, bind_assoc]
    rw [e]
    have hPl : es.length + P.length < 100000 := by rw [List.length_append] at hz; omega
    have h1 := Run.flush1 (w := w) (c := 3) hsub (by intro q; rw [q] at hP; simp at hP) hF ha hd ho (beq_eq_false_iff_ne.mpr (by intro q; rw [q] at h11; exact absurd h11 (by decide))) h0 hp.left hPl
    refine Run.bind h1 ?_
    have hne : s.n ≠ d := Nat.ne_of_gt hd
    have hlen : (es ++ ents 3 P s.toks).length = es.length + P.length := by rw [List.length_append, ents_length]
    refine runChunks f hf hg ha C last (St1 s 3 d es P) (es ++ ents 3 P s.toks) (fun Q hQ => hC Q (.tail _ hQ)) hl hl' ?_ (Nat.lt_succ_of_lt hd) (Nat.le_succ_of_le h11) ?_ (by simp [h0]) (hp.more _) ?_
    · exact ((hF.ins _).set _ _).set _ _
    · rw [hlen]
      refine St.get ?_
      rw [St.get_ne (Ne.symm hne)]
      show ((s.tree.ins s.n _).get d).isSome = true
      rw [hF.get_ins, if_neg (Ne.symm hne), ho]; rfl
    · rw [hlen]; rw [List.length_append] at hz; omega

theorem runDisplay (P : List (Int × Str)) (C : List (List (Int × Str))) (last : List (Int × Str)) {s : SharedT} (hP : P.length = 17) (hC : ∀ P ∈ C, P.length = 17) (hl : last ≠ []) (hl' : last.length ≤ 15) (hF : Full s.tree s.n) (h11 : 11 ≤ s.n)
    (hp : Apart [] (P ++ (C.flatten ++ last))) (hz : (P ++ (C.flatten ++ last)).length < 100000) :
    Run w (2 + 13 * 17 + cnt C last) (dictDisplay (opt (sems (P ++ (C.flatten ++ last))))) s (.ref s.n) (endSt s.n C last (St0 s 3 P) (ents 3 P s.toks)) := by
  unfold dictDisplay
  dsimp only
  have key : ∀ (f : DBody) (hf : ∀ (p : Sem Value × Sem Value) (main : Option Addr) (run : Items), run.length + 1 < 17 → f (some p.1, p.2) (main, run) = pure (.yield (main, run ++ [p])))
      (hg : ∀ (p : Sem Value × Sem Value) (main : Option Addr) (run : Items), run.length + 1 = 17 → f (some p.1, p.2) (main, run) = (do let m ← flush (run ++ [p]) main; pure (.yield (m, [])))),
      Run w (2 + 13 * 17 + cnt C last) (do let st ← forIn (opt (sems (P ++ (C.flatten ++ last)))) ((none, []) : DSt) f; let m ← flush st.2 st.1; (match m with | some d => pure (Value.ref d) | none => newDict)) s (.ref s.n) (endSt s.n C last (St0 s 3 P) (ents 3 P s.toks)) := by
    intro f hf hg
    have hz' := hz
    rw [List.length_append] at hz'
    have e : (do let st ← forIn (opt (sems (P ++ (C.flatten ++ last)))) ((none, []) : DSt) f; let m ← flush st.2 st.1; (match m with | some d => pure (Value.ref d) | none => newDict)) =
        (do let m ← flush (sems P) none; let m ← (do let st ← forIn (opt (sems (C.flatten ++ last))) ((m, []) : DSt) f; flush st.2 st.1); (match m with | some d => pure (Value.ref d) | none => newDict)) := by
      have := forIn_full f hf hg (sems P) (opt (sems (C.flatten ++ last))) none (by simpa using hP)
      rw [show opt (sems (P ++ (C.flatten ++ last))) = opt (sems P) ++ opt (sems (C.flatten ++ last)) by simp [opt, sems], this]
      simp only [bind_assoc]
    rw [e]
    have h0 := Run.flush0 (w := w) (P := P) (by omega) (by omega) hF (Nat.ble_eq_true_of_le h11) hp.left
    rw [hP] at h0
    rw [show 2 + 13 * 17 + cnt C last = 2 + 13 * 17 + (cnt C last + 0) by omega]
    refine Run.bind h0 (Run.bind (a := some s.n) ?_ (Run.pure _))
    have hlen : (ents 3 P s.toks).length = P.length := ents_length ..
    refine runChunks f hf hg (Nat.ble_eq_true_of_le h11) C last (St0 s 3 P) (ents 3 P s.toks) hC hl hl' ((hF.ins _).set _ _) (Nat.lt_succ_self _) (Nat.le_succ_of_le h11) ?_ ?_ ?_ ?_
    · rw [hlen]; exact St.get (by rw [Al.get hF]; rfl)
    · intro q
      rw [q] at hlen
      rw [hP] at hlen
      cases hlen
    · have := hp.more (c := 3) s.toks
      simpa using this
    · rw [hlen]; omega
  refine key _ (fun p main run h => ?_) (fun p main run h => ?_)
  · dsimp only
    rw [if_neg (by simp; omega)]
  · dsimp only
    rw [if_pos (by simp; omega)]
    rfl
end
end Mine

end G6_
section H1_
open PySem PySem.W PyProof.Rows
set_option maxRecDepth 100000
set_option Elab.async false
set_option linter.unusedVariables false
namespace Mine
def fd (i : Nat) : Stmt := (pw.main.body[i]?).getD (.Pass ⟨0, 0, 0, 0⟩)
def sub (i j : Nat) : Stmt := match fd i with
  | .ClassDef _ _ _ b _ _ _ _ _ _ _ => (b[j]?).getD (.Pass ⟨0, 0, 0, 0⟩)
  | s => s
def noParams : Arguments := ⟨[], [], none, [], [], none, []⟩
def fParams : Stmt → Arguments
  | .FunctionDef _ a _ _ _ _ _ _ _ _ => a
  | _ => noParams
def fBody : Stmt → List Stmt
  | .FunctionDef _ _ b _ _ _ _ _ _ _ => b
  | _ => []
def fScope : Stmt → Scope
  | .FunctionDef _ _ _ _ _ _ sc _ _ _ => sc
  | _ => pw.main.scope
def sts (i j : Nat) : List Stmt := (pw.main.body.take j).drop i
def litPairs : List (Option Expr) → List Expr → List (Int × Str)
  | some (.Constant (.int i) _ _) :: ks, .Constant (.str x) _ _ :: vs => (i, x) :: litPairs ks vs
  | _, _ => []
def b3keys : List (Option Expr) := match fd 19 with
  | .Assign _ (.Dict ks _ _) _ => ks
  | _ => []
def b3vals : List Expr := match fd 19 with
  | .Assign _ (.Dict _ vs _) _ => vs
  | _ => []
/-- the written pairs of the table B.3 -/
def b3P : List (Int × Str) := litPairs b3keys b3vals
def b3last : List (Int × Str) := b3P.drop 646
def b3chunk (j : Nat) : List (Int × Str) := (b3P.drop (17 * j)).take 17
def b3es (t : Nat) : List DictEntry := ents 3 (b3P.take 646) t ++ ents 2 b3last (t + 1938)
def b3sub (j : Nat) : List DictEntry := match Nat.blt j 37 with
  | true => ents 3 (b3chunk (j + 1)) (432 + 51 * (j + 1))
  | false => ents 2 b3last 2370
abbrev life0 : Life := {}
def o3v14 (P : Params) : Obj := ⟨(.type "dict"), none, (.dict #[⟨PyData.keyHash P (Str.ofString "__name__"), (.str (Str.ofString "__name__") 165), (.str (Str.ofString "cpy313.posixpath") 319)⟩, ⟨PyData.keyHash P (Str.ofString "__doc__"), (.str (Str.ofString "__doc__") 166), .none⟩, ⟨PyData.keyHash P (Str.ofString "__package__"), (.str (Str.ofString "__package__") 167), .none⟩, ⟨PyData.keyHash P (Str.ofString "__loader__"), (.str (Str.ofString "__loader__") 168), (.builtin "__main__.__loader__#opaque")⟩, ⟨PyData.keyHash P (Str.ofString "__spec__"), (.str (Str.ofString "__spec__") 169), .none⟩, ⟨PyData.keyHash P (Str.ofString "__annotations__"), (.str (Str.ofString "__annotations__") 170), (.ref 6)⟩, ⟨PyData.keyHash P (Str.ofString "__builtins__"), (.str (Str.ofString "__builtins__") 171), (.ref 4)⟩, ⟨PyData.keyHash P (Str.ofString "__file__"), (.str (Str.ofString "__file__") 173), (.str (Str.ofString "/claim/cut.py") 172)⟩, ⟨PyData.keyHash P (Str.ofString "__cached__"), (.str (Str.ofString "__cached__") 174), .none⟩, ⟨PyData.keyHash P (Str.ofString "_wall"), (.str (Str.ofString "_wall") 193), (.ref 21)⟩, ⟨PyData.keyHash P (Str.ofString "_pe_doc"), (.str (Str.ofString "_pe_doc") 202), (.ref 28)⟩, ⟨PyData.keyHash P (Str.ofString "_plain_name"), (.str (Str.ofString "_plain_name") 213), (.ref 35)⟩, ⟨PyData.keyHash P (Str.ofString "ABCMeta"), (.str (Str.ofString "ABCMeta") 239), (.ref 52)⟩, ⟨PyData.keyHash P (Str.ofString "_ABCLike"), (.str (Str.ofString "_ABCLike") 282), (.ref 85)⟩, ⟨PyData.keyHash P (Str.ofString "_abc_plain_meta"), (.str (Str.ofString "_abc_plain_meta") 289), (.ref 94)⟩, ⟨PyData.keyHash P (Str.ofString "fspath"), (.str (Str.ofString "fspath") 301), (.ref 101)⟩, ⟨PyData.keyHash P (Str.ofString "_splitext"), (.str (Str.ofString "_splitext") 318), (.ref 108)⟩, ⟨PyData.keyHash P (Str.ofString "splitext"), (.str (Str.ofString "splitext") 329), (.ref 115)⟩] 18), #[]⟩
def o3v16 (P : Params) : Obj := ⟨(.type "dict"), none, (.dict #[⟨PyData.keyHash P (Str.ofString "__name__"), (.str (Str.ofString "__name__") 165), (.str (Str.ofString "cpy313.stringprep") 363)⟩, ⟨PyData.keyHash P (Str.ofString "__doc__"), (.str (Str.ofString "__doc__") 166), .none⟩, ⟨PyData.keyHash P (Str.ofString "__package__"), (.str (Str.ofString "__package__") 167), .none⟩, ⟨PyData.keyHash P (Str.ofString "__loader__"), (.str (Str.ofString "__loader__") 168), (.builtin "__main__.__loader__#opaque")⟩, ⟨PyData.keyHash P (Str.ofString "__spec__"), (.str (Str.ofString "__spec__") 169), .none⟩, ⟨PyData.keyHash P (Str.ofString "__annotations__"), (.str (Str.ofString "__annotations__") 170), (.ref 6)⟩, ⟨PyData.keyHash P (Str.ofString "__builtins__"), (.str (Str.ofString "__builtins__") 171), (.ref 4)⟩, ⟨PyData.keyHash P (Str.ofString "__file__"), (.str (Str.ofString "__file__") 173), (.str (Str.ofString "/claim/cut.py") 172)⟩, ⟨PyData.keyHash P (Str.ofString "__cached__"), (.str (Str.ofString "__cached__") 174), .none⟩, ⟨PyData.keyHash P (Str.ofString "_wall"), (.str (Str.ofString "_wall") 193), (.ref 21)⟩, ⟨PyData.keyHash P (Str.ofString "_pe_doc"), (.str (Str.ofString "_pe_doc") 202), (.ref 28)⟩, ⟨PyData.keyHash P (Str.ofString "_plain_name"), (.str (Str.ofString "_plain_name") 213), (.ref 35)⟩, ⟨PyData.keyHash P (Str.ofString "ABCMeta"), (.str (Str.ofString "ABCMeta") 239), (.ref 52)⟩, ⟨PyData.keyHash P (Str.ofString "_ABCLike"), (.str (Str.ofString "_ABCLike") 282), (.ref 85)⟩, ⟨PyData.keyHash P (Str.ofString "_abc_plain_meta"), (.str (Str.ofString "_abc_plain_meta") 289), (.ref 94)⟩, ⟨PyData.keyHash P (Str.ofString "fspath"), (.str (Str.ofString "fspath") 301), (.ref 101)⟩, ⟨PyData.keyHash P (Str.ofString "_splitext"), (.str (Str.ofString "_splitext") 318), (.ref 108)⟩, ⟨PyData.keyHash P (Str.ofString "splitext"), (.str (Str.ofString "splitext") 329), (.ref 115)⟩] 18), #[]⟩
def o3v17 (P : Params) : Obj := ⟨(.type "dict"), none, (.dict #[⟨PyData.keyHash P (Str.ofString "__name__"), (.str (Str.ofString "__name__") 165), (.str (Str.ofString "cpy313.stringprep") 363)⟩, ⟨PyData.keyHash P (Str.ofString "__doc__"), (.str (Str.ofString "__doc__") 166), .none⟩, ⟨PyData.keyHash P (Str.ofString "__package__"), (.str (Str.ofString "__package__") 167), .none⟩, ⟨PyData.keyHash P (Str.ofString "__loader__"), (.str (Str.ofString "__loader__") 168), (.builtin "__main__.__loader__#opaque")⟩, ⟨PyData.keyHash P (Str.ofString "__spec__"), (.str (Str.ofString "__spec__") 169), .none⟩, ⟨PyData.keyHash P (Str.ofString "__annotations__"), (.str (Str.ofString "__annotations__") 170), (.ref 6)⟩, ⟨PyData.keyHash P (Str.ofString "__builtins__"), (.str (Str.ofString "__builtins__") 171), (.ref 4)⟩, ⟨PyData.keyHash P (Str.ofString "__file__"), (.str (Str.ofString "__file__") 173), (.str (Str.ofString "/claim/cut.py") 172)⟩, ⟨PyData.keyHash P (Str.ofString "__cached__"), (.str (Str.ofString "__cached__") 174), .none⟩, ⟨PyData.keyHash P (Str.ofString "_wall"), (.str (Str.ofString "_wall") 193), (.ref 21)⟩, ⟨PyData.keyHash P (Str.ofString "_pe_doc"), (.str (Str.ofString "_pe_doc") 202), (.ref 28)⟩, ⟨PyData.keyHash P (Str.ofString "_plain_name"), (.str (Str.ofString "_plain_name") 213), (.ref 35)⟩, ⟨PyData.keyHash P (Str.ofString "ABCMeta"), (.str (Str.ofString "ABCMeta") 239), (.ref 52)⟩, ⟨PyData.keyHash P (Str.ofString "_ABCLike"), (.str (Str.ofString "_ABCLike") 282), (.ref 85)⟩, ⟨PyData.keyHash P (Str.ofString "_abc_plain_meta"), (.str (Str.ofString "_abc_plain_meta") 289), (.ref 94)⟩, ⟨PyData.keyHash P (Str.ofString "fspath"), (.str (Str.ofString "fspath") 301), (.ref 101)⟩, ⟨PyData.keyHash P (Str.ofString "_splitext"), (.str (Str.ofString "_splitext") 318), (.ref 108)⟩, ⟨PyData.keyHash P (Str.ofString "splitext"), (.str (Str.ofString "splitext") 329), (.ref 115)⟩, ⟨PyData.keyHash P (Str.ofString "b1_set"), (.str (Str.ofString "b1_set") 424), (.ref 126)⟩] 19), #[]⟩
def o3v18 (P : Params) : Obj := ⟨(.type "dict"), none, (.dict #[⟨PyData.keyHash P (Str.ofString "__name__"), (.str (Str.ofString "__name__") 165), (.str (Str.ofString "cpy313.stringprep") 363)⟩, ⟨PyData.keyHash P (Str.ofString "__doc__"), (.str (Str.ofString "__doc__") 166), .none⟩, ⟨PyData.keyHash P (Str.ofString "__package__"), (.str (Str.ofString "__package__") 167), .none⟩, ⟨PyData.keyHash P (Str.ofString "__loader__"), (.str (Str.ofString "__loader__") 168), (.builtin "__main__.__loader__#opaque")⟩, ⟨PyData.keyHash P (Str.ofString "__spec__"), (.str (Str.ofString "__spec__") 169), .none⟩, ⟨PyData.keyHash P (Str.ofString "__annotations__"), (.str (Str.ofString "__annotations__") 170), (.ref 6)⟩, ⟨PyData.keyHash P (Str.ofString "__builtins__"), (.str (Str.ofString "__builtins__") 171), (.ref 4)⟩, ⟨PyData.keyHash P (Str.ofString "__file__"), (.str (Str.ofString "__file__") 173), (.str (Str.ofString "/claim/cut.py") 172)⟩, ⟨PyData.keyHash P (Str.ofString "__cached__"), (.str (Str.ofString "__cached__") 174), .none⟩, ⟨PyData.keyHash P (Str.ofString "_wall"), (.str (Str.ofString "_wall") 193), (.ref 21)⟩, ⟨PyData.keyHash P (Str.ofString "_pe_doc"), (.str (Str.ofString "_pe_doc") 202), (.ref 28)⟩, ⟨PyData.keyHash P (Str.ofString "_plain_name"), (.str (Str.ofString "_plain_name") 213), (.ref 35)⟩, ⟨PyData.keyHash P (Str.ofString "ABCMeta"), (.str (Str.ofString "ABCMeta") 239), (.ref 52)⟩, ⟨PyData.keyHash P (Str.ofString "_ABCLike"), (.str (Str.ofString "_ABCLike") 282), (.ref 85)⟩, ⟨PyData.keyHash P (Str.ofString "_abc_plain_meta"), (.str (Str.ofString "_abc_plain_meta") 289), (.ref 94)⟩, ⟨PyData.keyHash P (Str.ofString "fspath"), (.str (Str.ofString "fspath") 301), (.ref 101)⟩, ⟨PyData.keyHash P (Str.ofString "_splitext"), (.str (Str.ofString "_splitext") 318), (.ref 108)⟩, ⟨PyData.keyHash P (Str.ofString "splitext"), (.str (Str.ofString "splitext") 329), (.ref 115)⟩, ⟨PyData.keyHash P (Str.ofString "b1_set"), (.str (Str.ofString "b1_set") 424), (.ref 126)⟩, ⟨PyData.keyHash P (Str.ofString "in_table_b1"), (.str (Str.ofString "in_table_b1") 431), (.ref 136)⟩] 20), #[]⟩
def o3v19 (P : Params) : Obj := ⟨(.type "dict"), none, (.dict #[⟨PyData.keyHash P (Str.ofString "__name__"), (.str (Str.ofString "__name__") 165), (.str (Str.ofString "cpy313.stringprep") 363)⟩, ⟨PyData.keyHash P (Str.ofString "__doc__"), (.str (Str.ofString "__doc__") 166), .none⟩, ⟨PyData.keyHash P (Str.ofString "__package__"), (.str (Str.ofString "__package__") 167), .none⟩, ⟨PyData.keyHash P (Str.ofString "__loader__"), (.str (Str.ofString "__loader__") 168), (.builtin "__main__.__loader__#opaque")⟩, ⟨PyData.keyHash P (Str.ofString "__spec__"), (.str (Str.ofString "__spec__") 169), .none⟩, ⟨PyData.keyHash P (Str.ofString "__annotations__"), (.str (Str.ofString "__annotations__") 170), (.ref 6)⟩, ⟨PyData.keyHash P (Str.ofString "__builtins__"), (.str (Str.ofString "__builtins__") 171), (.ref 4)⟩, ⟨PyData.keyHash P (Str.ofString "__file__"), (.str (Str.ofString "__file__") 173), (.str (Str.ofString "/claim/cut.py") 172)⟩, ⟨PyData.keyHash P (Str.ofString "__cached__"), (.str (Str.ofString "__cached__") 174), .none⟩, ⟨PyData.keyHash P (Str.ofString "_wall"), (.str (Str.ofString "_wall") 193), (.ref 21)⟩, ⟨PyData.keyHash P (Str.ofString "_pe_doc"), (.str (Str.ofString "_pe_doc") 202), (.ref 28)⟩, ⟨PyData.keyHash P (Str.ofString "_plain_name"), (.str (Str.ofString "_plain_name") 213), (.ref 35)⟩, ⟨PyData.keyHash P (Str.ofString "ABCMeta"), (.str (Str.ofString "ABCMeta") 239), (.ref 52)⟩, ⟨PyData.keyHash P (Str.ofString "_ABCLike"), (.str (Str.ofString "_ABCLike") 282), (.ref 85)⟩, ⟨PyData.keyHash P (Str.ofString "_abc_plain_meta"), (.str (Str.ofString "_abc_plain_meta") 289), (.ref 94)⟩, ⟨PyData.keyHash P (Str.ofString "fspath"), (.str (Str.ofString "fspath") 301), (.ref 101)⟩, ⟨PyData.keyHash P (Str.ofString "_splitext"), (.str (Str.ofString "_splitext") 318), (.ref 108)⟩, ⟨PyData.keyHash P (Str.ofString "splitext"), (.str (Str.ofString "splitext") 329), (.ref 115)⟩, ⟨PyData.keyHash P (Str.ofString "b1_set"), (.str (Str.ofString "b1_set") 424), (.ref 126)⟩, ⟨PyData.keyHash P (Str.ofString "in_table_b1"), (.str (Str.ofString "in_table_b1") 431), (.ref 136)⟩, ⟨PyData.keyHash P (Str.ofString "b3_exceptions"), (.str (Str.ofString "b3_exceptions") 2382), (.ref 137)⟩] 21), #[]⟩
def o3v28 (P : Params) : Obj := ⟨(.type "dict"), none, (.dict #[⟨PyData.keyHash P (Str.ofString "__name__"), (.str (Str.ofString "__name__") 165), (.str (Str.ofString "law_ij0132_01") 2391)⟩, ⟨PyData.keyHash P (Str.ofString "__doc__"), (.str (Str.ofString "__doc__") 166), .none⟩, ⟨PyData.keyHash P (Str.ofString "__package__"), (.str (Str.ofString "__package__") 167), .none⟩, ⟨PyData.keyHash P (Str.ofString "__loader__"), (.str (Str.ofString "__loader__") 168), (.builtin "__main__.__loader__#opaque")⟩, ⟨PyData.keyHash P (Str.ofString "__spec__"), (.str (Str.ofString "__spec__") 169), .none⟩, ⟨PyData.keyHash P (Str.ofString "__annotations__"), (.str (Str.ofString "__annotations__") 170), (.ref 6)⟩, ⟨PyData.keyHash P (Str.ofString "__builtins__"), (.str (Str.ofString "__builtins__") 171), (.ref 4)⟩, ⟨PyData.keyHash P (Str.ofString "__file__"), (.str (Str.ofString "__file__") 173), (.str (Str.ofString "/claim/cut.py") 172)⟩, ⟨PyData.keyHash P (Str.ofString "__cached__"), (.str (Str.ofString "__cached__") 174), .none⟩, ⟨PyData.keyHash P (Str.ofString "_wall"), (.str (Str.ofString "_wall") 193), (.ref 21)⟩, ⟨PyData.keyHash P (Str.ofString "_pe_doc"), (.str (Str.ofString "_pe_doc") 202), (.ref 28)⟩, ⟨PyData.keyHash P (Str.ofString "_plain_name"), (.str (Str.ofString "_plain_name") 213), (.ref 35)⟩, ⟨PyData.keyHash P (Str.ofString "ABCMeta"), (.str (Str.ofString "ABCMeta") 239), (.ref 52)⟩, ⟨PyData.keyHash P (Str.ofString "_ABCLike"), (.str (Str.ofString "_ABCLike") 282), (.ref 85)⟩, ⟨PyData.keyHash P (Str.ofString "_abc_plain_meta"), (.str (Str.ofString "_abc_plain_meta") 289), (.ref 94)⟩, ⟨PyData.keyHash P (Str.ofString "fspath"), (.str (Str.ofString "fspath") 301), (.ref 101)⟩, ⟨PyData.keyHash P (Str.ofString "_splitext"), (.str (Str.ofString "_splitext") 318), (.ref 108)⟩, ⟨PyData.keyHash P (Str.ofString "splitext"), (.str (Str.ofString "splitext") 329), (.ref 115)⟩, ⟨PyData.keyHash P (Str.ofString "b1_set"), (.str (Str.ofString "b1_set") 424), (.ref 126)⟩, ⟨PyData.keyHash P (Str.ofString "in_table_b1"), (.str (Str.ofString "in_table_b1") 431), (.ref 136)⟩, ⟨PyData.keyHash P (Str.ofString "b3_exceptions"), (.str (Str.ofString "b3_exceptions") 2382), (.ref 137)⟩, ⟨PyData.keyHash P (Str.ofString "map_table_b3"), (.str (Str.ofString "map_table_b3") 2390), (.ref 182)⟩, ⟨PyData.keyHash P (Str.ofString "_law_gone"), (.str (Str.ofString "_law_gone") 2400), (.ref 189)⟩, ⟨PyData.keyHash P (Str.ofString "_law_special"), (.str (Str.ofString "_law_special") 2409), (.ref 196)⟩, ⟨PyData.keyHash P (Str.ofString "_law_signs"), (.str (Str.ofString "_law_signs") 2422), (.ref 203)⟩, ⟨PyData.keyHash P (Str.ofString "_law_prepared"), (.str (Str.ofString "_law_prepared") 2428), (.ref 208)⟩, ⟨PyData.keyHash P (Str.ofString "_law_cut"), (.str (Str.ofString "_law_cut") 2437), (.ref 215)⟩, ⟨PyData.keyHash P (Str.ofString "_law_alike"), (.str (Str.ofString "_law_alike") 2443), (.ref 220)⟩, ⟨PyData.keyHash P (Str.ofString "law"), (.str (Str.ofString "law") 2449), (.ref 225)⟩] 29), #[]⟩
def o11vpre (P : Params) : Obj := ⟨(.type "tuple"), none, (.seq #[] 0), #[]⟩
def o12vpre (P : Params) : Obj := ⟨.none, none, (.fields #[]), #[]⟩
def o12v14 (P : Params) : Obj := ⟨.none, none, (.fields #[(.int 1 0), (.int 0 0), (.ref 20), (.int 4 0), (.int 0 0), (.ref 27), (.int 13 0), (.int 0 0), (.ref 34), (.int 19 0), (.int 0 0), (.ref 41), (.int 24 0), (.int 0 0), (.ref 60), (.int 39 0), (.int 0 0), (.ref 93), (.int 43 0), (.int 0 0), (.ref 100), (.int 60 0), (.int 0 0), (.ref 107), (.int 78 0), (.int 0 0), (.ref 114)]), #[]⟩
def o12v18 (P : Params) : Obj := ⟨.none, none, (.fields #[(.int 1 0), (.int 0 0), (.ref 20), (.int 4 0), (.int 0 0), (.ref 27), (.int 13 0), (.int 0 0), (.ref 34), (.int 19 0), (.int 0 0), (.ref 41), (.int 24 0), (.int 0 0), (.ref 60), (.int 39 0), (.int 0 0), (.ref 93), (.int 43 0), (.int 0 0), (.ref 100), (.int 60 0), (.int 0 0), (.ref 107), (.int 78 0), (.int 0 0), (.ref 114), (.int 90 0), (.int 0 0), (.ref 135)]), #[]⟩
def o12v28 (P : Params) : Obj := ⟨.none, none, (.fields #[(.int 1 0), (.int 0 0), (.ref 20), (.int 4 0), (.int 0 0), (.ref 27), (.int 13 0), (.int 0 0), (.ref 34), (.int 19 0), (.int 0 0), (.ref 41), (.int 24 0), (.int 0 0), (.ref 60), (.int 39 0), (.int 0 0), (.ref 93), (.int 43 0), (.int 0 0), (.ref 100), (.int 60 0), (.int 0 0), (.ref 107), (.int 78 0), (.int 0 0), (.ref 114), (.int 90 0), (.int 0 0), (.ref 135), (.int 93 0), (.int 0 0), (.ref 181), (.int 99 0), (.int 0 0), (.ref 188), (.int 102 0), (.int 0 0), (.ref 195), (.int 105 0), (.int 0 0), (.ref 202), (.int 124 0), (.int 0 0), (.ref 207), (.int 126 0), (.int 0 0), (.ref 214), (.int 130 0), (.int 0 0), (.ref 219), (.int 136 0), (.int 0 0), (.ref 224)]), #[]⟩
def o13vpre (P : Params) : Obj := ⟨(.type "code"), none, (.fields #[(.str (Str.ofString "<module>") 182), (.str (Str.ofString "<module>") 183), (.str (Str.ofString "/claim/cut.py") 184), (.int 1 0), (.int 0 0), (.int 0 0), (.int 0 0), (.int 0 0), (.ref 11), (.bool false), (.int 181 0), (.ref 12), .none, .none, .none, .none, (.int 185 0), (.int 1 0), (.str (Str.ofString "/claim/cut.py") 186)]), #[]⟩
def o14vpre (P : Params) : Obj := ⟨(.type "frame"), none, .plain, #[some (.ref 13), some (.ref 3), some (.ref 3), none, some (.str (Str.ofString "__main__") 164), none, some (.ref 0)]⟩
def o15v0 (P : Params) : Obj := ⟨(.type "tuple"), none, (.seq #[] 0), #[]⟩
def o16v0 (P : Params) : Obj := ⟨.none, none, (.fields #[]), #[]⟩
def o17v0 (P : Params) : Obj := ⟨(.type "tuple"), none, (.seq #[(.str (Str.ofString "k") 190)] 0), #[]⟩
def o18v0 (P : Params) : Obj := ⟨(.type "tuple"), none, (.seq #[] 0), #[]⟩
def o19v0 (P : Params) : Obj := ⟨.none, none, (.func { name := (Str.ofString "_wall"), qualname := (Str.ofString "_wall"), params := fParams (fd 0), body := .stmts (fBody (fd 0)), scope := fScope (fd 0), globals := 0, closure := [], defaults := .none, kwdefaults := .none, doc := .none, pyModule := .none, annotations := none, code := .none, closureTuple := .none, builtins := 0 }), #[]⟩
def o20v0 (P : Params) : Obj := ⟨(.type "code"), none, (.fields #[(.str (Str.ofString "_wall") 187), (.str (Str.ofString "_wall") 188), (.str (Str.ofString "/claim/cut.py") 189), (.int 1 0), (.int 1 0), (.int 0 0), (.int 0 0), (.int 3 0), (.ref 15), (.bool true), (.int 181 0), (.ref 16), .none, (.ref 17), (.ref 18), (.ref 19), (.int 191 0), (.int 1 0), (.str (Str.ofString "/claim/cut.py") 192)]), #[]⟩
def o21v0 (P : Params) : Obj := ⟨(.type "function"), none, (.func { name := (Str.ofString "_wall"), qualname := (Str.ofString "_wall"), params := fParams (fd 0), body := .stmts (fBody (fd 0)), scope := fScope (fd 0), globals := 3, closure := [], defaults := .none, kwdefaults := .none, doc := .none, pyModule := (.str (Str.ofString "__main__") 164), annotations := none, code := (.ref 20), closureTuple := .none, builtins := 0 }), #[]⟩
def o22v1 (P : Params) : Obj := ⟨(.type "tuple"), none, (.seq #[] 0), #[]⟩
def o23v1 (P : Params) : Obj := ⟨.none, none, (.fields #[]), #[]⟩
def o24v1 (P : Params) : Obj := ⟨(.type "tuple"), none, (.seq #[(.str (Str.ofString "x") 197), (.str (Str.ofString "t") 198), (.str (Str.ofString "f") 199)] 0), #[]⟩
def o25v1 (P : Params) : Obj := ⟨(.type "tuple"), none, (.seq #[] 0), #[]⟩
def o26v1 (P : Params) : Obj := ⟨.none, none, (.func { name := (Str.ofString "_pe_doc"), qualname := (Str.ofString "_pe_doc"), params := fParams (fd 1), body := .stmts (fBody (fd 1)), scope := fScope (fd 1), globals := 0, closure := [], defaults := .none, kwdefaults := .none, doc := .none, pyModule := .none, annotations := none, code := .none, closureTuple := .none, builtins := 0 }), #[]⟩
def o27v1 (P : Params) : Obj := ⟨(.type "code"), none, (.fields #[(.str (Str.ofString "_pe_doc") 194), (.str (Str.ofString "_pe_doc") 195), (.str (Str.ofString "/claim/cut.py") 196), (.int 4 0), (.int 1 0), (.int 0 0), (.int 0 0), (.int 3 0), (.ref 22), (.bool true), (.int 181 0), (.ref 23), .none, (.ref 24), (.ref 25), (.ref 26), (.int 200 0), (.int 4 0), (.str (Str.ofString "/claim/cut.py") 201)]), #[]⟩
def o28v1 (P : Params) : Obj := ⟨(.type "function"), none, (.func { name := (Str.ofString "_pe_doc"), qualname := (Str.ofString "_pe_doc"), params := fParams (fd 1), body := .stmts (fBody (fd 1)), scope := fScope (fd 1), globals := 3, closure := [], defaults := .none, kwdefaults := .none, doc := .none, pyModule := (.str (Str.ofString "__main__") 164), annotations := none, code := (.ref 27), closureTuple := .none, builtins := 0 }), #[]⟩
def o29v3 (P : Params) : Obj := ⟨(.type "tuple"), none, (.seq #[] 0), #[]⟩
def o30v3 (P : Params) : Obj := ⟨.none, none, (.fields #[]), #[]⟩
def o31v3 (P : Params) : Obj := ⟨(.type "tuple"), none, (.seq #[(.str (Str.ofString "x") 208), (.str (Str.ofString "what") 209), (.str (Str.ofString "kind") 210)] 0), #[]⟩
def o32v3 (P : Params) : Obj := ⟨(.type "tuple"), none, (.seq #[] 0), #[]⟩
def o33v3 (P : Params) : Obj := ⟨.none, none, (.func { name := (Str.ofString "_plain_name"), qualname := (Str.ofString "_plain_name"), params := fParams (fd 3), body := .stmts (fBody (fd 3)), scope := fScope (fd 3), globals := 0, closure := [], defaults := .none, kwdefaults := .none, doc := .none, pyModule := .none, annotations := none, code := .none, closureTuple := .none, builtins := 0 }), #[]⟩
def o34v3 (P : Params) : Obj := ⟨(.type "code"), none, (.fields #[(.str (Str.ofString "_plain_name") 205), (.str (Str.ofString "_plain_name") 206), (.str (Str.ofString "/claim/cut.py") 207), (.int 13 0), (.int 2 0), (.int 0 0), (.int 0 0), (.int 3 0), (.ref 29), (.bool true), (.int 181 0), (.ref 30), .none, (.ref 31), (.ref 32), (.ref 33), (.int 211 0), (.int 13 0), (.str (Str.ofString "/claim/cut.py") 212)]), #[]⟩
def o35v3 (P : Params) : Obj := ⟨(.type "function"), none, (.func { name := (Str.ofString "_plain_name"), qualname := (Str.ofString "_plain_name"), params := fParams (fd 3), body := .stmts (fBody (fd 3)), scope := fScope (fd 3), globals := 3, closure := [], defaults := .none, kwdefaults := .none, doc := .none, pyModule := (.str (Str.ofString "os") 203), annotations := none, code := (.ref 34), closureTuple := .none, builtins := 0 }), #[]⟩
def o36v5 (P : Params) : Obj := ⟨(.type "tuple"), none, (.seq #[(.type "type")] 0), #[]⟩
def o37v5 (P : Params) : Obj := ⟨(.type "builtin_function_or_method"), none, (.fields #[(.builtin "type.__prepare__"), (.type "type")]), #[]⟩
def o38v5 (P : Params) : Obj := ⟨(.type "dict"), none, (.dict #[⟨PyData.keyHash P (Str.ofString "__module__"), (.str (Str.ofString "__module__") 223), (.str (Str.ofString "abc") 214)⟩, ⟨PyData.keyHash P (Str.ofString "__qualname__"), (.str (Str.ofString "__qualname__") 225), (.str (Str.ofString "ABCMeta") 224)⟩, ⟨PyData.keyHash P (Str.ofString "__firstlineno__"), (.str (Str.ofString "__firstlineno__") 227), (.int 19 226)⟩, ⟨PyData.keyHash P (Str.ofString "register"), (.str (Str.ofString "register") 235), (.ref 49)⟩, ⟨PyData.keyHash P (Str.ofString "__static_attributes__"), (.str (Str.ofString "__static_attributes__") 236), (.ref 50)⟩] 5), #[]⟩
def o39v5 (P : Params) : Obj := ⟨(.type "tuple"), none, (.seq #[] 0), #[]⟩
def o40v5 (P : Params) : Obj := ⟨.none, none, (.fields #[(.int 21 0), (.int 4 0), (.ref 48)]), #[]⟩
def o41v5 (P : Params) : Obj := ⟨(.type "code"), none, (.fields #[(.str (Str.ofString "ABCMeta") 218), (.str (Str.ofString "ABCMeta") 219), (.str (Str.ofString "/claim/cut.py") 220), (.int 19 0), (.int 0 0), (.int 0 0), (.int 0 0), (.int 0 0), (.ref 39), (.bool false), (.int 181 0), (.ref 40), .none, .none, .none, .none, (.int 221 0), (.int 19 0), (.str (Str.ofString "/claim/cut.py") 222)]), #[]⟩
def o42v5 (P : Params) : Obj := ⟨(.type "frame"), none, .plain, #[some (.ref 41), some (.ref 3), some (.ref 38), none, some (.str (Str.ofString "abc") 214), none, some (.ref 0)]⟩
def o43v5 (P : Params) : Obj := ⟨(.type "tuple"), none, (.seq #[] 0), #[]⟩
def o44v5 (P : Params) : Obj := ⟨.none, none, (.fields #[]), #[]⟩
def o45v5 (P : Params) : Obj := ⟨(.type "tuple"), none, (.seq #[(.str (Str.ofString "cls") 231), (.str (Str.ofString "subclass") 232)] 0), #[]⟩
def o46v5 (P : Params) : Obj := ⟨(.type "tuple"), none, (.seq #[] 0), #[]⟩
def o47v5 (P : Params) : Obj := ⟨.none, none, (.func { name := (Str.ofString "register"), qualname := (Str.ofString "ABCMeta.register"), params := fParams (sub 5 0), body := .stmts (fBody (sub 5 0)), scope := fScope (sub 5 0), globals := 0, closure := [], defaults := .none, kwdefaults := .none, doc := .none, pyModule := .none, annotations := none, code := .none, closureTuple := .none, builtins := 0 }), #[]⟩
def o48v5 (P : Params) : Obj := ⟨(.type "code"), none, (.fields #[(.str (Str.ofString "register") 228), (.str (Str.ofString "ABCMeta.register") 229), (.str (Str.ofString "/claim/cut.py") 230), (.int 21 0), (.int 2 0), (.int 0 0), (.int 0 0), (.int 3 0), (.ref 43), (.bool true), (.int 181 0), (.ref 44), .none, (.ref 45), (.ref 46), (.ref 47), (.int 233 0), (.int 21 0), (.str (Str.ofString "/claim/cut.py") 234)]), #[]⟩
def o49v5 (P : Params) : Obj := ⟨(.type "function"), none, (.func { name := (Str.ofString "register"), qualname := (Str.ofString "ABCMeta.register"), params := fParams (sub 5 0), body := .stmts (fBody (sub 5 0)), scope := fScope (sub 5 0), globals := 3, closure := [], defaults := .none, kwdefaults := .none, doc := .none, pyModule := (.str (Str.ofString "abc") 214), annotations := none, code := (.ref 48), closureTuple := .none, builtins := 0 }), #[]⟩
def o50v5 (P : Params) : Obj := ⟨(.type "tuple"), none, (.seq #[] 0), #[]⟩
def o51v5 (P : Params) : Obj := ⟨(.type "dict"), none, (.dict #[⟨PyData.keyHash P (Str.ofString "__module__"), (.str (Str.ofString "__module__") 223), (.str (Str.ofString "abc") 214)⟩, ⟨PyData.keyHash P (Str.ofString "__firstlineno__"), (.str (Str.ofString "__firstlineno__") 227), (.int 19 226)⟩, ⟨PyData.keyHash P (Str.ofString "register"), (.str (Str.ofString "register") 235), (.ref 49)⟩, ⟨PyData.keyHash P (Str.ofString "__static_attributes__"), (.str (Str.ofString "__static_attributes__") 236), (.ref 50)⟩, ⟨PyData.keyHash P (Str.ofString "__doc__"), (.str (Str.ofString "__doc__") 237), .none⟩] 2), #[]⟩
def o52v7 (P : Params) : Obj := ⟨(.type "type"), none, (.cls { name := (Str.ofString "ABCMeta"), bases := [(.type "type")], mro := [(.ref 52), (.type "type"), (.type "object")], ns := 51, qualname := (Str.ofString "ABCMeta"), hasDict := true, slotNames := [], subclasses := [(.ref 85)], abstract := false, collection := none, hasDel := false }), #[some (.ref 36), none, some (.str (Str.ofString "ABCMeta") 216), some (.str (Str.ofString "ABCMeta") 224), some (.builtin "type.__new__"), some (.bool true)]⟩
def o53v5 (P : Params) : Obj := ⟨(.type "super"), none, (.fields #[(.ref 52), (.ref 52), (.ref 52)]), #[]⟩
def o54v5 (P : Params) : Obj := ⟨(.type "builtin_function_or_method"), none, (.fields #[(.builtin "object.__init_subclass__"), (.ref 52)]), #[]⟩
def o55v7 (P : Params) : Obj := ⟨(.type "tuple"), none, (.seq #[(.ref 52)] 0), #[]⟩
def o56v7 (P : Params) : Obj := ⟨(.type "builtin_function_or_method"), none, (.fields #[(.builtin "type.__prepare__"), (.type "type")]), #[]⟩
def o57v7 (P : Params) : Obj := ⟨(.type "dict"), none, (.dict #[⟨PyData.keyHash P (Str.ofString "__module__"), (.str (Str.ofString "__module__") 249), (.str (Str.ofString "collections.abc") 240)⟩, ⟨PyData.keyHash P (Str.ofString "__qualname__"), (.str (Str.ofString "__qualname__") 251), (.str (Str.ofString "_ABCLike") 250)⟩, ⟨PyData.keyHash P (Str.ofString "__firstlineno__"), (.str (Str.ofString "__firstlineno__") 253), (.int 24 252)⟩, ⟨PyData.keyHash P (Str.ofString "__instancecheck__"), (.str (Str.ofString "__instancecheck__") 262), (.ref 68)⟩, ⟨PyData.keyHash P (Str.ofString "__subclasscheck__"), (.str (Str.ofString "__subclasscheck__") 270), (.ref 75)⟩, ⟨PyData.keyHash P (Str.ofString "register"), (.str (Str.ofString "register") 278), (.ref 82)⟩, ⟨PyData.keyHash P (Str.ofString "__static_attributes__"), (.str (Str.ofString "__static_attributes__") 279), (.ref 83)⟩] 7), #[]⟩
def o58v7 (P : Params) : Obj := ⟨(.type "tuple"), none, (.seq #[] 0), #[]⟩
def o59v7 (P : Params) : Obj := ⟨.none, none, (.fields #[(.int 26 0), (.int 4 0), (.ref 67), (.int 32 0), (.int 4 0), (.ref 74), (.int 37 0), (.int 4 0), (.ref 81)]), #[]⟩
def o60v7 (P : Params) : Obj := ⟨(.type "code"), none, (.fields #[(.str (Str.ofString "_ABCLike") 244), (.str (Str.ofString "_ABCLike") 245), (.str (Str.ofString "/claim/cut.py") 246), (.int 24 0), (.int 0 0), (.int 0 0), (.int 0 0), (.int 0 0), (.ref 58), (.bool false), (.int 181 0), (.ref 59), .none, .none, .none, .none, (.int 247 0), (.int 24 0), (.str (Str.ofString "/claim/cut.py") 248)]), #[]⟩
def o61v7 (P : Params) : Obj := ⟨(.type "frame"), none, .plain, #[some (.ref 60), some (.ref 3), some (.ref 57), none, some (.str (Str.ofString "collections.abc") 240), none, some (.ref 0)]⟩
def o62v7 (P : Params) : Obj := ⟨(.type "tuple"), none, (.seq #[] 0), #[]⟩
def o63v7 (P : Params) : Obj := ⟨.none, none, (.fields #[]), #[]⟩
def o64v7 (P : Params) : Obj := ⟨(.type "tuple"), none, (.seq #[(.str (Str.ofString "cls") 257), (.str (Str.ofString "instance") 258), (.str (Str.ofString "C") 259)] 0), #[]⟩
def o65v7 (P : Params) : Obj := ⟨(.type "tuple"), none, (.seq #[] 0), #[]⟩
def o66v7 (P : Params) : Obj := ⟨.none, none, (.func { name := (Str.ofString "__instancecheck__"), qualname := (Str.ofString "_ABCLike.__instancecheck__"), params := fParams (sub 7 0), body := .stmts (fBody (sub 7 0)), scope := fScope (sub 7 0), globals := 0, closure := [], defaults := .none, kwdefaults := .none, doc := .none, pyModule := .none, annotations := none, code := .none, closureTuple := .none, builtins := 0 }), #[]⟩
def o67v7 (P : Params) : Obj := ⟨(.type "code"), none, (.fields #[(.str (Str.ofString "__instancecheck__") 254), (.str (Str.ofString "_ABCLike.__instancecheck__") 255), (.str (Str.ofString "/claim/cut.py") 256), (.int 26 0), (.int 2 0), (.int 0 0), (.int 0 0), (.int 3 0), (.ref 62), (.bool true), (.int 181 0), (.ref 63), .none, (.ref 64), (.ref 65), (.ref 66), (.int 260 0), (.int 26 0), (.str (Str.ofString "/claim/cut.py") 261)]), #[]⟩
def o68v7 (P : Params) : Obj := ⟨(.type "function"), none, (.func { name := (Str.ofString "__instancecheck__"), qualname := (Str.ofString "_ABCLike.__instancecheck__"), params := fParams (sub 7 0), body := .stmts (fBody (sub 7 0)), scope := fScope (sub 7 0), globals := 3, closure := [], defaults := .none, kwdefaults := .none, doc := .none, pyModule := (.str (Str.ofString "collections.abc") 240), annotations := none, code := (.ref 67), closureTuple := .none, builtins := 0 }), #[]⟩
def o69v7 (P : Params) : Obj := ⟨(.type "tuple"), none, (.seq #[] 0), #[]⟩
def o70v7 (P : Params) : Obj := ⟨.none, none, (.fields #[]), #[]⟩
def o71v7 (P : Params) : Obj := ⟨(.type "tuple"), none, (.seq #[(.str (Str.ofString "cls") 266), (.str (Str.ofString "C") 267)] 0), #[]⟩
def o72v7 (P : Params) : Obj := ⟨(.type "tuple"), none, (.seq #[] 0), #[]⟩
def o73v7 (P : Params) : Obj := ⟨.none, none, (.func { name := (Str.ofString "__subclasscheck__"), qualname := (Str.ofString "_ABCLike.__subclasscheck__"), params := fParams (sub 7 1), body := .stmts (fBody (sub 7 1)), scope := fScope (sub 7 1), globals := 0, closure := [], defaults := .none, kwdefaults := .none, doc := .none, pyModule := .none, annotations := none, code := .none, closureTuple := .none, builtins := 0 }), #[]⟩
def o74v7 (P : Params) : Obj := ⟨(.type "code"), none, (.fields #[(.str (Str.ofString "__subclasscheck__") 263), (.str (Str.ofString "_ABCLike.__subclasscheck__") 264), (.str (Str.ofString "/claim/cut.py") 265), (.int 32 0), (.int 2 0), (.int 0 0), (.int 0 0), (.int 3 0), (.ref 69), (.bool true), (.int 181 0), (.ref 70), .none, (.ref 71), (.ref 72), (.ref 73), (.int 268 0), (.int 32 0), (.str (Str.ofString "/claim/cut.py") 269)]), #[]⟩
def o75v7 (P : Params) : Obj := ⟨(.type "function"), none, (.func { name := (Str.ofString "__subclasscheck__"), qualname := (Str.ofString "_ABCLike.__subclasscheck__"), params := fParams (sub 7 1), body := .stmts (fBody (sub 7 1)), scope := fScope (sub 7 1), globals := 3, closure := [], defaults := .none, kwdefaults := .none, doc := .none, pyModule := (.str (Str.ofString "collections.abc") 240), annotations := none, code := (.ref 74), closureTuple := .none, builtins := 0 }), #[]⟩
def o76v7 (P : Params) : Obj := ⟨(.type "tuple"), none, (.seq #[] 0), #[]⟩
def o77v7 (P : Params) : Obj := ⟨.none, none, (.fields #[]), #[]⟩
def o78v7 (P : Params) : Obj := ⟨(.type "tuple"), none, (.seq #[(.str (Str.ofString "cls") 274), (.str (Str.ofString "subclass") 275)] 0), #[]⟩
def o79v7 (P : Params) : Obj := ⟨(.type "tuple"), none, (.seq #[] 0), #[]⟩
def o80v7 (P : Params) : Obj := ⟨.none, none, (.func { name := (Str.ofString "register"), qualname := (Str.ofString "_ABCLike.register"), params := fParams (sub 7 2), body := .stmts (fBody (sub 7 2)), scope := fScope (sub 7 2), globals := 0, closure := [], defaults := .none, kwdefaults := .none, doc := .none, pyModule := .none, annotations := none, code := .none, closureTuple := .none, builtins := 0 }), #[]⟩
def o81v7 (P : Params) : Obj := ⟨(.type "code"), none, (.fields #[(.str (Str.ofString "register") 271), (.str (Str.ofString "_ABCLike.register") 272), (.str (Str.ofString "/claim/cut.py") 273), (.int 37 0), (.int 2 0), (.int 0 0), (.int 0 0), (.int 3 0), (.ref 76), (.bool true), (.int 181 0), (.ref 77), .none, (.ref 78), (.ref 79), (.ref 80), (.int 276 0), (.int 37 0), (.str (Str.ofString "/claim/cut.py") 277)]), #[]⟩
def o82v7 (P : Params) : Obj := ⟨(.type "function"), none, (.func { name := (Str.ofString "register"), qualname := (Str.ofString "_ABCLike.register"), params := fParams (sub 7 2), body := .stmts (fBody (sub 7 2)), scope := fScope (sub 7 2), globals := 3, closure := [], defaults := .none, kwdefaults := .none, doc := .none, pyModule := (.str (Str.ofString "collections.abc") 240), annotations := none, code := (.ref 81), closureTuple := .none, builtins := 0 }), #[]⟩
def o83v7 (P : Params) : Obj := ⟨(.type "tuple"), none, (.seq #[] 0), #[]⟩
def o84v7 (P : Params) : Obj := ⟨(.type "dict"), none, (.dict #[⟨PyData.keyHash P (Str.ofString "__module__"), (.str (Str.ofString "__module__") 249), (.str (Str.ofString "collections.abc") 240)⟩, ⟨PyData.keyHash P (Str.ofString "__firstlineno__"), (.str (Str.ofString "__firstlineno__") 253), (.int 24 252)⟩, ⟨PyData.keyHash P (Str.ofString "__instancecheck__"), (.str (Str.ofString "__instancecheck__") 262), (.ref 68)⟩, ⟨PyData.keyHash P (Str.ofString "__subclasscheck__"), (.str (Str.ofString "__subclasscheck__") 270), (.ref 75)⟩, ⟨PyData.keyHash P (Str.ofString "register"), (.str (Str.ofString "register") 278), (.ref 82)⟩, ⟨PyData.keyHash P (Str.ofString "__static_attributes__"), (.str (Str.ofString "__static_attributes__") 279), (.ref 83)⟩, ⟨PyData.keyHash P (Str.ofString "__doc__"), (.str (Str.ofString "__doc__") 280), .none⟩] 2), #[]⟩
def o85v7 (P : Params) : Obj := ⟨(.type "type"), none, (.cls { name := (Str.ofString "_ABCLike"), bases := [(.ref 52)], mro := [(.ref 85), (.ref 52), (.type "type"), (.type "object")], ns := 84, qualname := (Str.ofString "_ABCLike"), hasDict := true, slotNames := [], subclasses := [], abstract := false, collection := none, hasDel := false }), #[some (.ref 55), none, some (.str (Str.ofString "_ABCLike") 242), some (.str (Str.ofString "_ABCLike") 250), some (.builtin "type.__new__"), some (.bool true)]⟩
def o86v7 (P : Params) : Obj := ⟨(.type "super"), none, (.fields #[(.ref 85), (.ref 85), (.ref 85)]), #[]⟩
def o87v7 (P : Params) : Obj := ⟨(.type "builtin_function_or_method"), none, (.fields #[(.builtin "object.__init_subclass__"), (.ref 85)]), #[]⟩
def o88v8 (P : Params) : Obj := ⟨(.type "tuple"), none, (.seq #[] 0), #[]⟩
def o89v8 (P : Params) : Obj := ⟨.none, none, (.fields #[]), #[]⟩
def o90v8 (P : Params) : Obj := ⟨(.type "tuple"), none, (.seq #[(.str (Str.ofString "C") 286)] 0), #[]⟩
def o91v8 (P : Params) : Obj := ⟨(.type "tuple"), none, (.seq #[] 0), #[]⟩
def o92v8 (P : Params) : Obj := ⟨.none, none, (.func { name := (Str.ofString "_abc_plain_meta"), qualname := (Str.ofString "_abc_plain_meta"), params := fParams (fd 8), body := .stmts (fBody (fd 8)), scope := fScope (fd 8), globals := 0, closure := [], defaults := .none, kwdefaults := .none, doc := .none, pyModule := .none, annotations := none, code := .none, closureTuple := .none, builtins := 0 }), #[]⟩
def o93v8 (P : Params) : Obj := ⟨(.type "code"), none, (.fields #[(.str (Str.ofString "_abc_plain_meta") 283), (.str (Str.ofString "_abc_plain_meta") 284), (.str (Str.ofString "/claim/cut.py") 285), (.int 39 0), (.int 1 0), (.int 0 0), (.int 0 0), (.int 3 0), (.ref 88), (.bool true), (.int 181 0), (.ref 89), .none, (.ref 90), (.ref 91), (.ref 92), (.int 287 0), (.int 39 0), (.str (Str.ofString "/claim/cut.py") 288)]), #[]⟩
def o94v8 (P : Params) : Obj := ⟨(.type "function"), none, (.func { name := (Str.ofString "_abc_plain_meta"), qualname := (Str.ofString "_abc_plain_meta"), params := fParams (fd 8), body := .stmts (fBody (fd 8)), scope := fScope (fd 8), globals := 3, closure := [], defaults := .none, kwdefaults := .none, doc := .none, pyModule := (.str (Str.ofString "collections.abc") 240), annotations := none, code := (.ref 93), closureTuple := .none, builtins := 0 }), #[]⟩
def o95v10 (P : Params) : Obj := ⟨(.type "tuple"), none, (.seq #[] 0), #[]⟩
def o96v10 (P : Params) : Obj := ⟨.none, none, (.fields #[]), #[]⟩
def o97v10 (P : Params) : Obj := ⟨(.type "tuple"), none, (.seq #[(.str (Str.ofString "path") 295), (.str (Str.ofString "kind") 296), (.str (Str.ofString "hook") 297), (.str (Str.ofString "given") 298)] 0), #[]⟩
def o98v10 (P : Params) : Obj := ⟨(.type "tuple"), none, (.seq #[] 0), #[]⟩
def o99v10 (P : Params) : Obj := ⟨.none, none, (.func { name := (Str.ofString "fspath"), qualname := (Str.ofString "fspath"), params := fParams (fd 10), body := .stmts (fBody (fd 10)), scope := fScope (fd 10), globals := 0, closure := [], defaults := .none, kwdefaults := .none, doc := .none, pyModule := .none, annotations := none, code := .none, closureTuple := .none, builtins := 0 }), #[]⟩
def o100v10 (P : Params) : Obj := ⟨(.type "code"), none, (.fields #[(.str (Str.ofString "fspath") 292), (.str (Str.ofString "fspath") 293), (.str (Str.ofString "/claim/cut.py") 294), (.int 43 0), (.int 1 0), (.int 0 0), (.int 0 0), (.int 3 0), (.ref 95), (.bool true), (.int 181 0), (.ref 96), .none, (.ref 97), (.ref 98), (.ref 99), (.int 299 0), (.int 43 0), (.str (Str.ofString "/claim/cut.py") 300)]), #[]⟩
def o101v10 (P : Params) : Obj := ⟨(.type "function"), none, (.func { name := (Str.ofString "fspath"), qualname := (Str.ofString "fspath"), params := fParams (fd 10), body := .stmts (fBody (fd 10)), scope := fScope (fd 10), globals := 3, closure := [], defaults := .none, kwdefaults := .none, doc := .none, pyModule := (.str (Str.ofString "os") 290), annotations := none, code := (.ref 100), closureTuple := .none, builtins := 0 }), #[]⟩
def o102v12 (P : Params) : Obj := ⟨(.type "tuple"), none, (.seq #[] 0), #[]⟩
def o103v12 (P : Params) : Obj := ⟨.none, none, (.fields #[]), #[]⟩
def o104v12 (P : Params) : Obj := ⟨(.type "tuple"), none, (.seq #[(.str (Str.ofString "p") 307), (.str (Str.ofString "sep") 308), (.str (Str.ofString "altsep") 309), (.str (Str.ofString "extsep") 310), (.str (Str.ofString "sepIndex") 311), (.str (Str.ofString "altsepIndex") 312), (.str (Str.ofString "dotIndex") 313), (.str (Str.ofString "filenameIndex") 314)] 0), #[]⟩
def o105v12 (P : Params) : Obj := ⟨(.type "tuple"), none, (.seq #[] 0), #[]⟩
def o106v12 (P : Params) : Obj := ⟨.none, none, (.func { name := (Str.ofString "_splitext"), qualname := (Str.ofString "_splitext"), params := fParams (fd 12), body := .stmts (fBody (fd 12)), scope := fScope (fd 12), globals := 0, closure := [], defaults := .none, kwdefaults := .none, doc := .none, pyModule := .none, annotations := none, code := .none, closureTuple := .none, builtins := 0 }), #[]⟩
def o107v12 (P : Params) : Obj := ⟨(.type "code"), none, (.fields #[(.str (Str.ofString "_splitext") 304), (.str (Str.ofString "_splitext") 305), (.str (Str.ofString "/claim/cut.py") 306), (.int 60 0), (.int 4 0), (.int 0 0), (.int 0 0), (.int 3 0), (.ref 102), (.bool true), (.int 181 0), (.ref 103), .none, (.ref 104), (.ref 105), (.ref 106), (.int 315 0), (.int 60 0), (.str (Str.ofString "/claim/cut.py") 316)]), #[]⟩
def o108v12 (P : Params) : Obj := ⟨(.type "function"), none, (.func { name := (Str.ofString "_splitext"), qualname := (Str.ofString "_splitext"), params := fParams (fd 12), body := .stmts (fBody (fd 12)), scope := fScope (fd 12), globals := 3, closure := [], defaults := .none, kwdefaults := .none, doc := (.str (Str.ofString "Split the extension from a pathname.\n\nExtension is everything from the last dot to the end, ignoring\nleading dots.  Returns \"(root, ext)\"; ext may be empty.") 317), pyModule := (.str (Str.ofString "cpy313.genericpath") 302), annotations := none, code := (.ref 107), closureTuple := .none, builtins := 0 }), #[]⟩
def o109v14 (P : Params) : Obj := ⟨(.type "tuple"), none, (.seq #[] 0), #[]⟩
def o110v14 (P : Params) : Obj := ⟨.none, none, (.fields #[]), #[]⟩
def o111v14 (P : Params) : Obj := ⟨(.type "tuple"), none, (.seq #[(.str (Str.ofString "p") 324), (.str (Str.ofString "sep") 325), (.str (Str.ofString "extsep") 326)] 0), #[]⟩
def o112v14 (P : Params) : Obj := ⟨(.type "tuple"), none, (.seq #[] 0), #[]⟩
def o113v14 (P : Params) : Obj := ⟨.none, none, (.func { name := (Str.ofString "splitext"), qualname := (Str.ofString "splitext"), params := fParams (fd 14), body := .stmts (fBody (fd 14)), scope := fScope (fd 14), globals := 0, closure := [], defaults := .none, kwdefaults := .none, doc := .none, pyModule := .none, annotations := none, code := .none, closureTuple := .none, builtins := 0 }), #[]⟩
def o114v14 (P : Params) : Obj := ⟨(.type "code"), none, (.fields #[(.str (Str.ofString "splitext") 321), (.str (Str.ofString "splitext") 322), (.str (Str.ofString "/claim/cut.py") 323), (.int 78 0), (.int 1 0), (.int 0 0), (.int 0 0), (.int 3 0), (.ref 109), (.bool true), (.int 181 0), (.ref 110), .none, (.ref 111), (.ref 112), (.ref 113), (.int 327 0), (.int 78 0), (.str (Str.ofString "/claim/cut.py") 328)]), #[]⟩
def o115v14 (P : Params) : Obj := ⟨(.type "function"), none, (.func { name := (Str.ofString "splitext"), qualname := (Str.ofString "splitext"), params := fParams (fd 14), body := .stmts (fBody (fd 14)), scope := fScope (fd 14), globals := 3, closure := [], defaults := .none, kwdefaults := .none, doc := .none, pyModule := (.str (Str.ofString "cpy313.posixpath") 319), annotations := none, code := (.ref 114), closureTuple := .none, builtins := 0 }), #[]⟩
def o115v15 (P : Params) : Obj := ⟨(.type "function"), none, (.func { name := (Str.ofString "splitext"), qualname := (Str.ofString "splitext"), params := fParams (fd 14), body := .stmts (fBody (fd 14)), scope := fScope (fd 14), globals := 3, closure := [], defaults := .none, kwdefaults := .none, doc := (.str (Str.ofString "Split the extension from a pathname.\n\nExtension is everything from the last dot to the end, ignoring\nleading dots.  Returns \"(root, ext)\"; ext may be empty.") 317), pyModule := (.str (Str.ofString "cpy313.posixpath") 319), annotations := none, code := (.ref 114), closureTuple := .none, builtins := 0 }), #[]⟩
def o116v15 (P : Params) : Obj := ⟨(.type "frame"), none, (.dict #[⟨PyData.keyHash P (Str.ofString "x"), (.str (Str.ofString "x") 330), (.ref 108)⟩, ⟨PyData.keyHash P (Str.ofString "t"), (.str (Str.ofString "t") 332), (.type "function")⟩, ⟨PyData.keyHash P (Str.ofString "f"), (.str (Str.ofString "f") 344), (.ref 108)⟩] 3), #[]⟩
def o117v15 (P : Params) : Obj := ⟨(.type "tuple"), none, (.seq #[(.str (Str.ofString "abc") 335), (.str (Str.ofString "collections.abc") 336), (.str (Str.ofString "os") 337)] 0), #[]⟩
def o118v15 (P : Params) : Obj := ⟨(.type "tuple"), none, (.seq #[(.str (Str.ofString "abc") 352), (.str (Str.ofString "collections.abc") 353), (.str (Str.ofString "os") 354)] 0), #[]⟩
def o119v17 (P : Params) : Obj := ⟨(.type "list"), none, (.seq #[(.int 173 365), (.int 847 366), (.int 6150 367), (.int 6155 368), (.int 6156 369), (.int 6157 370), (.int 8203 371), (.int 8204 372), (.int 8205 373), (.int 8288 374), (.int 65279 375)] 0), #[]⟩
def o120v17 (P : Params) : Obj := ⟨(.type "range"), none, (.fields #[(.int 65024 376), (.int 65040 377), (.int 1 378)]), #[]⟩
def o121v17 (P : Params) : Obj := ⟨(.type "list"), none, (.seq #[(.int 65024 381), (.int 65025 382), (.int 65026 383), (.int 65027 384), (.int 65028 385), (.int 65029 386), (.int 65030 387), (.int 65031 388), (.int 65032 389), (.int 65033 390), (.int 65034 391), (.int 65035 392), (.int 65036 393), (.int 65037 394), (.int 65038 395), (.int 65039 396)] 18), #[]⟩
def o122v17 (P : Params) : Obj := ⟨(.type "range_iterator"), none, (.fields #[(.int 65040 0), (.int 0 0), (.int 1 0)]), #[]⟩
def o123v17 (P : Params) : Obj := ⟨(.type "tuple"), none, (.seq #[] 0), #[]⟩
def o124v17 (P : Params) : Obj := ⟨(.type "StopIteration"), none, (.fields #[(.ref 123), .none, .none, .none, (.bool false), .none]), #[]⟩
def o125v17 (P : Params) : Obj := ⟨(.type "list"), none, (.seq #[(.int 173 365), (.int 847 366), (.int 6150 367), (.int 6155 368), (.int 6156 369), (.int 6157 370), (.int 8203 371), (.int 8204 372), (.int 8205 373), (.int 8288 374), (.int 65279 375), (.int 65024 381), (.int 65025 382), (.int 65026 383), (.int 65027 384), (.int 65028 385), (.int 65029 386), (.int 65030 387), (.int 65031 388), (.int 65032 389), (.int 65033 390), (.int 65034 391), (.int 65035 392), (.int 65036 393), (.int 65037 394), (.int 65038 395), (.int 65039 396)] 0), #[]⟩
def o126v17 (P : Params) : Obj := ⟨(.type "set"), none, (.set #[(65024, (.int 65024 381)), (65025, (.int 65025 382)), (65026, (.int 65026 383)), (65027, (.int 65027 384)), (65028, (.int 65028 385)), (65029, (.int 65029 386)), (6150, (.int 6150 367)), (65030, (.int 65030 387)), (65031, (.int 65031 388)), (65032, (.int 65032 389)), (65033, (.int 65033 390)), (6155, (.int 6155 368)), (6156, (.int 6156 369)), (6157, (.int 6157 370)), (8203, (.int 8203 371)), (8204, (.int 8204 372)), (8205, (.int 8205 373)), (65034, (.int 65034 391)), (65035, (.int 65035 392)), (65036, (.int 65036 393)), (65037, (.int 65037 394)), (65038, (.int 65038 395)), (65039, (.int 65039 396)), (173, (.int 173 365)), (847, (.int 847 366)), (8288, (.int 8288 374)), (65279, (.int 65279 375))] 29 ⟨127, #[0, 1, 2, 3, 4, 5, 6, 7, 8, 9, 10, 11, 12, 13, 14, 15, 16, 17, 18, 19, 20, 21, 22, 45, 79, 96, 127], #[], 0, !P.followText "set-order", 2, true⟩), #[]⟩
def o127v17 (P : Params) : Obj := ⟨(.type "list_iterator"), none, (.fields #[.none, (.int 27 0)]), #[]⟩
def o128v17 (P : Params) : Obj := ⟨(.type "tuple"), none, (.seq #[] 0), #[]⟩
def o129v17 (P : Params) : Obj := ⟨(.type "StopIteration"), none, (.fields #[(.ref 128), .none, .none, .none, (.bool false), .none]), #[]⟩
def o130v18 (P : Params) : Obj := ⟨(.type "tuple"), none, (.seq #[] 0), #[]⟩
def o131v18 (P : Params) : Obj := ⟨.none, none, (.fields #[]), #[]⟩
def o132v18 (P : Params) : Obj := ⟨(.type "tuple"), none, (.seq #[(.str (Str.ofString "code") 428)] 0), #[]⟩
def o133v18 (P : Params) : Obj := ⟨(.type "tuple"), none, (.seq #[] 0), #[]⟩
def o134v18 (P : Params) : Obj := ⟨.none, none, (.func { name := (Str.ofString "in_table_b1"), qualname := (Str.ofString "in_table_b1"), params := fParams (fd 18), body := .stmts (fBody (fd 18)), scope := fScope (fd 18), globals := 0, closure := [], defaults := .none, kwdefaults := .none, doc := .none, pyModule := .none, annotations := none, code := .none, closureTuple := .none, builtins := 0 }), #[]⟩
def o135v18 (P : Params) : Obj := ⟨(.type "code"), none, (.fields #[(.str (Str.ofString "in_table_b1") 425), (.str (Str.ofString "in_table_b1") 426), (.str (Str.ofString "/claim/cut.py") 427), (.int 90 0), (.int 1 0), (.int 0 0), (.int 0 0), (.int 3 0), (.ref 130), (.bool true), (.int 181 0), (.ref 131), .none, (.ref 132), (.ref 133), (.ref 134), (.int 429 0), (.int 90 0), (.str (Str.ofString "/claim/cut.py") 430)]), #[]⟩
def o136v18 (P : Params) : Obj := ⟨(.type "function"), none, (.func { name := (Str.ofString "in_table_b1"), qualname := (Str.ofString "in_table_b1"), params := fParams (fd 18), body := .stmts (fBody (fd 18)), scope := fScope (fd 18), globals := 3, closure := [], defaults := .none, kwdefaults := .none, doc := .none, pyModule := (.str (Str.ofString "cpy313.stringprep") 363), annotations := none, code := (.ref 135), closureTuple := .none, builtins := 0 }), #[]⟩
def o176v20 (P : Params) : Obj := ⟨(.type "tuple"), none, (.seq #[] 0), #[]⟩
def o177v20 (P : Params) : Obj := ⟨.none, none, (.fields #[]), #[]⟩
def o178v20 (P : Params) : Obj := ⟨(.type "tuple"), none, (.seq #[(.str (Str.ofString "code") 2386), (.str (Str.ofString "r") 2387)] 0), #[]⟩
def o179v20 (P : Params) : Obj := ⟨(.type "tuple"), none, (.seq #[] 0), #[]⟩
def o180v20 (P : Params) : Obj := ⟨.none, none, (.func { name := (Str.ofString "map_table_b3"), qualname := (Str.ofString "map_table_b3"), params := fParams (fd 20), body := .stmts (fBody (fd 20)), scope := fScope (fd 20), globals := 0, closure := [], defaults := .none, kwdefaults := .none, doc := .none, pyModule := .none, annotations := none, code := .none, closureTuple := .none, builtins := 0 }), #[]⟩
def o181v20 (P : Params) : Obj := ⟨(.type "code"), none, (.fields #[(.str (Str.ofString "map_table_b3") 2383), (.str (Str.ofString "map_table_b3") 2384), (.str (Str.ofString "/claim/cut.py") 2385), (.int 93 0), (.int 1 0), (.int 0 0), (.int 0 0), (.int 3 0), (.ref 176), (.bool true), (.int 181 0), (.ref 177), .none, (.ref 178), (.ref 179), (.ref 180), (.int 2388 0), (.int 93 0), (.str (Str.ofString "/claim/cut.py") 2389)]), #[]⟩
def o182v20 (P : Params) : Obj := ⟨(.type "function"), none, (.func { name := (Str.ofString "map_table_b3"), qualname := (Str.ofString "map_table_b3"), params := fParams (fd 20), body := .stmts (fBody (fd 20)), scope := fScope (fd 20), globals := 3, closure := [], defaults := .none, kwdefaults := .none, doc := .none, pyModule := (.str (Str.ofString "cpy313.stringprep") 363), annotations := none, code := (.ref 181), closureTuple := .none, builtins := 0 }), #[]⟩
def o183v22 (P : Params) : Obj := ⟨(.type "tuple"), none, (.seq #[] 0), #[]⟩
def o184v22 (P : Params) : Obj := ⟨.none, none, (.fields #[]), #[]⟩
def o185v22 (P : Params) : Obj := ⟨(.type "tuple"), none, (.seq #[(.str (Str.ofString "turn") 2396), (.str (Str.ofString "place") 2397)] 0), #[]⟩
def o186v22 (P : Params) : Obj := ⟨(.type "tuple"), none, (.seq #[] 0), #[]⟩
def o187v22 (P : Params) : Obj := ⟨.none, none, (.func { name := (Str.ofString "_law_gone"), qualname := (Str.ofString "_law_gone"), params := fParams (fd 22), body := .stmts (fBody (fd 22)), scope := fScope (fd 22), globals := 0, closure := [], defaults := .none, kwdefaults := .none, doc := .none, pyModule := .none, annotations := none, code := .none, closureTuple := .none, builtins := 0 }), #[]⟩
def o188v22 (P : Params) : Obj := ⟨(.type "code"), none, (.fields #[(.str (Str.ofString "_law_gone") 2393), (.str (Str.ofString "_law_gone") 2394), (.str (Str.ofString "/claim/cut.py") 2395), (.int 99 0), (.int 1 0), (.int 0 0), (.int 0 0), (.int 3 0), (.ref 183), (.bool true), (.int 181 0), (.ref 184), .none, (.ref 185), (.ref 186), (.ref 187), (.int 2398 0), (.int 99 0), (.str (Str.ofString "/claim/cut.py") 2399)]), #[]⟩
def o189v22 (P : Params) : Obj := ⟨(.type "function"), none, (.func { name := (Str.ofString "_law_gone"), qualname := (Str.ofString "_law_gone"), params := fParams (fd 22), body := .stmts (fBody (fd 22)), scope := fScope (fd 22), globals := 3, closure := [], defaults := .none, kwdefaults := .none, doc := .none, pyModule := (.str (Str.ofString "law_ij0132_01") 2391), annotations := none, code := (.ref 188), closureTuple := .none, builtins := 0 }), #[]⟩
def o190v23 (P : Params) : Obj := ⟨(.type "tuple"), none, (.seq #[] 0), #[]⟩
def o191v23 (P : Params) : Obj := ⟨.none, none, (.fields #[]), #[]⟩
def o192v23 (P : Params) : Obj := ⟨(.type "tuple"), none, (.seq #[(.str (Str.ofString "turn") 2404), (.str (Str.ofString "code") 2405), (.str (Str.ofString "plain") 2406)] 0), #[]⟩
def o193v23 (P : Params) : Obj := ⟨(.type "tuple"), none, (.seq #[] 0), #[]⟩
def o194v23 (P : Params) : Obj := ⟨.none, none, (.func { name := (Str.ofString "_law_special"), qualname := (Str.ofString "_law_special"), params := fParams (fd 23), body := .stmts (fBody (fd 23)), scope := fScope (fd 23), globals := 0, closure := [], defaults := .none, kwdefaults := .none, doc := .none, pyModule := .none, annotations := none, code := .none, closureTuple := .none, builtins := 0 }), #[]⟩
def o195v23 (P : Params) : Obj := ⟨(.type "code"), none, (.fields #[(.str (Str.ofString "_law_special") 2401), (.str (Str.ofString "_law_special") 2402), (.str (Str.ofString "/claim/cut.py") 2403), (.int 102 0), (.int 1 0), (.int 0 0), (.int 0 0), (.int 3 0), (.ref 190), (.bool true), (.int 181 0), (.ref 191), .none, (.ref 192), (.ref 193), (.ref 194), (.int 2407 0), (.int 102 0), (.str (Str.ofString "/claim/cut.py") 2408)]), #[]⟩
def o196v23 (P : Params) : Obj := ⟨(.type "function"), none, (.func { name := (Str.ofString "_law_special"), qualname := (Str.ofString "_law_special"), params := fParams (fd 23), body := .stmts (fBody (fd 23)), scope := fScope (fd 23), globals := 3, closure := [], defaults := .none, kwdefaults := .none, doc := .none, pyModule := (.str (Str.ofString "law_ij0132_01") 2391), annotations := none, code := (.ref 195), closureTuple := .none, builtins := 0 }), #[]⟩
def o197v24 (P : Params) : Obj := ⟨(.type "tuple"), none, (.seq #[] 0), #[]⟩
def o198v24 (P : Params) : Obj := ⟨.none, none, (.fields #[]), #[]⟩
def o199v24 (P : Params) : Obj := ⟨(.type "tuple"), none, (.seq #[(.str (Str.ofString "numbers") 2413), (.str (Str.ofString "signs") 2414), (.str (Str.ofString "number") 2415), (.str (Str.ofString "figure") 2416), (.str (Str.ofString "turn") 2417), (.str (Str.ofString "sign") 2418), (.str (Str.ofString "meant") 2419)] 0), #[]⟩
def o200v24 (P : Params) : Obj := ⟨(.type "tuple"), none, (.seq #[] 0), #[]⟩
def o201v24 (P : Params) : Obj := ⟨.none, none, (.func { name := (Str.ofString "_law_signs"), qualname := (Str.ofString "_law_signs"), params := fParams (fd 24), body := .stmts (fBody (fd 24)), scope := fScope (fd 24), globals := 0, closure := [], defaults := .none, kwdefaults := .none, doc := .none, pyModule := .none, annotations := none, code := .none, closureTuple := .none, builtins := 0 }), #[]⟩
def o202v24 (P : Params) : Obj := ⟨(.type "code"), none, (.fields #[(.str (Str.ofString "_law_signs") 2410), (.str (Str.ofString "_law_signs") 2411), (.str (Str.ofString "/claim/cut.py") 2412), (.int 105 0), (.int 1 0), (.int 0 0), (.int 0 0), (.int 3 0), (.ref 197), (.bool true), (.int 181 0), (.ref 198), .none, (.ref 199), (.ref 200), (.ref 201), (.int 2420 0), (.int 105 0), (.str (Str.ofString "/claim/cut.py") 2421)]), #[]⟩
def o203v24 (P : Params) : Obj := ⟨(.type "function"), none, (.func { name := (Str.ofString "_law_signs"), qualname := (Str.ofString "_law_signs"), params := fParams (fd 24), body := .stmts (fBody (fd 24)), scope := fScope (fd 24), globals := 3, closure := [], defaults := .none, kwdefaults := .none, doc := .none, pyModule := (.str (Str.ofString "law_ij0132_01") 2391), annotations := none, code := (.ref 202), closureTuple := .none, builtins := 0 }), #[]⟩
def o204v25 (P : Params) : Obj := ⟨(.type "tuple"), none, (.seq #[] 0), #[]⟩
def o205v25 (P : Params) : Obj := ⟨.none, none, (.fields #[]), #[]⟩
def o206v25 (P : Params) : Obj := ⟨.none, none, (.func { name := (Str.ofString "_law_prepared"), qualname := (Str.ofString "_law_prepared"), params := fParams (fd 25), body := .stmts (fBody (fd 25)), scope := fScope (fd 25), globals := 0, closure := [], defaults := .none, kwdefaults := .none, doc := .none, pyModule := .none, annotations := none, code := .none, closureTuple := .none, builtins := 0 }), #[]⟩
def o207v25 (P : Params) : Obj := ⟨(.type "code"), none, (.fields #[(.str (Str.ofString "_law_prepared") 2423), (.str (Str.ofString "_law_prepared") 2424), (.str (Str.ofString "/claim/cut.py") 2425), (.int 124 0), (.int 1 0), (.int 0 0), (.int 0 0), (.int 3 0), (.ref 204), (.bool true), (.int 181 0), (.ref 205), .none, .none, .none, (.ref 206), (.int 2426 0), (.int 124 0), (.str (Str.ofString "/claim/cut.py") 2427)]), #[]⟩
def o208v25 (P : Params) : Obj := ⟨(.type "function"), none, (.func { name := (Str.ofString "_law_prepared"), qualname := (Str.ofString "_law_prepared"), params := fParams (fd 25), body := .stmts (fBody (fd 25)), scope := fScope (fd 25), globals := 3, closure := [], defaults := .none, kwdefaults := .none, doc := .none, pyModule := (.str (Str.ofString "law_ij0132_01") 2391), annotations := none, code := (.ref 207), closureTuple := .none, builtins := 0 }), #[]⟩
def o209v26 (P : Params) : Obj := ⟨(.type "tuple"), none, (.seq #[] 0), #[]⟩
def o210v26 (P : Params) : Obj := ⟨.none, none, (.fields #[]), #[]⟩
def o211v26 (P : Params) : Obj := ⟨(.type "tuple"), none, (.seq #[(.str (Str.ofString "path") 2432), (.str (Str.ofString "words") 2433), (.str (Str.ofString "size") 2434)] 0), #[]⟩
def o212v26 (P : Params) : Obj := ⟨(.type "tuple"), none, (.seq #[] 0), #[]⟩
def o213v26 (P : Params) : Obj := ⟨.none, none, (.func { name := (Str.ofString "_law_cut"), qualname := (Str.ofString "_law_cut"), params := fParams (fd 26), body := .stmts (fBody (fd 26)), scope := fScope (fd 26), globals := 0, closure := [], defaults := .none, kwdefaults := .none, doc := .none, pyModule := .none, annotations := none, code := .none, closureTuple := .none, builtins := 0 }), #[]⟩
def o214v26 (P : Params) : Obj := ⟨(.type "code"), none, (.fields #[(.str (Str.ofString "_law_cut") 2429), (.str (Str.ofString "_law_cut") 2430), (.str (Str.ofString "/claim/cut.py") 2431), (.int 126 0), (.int 1 0), (.int 0 0), (.int 0 0), (.int 3 0), (.ref 209), (.bool true), (.int 181 0), (.ref 210), .none, (.ref 211), (.ref 212), (.ref 213), (.int 2435 0), (.int 126 0), (.str (Str.ofString "/claim/cut.py") 2436)]), #[]⟩
def o215v26 (P : Params) : Obj := ⟨(.type "function"), none, (.func { name := (Str.ofString "_law_cut"), qualname := (Str.ofString "_law_cut"), params := fParams (fd 26), body := .stmts (fBody (fd 26)), scope := fScope (fd 26), globals := 3, closure := [], defaults := .none, kwdefaults := .none, doc := .none, pyModule := (.str (Str.ofString "law_ij0132_01") 2391), annotations := none, code := (.ref 214), closureTuple := .none, builtins := 0 }), #[]⟩
def o216v27 (P : Params) : Obj := ⟨(.type "tuple"), none, (.seq #[] 0), #[]⟩
def o217v27 (P : Params) : Obj := ⟨.none, none, (.fields #[]), #[]⟩
def o218v27 (P : Params) : Obj := ⟨.none, none, (.func { name := (Str.ofString "_law_alike"), qualname := (Str.ofString "_law_alike"), params := fParams (fd 27), body := .stmts (fBody (fd 27)), scope := fScope (fd 27), globals := 0, closure := [], defaults := .none, kwdefaults := .none, doc := .none, pyModule := .none, annotations := none, code := .none, closureTuple := .none, builtins := 0 }), #[]⟩
def o219v27 (P : Params) : Obj := ⟨(.type "code"), none, (.fields #[(.str (Str.ofString "_law_alike") 2438), (.str (Str.ofString "_law_alike") 2439), (.str (Str.ofString "/claim/cut.py") 2440), (.int 130 0), (.int 1 0), (.int 0 0), (.int 0 0), (.int 3 0), (.ref 216), (.bool true), (.int 181 0), (.ref 217), .none, .none, .none, (.ref 218), (.int 2441 0), (.int 130 0), (.str (Str.ofString "/claim/cut.py") 2442)]), #[]⟩
def o220v27 (P : Params) : Obj := ⟨(.type "function"), none, (.func { name := (Str.ofString "_law_alike"), qualname := (Str.ofString "_law_alike"), params := fParams (fd 27), body := .stmts (fBody (fd 27)), scope := fScope (fd 27), globals := 3, closure := [], defaults := .none, kwdefaults := .none, doc := .none, pyModule := (.str (Str.ofString "law_ij0132_01") 2391), annotations := none, code := (.ref 219), closureTuple := .none, builtins := 0 }), #[]⟩
def o221v28 (P : Params) : Obj := ⟨(.type "tuple"), none, (.seq #[] 0), #[]⟩
def o222v28 (P : Params) : Obj := ⟨.none, none, (.fields #[]), #[]⟩
def o223v28 (P : Params) : Obj := ⟨.none, none, (.func { name := (Str.ofString "law"), qualname := (Str.ofString "law"), params := fParams (fd 28), body := .stmts (fBody (fd 28)), scope := fScope (fd 28), globals := 0, closure := [], defaults := .none, kwdefaults := .none, doc := .none, pyModule := .none, annotations := none, code := .none, closureTuple := .none, builtins := 0 }), #[]⟩
def o224v28 (P : Params) : Obj := ⟨(.type "code"), none, (.fields #[(.str (Str.ofString "law") 2444), (.str (Str.ofString "law") 2445), (.str (Str.ofString "/claim/cut.py") 2446), (.int 136 0), (.int 1 0), (.int 0 0), (.int 0 0), (.int 3 0), (.ref 221), (.bool true), (.int 181 0), (.ref 222), .none, .none, .none, (.ref 223), (.int 2447 0), (.int 136 0), (.str (Str.ofString "/claim/cut.py") 2448)]), #[]⟩
def o225v28 (P : Params) : Obj := ⟨(.type "function"), none, (.func { name := (Str.ofString "law"), qualname := (Str.ofString "law"), params := fParams (fd 28), body := .stmts (fBody (fd 28)), scope := fScope (fd 28), globals := 3, closure := [], defaults := .none, kwdefaults := .none, doc := .none, pyModule := (.str (Str.ofString "law_ij0132_01") 2391), annotations := none, code := (.ref 224), closureTuple := .none, builtins := 0 }), #[]⟩
noncomputable def TB (P : Params) : BT := (.node (boot_o_0 P) (.node (boot_o_1 P) (.node (boot_o_3 P) (.node (boot_o_7 P) .nil .nil) (.node (o11vpre P) .nil .nil)) (.node (boot_o_5 P) (.node (boot_o_9 P) .nil .nil) (.node (o13vpre P) .nil .nil))) (.node (boot_o_2 P) (.node (boot_o_4 P) (.node (boot_o_8 P) .nil .nil) (.node (o12vpre P) .nil .nil)) (.node (boot_o_6 P) (.node (boot_o_10 P) .nil .nil) (.node (o14vpre P) .nil .nil))))
noncomputable def SB (w : World) (os : OsState) : SharedT := ⟨TB w.params, 15, life0, Array.mk [], boot_drawn, 187, os⟩
noncomputable def T15 (P : Params) : BT := (.node (boot_o_0 P) (.node (boot_o_1 P) (.node (o3v14 P) (.node (boot_o_7 P) (.node (o15v0 P) (.node (o31v3 P) (.node (o63v7 P) .nil .nil) (.node (o95v10 P) .nil .nil)) (.node (o47v5 P) (.node (o79v7 P) .nil .nil) (.node (o111v14 P) .nil .nil))) (.node (o23v1 P) (.node (o39v5 P) (.node (o71v7 P) .nil .nil) (.node (o103v12 P) .nil .nil)) (.node (o55v7 P) (.node (o87v7 P) .nil .nil) .nil))) (.node (o11vpre P) (.node (o19v0 P) (.node (o35v3 P) (.node (o67v7 P) .nil .nil) (.node (o99v10 P) .nil .nil)) (.node (o51v5 P) (.node (o83v7 P) .nil .nil) (.node (o115v14 P) .nil .nil))) (.node (o27v1 P) (.node (o43v5 P) (.node (o75v7 P) .nil .nil) (.node (o107v12 P) .nil .nil)) (.node (o59v7 P) (.node (o91v8 P) .nil .nil) .nil)))) (.node (boot_o_5 P) (.node (boot_o_9 P) (.node (o17v0 P) (.node (o33v3 P) (.node (o65v7 P) .nil .nil) (.node (o97v10 P) .nil .nil)) (.node (o49v5 P) (.node (o81v7 P) .nil .nil) (.node (o113v14 P) .nil .nil))) (.node (o25v1 P) (.node (o41v5 P) (.node (o73v7 P) .nil .nil) (.node (o105v12 P) .nil .nil)) (.node (o57v7 P) (.node (o89v8 P) .nil .nil) .nil))) (.node (o13vpre P) (.node (o21v0 P) (.node (o37v5 P) (.node (o69v7 P) .nil .nil) (.node (o101v10 P) .nil .nil)) (.node (o53v5 P) (.node (o85v7 P) .nil .nil) .nil)) (.node (o29v3 P) (.node (o45v5 P) (.node (o77v7 P) .nil .nil) (.node (o109v14 P) .nil .nil)) (.node (o61v7 P) (.node (o93v8 P) .nil .nil) .nil))))) (.node (boot_o_2 P) (.node (boot_o_4 P) (.node (boot_o_8 P) (.node (o16v0 P) (.node (o32v3 P) (.node (o64v7 P) .nil .nil) (.node (o96v10 P) .nil .nil)) (.node (o48v5 P) (.node (o80v7 P) .nil .nil) (.node (o112v14 P) .nil .nil))) (.node (o24v1 P) (.node (o40v5 P) (.node (o72v7 P) .nil .nil) (.node (o104v12 P) .nil .nil)) (.node (o56v7 P) (.node (o88v8 P) .nil .nil) .nil))) (.node (o12v14 P) (.node (o20v0 P) (.node (o36v5 P) (.node (o68v7 P) .nil .nil) (.node (o100v10 P) .nil .nil)) (.node (o52v7 P) (.node (o84v7 P) .nil .nil) .nil)) (.node (o28v1 P) (.node (o44v5 P) (.node (o76v7 P) .nil .nil) (.node (o108v12 P) .nil .nil)) (.node (o60v7 P) (.node (o92v8 P) .nil .nil) .nil)))) (.node (boot_o_6 P) (.node (boot_o_10 P) (.node (o18v0 P) (.node (o34v3 P) (.node (o66v7 P) .nil .nil) (.node (o98v10 P) .nil .nil)) (.node (o50v5 P) (.node (o82v7 P) .nil .nil) (.node (o114v14 P) .nil .nil))) (.node (o26v1 P) (.node (o42v5 P) (.node (o74v7 P) .nil .nil) (.node (o106v12 P) .nil .nil)) (.node (o58v7 P) (.node (o90v8 P) .nil .nil) .nil))) (.node (o14vpre P) (.node (o22v1 P) (.node (o38v5 P) (.node (o70v7 P) .nil .nil) (.node (o102v12 P) .nil .nil)) (.node (o54v5 P) (.node (o86v7 P) .nil .nil) .nil)) (.node (o30v3 P) (.node (o46v5 P) (.node (o78v7 P) .nil .nil) (.node (o110v14 P) .nil .nil)) (.node (o62v7 P) (.node (o94v8 P) .nil .nil) .nil))))))
noncomputable def S15 (w : World) (os : OsState) : SharedT := ⟨T15 w.params, 116, life0, Array.mk [], boot_drawn, 330, os⟩
noncomputable def T17 (P : Params) : BT := (.node (boot_o_0 P) (.node (boot_o_1 P) (.node (o3v16 P) (.node (boot_o_7 P) (.node (o15v0 P) (.node (o31v3 P) (.node (o63v7 P) .nil .nil) (.node (o95v10 P) .nil .nil)) (.node (o47v5 P) (.node (o79v7 P) .nil .nil) (.node (o111v14 P) .nil .nil))) (.node (o23v1 P) (.node (o39v5 P) (.node (o71v7 P) .nil .nil) (.node (o103v12 P) .nil .nil)) (.node (o55v7 P) (.node (o87v7 P) .nil .nil) .nil))) (.node (o11vpre P) (.node (o19v0 P) (.node (o35v3 P) (.node (o67v7 P) .nil .nil) (.node (o99v10 P) .nil .nil)) (.node (o51v5 P) (.node (o83v7 P) .nil .nil) (.node (o115v15 P) .nil .nil))) (.node (o27v1 P) (.node (o43v5 P) (.node (o75v7 P) .nil .nil) (.node (o107v12 P) .nil .nil)) (.node (o59v7 P) (.node (o91v8 P) .nil .nil) .nil)))) (.node (boot_o_5 P) (.node (boot_o_9 P) (.node (o17v0 P) (.node (o33v3 P) (.node (o65v7 P) .nil .nil) (.node (o97v10 P) .nil .nil)) (.node (o49v5 P) (.node (o81v7 P) .nil .nil) (.node (o113v14 P) .nil .nil))) (.node (o25v1 P) (.node (o41v5 P) (.node (o73v7 P) .nil .nil) (.node (o105v12 P) .nil .nil)) (.node (o57v7 P) (.node (o89v8 P) .nil .nil) .nil))) (.node (o13vpre P) (.node (o21v0 P) (.node (o37v5 P) (.node (o69v7 P) .nil .nil) (.node (o101v10 P) .nil .nil)) (.node (o53v5 P) (.node (o85v7 P) .nil .nil) (.node (o117v15 P) .nil .nil))) (.node (o29v3 P) (.node (o45v5 P) (.node (o77v7 P) .nil .nil) (.node (o109v14 P) .nil .nil)) (.node (o61v7 P) (.node (o93v8 P) .nil .nil) .nil))))) (.node (boot_o_2 P) (.node (boot_o_4 P) (.node (boot_o_8 P) (.node (o16v0 P) (.node (o32v3 P) (.node (o64v7 P) .nil .nil) (.node (o96v10 P) .nil .nil)) (.node (o48v5 P) (.node (o80v7 P) .nil .nil) (.node (o112v14 P) .nil .nil))) (.node (o24v1 P) (.node (o40v5 P) (.node (o72v7 P) .nil .nil) (.node (o104v12 P) .nil .nil)) (.node (o56v7 P) (.node (o88v8 P) .nil .nil) .nil))) (.node (o12v14 P) (.node (o20v0 P) (.node (o36v5 P) (.node (o68v7 P) .nil .nil) (.node (o100v10 P) .nil .nil)) (.node (o52v7 P) (.node (o84v7 P) .nil .nil) (.node (o116v15 P) .nil .nil))) (.node (o28v1 P) (.node (o44v5 P) (.node (o76v7 P) .nil .nil) (.node (o108v12 P) .nil .nil)) (.node (o60v7 P) (.node (o92v8 P) .nil .nil) .nil)))) (.node (boot_o_6 P) (.node (boot_o_10 P) (.node (o18v0 P) (.node (o34v3 P) (.node (o66v7 P) .nil .nil) (.node (o98v10 P) .nil .nil)) (.node (o50v5 P) (.node (o82v7 P) .nil .nil) (.node (o114v14 P) .nil .nil))) (.node (o26v1 P) (.node (o42v5 P) (.node (o74v7 P) .nil .nil) (.node (o106v12 P) .nil .nil)) (.node (o58v7 P) (.node (o90v8 P) .nil .nil) .nil))) (.node (o14vpre P) (.node (o22v1 P) (.node (o38v5 P) (.node (o70v7 P) .nil .nil) (.node (o102v12 P) .nil .nil)) (.node (o54v5 P) (.node (o86v7 P) .nil .nil) (.node (o118v15 P) .nil .nil))) (.node (o30v3 P) (.node (o46v5 P) (.node (o78v7 P) .nil .nil) (.node (o110v14 P) .nil .nil)) (.node (o62v7 P) (.node (o94v8 P) .nil .nil) .nil))))))
noncomputable def S17 (w : World) (os : OsState) : SharedT := ⟨T17 w.params, 119, life0, Array.mk [], boot_drawn, 365, os⟩
noncomputable def T18 (P : Params) : BT := (.node (boot_o_0 P) (.node (boot_o_1 P) (.node (o3v17 P) (.node (boot_o_7 P) (.node (o15v0 P) (.node (o31v3 P) (.node (o63v7 P) (.node (o127v17 P) .nil .nil) .nil) (.node (o95v10 P) .nil .nil)) (.node (o47v5 P) (.node (o79v7 P) .nil .nil) (.node (o111v14 P) .nil .nil))) (.node (o23v1 P) (.node (o39v5 P) (.node (o71v7 P) .nil .nil) (.node (o103v12 P) .nil .nil)) (.node (o55v7 P) (.node (o87v7 P) .nil .nil) (.node (o119v17 P) .nil .nil)))) (.node (o11vpre P) (.node (o19v0 P) (.node (o35v3 P) (.node (o67v7 P) .nil .nil) (.node (o99v10 P) .nil .nil)) (.node (o51v5 P) (.node (o83v7 P) .nil .nil) (.node (o115v15 P) .nil .nil))) (.node (o27v1 P) (.node (o43v5 P) (.node (o75v7 P) .nil .nil) (.node (o107v12 P) .nil .nil)) (.node (o59v7 P) (.node (o91v8 P) .nil .nil) (.node (o123v17 P) .nil .nil))))) (.node (boot_o_5 P) (.node (boot_o_9 P) (.node (o17v0 P) (.node (o33v3 P) (.node (o65v7 P) (.node (o129v17 P) .nil .nil) .nil) (.node (o97v10 P) .nil .nil)) (.node (o49v5 P) (.node (o81v7 P) .nil .nil) (.node (o113v14 P) .nil .nil))) (.node (o25v1 P) (.node (o41v5 P) (.node (o73v7 P) .nil .nil) (.node (o105v12 P) .nil .nil)) (.node (o57v7 P) (.node (o89v8 P) .nil .nil) (.node (o121v17 P) .nil .nil)))) (.node (o13vpre P) (.node (o21v0 P) (.node (o37v5 P) (.node (o69v7 P) .nil .nil) (.node (o101v10 P) .nil .nil)) (.node (o53v5 P) (.node (o85v7 P) .nil .nil) (.node (o117v15 P) .nil .nil))) (.node (o29v3 P) (.node (o45v5 P) (.node (o77v7 P) .nil .nil) (.node (o109v14 P) .nil .nil)) (.node (o61v7 P) (.node (o93v8 P) .nil .nil) (.node (o125v17 P) .nil .nil)))))) (.node (boot_o_2 P) (.node (boot_o_4 P) (.node (boot_o_8 P) (.node (o16v0 P) (.node (o32v3 P) (.node (o64v7 P) (.node (o128v17 P) .nil .nil) .nil) (.node (o96v10 P) .nil .nil)) (.node (o48v5 P) (.node (o80v7 P) .nil .nil) (.node (o112v14 P) .nil .nil))) (.node (o24v1 P) (.node (o40v5 P) (.node (o72v7 P) .nil .nil) (.node (o104v12 P) .nil .nil)) (.node (o56v7 P) (.node (o88v8 P) .nil .nil) (.node (o120v17 P) .nil .nil)))) (.node (o12v14 P) (.node (o20v0 P) (.node (o36v5 P) (.node (o68v7 P) .nil .nil) (.node (o100v10 P) .nil .nil)) (.node (o52v7 P) (.node (o84v7 P) .nil .nil) (.node (o116v15 P) .nil .nil))) (.node (o28v1 P) (.node (o44v5 P) (.node (o76v7 P) .nil .nil) (.node (o108v12 P) .nil .nil)) (.node (o60v7 P) (.node (o92v8 P) .nil .nil) (.node (o124v17 P) .nil .nil))))) (.node (boot_o_6 P) (.node (boot_o_10 P) (.node (o18v0 P) (.node (o34v3 P) (.node (o66v7 P) .nil .nil) (.node (o98v10 P) .nil .nil)) (.node (o50v5 P) (.node (o82v7 P) .nil .nil) (.node (o114v14 P) .nil .nil))) (.node (o26v1 P) (.node (o42v5 P) (.node (o74v7 P) .nil .nil) (.node (o106v12 P) .nil .nil)) (.node (o58v7 P) (.node (o90v8 P) .nil .nil) (.node (o122v17 P) .nil .nil)))) (.node (o14vpre P) (.node (o22v1 P) (.node (o38v5 P) (.node (o70v7 P) .nil .nil) (.node (o102v12 P) .nil .nil)) (.node (o54v5 P) (.node (o86v7 P) .nil .nil) (.node (o118v15 P) .nil .nil))) (.node (o30v3 P) (.node (o46v5 P) (.node (o78v7 P) .nil .nil) (.node (o110v14 P) .nil .nil)) (.node (o62v7 P) (.node (o94v8 P) .nil .nil) (.node (o126v17 P) .nil .nil)))))))
noncomputable def S18 (w : World) (os : OsState) : SharedT := ⟨T18 w.params, 130, life0, Array.mk [], boot_drawn, 425, os⟩
noncomputable def T19 (P : Params) : BT := (.node (boot_o_0 P) (.node (boot_o_1 P) (.node (o3v18 P) (.node (boot_o_7 P) (.node (o15v0 P) (.node (o31v3 P) (.node (o63v7 P) (.node (o127v17 P) .nil .nil) .nil) (.node (o95v10 P) .nil .nil)) (.node (o47v5 P) (.node (o79v7 P) .nil .nil) (.node (o111v14 P) .nil .nil))) (.node (o23v1 P) (.node (o39v5 P) (.node (o71v7 P) (.node (o135v18 P) .nil .nil) .nil) (.node (o103v12 P) .nil .nil)) (.node (o55v7 P) (.node (o87v7 P) .nil .nil) (.node (o119v17 P) .nil .nil)))) (.node (o11vpre P) (.node (o19v0 P) (.node (o35v3 P) (.node (o67v7 P) (.node (o131v18 P) .nil .nil) .nil) (.node (o99v10 P) .nil .nil)) (.node (o51v5 P) (.node (o83v7 P) .nil .nil) (.node (o115v15 P) .nil .nil))) (.node (o27v1 P) (.node (o43v5 P) (.node (o75v7 P) .nil .nil) (.node (o107v12 P) .nil .nil)) (.node (o59v7 P) (.node (o91v8 P) .nil .nil) (.node (o123v17 P) .nil .nil))))) (.node (boot_o_5 P) (.node (boot_o_9 P) (.node (o17v0 P) (.node (o33v3 P) (.node (o65v7 P) (.node (o129v17 P) .nil .nil) .nil) (.node (o97v10 P) .nil .nil)) (.node (o49v5 P) (.node (o81v7 P) .nil .nil) (.node (o113v14 P) .nil .nil))) (.node (o25v1 P) (.node (o41v5 P) (.node (o73v7 P) .nil .nil) (.node (o105v12 P) .nil .nil)) (.node (o57v7 P) (.node (o89v8 P) .nil .nil) (.node (o121v17 P) .nil .nil)))) (.node (o13vpre P) (.node (o21v0 P) (.node (o37v5 P) (.node (o69v7 P) (.node (o133v18 P) .nil .nil) .nil) (.node (o101v10 P) .nil .nil)) (.node (o53v5 P) (.node (o85v7 P) .nil .nil) (.node (o117v15 P) .nil .nil))) (.node (o29v3 P) (.node (o45v5 P) (.node (o77v7 P) .nil .nil) (.node (o109v14 P) .nil .nil)) (.node (o61v7 P) (.node (o93v8 P) .nil .nil) (.node (o125v17 P) .nil .nil)))))) (.node (boot_o_2 P) (.node (boot_o_4 P) (.node (boot_o_8 P) (.node (o16v0 P) (.node (o32v3 P) (.node (o64v7 P) (.node (o128v17 P) .nil .nil) .nil) (.node (o96v10 P) .nil .nil)) (.node (o48v5 P) (.node (o80v7 P) .nil .nil) (.node (o112v14 P) .nil .nil))) (.node (o24v1 P) (.node (o40v5 P) (.node (o72v7 P) (.node (o136v18 P) .nil .nil) .nil) (.node (o104v12 P) .nil .nil)) (.node (o56v7 P) (.node (o88v8 P) .nil .nil) (.node (o120v17 P) .nil .nil)))) (.node (o12v18 P) (.node (o20v0 P) (.node (o36v5 P) (.node (o68v7 P) (.node (o132v18 P) .nil .nil) .nil) (.node (o100v10 P) .nil .nil)) (.node (o52v7 P) (.node (o84v7 P) .nil .nil) (.node (o116v15 P) .nil .nil))) (.node (o28v1 P) (.node (o44v5 P) (.node (o76v7 P) .nil .nil) (.node (o108v12 P) .nil .nil)) (.node (o60v7 P) (.node (o92v8 P) .nil .nil) (.node (o124v17 P) .nil .nil))))) (.node (boot_o_6 P) (.node (boot_o_10 P) (.node (o18v0 P) (.node (o34v3 P) (.node (o66v7 P) (.node (o130v18 P) .nil .nil) .nil) (.node (o98v10 P) .nil .nil)) (.node (o50v5 P) (.node (o82v7 P) .nil .nil) (.node (o114v14 P) .nil .nil))) (.node (o26v1 P) (.node (o42v5 P) (.node (o74v7 P) .nil .nil) (.node (o106v12 P) .nil .nil)) (.node (o58v7 P) (.node (o90v8 P) .nil .nil) (.node (o122v17 P) .nil .nil)))) (.node (o14vpre P) (.node (o22v1 P) (.node (o38v5 P) (.node (o70v7 P) (.node (o134v18 P) .nil .nil) .nil) (.node (o102v12 P) .nil .nil)) (.node (o54v5 P) (.node (o86v7 P) .nil .nil) (.node (o118v15 P) .nil .nil))) (.node (o30v3 P) (.node (o46v5 P) (.node (o78v7 P) .nil .nil) (.node (o110v14 P) .nil .nil)) (.node (o62v7 P) (.node (o94v8 P) .nil .nil) (.node (o126v17 P) .nil .nil)))))))
noncomputable def S19 (w : World) (os : OsState) : SharedT := ⟨T19 w.params, 137, life0, Array.mk [], boot_drawn, 432, os⟩
noncomputable def T20 (P : Params) : BT := (.node (boot_o_0 P) (.node (boot_o_1 P) (.node (o3v19 P) (.node (boot_o_7 P) (.node (o15v0 P) (.node (o31v3 P) (.node (o63v7 P) (.node (o127v17 P) .nil .nil) .nil) (.node (o95v10 P) (.node (dObj (b3sub 21).toArray 17) .nil .nil) .nil)) (.node (o47v5 P) (.node (o79v7 P) (.node (dObj (b3sub 5).toArray 17) .nil .nil) .nil) (.node (o111v14 P) (.node (dObj (b3sub 37).toArray 4) .nil .nil) .nil))) (.node (o23v1 P) (.node (o39v5 P) (.node (o71v7 P) (.node (o135v18 P) .nil .nil) .nil) (.node (o103v12 P) (.node (dObj (b3sub 29).toArray 17) .nil .nil) .nil)) (.node (o55v7 P) (.node (o87v7 P) (.node (dObj (b3sub 13).toArray 17) .nil .nil) .nil) (.node (o119v17 P) .nil .nil)))) (.node (o11vpre P) (.node (o19v0 P) (.node (o35v3 P) (.node (o67v7 P) (.node (o131v18 P) .nil .nil) .nil) (.node (o99v10 P) (.node (dObj (b3sub 25).toArray 17) .nil .nil) .nil)) (.node (o51v5 P) (.node (o83v7 P) (.node (dObj (b3sub 9).toArray 17) .nil .nil) .nil) (.node (o115v15 P) .nil .nil))) (.node (o27v1 P) (.node (o43v5 P) (.node (o75v7 P) (.node (dObj (b3sub 1).toArray 17) .nil .nil) .nil) (.node (o107v12 P) (.node (dObj (b3sub 33).toArray 17) .nil .nil) .nil)) (.node (o59v7 P) (.node (o91v8 P) (.node (dObj (b3sub 17).toArray 17) .nil .nil) .nil) (.node (o123v17 P) .nil .nil))))) (.node (boot_o_5 P) (.node (boot_o_9 P) (.node (o17v0 P) (.node (o33v3 P) (.node (o65v7 P) (.node (o129v17 P) .nil .nil) .nil) (.node (o97v10 P) (.node (dObj (b3sub 23).toArray 17) .nil .nil) .nil)) (.node (o49v5 P) (.node (o81v7 P) (.node (dObj (b3sub 7).toArray 17) .nil .nil) .nil) (.node (o113v14 P) .nil .nil))) (.node (o25v1 P) (.node (o41v5 P) (.node (o73v7 P) (.node (dObj (b3es 432).toArray 650) .nil .nil) .nil) (.node (o105v12 P) (.node (dObj (b3sub 31).toArray 17) .nil .nil) .nil)) (.node (o57v7 P) (.node (o89v8 P) (.node (dObj (b3sub 15).toArray 17) .nil .nil) .nil) (.node (o121v17 P) .nil .nil)))) (.node (o13vpre P) (.node (o21v0 P) (.node (o37v5 P) (.node (o69v7 P) (.node (o133v18 P) .nil .nil) .nil) (.node (o101v10 P) (.node (dObj (b3sub 27).toArray 17) .nil .nil) .nil)) (.node (o53v5 P) (.node (o85v7 P) (.node (dObj (b3sub 11).toArray 17) .nil .nil) .nil) (.node (o117v15 P) .nil .nil))) (.node (o29v3 P) (.node (o45v5 P) (.node (o77v7 P) (.node (dObj (b3sub 3).toArray 17) .nil .nil) .nil) (.node (o109v14 P) (.node (dObj (b3sub 35).toArray 17) .nil .nil) .nil)) (.node (o61v7 P) (.node (o93v8 P) (.node (dObj (b3sub 19).toArray 17) .nil .nil) .nil) (.node (o125v17 P) .nil .nil)))))) (.node (boot_o_2 P) (.node (boot_o_4 P) (.node (boot_o_8 P) (.node (o16v0 P) (.node (o32v3 P) (.node (o64v7 P) (.node (o128v17 P) .nil .nil) .nil) (.node (o96v10 P) (.node (dObj (b3sub 22).toArray 17) .nil .nil) .nil)) (.node (o48v5 P) (.node (o80v7 P) (.node (dObj (b3sub 6).toArray 17) .nil .nil) .nil) (.node (o112v14 P) .nil .nil))) (.node (o24v1 P) (.node (o40v5 P) (.node (o72v7 P) (.node (o136v18 P) .nil .nil) .nil) (.node (o104v12 P) (.node (dObj (b3sub 30).toArray 17) .nil .nil) .nil)) (.node (o56v7 P) (.node (o88v8 P) (.node (dObj (b3sub 14).toArray 17) .nil .nil) .nil) (.node (o120v17 P) .nil .nil)))) (.node (o12v18 P) (.node (o20v0 P) (.node (o36v5 P) (.node (o68v7 P) (.node (o132v18 P) .nil .nil) .nil) (.node (o100v10 P) (.node (dObj (b3sub 26).toArray 17) .nil .nil) .nil)) (.node (o52v7 P) (.node (o84v7 P) (.node (dObj (b3sub 10).toArray 17) .nil .nil) .nil) (.node (o116v15 P) .nil .nil))) (.node (o28v1 P) (.node (o44v5 P) (.node (o76v7 P) (.node (dObj (b3sub 2).toArray 17) .nil .nil) .nil) (.node (o108v12 P) (.node (dObj (b3sub 34).toArray 17) .nil .nil) .nil)) (.node (o60v7 P) (.node (o92v8 P) (.node (dObj (b3sub 18).toArray 17) .nil .nil) .nil) (.node (o124v17 P) .nil .nil))))) (.node (boot_o_6 P) (.node (boot_o_10 P) (.node (o18v0 P) (.node (o34v3 P) (.node (o66v7 P) (.node (o130v18 P) .nil .nil) .nil) (.node (o98v10 P) (.node (dObj (b3sub 24).toArray 17) .nil .nil) .nil)) (.node (o50v5 P) (.node (o82v7 P) (.node (dObj (b3sub 8).toArray 17) .nil .nil) .nil) (.node (o114v14 P) .nil .nil))) (.node (o26v1 P) (.node (o42v5 P) (.node (o74v7 P) (.node (dObj (b3sub 0).toArray 17) .nil .nil) .nil) (.node (o106v12 P) (.node (dObj (b3sub 32).toArray 17) .nil .nil) .nil)) (.node (o58v7 P) (.node (o90v8 P) (.node (dObj (b3sub 16).toArray 17) .nil .nil) .nil) (.node (o122v17 P) .nil .nil)))) (.node (o14vpre P) (.node (o22v1 P) (.node (o38v5 P) (.node (o70v7 P) (.node (o134v18 P) .nil .nil) .nil) (.node (o102v12 P) (.node (dObj (b3sub 28).toArray 17) .nil .nil) .nil)) (.node (o54v5 P) (.node (o86v7 P) (.node (dObj (b3sub 12).toArray 17) .nil .nil) .nil) (.node (o118v15 P) .nil .nil))) (.node (o30v3 P) (.node (o46v5 P) (.node (o78v7 P) (.node (dObj (b3sub 4).toArray 17) .nil .nil) .nil) (.node (o110v14 P) (.node (dObj (b3sub 36).toArray 17) .nil .nil) .nil)) (.node (o62v7 P) (.node (o94v8 P) (.node (dObj (b3sub 20).toArray 17) .nil .nil) .nil) (.node (o126v17 P) .nil .nil)))))))
noncomputable def S20 (w : World) (os : OsState) : SharedT := ⟨T20 w.params, 176, life0, Array.mk [], boot_drawn, 2383, os⟩
noncomputable def T29 (P : Params) : BT := (.node (boot_o_0 P) (.node (boot_o_1 P) (.node (o3v28 P) (.node (boot_o_7 P) (.node (o15v0 P) (.node (o31v3 P) (.node (o63v7 P) (.node (o127v17 P) .nil .nil) (.node (o191v23 P) .nil .nil)) (.node (o95v10 P) (.node (dObj (b3sub 21).toArray 17) .nil .nil) (.node (o223v28 P) .nil .nil))) (.node (o47v5 P) (.node (o79v7 P) (.node (dObj (b3sub 5).toArray 17) .nil .nil) (.node (o207v25 P) .nil .nil)) (.node (o111v14 P) (.node (dObj (b3sub 37).toArray 4) .nil .nil) .nil))) (.node (o23v1 P) (.node (o39v5 P) (.node (o71v7 P) (.node (o135v18 P) .nil .nil) (.node (o199v24 P) .nil .nil)) (.node (o103v12 P) (.node (dObj (b3sub 29).toArray 17) .nil .nil) .nil)) (.node (o55v7 P) (.node (o87v7 P) (.node (dObj (b3sub 13).toArray 17) .nil .nil) (.node (o215v26 P) .nil .nil)) (.node (o119v17 P) (.node (o183v22 P) .nil .nil) .nil)))) (.node (o11vpre P) (.node (o19v0 P) (.node (o35v3 P) (.node (o67v7 P) (.node (o131v18 P) .nil .nil) (.node (o195v23 P) .nil .nil)) (.node (o99v10 P) (.node (dObj (b3sub 25).toArray 17) .nil .nil) .nil)) (.node (o51v5 P) (.node (o83v7 P) (.node (dObj (b3sub 9).toArray 17) .nil .nil) (.node (o211v26 P) .nil .nil)) (.node (o115v15 P) (.node (o179v20 P) .nil .nil) .nil))) (.node (o27v1 P) (.node (o43v5 P) (.node (o75v7 P) (.node (dObj (b3sub 1).toArray 17) .nil .nil) (.node (o203v24 P) .nil .nil)) (.node (o107v12 P) (.node (dObj (b3sub 33).toArray 17) .nil .nil) .nil)) (.node (o59v7 P) (.node (o91v8 P) (.node (dObj (b3sub 17).toArray 17) .nil .nil) (.node (o219v27 P) .nil .nil)) (.node (o123v17 P) (.node (o187v22 P) .nil .nil) .nil))))) (.node (boot_o_5 P) (.node (boot_o_9 P) (.node (o17v0 P) (.node (o33v3 P) (.node (o65v7 P) (.node (o129v17 P) .nil .nil) (.node (o193v23 P) .nil .nil)) (.node (o97v10 P) (.node (dObj (b3sub 23).toArray 17) .nil .nil) (.node (o225v28 P) .nil .nil))) (.node (o49v5 P) (.node (o81v7 P) (.node (dObj (b3sub 7).toArray 17) .nil .nil) (.node (o209v26 P) .nil .nil)) (.node (o113v14 P) (.node (o177v20 P) .nil .nil) .nil))) (.node (o25v1 P) (.node (o41v5 P) (.node (o73v7 P) (.node (dObj (b3es 432).toArray 650) .nil .nil) (.node (o201v24 P) .nil .nil)) (.node (o105v12 P) (.node (dObj (b3sub 31).toArray 17) .nil .nil) .nil)) (.node (o57v7 P) (.node (o89v8 P) (.node (dObj (b3sub 15).toArray 17) .nil .nil) (.node (o217v27 P) .nil .nil)) (.node (o121v17 P) (.node (o185v22 P) .nil .nil) .nil)))) (.node (o13vpre P) (.node (o21v0 P) (.node (o37v5 P) (.node (o69v7 P) (.node (o133v18 P) .nil .nil) (.node (o197v24 P) .nil .nil)) (.node (o101v10 P) (.node (dObj (b3sub 27).toArray 17) .nil .nil) .nil)) (.node (o53v5 P) (.node (o85v7 P) (.node (dObj (b3sub 11).toArray 17) .nil .nil) (.node (o213v26 P) .nil .nil)) (.node (o117v15 P) (.node (o181v20 P) .nil .nil) .nil))) (.node (o29v3 P) (.node (o45v5 P) (.node (o77v7 P) (.node (dObj (b3sub 3).toArray 17) .nil .nil) (.node (o205v25 P) .nil .nil)) (.node (o109v14 P) (.node (dObj (b3sub 35).toArray 17) .nil .nil) .nil)) (.node (o61v7 P) (.node (o93v8 P) (.node (dObj (b3sub 19).toArray 17) .nil .nil) (.node (o221v28 P) .nil .nil)) (.node (o125v17 P) (.node (o189v22 P) .nil .nil) .nil)))))) (.node (boot_o_2 P) (.node (boot_o_4 P) (.node (boot_o_8 P) (.node (o16v0 P) (.node (o32v3 P) (.node (o64v7 P) (.node (o128v17 P) .nil .nil) (.node (o192v23 P) .nil .nil)) (.node (o96v10 P) (.node (dObj (b3sub 22).toArray 17) .nil .nil) (.node (o224v28 P) .nil .nil))) (.node (o48v5 P) (.node (o80v7 P) (.node (dObj (b3sub 6).toArray 17) .nil .nil) (.node (o208v25 P) .nil .nil)) (.node (o112v14 P) (.node (o176v20 P) .nil .nil) .nil))) (.node (o24v1 P) (.node (o40v5 P) (.node (o72v7 P) (.node (o136v18 P) .nil .nil) (.node (o200v24 P) .nil .nil)) (.node (o104v12 P) (.node (dObj (b3sub 30).toArray 17) .nil .nil) .nil)) (.node (o56v7 P) (.node (o88v8 P) (.node (dObj (b3sub 14).toArray 17) .nil .nil) (.node (o216v27 P) .nil .nil)) (.node (o120v17 P) (.node (o184v22 P) .nil .nil) .nil)))) (.node (o12v28 P) (.node (o20v0 P) (.node (o36v5 P) (.node (o68v7 P) (.node (o132v18 P) .nil .nil) (.node (o196v23 P) .nil .nil)) (.node (o100v10 P) (.node (dObj (b3sub 26).toArray 17) .nil .nil) .nil)) (.node (o52v7 P) (.node (o84v7 P) (.node (dObj (b3sub 10).toArray 17) .nil .nil) (.node (o212v26 P) .nil .nil)) (.node (o116v15 P) (.node (o180v20 P) .nil .nil) .nil))) (.node (o28v1 P) (.node (o44v5 P) (.node (o76v7 P) (.node (dObj (b3sub 2).toArray 17) .nil .nil) (.node (o204v25 P) .nil .nil)) (.node (o108v12 P) (.node (dObj (b3sub 34).toArray 17) .nil .nil) .nil)) (.node (o60v7 P) (.node (o92v8 P) (.node (dObj (b3sub 18).toArray 17) .nil .nil) (.node (o220v27 P) .nil .nil)) (.node (o124v17 P) (.node (o188v22 P) .nil .nil) .nil))))) (.node (boot_o_6 P) (.node (boot_o_10 P) (.node (o18v0 P) (.node (o34v3 P) (.node (o66v7 P) (.node (o130v18 P) .nil .nil) (.node (o194v23 P) .nil .nil)) (.node (o98v10 P) (.node (dObj (b3sub 24).toArray 17) .nil .nil) .nil)) (.node (o50v5 P) (.node (o82v7 P) (.node (dObj (b3sub 8).toArray 17) .nil .nil) (.node (o210v26 P) .nil .nil)) (.node (o114v14 P) (.node (o178v20 P) .nil .nil) .nil))) (.node (o26v1 P) (.node (o42v5 P) (.node (o74v7 P) (.node (dObj (b3sub 0).toArray 17) .nil .nil) (.node (o202v24 P) .nil .nil)) (.node (o106v12 P) (.node (dObj (b3sub 32).toArray 17) .nil .nil) .nil)) (.node (o58v7 P) (.node (o90v8 P) (.node (dObj (b3sub 16).toArray 17) .nil .nil) (.node (o218v27 P) .nil .nil)) (.node (o122v17 P) (.node (o186v22 P) .nil .nil) .nil)))) (.node (o14vpre P) (.node (o22v1 P) (.node (o38v5 P) (.node (o70v7 P) (.node (o134v18 P) .nil .nil) (.node (o198v24 P) .nil .nil)) (.node (o102v12 P) (.node (dObj (b3sub 28).toArray 17) .nil .nil) .nil)) (.node (o54v5 P) (.node (o86v7 P) (.node (dObj (b3sub 12).toArray 17) .nil .nil) (.node (o214v26 P) .nil .nil)) (.node (o118v15 P) (.node (o182v20 P) .nil .nil) .nil))) (.node (o30v3 P) (.node (o46v5 P) (.node (o78v7 P) (.node (dObj (b3sub 4).toArray 17) .nil .nil) (.node (o206v25 P) .nil .nil)) (.node (o110v14 P) (.node (dObj (b3sub 36).toArray 17) .nil .nil) .nil)) (.node (o62v7 P) (.node (o94v8 P) (.node (dObj (b3sub 20).toArray 17) .nil .nil) (.node (o222v28 P) .nil .nil)) (.node (o126v17 P) (.node (o190v23 P) .nil .nil) .nil)))))))
noncomputable def S29 (w : World) (os : OsState) : SharedT := ⟨T29 w.params, 226, life0, Array.mk [], boot_drawn, 2450, os⟩
/-- what of the top the walk may ask -/
noncomputable def K (P : Params) : Frag := (nat_lit 2, (boot_o_2 P)) :: (nat_lit 3, (o3v28 P)) :: (nat_lit 15, (o15v0 P)) :: (nat_lit 17, (o17v0 P)) :: (nat_lit 18, (o18v0 P)) :: (nat_lit 20, (o20v0 P)) :: (nat_lit 21, (o21v0 P)) :: (nat_lit 29, (o29v3 P)) :: (nat_lit 31, (o31v3 P)) :: (nat_lit 32, (o32v3 P)) :: (nat_lit 34, (o34v3 P)) :: (nat_lit 35, (o35v3 P)) :: (nat_lit 36, (o36v5 P)) :: (nat_lit 43, (o43v5 P)) :: (nat_lit 45, (o45v5 P)) :: (nat_lit 46, (o46v5 P)) :: (nat_lit 48, (o48v5 P)) :: (nat_lit 49, (o49v5 P)) :: (nat_lit 50, (o50v5 P)) :: (nat_lit 51, (o51v5 P)) :: (nat_lit 52, (o52v7 P)) :: (nat_lit 55, (o55v7 P)) :: (nat_lit 62, (o62v7 P)) :: (nat_lit 64, (o64v7 P)) :: (nat_lit 65, (o65v7 P)) :: (nat_lit 67, (o67v7 P)) :: (nat_lit 68, (o68v7 P)) :: (nat_lit 69, (o69v7 P)) :: (nat_lit 71, (o71v7 P)) :: (nat_lit 72, (o72v7 P)) :: (nat_lit 74, (o74v7 P)) :: (nat_lit 75, (o75v7 P)) :: (nat_lit 76, (o76v7 P)) :: (nat_lit 78, (o78v7 P)) :: (nat_lit 79, (o79v7 P)) :: (nat_lit 81, (o81v7 P)) :: (nat_lit 82, (o82v7 P)) :: (nat_lit 83, (o83v7 P)) :: (nat_lit 84, (o84v7 P)) :: (nat_lit 85, (o85v7 P)) :: (nat_lit 88, (o88v8 P)) :: (nat_lit 90, (o90v8 P)) :: (nat_lit 91, (o91v8 P)) :: (nat_lit 93, (o93v8 P)) :: (nat_lit 94, (o94v8 P)) :: (nat_lit 95, (o95v10 P)) :: (nat_lit 97, (o97v10 P)) :: (nat_lit 98, (o98v10 P)) :: (nat_lit 100, (o100v10 P)) :: (nat_lit 101, (o101v10 P)) :: (nat_lit 102, (o102v12 P)) :: (nat_lit 104, (o104v12 P)) :: (nat_lit 105, (o105v12 P)) :: (nat_lit 107, (o107v12 P)) :: (nat_lit 108, (o108v12 P)) :: (nat_lit 109, (o109v14 P)) :: (nat_lit 111, (o111v14 P)) :: (nat_lit 112, (o112v14 P)) :: (nat_lit 114, (o114v14 P)) :: (nat_lit 115, (o115v15 P)) :: (nat_lit 126, (o126v17 P)) :: (nat_lit 130, (o130v18 P)) :: (nat_lit 132, (o132v18 P)) :: (nat_lit 133, (o133v18 P)) :: (nat_lit 135, (o135v18 P)) :: (nat_lit 136, (o136v18 P)) :: (nat_lit 137, (dObj (b3es 432).toArray 650)) :: (nat_lit 176, (o176v20 P)) :: (nat_lit 178, (o178v20 P)) :: (nat_lit 179, (o179v20 P)) :: (nat_lit 181, (o181v20 P)) :: (nat_lit 182, (o182v20 P)) :: (nat_lit 183, (o183v22 P)) :: (nat_lit 185, (o185v22 P)) :: (nat_lit 186, (o186v22 P)) :: (nat_lit 188, (o188v22 P)) :: (nat_lit 189, (o189v22 P)) :: (nat_lit 190, (o190v23 P)) :: (nat_lit 192, (o192v23 P)) :: (nat_lit 193, (o193v23 P)) :: (nat_lit 195, (o195v23 P)) :: (nat_lit 196, (o196v23 P)) :: (nat_lit 197, (o197v24 P)) :: (nat_lit 199, (o199v24 P)) :: (nat_lit 200, (o200v24 P)) :: (nat_lit 202, (o202v24 P)) :: (nat_lit 203, (o203v24 P)) :: (nat_lit 204, (o204v25 P)) :: (nat_lit 207, (o207v25 P)) :: (nat_lit 208, (o208v25 P)) :: (nat_lit 209, (o209v26 P)) :: (nat_lit 211, (o211v26 P)) :: (nat_lit 212, (o212v26 P)) :: (nat_lit 214, (o214v26 P)) :: (nat_lit 215, (o215v26 P)) :: (nat_lit 216, (o216v27 P)) :: (nat_lit 219, (o219v27 P)) :: (nat_lit 220, (o220v27 P)) :: (nat_lit 221, (o221v28 P)) :: (nat_lit 224, (o224v28 P)) :: (nat_lit 225, (o225v28 P)) :: []
abbrev KA : List Addr := [nat_lit 2, nat_lit 3, nat_lit 15, nat_lit 17, nat_lit 18, nat_lit 20, nat_lit 21, nat_lit 29, nat_lit 31, nat_lit 32, nat_lit 34, nat_lit 35, nat_lit 36, nat_lit 43, nat_lit 45, nat_lit 46, nat_lit 48, nat_lit 49, nat_lit 50, nat_lit 51, nat_lit 52, nat_lit 55, nat_lit 62, nat_lit 64, nat_lit 65, nat_lit 67, nat_lit 68, nat_lit 69, nat_lit 71, nat_lit 72, nat_lit 74, nat_lit 75, nat_lit 76, nat_lit 78, nat_lit 79, nat_lit 81, nat_lit 82, nat_lit 83, nat_lit 84, nat_lit 85, nat_lit 88, nat_lit 90, nat_lit 91, nat_lit 93, nat_lit 94, nat_lit 95, nat_lit 97, nat_lit 98, nat_lit 100, nat_lit 101, nat_lit 102, nat_lit 104, nat_lit 105, nat_lit 107, nat_lit 108, nat_lit 109, nat_lit 111, nat_lit 112, nat_lit 114, nat_lit 115, nat_lit 126, nat_lit 130, nat_lit 132, nat_lit 133, nat_lit 135, nat_lit 136, nat_lit 137, nat_lit 176, nat_lit 178, nat_lit 179, nat_lit 181, nat_lit 182, nat_lit 183, nat_lit 185, nat_lit 186, nat_lit 188, nat_lit 189, nat_lit 190, nat_lit 192, nat_lit 193, nat_lit 195, nat_lit 196, nat_lit 197, nat_lit 199, nat_lit 200, nat_lit 202, nat_lit 203, nat_lit 204, nat_lit 207, nat_lit 208, nat_lit 209, nat_lit 211, nat_lit 212, nat_lit 214, nat_lit 215, nat_lit 216, nat_lit 219, nat_lit 220, nat_lit 221, nat_lit 224, nat_lit 225]
abbrev pos0 : Pos := ⟨1, 0, 3, 12⟩
abbrev pos1 : Pos := ⟨4, 0, 11, 20⟩
abbrev pos2 : Pos := ⟨12, 0, 12, 8⟩
abbrev pos3 : Pos := ⟨13, 0, 17, 12⟩
abbrev pos4 : Pos := ⟨18, 0, 18, 8⟩
abbrev pos5 : Pos := ⟨19, 0, 22, 16⟩
abbrev pos6 : Pos := ⟨23, 0, 23, 8⟩
abbrev pos7 : Pos := ⟨24, 0, 38, 16⟩
abbrev pos8 : Pos := ⟨39, 0, 41, 16⟩
abbrev pos9 : Pos := ⟨42, 0, 42, 8⟩
abbrev pos10 : Pos := ⟨43, 0, 58, 177⟩
abbrev pos11 : Pos := ⟨59, 0, 59, 8⟩
abbrev pos12 : Pos := ⟨60, 0, 76, 21⟩
abbrev pos13 : Pos := ⟨77, 0, 77, 8⟩
abbrev pos14 : Pos := ⟨78, 0, 86, 42⟩
abbrev pos15 : Pos := ⟨87, 0, 87, 16⟩
abbrev pos16 : Pos := ⟨88, 0, 88, 8⟩
abbrev pos17 : Pos := ⟨89, 0, 89, 6⟩
abbrev pos18 : Pos := ⟨90, 0, 91, 30⟩
abbrev pos19 : Pos := ⟨92, 0, 92, 13⟩
abbrev pos20 : Pos := ⟨93, 0, 97, 23⟩
abbrev pos21 : Pos := ⟨98, 0, 98, 8⟩
abbrev pos22 : Pos := ⟨99, 0, 101, 106⟩
abbrev pos23 : Pos := ⟨102, 0, 104, 29⟩
abbrev pos24 : Pos := ⟨105, 0, 123, 16⟩
abbrev pos25 : Pos := ⟨124, 0, 125, 82⟩
abbrev pos26 : Pos := ⟨126, 0, 129, 37⟩
abbrev pos27 : Pos := ⟨130, 0, 135, 57⟩
abbrev pos28 : Pos := ⟨136, 0, 146, 15⟩
noncomputable abbrev adv (w : World) (k : Nat) (l : List Stmt) (pos : Pos) (s : SharedT) : Option (Flow × SharedT × Code × Pos) := segRunT treeTable pw w 11 (some (.ref 6)) 1 k s (piecesOf l cEnv cE pos B)
end Mine

end H1_
section H2_
open PySem PySem.W PyProof.Rows
set_option maxRecDepth 100000
set_option Elab.async false
namespace Mine
noncomputable def S0 (w : World) (os : OsState) : Shared := ⟨boot_heap w.params, Array.mk [], boot_drawn, boot_toks, os⟩
/-- the same by the library's quicker words -/
noncomputable abbrev advQ (w : World) (k : Nat) (l : List Stmt) (pos : Pos) (s : SharedT) : Option (Flow × SharedT × Code × Pos) :=
  Fast.tw10110043849684766642 Fast.tw14364793385576792824 pw w 11 (some (.ref 6)) 1 k s ⟨(Fast.tw12563942051412417395 l cEnv).wrap doneF deadEnd id id, cE, pos, B⟩
theorem adv_eq : adv = advQ := by
  unfold adv advQ
  rw [← Fast.te10110043849684766642, ← Fast.te14364793385576792824, ← Fast.te12563942051412417395]
theorem tPre : ∀ w os, topGo treeTable pw w 11 (some (.ref 6)) 12 (S0 w os) (topStub pw) = some ((SB w os).abs, ⟨denote treeTable cE, cE, ⟨0,0,0,0⟩, B⟩) := fun w os => by kernel_rfl
theorem tBlock : ∀ w os, segRun treeTable pw w 11 (some (.ref 6)) 1 1 (SB w os).abs (blockOf pw.main.body cEnv cE ⟨0,0,0,0⟩ B) = some (.next, (SB w os).abs, cE, ⟨0,0,0,0⟩) := fun w os => by kernel_rfl
theorem tA : ∀ w os, adv w 793 (sts 0 15) ⟨0,0,0,0⟩ (SB w os) = some (.next, S15 w os, cE, pos14) := fun w os => by rw [adv_eq]; kernel_rfl
theorem tD : ∀ w os, adv w 245 (sts 20 29) pos19 (S20 w os) = some (.next, S29 w os, cE, pos28) := fun w os => by rw [adv_eq]; kernel_rfl
theorem tB0 (b : Bool) : ∀ (w : World) (os : OsState), adv (w.withFollow "special-get-raises" b) 324 (sts 15 17) pos14 (S15 (w.withFollow "special-get-raises" b) os) = some (.next, S17 (w.withFollow "special-get-raises" b) os, cE, pos16) := by
  rw [adv_eq]
  cases b
  · intro w os; kernel_rfl
  · intro w os; kernel_rfl
theorem tC0_ff : ∀ (w : World) (os : OsState), advQ ((w.withFollow "special-get-raises" false).withFollow "set-order" false) 999 (sts 17 18) pos16 (S17 ((w.withFollow "special-get-raises" false).withFollow "set-order" false) os) = some (.next, S18 ((w.withFollow "special-get-raises" false).withFollow "set-order" false) os, cE, pos17) := fun w os => by kernel_rfl
theorem tC0_ft : ∀ (w : World) (os : OsState), advQ ((w.withFollow "special-get-raises" false).withFollow "set-order" true) 999 (sts 17 18) pos16 (S17 ((w.withFollow "special-get-raises" false).withFollow "set-order" true) os) = some (.next, S18 ((w.withFollow "special-get-raises" false).withFollow "set-order" true) os, cE, pos17) := fun w os => by kernel_rfl
theorem tC0_tf : ∀ (w : World) (os : OsState), advQ ((w.withFollow "special-get-raises" true).withFollow "set-order" false) 999 (sts 17 18) pos16 (S17 ((w.withFollow "special-get-raises" true).withFollow "set-order" false) os) = some (.next, S18 ((w.withFollow "special-get-raises" true).withFollow "set-order" false) os, cE, pos17) := fun w os => by kernel_rfl
theorem tC0_tt : ∀ (w : World) (os : OsState), advQ ((w.withFollow "special-get-raises" true).withFollow "set-order" true) 999 (sts 17 18) pos16 (S17 ((w.withFollow "special-get-raises" true).withFollow "set-order" true) os) = some (.next, S18 ((w.withFollow "special-get-raises" true).withFollow "set-order" true) os, cE, pos17) := fun w os => by kernel_rfl
theorem tC0 (b c : Bool) : ∀ (w : World) (os : OsState), adv ((w.withFollow "special-get-raises" b).withFollow "set-order" c) 999 (sts 17 18) pos16 (S17 ((w.withFollow "special-get-raises" b).withFollow "set-order" c) os) = some (.next, S18 ((w.withFollow "special-get-raises" b).withFollow "set-order" c) os, cE, pos17) := by
  rw [adv_eq]
  cases b <;> cases c
  · exact tC0_ff
  · exact tC0_ft
  · exact tC0_tf
  · exact tC0_tt
theorem tC1 : ∀ w os, adv w 30 (sts 18 19) pos17 (S18 w os) = some (.next, S19 w os, cE, pos18) := fun w os => by rw [adv_eq]; kernel_rfl
end Mine

end H2_
section H3_
open PySem PySem.W PyProof.Rows
set_option maxRecDepth 100000
set_option Elab.async false
namespace Mine
def litOk : List (Option Expr) → List Expr → Bool
  | some (.Constant (.int _) _ _) :: ks, .Constant (.str _) _ _ :: vs => litOk ks vs
  | [], [] => true
  | _, _ => false
theorem items_of : ∀ (ks : List (Option Expr)) (vs : List Expr), litOk ks vs = true →
    (evalEachOpt ks cEnv).zip ((evalEach vs cEnv).map fun v => do let x ← v; standAt q; pure x) = opt (sems (litPairs ks vs))
  | [], [], _ => rfl
  | [], _ :: _, h => by simp [litOk] at h
  | some (.Constant (.int i) _ _) :: ks, .Constant (.str x) _ _ :: vs, h => by
    have ih := items_of ks vs (by simpa [litOk] using h)
    exact congrArg (List.cons (some (litK i), litV x)) ih
  | some (.Constant (.int i) _ _) :: ks, [], h => by simp [litOk] at h
theorem b3ok : litOk b3keys b3vals = true := by kernel_rfl
theorem fd19 : fd 19 = .Assign [.Name "b3_exceptions" ⟨92, 0, 92, 13⟩] (.Dict b3keys b3vals q) ⟨92, 0, 92, 8704⟩ := by kernel_rfl
theorem sts19 : sts 19 20 = [fd 19] := by kernel_rfl
def asc : List Int → Bool
  | a :: b :: r => decide (a < b) && asc (b :: r)
  | _ => true
theorem asc_lt : ∀ (l : List Int) (a : Int), asc (a :: l) = true → ∀ b ∈ l, a < b
  | [], _, _, _, h => by cases h
  | c :: l, a, h, b, hb => by
    simp only [asc, Bool.and_eq_true, decide_eq_true_eq] at h
    rcases List.mem_cons.mp hb with rfl | hb
    · exact h.1
    · exact Int.lt_trans h.1 (asc_lt l c h.2 b hb)
theorem asc_tail : ∀ (l : List Int) (a : Int), asc (a :: l) = true → asc l = true
  | [], _, _ => rfl
  | c :: l, a, h => by
    simp only [asc, Bool.and_eq_true] at h
    exact h.2
theorem asc_nodup : ∀ (l : List Int), asc l = true → l.Nodup
  | [], _ => List.nodup_nil
  | a :: l, h => List.nodup_cons.mpr ⟨fun hm => Int.lt_irrefl _ (asc_lt l a h a hm), asc_nodup l (asc_tail l a h)⟩
theorem b3asc : asc (b3P.map fun p => hashInt p.1) = true := by kernel_rfl
theorem b3apart : Apart [] b3P := by
  unfold Apart
  simpa using asc_nodup _ b3asc
def b3C : List (List (Int × Str)) := (List.range 37).map fun j => b3chunk (j + 1)
theorem b3split : b3P = b3P.take 17 ++ (b3C.flatten ++ b3last) := by kernel_rfl
theorem b3lens : ((b3P.take 17).length == 17 && b3C.all (fun c => c.length == 17) && (b3last.length == 4) && b3P.length == 650) = true := by kernel_rfl
theorem full19 (w : World) (os : OsState) : Full (S19 w os).tree (S19 w os).n := fun i hi => by
  have h : (List.range 137).all (fun i => ((T19 w.params).get i).isSome) = true := by kernel_rfl
  exact List.all_eq_true.mp h i (List.mem_range.mpr hi)

/-- what stands behind the display -/
noncomputable abbrev restF (v : Value) : Sem Flow := (do
  assignStores cEnv v (← swappedStores [.Name "b3_exceptions" ⟨92, 0, 92, 13⟩] (.Dict b3keys b3vals q) cEnv) ((assignEach [.Name "b3_exceptions" ⟨92, 0, 92, 13⟩] cEnv).map (·.2)))
theorem exec19 : exec (.Assign [.Name "b3_exceptions" ⟨92, 0, 92, 13⟩] (.Dict b3keys b3vals q) ⟨92, 0, 92, 8704⟩) cEnv =
    (do standAt ⟨92, 0, 92, 8704⟩; let v ← (do standAt q; dictDisplay (opt (sems b3P))); restF v) := by
  rw [show b3P = litPairs b3keys b3vals from rfl, ← items_of b3keys b3vals b3ok]
  rfl
theorem ats (w : World) (s : SharedT) (p : Pos) (X : Sem PySem.Fin) (H H' : Value → Sem PySem.Fin) (gd gd' : Bool → Bool) (lv lv' : List Value → List Value) :
    segGoT treeTable pw w 11 (some (.ref 6)) 1 2 s ⟨(standAt p).wrap (fun _ => (standAt q).wrap (fun _ => X) H' gd' lv') H gd lv, cE, pos18, B⟩ = some (s, ⟨X, cE, q, B⟩) := rfl
theorem segGoT_run {tb : String → Option Builtin} {p : Program} {w : World} {n₀ : Nat} {ann : Option Value} {b : Nat} (m : Nat) : ∀ (n : Nat) (s s' : SharedT) (t t' : Thread), segGoT tb p w n₀ ann b n s t = some (s', t') →
    segRunT tb p w n₀ ann b (n + m) s t = segRunT tb p w n₀ ann b m s' t'
  | 0, s, s', t, t', h => by
    obtain ⟨rfl, rfl⟩ : s = s' ∧ t = t' := by simpa [segGoT] using h
    rw [Nat.zero_add]
  | n + 1, s, s', t, t', h => by
    rw [show n + 1 + m = n + m + 1 by omega]
    unfold segGoT at h
    conv => lhs; unfold segRunT
    cases he : endAt b t with
    | some f => rw [he] at h; cases h
    | none =>
      rw [he] at h
      cases hk : stepOk n₀ ann t with
      | false => rw [hk] at h; cases h
      | true =>
        rw [hk] at h
        cases hs : stepT (denote tb) p w s t with
        | none => rw [hs] at h; cases h
        | some r => obtain ⟨s₂, t₂⟩ := r; rw [hs] at h; exact segGoT_run m n s₂ s' t₂ t' h
/-- the state behind the display -/
noncomputable def SE (w : World) (os : OsState) : SharedT := endSt 137 b3C b3last (St0 (S19 w os) 3 (b3P.take 17)) (ents 3 (b3P.take 17) 432)
theorem run19 (w : World) (os : OsState) : Run w (2 + 13 * 17 + cnt b3C b3last) (dictDisplay (opt (sems b3P))) (S19 w os) (.ref 137) (SE w os) := by
  have l := b3lens
  simp only [Bool.and_eq_true, beq_iff_eq, List.all_eq_true] at l
  obtain ⟨⟨⟨l1, l2⟩, l3⟩, l4⟩ := l
  have h := runDisplay (w := w) (b3P.take 17) b3C b3last (s := S19 w os) l1 l2 (by intro e; rw [e] at l3; cases l3) (by omega) (full19 w os) (by show 11 ≤ 137; decide) (by rw [← b3split]; exact b3apart) (by rw [← b3split]; omega)
  rw [← b3split] at h
  exact h
theorem last19 : ∀ (w : World) (os : OsState), segRunT treeTable pw w 11 (some (.ref 6)) 1 8 (SE w os) ⟨(restF (.ref 137)).wrap (fun f => match f with | .next => (execs [] cEnv).wrap doneF deadEnd id id | f => doneF f) deadEnd id id, cE, q, B⟩ = some (.next, S20 w os, cE, pos19) := by
  rw [Fast.te10110043849684766642, Fast.te14364793385576792824]
  intro w os; kernel_rfl
theorem t19 (w : World) (os : OsState) : adv w (2 + (2 + 13 * 17 + cnt b3C b3last) + 8) (sts 19 20) pos18 (S19 w os) = some (.next, S20 w os, cE, pos19) := by
  rw [sts19, fd19]
  show segRunT treeTable pw w 11 (some (.ref 6)) 1 _ _ ⟨(execs [_] cEnv).wrap doneF deadEnd id id, cE, pos18, B⟩ = _
  rw [execs_cons_wrap, exec19, Sem.bind_eq_wrap', Sem.wrap_wrap]
  rw [segGoT_run 8 _ _ (SE w os) _ ⟨(restF (.ref 137)).wrap (fun f => match f with | .next => (execs [] cEnv).wrap doneF deadEnd id id | f => doneF f) deadEnd id id, cE, q, B⟩ ?_]
  · exact last19 w os
  · refine (segGoT_add _ 2 _ _ _ _ ?_).trans (run19 w os (fun v => (restF v).wrap (fun f => match f with | .next => (execs [] cEnv).wrap doneF deadEnd id id | f => doneF f) deadEnd id id) deadEnd id id)
    simp only [Sem.bind_eq_wrap', Sem.wrap_wrap]
    exact ats ..
end Mine

end H3_
section H4_
open PySem PySem.W PyProof.Rows
set_option maxRecDepth 100000
set_option Elab.async false
namespace Mine
theorem tB (w : World) (os : OsState) : adv w 324 (sts 15 17) pos14 (S15 w os) = some (.next, S17 w os, cE, pos16) := by
  have h := tB0 (w.params.followText "special-get-raises") w os
  rwa [World.withFollow_self] at h
theorem tC (w : World) (os : OsState) : adv w 999 (sts 17 18) pos16 (S17 w os) = some (.next, S18 w os, cE, pos17) := by
  have h := tC0 (w.params.followText "special-get-raises") ((w.withFollow "special-get-raises" (w.params.followText "special-get-raises")).params.followText "set-order") w os
  rwa [World.withFollow_self, World.withFollow_self] at h
theorem body_parts : pw.main.body = sts 0 15 ++ (sts 15 17 ++ (sts 17 18 ++ (sts 18 19 ++ (sts 19 20 ++ (sts 20 29 ++ []))))) := by kernel_rfl
noncomputable def H1 (P : Params) : Heap := absHeap (T29 P) 226 life0
theorem tRun (w : World) (os : OsState) : topRun treeTable pw w 11 (some (.ref 6)) (12 + (1 + (793 + (324 + (999 + (30 + ((2 + (2 + 13 * 17 + cnt b3C b3last) + 8) + (245 + 2)))))))) ⟨boot_heap w.params, Array.mk [], boot_drawn, boot_toks, os⟩ (topStub pw) = some ⟨H1 w.params, Array.mk [], boot_drawn, 2450, os⟩ := by
  refine go_top (tPre w os) ?_
  refine piece_block (tBlock w os) ?_
  rw [body_parts]
  refine piece_app (segRun_of (tA w os)) ?_
  refine piece_app (segRun_of (tB w os)) ?_
  refine piece_app (segRun_of (tC w os)) ?_
  refine piece_app (segRun_of (tC1 w os)) ?_
  refine piece_app (segRun_of (t19 w os)) ?_
  refine piece_app (segRun_of (tD w os)) ?_
  exact piece_nil (show topRun treeTable pw w 11 (some (.ref 6)) 2 (S29 w os).abs ⟨doneF .next, cE, pos28, B⟩ = some ⟨H1 w.params, Array.mk [], boot_drawn, 2450, os⟩ by kernel_rfl)
theorem kAt (P : Params) : KA = (K P).map (·.1) := by kernel_rfl
noncomputable abbrev HK : Hook := kHook K KA kAt
def viewQ : Program := view pw [28]
def looseQ : List Str := ["_wall", "_pe_doc", "_plain_name", "ABCMeta", "_ABCLike", "_abc_plain_meta", "fspath", "_splitext", "splitext", "b1_set", "in_table_b1", "b3_exceptions", "map_table_b3", "_law_gone", "_law_special", "_law_signs", "_law_prepared", "_law_cut", "_law_alike"]
abbrev rowQ : OpenRow := PySem.Challenge.rw_ij0132_01.row
noncomputable abbrev XtQ : Shared → Bool := fun s => xlAt viewQ [] s && recOk (RowW.records rowQ.toRowW) s
theorem tOpen : ∀ w : World, (fencedOpening treeTable pw w 20000).map (fun s => (s.heap, s.gens, s.drawn, s.toks)) = some (boot_heap w.params, Array.mk [], boot_drawn, boot_toks) :=
  boot_open (by kernel_rfl) (by kernel_rfl) (fun s => by kernel_rfl)
theorem tSize : ∀ w : World, ((boot_heap w.params).isNs mainGlobals && (Array.mk [] : Array GenState).size == 0, (boot_heap w.params).objs.size, (boot_heap w.params).nsMap mainGlobals "__annotations__") = (true, 11, some (.ref 6)) := fun w => by kernel_rfl
theorem pair3 {α β γ : Type} {a a' : α} {b b' : β} {c c' : γ} (h1 : a = a') (h2 : b = b') (h3 : c = c') : (a, b, c) = (a', b', c') := by rw [h1, h2, h3]
theorem tLeft : LeftO pw viewQ looseQ XtQ HK.obs HK.val 20000 := by
  refine LeftO.of_pieces (M := 12 + (1 + (793 + (324 + (999 + (30 + ((2 + (2 + 13 * 17 + cnt b3C b3last) + 8) + (245 + 2)))))))) tOpen tSize tRun (by kernel_rfl) fun w => ?_
  funext os
  refine pair3 ?_ ?_ ?_
  · kernel_rfl
  · kernel_rfl
  · kernel_rfl
end Mine

end H4_
section P0_
open PySem PySem.W PyProof.Rows
namespace Mine
/-- the last of a list of texts -/
def lastOf (l : List Str) : Str := (l[l.length - 1]?).getD Str.empty
theorem last_at {α : Type} {l : List (Str × α)} {L : List Str} {y : Str} (e : List.map (fun x => x.1) l = L) (h : (List.map (fun x => x.1) l)[(-1 + (l.length : Int)).toNat]? = some y) : y = lastOf L := by
  subst e
  unfold lastOf
  rw [List.length_map, show l.length - 1 = (-1 + (l.length : Int)).toNat by omega, h]
  rfl
theorem getD_len {α : Type} {l : List (Str × α)} {n : Nat} (h : ∀ a ∈ List.map (fun x => x.1) l, a.length ≤ n) {i : Nat} {y : Str} (e : (List.map (fun x => x.1) l).getD i Str.empty = y) : y.length ≤ n := by
  subst e
  rw [List.getD_eq_getElem?_getD]
  cases q : (List.map (fun x => x.1) l)[i]? with
  | none => exact Nat.zero_le _
  | some y => exact h y (List.mem_of_getElem? q)
theorem lastD_len {α : Type} {l : List (Str × α)} {n : Nat} (h : ∀ a ∈ List.map (fun x => x.1) l, a.length ≤ n) : ((List.map (fun x => x.1) l).getD (-1 + (l.length : Int)).toNat Str.empty).length ≤ n := getD_len h rfl
theorem last_getD {α : Type} {l : List (Str × α)} {L : List Str} (e : List.map (fun x => x.1) l = L) : (List.map (fun x => x.1) l).getD (-1 + (l.length : Int)).toNat Str.empty = lastOf L := by
  subst e
  unfold lastOf
  rw [List.getD_eq_getElem?_getD, List.length_map, show l.length - 1 = (-1 + (l.length : Int)).toNat by omega]
def cutSize (x : Str) : Int :=
  (x.length : Int) - (if 1 < (Txt.split (Txt.lstripChars (lastOf (Txt.split x (Str.ofString "/"))) (Str.ofString ".")) (Str.ofString ".")).length
    then ((lastOf (Txt.split (Txt.lstripChars (lastOf (Txt.split x (Str.ofString "/"))) (Str.ofString ".")) (Str.ofString "."))).length : Int) + 1 else 0)
end Mine
namespace Mine
/-- a goal that the walk leaves alone -/
def Hold (P : Prop) : Prop := P
theorem hold {P : Prop} (h : Hold P) : P := h
theorem fr_keeps {h₀ h h' : Heap} {L : Addr} {m : Str → Option Value} (F : Fr h₀ L h m) (kp : ∀ b o, h.get? b = some o → h'.get? b = some o) : Fr h₀ L h' m := by
  obtain ⟨⟨oL, es, ep, ho, r⟩, k, a⟩ := F
  exact ⟨⟨oL, es, ep, kp _ _ ho, r⟩, fun b o e => kp b o (k b o e), a⟩
theorem news_keeps {h₀ h h' : Heap} {L : Addr} {news : List (Addr × Obj)} (N : News h₀ L h news) (kp : ∀ b o, h.get? b = some o → h'.get? b = some o) : News h₀ L h' news :=
  fun p hp => ⟨kp _ _ (N p hp).1, (N p hp).2⟩
theorem fr_map {h₀ h : Heap} {L : Addr} {m m' : Str → Option Value} (F : Fr h₀ L h m) (e : ∀ y, m y = m' y) : Fr h₀ L h m' := by
  obtain rfl : m = m' := funext e
  exact F
section
variable {prog : Program} {w : World} {A : Around} {E : Value → Shared → Prop} {env : Env} {test : PySem.Expr} {body orelse : List Stmt} {Q : Flow → Shared → Prop}
theorem while_by (I : Nat → Shared → Prop) (hE : PassesOwn (model prog w) A env E)
    (turn : ∀ n s, I n s → wpAny (model prog w) A (isTrue test env (eval test env)) (fun b s₂ => WhlIf b
      (wpAny (model prog w) A (execs body env) (fun f s₃ => match f with | .next => Hold (∃ m, m < n ∧ I m s₃) | .cont => Hold (∃ m, m < n ∧ I m s₃) | .brk => Q .next s₃ | .ret v => Q (.ret v) s₃) E s₂)
      (wpAny (model prog w) A (execs orelse env) Q E s₂)) E s) : ∀ (n : Nat) (s : Shared) (k : Nat), I n s → WhlRest prog w A E env test body orelse Q k s := by
  intro n
  induction n using Nat.strongRecOn with
  | _ n ih =>
    intro s k hI
    refine (whl_turn (k := k) hE (wpAny_mono (turn n s hI) (fun b s₂ h => ?_) fun _ _ e => e) : WhlRest prog w A E env test body orelse Q (k + 1) s)
    cases b with
    | false => exact WhlIf.no rfl (by unfold WhlIf at h; rwa [if_neg Bool.false_ne_true] at h)
    | true =>
      refine WhlIf.yes rfl (wpAny_mono (show wpAny _ _ _ _ _ _ by unfold WhlIf at h; rwa [if_pos rfl] at h) (fun f s₃ h₃ => ?_) fun _ _ e => e)
      cases f with
      | next => obtain ⟨m, hm, hI'⟩ := h₃; exact ih m hm s₃ k hI'
      | cont => obtain ⟨m, hm, hI'⟩ := h₃; exact ih m hm s₃ k hI'
      | brk => exact h₃
      | ret v => exact h₃
end
end Mine
namespace Mine
def sepAt (x : Str) : Int := Txt.rfind x (Str.ofString "/")
def dotAt (x : Str) : Int := Txt.rfind x (Str.ofString ".")
def SplitCut (x : Str) : Prop := sepAt x < dotAt x ∧ ∃ i : Int, sepAt x + 1 ≤ i ∧ i < dotAt x ∧ Txt.slice x (some i) (some (i + 1)) ≠ Str.ofString "."
def SplitIs (x u v : Str) : Prop := (SplitCut x ∧ u = Txt.slice x none (some (dotAt x)) ∧ v = Txt.slice x (some (dotAt x)) none) ∨ (¬ SplitCut x ∧ u = x ∧ v = Txt.slice x none (some 0))
end Mine
namespace Mine
theorem fr_twice {h₀ h : Heap} {L : Addr} {m : Str → Option Value} {n : Str} {v v' : Option Value} (F : Fr h₀ L h fun y => if y = n then v else if y = n then v' else m y) : Fr h₀ L h fun y => if y = n then v else m y :=
  fr_map F fun y => by
    by_cases hy : y = n
    · rw [if_pos hy, if_pos hy]
    · rw [if_neg hy, if_neg hy, if_neg hy]
end Mine

end P0_
section P1_
open PySem PySem.W PyProof.Rows
set_option Elab.async false
set_option linter.unusedVariables false
namespace Mine
section
variable {prog : Program} {w : World} {A : Around} {E : Value → Shared → Prop} {s : Shared} {env : Env} {h₀ : Heap} {m : Str → Option Value}
def signP (pz : Nat → Bool) (v : Value) : Bool := match v with | .str z _ => pz (z.cps.getD 0 0) | _ => false
def signF (f : Nat → Str) (v y : Value) : Prop := ∀ c u, v = .str ⟨#[c]⟩ u → ∃ t', y = .str (f c) t'
theorem paired_signs (pz : Nat → Bool) (f : Nat → Str) : ∀ (cs : List Nat) (vs ys : List Value), vs.length = cs.length → (∀ (j : Nat) (v : Value), vs[j]? = some v → ∃ (c : Nat) (u : Tok), cs[j]? = some c ∧ v = .str ⟨#[c]⟩ u) → Paired (signF f) (vs.filter (signP pz)) ys →
    ∃ l, ys = strValues l ∧ l.map (·.1) = (cs.filter pz).map f
  | [], vs, ys, hl, hv, hp => by
    obtain rfl : vs = [] := List.length_eq_zero_iff.mp hl
    cases hp
    exact ⟨[], rfl, rfl⟩
  | c :: cs, vs, ys, hl, hv, hp => by
    cases vs with
    | nil => cases hl
    | cons v vs =>
      obtain ⟨c', u, e, rfl⟩ := hv 0 v rfl
      obtain rfl : c = c' := by simpa using e
      have hv' : ∀ (j : Nat) (v : Value), vs[j]? = some v → ∃ (c : Nat) (u : Tok), cs[j]? = some c ∧ v = .str ⟨#[c]⟩ u := fun j v e => by
        obtain ⟨c, u, e1, e2⟩ := hv (j + 1) v (by simpa using e)
        exact ⟨c, u, by simpa using e1, e2⟩
      have hl' : vs.length = cs.length := by simpa using hl
      have e2 : signP pz (.str ⟨#[c]⟩ u) = pz c := rfl
      rw [List.filter_cons, e2] at hp
      rw [List.filter_cons]
      cases hz : pz c with
      | false =>
        rw [hz] at hp
        exact paired_signs pz f cs vs ys hl' hv' hp
      | true =>
        rw [hz] at hp
        cases hp with
        | cons h1 h2 =>
          obtain ⟨t', rfl⟩ := h1 c u rfl
          obtain ⟨l, rfl, e⟩ := paired_signs pz f cs vs _ hl' hv' h2
          exact ⟨(f c, t') :: l, rfl, by simp [e]⟩
theorem comp_text {elt iter cond : Expr} {y : Str} {py : Pos} {scope : Scope} {pos : Pos} {Q : Value → Shared → Prop} (pz : Nat → Bool) (f : Nat → Str)
    (F₀ : Fr h₀ env.locals s.heap m) (hclos : closureFor scope env = pure []) (hcell : ∀ y ∈ scope.names, y.2 ≠ .cell) (hkind : scope.kind = .function)
    (hnames : ∀ y ∈ scope.names, y.2 = .local → scope.names.lookup y.1 = some .local) (hx : scope.names.lookup y = some .local)
    (h : wpAny (model prog w) A (eval iter env) (fun xv s₁ => Hold (∃ (x : Str) (t : Tok), xv = .str x t ∧ A.handled = none ∧ x.length ≤ 1000 ∧ Fr h₀ env.locals s₁.heap m ∧
      (∀ C c u s₃ m₃ E', c ∈ x.cps.toList → Fr h₀ C s₃.heap m₃ → m₃ y = some (.str ⟨#[c]⟩ u) → (∀ b o, s₁.heap.get? b = some o → s₃.heap.get? b = some o) →
        wpAny (model prog w) A (isTrue cond (compEnvC scope [] C env) (eval cond (compEnvC scope [] C env))) (fun ok s₄ => ok = pz c ∧ Keeps s₃ s₄) E' s₃) ∧
      (∀ C c u s₃ m₃ E', c ∈ x.cps.toList → pz c = true → Fr h₀ C s₃.heap m₃ → m₃ y = some (.str ⟨#[c]⟩ u) → (∀ b o, s₁.heap.get? b = some o → s₃.heap.get? b = some o) →
        wpAny (model prog w) A (eval elt (compEnvC scope [] C env)) (fun v s₄ => (∃ t', v = .str (f c) t') ∧ Keeps s₃ s₄) E' s₃) ∧
      (∀ D h' tk l, Fr h₀ env.locals h' m → (∀ b o, s₁.heap.get? b = some o → h'.get? b = some o) → s₁.heap.get? D = none → h'.PlainList D (strValues l).toArray → l.map (·.1) = (x.cps.toList.filter pz).map f →
        Q (.ref D) { s₁ with heap := h', toks := tk }))) E s)
    (hs : ∀ x, foldedSetIterable iter env x = pure x := by intro _; rfl) :
    wpAny (model prog w) A (eval (.ListComp elt [⟨.Name y py, iter, [cond], 0⟩] scope pos) env) Q E s := by
  refine wpAny_ListComp_free (signP pz) (signF f) hclos hcell hkind hnames hx ?_ hs
  refine wpAny_mono h (fun xv s₁ h₁ => ?_) fun _ _ e => e
  obtain ⟨x, t, rfl, hh, hsz, F, htest, helt, hQ⟩ := h₁
  refine wpAny_pyIter_str fun o St W hst => ?_
  have hI : h₀.get? s₁.heap.objs.size = none := next_is_new F
  have old : ∀ b o, s₁.heap.get? b = some o → b ∉ [s₁.heap.objs.size] := fun b o e hb => by
    rw [List.mem_singleton.mp hb] at e
    exact Nat.lt_irrefl _ (Heap.lt_size e)
  have frC : ∀ (C : Addr) (s₃ : Shared) (m₃ : Str → Option Value), (s₁.heap.push o).objs.size ≤ C → s₃.heap.Ns C m₃ → (∀ b o', b ∉ [s₁.heap.objs.size] → (s₁.heap.push o).get? b = some o' → s₃.heap.get? b = some o') → Fr h₀ C s₃.heap m₃ := fun C s₃ m₃ hC hn hk =>
    ⟨hn, fun b o' e => hk b o' (old b o' (F.keep b o' e)) (Heap.get?_push_of_some _ (F.keep b o' e)), Nat.le_trans (Nat.le_trans F.above (Nat.le_of_lt F.ns.lt)) (Nat.le_trans (by rw [Heap.size_push]; exact Nat.le_succ _) hC)⟩
  have kp : ∀ s₃ : Shared, (∀ b o', b ∉ [s₁.heap.objs.size] → (s₁.heap.push o).get? b = some o' → s₃.heap.get? b = some o') → ∀ b o, s₁.heap.get? b = some o → s₃.heap.get? b = some o := fun s₃ hk b o' e =>
    hk b o' (old b o' e) (Heap.get?_push_of_some _ e)
  have sg : ∀ (i : Nat) (v : Value), SignAt x i v → ∃ (c : Nat) (u : Tok), c ∈ x.cps.toList ∧ v = .str ⟨#[c]⟩ u := fun i v ⟨c, u, e, ev⟩ => ⟨c, u, by
    have : x.cps.toList[i]? = some c := by simpa using e
    exact List.mem_of_getElem? this, ev⟩
  refine ⟨_, _, _, _, _, St, rfl, W A hh, Nat.le_trans hsz (by decide), hst, fun b hb => ?_, ⟨?_, ?_⟩, ?_⟩
  · rw [List.mem_singleton.mp hb, Heap.size_push]; exact Nat.lt_succ_self _
  · intro C i v s₃ m₃ E' hC hP hn hm hk _
    obtain ⟨c, u, hc, rfl⟩ := sg i v hP
    exact wpAny_tests_one (htest C c u s₃ m₃ E' hc (frC C s₃ m₃ hC hn hk) hm (kp s₃ hk))
  · intro C i v s₃ m₃ E' hC hP hp hn hm hk _
    obtain ⟨c, u, hc, rfl⟩ := sg i v hP
    refine wpAny_mono (helt C c u s₃ m₃ E' hc hp (frC C s₃ m₃ hC hn hk) hm (kp s₃ hk)) (fun y s₄ h₄ => ⟨fun c' u' e => ?_, h₄.2⟩) fun _ _ e => e
    have e' : c = c' := by injection e with e1 e2; injection e1 with e1; simpa using e1
    exact e' ▸ h₄.1
  · intro D h' tk ys vs hD hl hpl hlen hP hF hk
    obtain ⟨l, e1, e2⟩ := paired_signs pz f x.cps.toList vs ys.toList (by simpa using hlen) (fun j v e => by
      obtain ⟨c, u, e1, e2⟩ := hP j v e
      exact ⟨c, u, by simpa using e1, e2⟩) hF
    have k' : ∀ b o', s₁.heap.get? b = some o' → h'.get? b = some o' := fun b o' e => hk b o' (old b o' e) (Heap.get?_push_of_some _ e)
    refine hQ D h' tk l (fr_keeps F k') k' ?_ ?_ e2
    · cases e : s₁.heap.get? D with
      | none => rfl
      | some o' => rw [Heap.get?_push_of_some _ e] at hD; cases hD
    · rw [← e1]; simpa using hpl
theorem vs_items {vs items : List Value} (hl : vs.length = items.toArray.size) (hP : ∀ (j : Nat) (v : Value), vs[j]? = some v → items.toArray[j]? = some v) : vs = items := by
  apply List.ext_getElem?
  intro j
  by_cases hj : j < vs.length
  · rw [List.getElem?_eq_getElem hj]
    have := hP j _ (List.getElem?_eq_getElem hj)
    rw [← this]; simp
  · rw [List.getElem?_eq_none (by omega), List.getElem?_eq_none (by simp at hl; omega)]
theorem comp_list {elt iter : Expr} {y : Str} {py : Pos} {scope : Scope} {pos : Pos} {Q : Value → Shared → Prop} (G : Value → Value → Prop)
    (F₀ : Fr h₀ env.locals s.heap m) (hclos : closureFor scope env = pure []) (hcell : ∀ y ∈ scope.names, y.2 ≠ .cell) (hkind : scope.kind = .function)
    (hnames : ∀ y ∈ scope.names, y.2 = .local → scope.names.lookup y.1 = some .local) (hx : scope.names.lookup y = some .local)
    (h : wpAny (model prog w) A (eval iter env) (fun xv s₁ => Hold (∃ (ax : Addr) (items : List Value), xv = .ref ax ∧ A.handled = none ∧ items.length ≤ 1000 ∧ Fr h₀ env.locals s₁.heap m ∧ s₁.heap.IsList ax items.toArray ∧
      (∀ C v s₃ m₃ E', v ∈ items → Fr h₀ C s₃.heap m₃ → m₃ y = some v → (∀ b o, s₁.heap.get? b = some o → s₃.heap.get? b = some o) →
        wpAny (model prog w) A (eval elt (compEnvC scope [] C env)) (fun r s₄ => G v r ∧ Keeps s₃ s₄) E' s₃) ∧
      (∀ D h' tk ys, Fr h₀ env.locals h' m → (∀ b o, s₁.heap.get? b = some o → h'.get? b = some o) → s₁.heap.get? D = none → h'.PlainList D ys → Paired G items ys.toList →
        Q (.ref D) { s₁ with heap := h', toks := tk }))) E s)
    (hs : ∀ x, foldedSetIterable iter env x = pure x := by intro _; rfl) :
    wpAny (model prog w) A (eval (.ListComp elt [⟨.Name y py, iter, [], 0⟩] scope pos) env) Q E s := by
  refine wpAny_ListComp_free (fun _ => true) G hclos hcell hkind hnames hx ?_ hs
  refine wpAny_mono h (fun xv s₁ h₁ => ?_) fun _ _ e => e
  obtain ⟨ax, items, rfl, hh, hsz, F, hl, helt, hQ⟩ := h₁
  refine wpAny_pyIter_list hl ?_
  have st0 : (s₁.heap.push ({ cls := .type "list_iterator", data := .fields #[.ref ax, .int 0 0] } : Obj)).IsListIter s₁.heap.objs.size ax 0 ∧ (s₁.heap.push ({ cls := .type "list_iterator", data := .fields #[.ref ax, .int 0 0] } : Obj)).IsList ax items.toArray := ⟨⟨_, Heap.get?_push_size _ rfl, rfl, rfl⟩, hl.push _⟩
  have ns0 : ∀ o, (s₁.heap.push o).Ns env.locals m := fun o => F.ns.push o
  generalize hO : ({ cls := .type "list_iterator", data := .fields #[.ref ax, .int 0 0] } : Obj) = o at st0 ⊢
  have hI : h₀.get? s₁.heap.objs.size = none := next_is_new F
  have hax : ax < s₁.heap.objs.size := by obtain ⟨_, e, _⟩ := hl; exact Heap.lt_size e
  have old : ∀ b o, s₁.heap.get? b = some o → b ∉ [s₁.heap.objs.size] := fun b o e hb => by
    rw [List.mem_singleton.mp hb] at e
    exact Nat.lt_irrefl _ (Heap.lt_size e)
  have frC : ∀ (C : Addr) (s₃ : Shared) (m₃ : Str → Option Value), (s₁.heap.push o).objs.size ≤ C → s₃.heap.Ns C m₃ → (∀ b o', b ∉ [s₁.heap.objs.size] → (s₁.heap.push o).get? b = some o' → s₃.heap.get? b = some o') → Fr h₀ C s₃.heap m₃ := fun C s₃ m₃ hC hn hk =>
    ⟨hn, fun b o' e => hk b o' (old b o' (F.keep b o' e)) (Heap.get?_push_of_some _ (F.keep b o' e)), Nat.le_trans (Nat.le_trans F.above (Nat.le_of_lt F.ns.lt)) (Nat.le_trans (by rw [Heap.size_push]; exact Nat.le_succ _) hC)⟩
  have kp : ∀ s₃ : Shared, (∀ b o', b ∉ [s₁.heap.objs.size] → (s₁.heap.push o).get? b = some o' → s₃.heap.get? b = some o') → ∀ b o, s₁.heap.get? b = some o → s₃.heap.get? b = some o := fun s₃ hk b o' e =>
    hk b o' (old b o' e) (Heap.get?_push_of_some _ e)
  refine ⟨_, _, _, _, _, _, rfl, Walks.list hh s₁.heap.objs.size ax (Nat.ne_of_lt hax) items.toArray, by simp; exact Nat.le_trans hsz (by decide), st0, fun b hb => ?_, ⟨?_, ?_⟩, ?_⟩
  · show b < (s₁.heap.push o).objs.size
    rw [Heap.size_push]
    rcases List.mem_cons.mp hb with rfl | hb
    · exact Nat.lt_succ_self _
    · rw [List.mem_singleton.mp hb]; exact Nat.lt_succ_of_lt hax
  · intro C i v s₃ m₃ E' hC hP hn hm hk _
    exact wpAny_tests_nil ⟨rfl, s₃.heap, s₃.toks, rfl, fun _ _ e => e⟩
  · intro C i v s₃ m₃ E' hC hP hp hn hm hk _
    exact helt C v s₃ m₃ E' (List.mem_of_getElem? (by simpa using hP)) (frC C s₃ m₃ hC hn hk) hm (kp s₃ hk)
  · intro D h' tk ys vs hD hl' hpl hlen hP hF hk
    obtain rfl := vs_items hlen hP
    have k' : ∀ b o', s₁.heap.get? b = some o' → h'.get? b = some o' := fun b o' e => hk b o' (old b o' e) (Heap.get?_push_of_some _ e)
    refine hQ D h' tk ys (fr_keeps F k') k' ?_ hpl (by rwa [List.filter_eq_self.mpr (fun _ _ => rfl)] at hF)
    cases e : s₁.heap.get? D with
    | none => rfl
    | some o' => rw [Heap.get?_push_of_some _ e] at hD; cases hD
theorem comp_list_assign {elt iter : Expr} {y x : Str} {py px : Pos} {scope : Scope} {pos spos : Pos} {Q : Flow → Shared → Prop} (G : Value → Value → Prop)
    (F₀ : Fr h₀ env.locals s.heap m) (hsw : swapsWith (.ListComp elt [⟨.Name y py, iter, [], 0⟩] scope pos) (some (.Name x px)) spos.line env = pure true)
    (hclos : closureFor scope env = pure []) (hcell : ∀ y ∈ scope.names, y.2 ≠ .cell) (hkind : scope.kind = .function)
    (hnames : ∀ y ∈ scope.names, y.2 = .local → scope.names.lookup y.1 = some .local) (hx : scope.names.lookup y = some .local)
    (hy : env.kindOf x = some .local) (hp : (env.scope.kind == .class || (env.scope.kind == .module && env.locals != env.globals)) = false)
    (h : wpAny (model prog w) A (eval iter env) (fun xv s₁ => Hold (∃ (ax : Addr) (items : List Value), xv = .ref ax ∧ A.handled = none ∧ items.length ≤ 1000 ∧ Fr h₀ env.locals s₁.heap m ∧ s₁.heap.IsList ax items.toArray ∧
      (∀ C v s₃ m₃ E', v ∈ items → Fr h₀ C s₃.heap m₃ → m₃ y = some v → (∀ b o, s₁.heap.get? b = some o → s₃.heap.get? b = some o) →
        wpAny (model prog w) A (eval elt (compEnvC scope [] C env)) (fun r s₄ => G v r ∧ Keeps s₃ s₄) E' s₃) ∧
      (∀ D h' tk ys, Fr h₀ env.locals h' (fun z => if z = x then some (.ref D) else m z) → (∀ b o, b ≠ env.locals → s₁.heap.get? b = some o → h'.get? b = some o) → s₁.heap.get? D = none → h'.PlainList D ys → Paired G items ys.toList →
        Q .next { s₁ with heap := h', toks := tk }))) E s)
    (hs : ∀ x, foldedSetIterable iter env x = pure x := by intro _; rfl) :
    wpAny (model prog w) A (exec (.Assign [.Name x px] (.ListComp elt [⟨.Name y py, iter, [], 0⟩] scope pos) spos) env) Q E s := by
  refine wpAny_Assign_ListComp_free (fun _ => true) G hsw hclos hcell hkind hnames hx hy hp ?_ hs
  refine wpAny_mono h (fun xv s₁ h₁ => ?_) fun _ _ e => e
  obtain ⟨ax, items, rfl, hh, hsz, F, hl, helt, hQ⟩ := h₁
  refine wpAny_pyIter_list hl ?_
  have st0 : (s₁.heap.push ({ cls := .type "list_iterator", data := .fields #[.ref ax, .int 0 0] } : Obj)).IsListIter s₁.heap.objs.size ax 0 ∧ (s₁.heap.push ({ cls := .type "list_iterator", data := .fields #[.ref ax, .int 0 0] } : Obj)).IsList ax items.toArray := ⟨⟨_, Heap.get?_push_size _ rfl, rfl, rfl⟩, hl.push _⟩
  have ns0 : ∀ o, (s₁.heap.push o).Ns env.locals m := fun o => F.ns.push o
  generalize hO : ({ cls := .type "list_iterator", data := .fields #[.ref ax, .int 0 0] } : Obj) = o at st0 ⊢
  have hI : h₀.get? s₁.heap.objs.size = none := next_is_new F
  have hax : ax < s₁.heap.objs.size := by obtain ⟨_, e, _⟩ := hl; exact Heap.lt_size e
  have old : ∀ b o, s₁.heap.get? b = some o → b ∉ [s₁.heap.objs.size] := fun b o e hb => by
    rw [List.mem_singleton.mp hb] at e
    exact Nat.lt_irrefl _ (Heap.lt_size e)
  have frC : ∀ (C : Addr) (s₃ : Shared) (m₃ : Str → Option Value), (s₁.heap.push o).objs.size ≤ C → s₃.heap.Ns C m₃ → (∀ b o', b ∉ [s₁.heap.objs.size] → (s₁.heap.push o).get? b = some o' → s₃.heap.get? b = some o') → Fr h₀ C s₃.heap m₃ := fun C s₃ m₃ hC hn hk =>
    ⟨hn, fun b o' e => hk b o' (old b o' (F.keep b o' e)) (Heap.get?_push_of_some _ (F.keep b o' e)), Nat.le_trans (Nat.le_trans F.above (Nat.le_of_lt F.ns.lt)) (Nat.le_trans (by rw [Heap.size_push]; exact Nat.le_succ _) hC)⟩
  have kp : ∀ s₃ : Shared, (∀ b o', b ∉ [s₁.heap.objs.size] → (s₁.heap.push o).get? b = some o' → s₃.heap.get? b = some o') → ∀ b o, s₁.heap.get? b = some o → s₃.heap.get? b = some o := fun s₃ hk b o' e =>
    hk b o' (old b o' e) (Heap.get?_push_of_some _ e)
  have hL : env.locals ≠ s₁.heap.objs.size := Nat.ne_of_lt F.ns.lt
  refine ⟨_, _, _, _, _, _, _, rfl, Walks.list hh s₁.heap.objs.size ax (Nat.ne_of_lt hax) items.toArray, by simp; exact Nat.le_trans hsz (by decide), st0, fun b hb => ?_, by simpa using hL, ns0 _, ⟨?_, ?_⟩, ?_⟩
  · show b < (s₁.heap.push o).objs.size
    rw [Heap.size_push]
    rcases List.mem_cons.mp hb with rfl | hb
    · exact Nat.lt_succ_self _
    · rw [List.mem_singleton.mp hb]; exact Nat.lt_succ_of_lt hax
  · intro C i v s₃ m₃ E' hC hP hn hm hk _
    exact wpAny_tests_nil ⟨rfl, s₃.heap, s₃.toks, rfl, fun _ _ e => e⟩
  · intro C i v s₃ m₃ E' hC hP hp hn hm hk _
    exact helt C v s₃ m₃ E' (List.mem_of_getElem? (by simpa using hP)) (frC C s₃ m₃ hC hn hk) hm (kp s₃ hk)
  · intro D h' tk ys vs hD hl' hpl hlen hP hF hns hk
    obtain rfl := vs_items hlen hP
    have k' : ∀ b o', b ≠ env.locals → s₁.heap.get? b = some o' → h'.get? b = some o' := fun b o' hb e => hk b o' hb (old b o' e) (Heap.get?_push_of_some _ e)
    refine hQ D h' tk ys ⟨hns, fun b o' e => k' b o' (Nat.ne_of_lt (Nat.lt_of_lt_of_le (Heap.lt_size e) F.above)) (F.keep b o' e), F.above⟩ k' ?_ hpl (by rwa [List.filter_eq_self.mpr (fun _ _ => rfl)] at hF)
    cases e : s₁.heap.get? D with
    | none => rfl
    | some o' => rw [Heap.get?_push_of_some _ e] at hD; cases hD
end
end Mine

end P1_
section P2_
open PySem PySem.W PyProof.Rows
set_option Elab.async false
set_option linter.unusedVariables false
namespace Mine
def lobj (its : List Value) (n : Nat) : Obj := { cls := .type "list", data := .seq its.toArray n }
section
variable {prog : Program} {w : World} {A : Around} {E : Value → Shared → Prop} {s : Shared} {env : Env} {h₀ : Heap} {x : Str} {body : List Stmt} {Q : Flow → Shared → Prop}
def GrowEnd (h₀ : Heap) (L D : Addr) (J : (Str → Option Value) → List Value → List (Addr × Obj) → Prop) (own rest : List (Addr × Obj)) (s₁ s' : Shared) : Prop :=
  ∃ h' tk m' its' n' add, s' = { s₁ with heap := h', toks := tk } ∧ Fr h₀ L h' m' ∧ News h₀ L h' ((D, lobj its' n') :: (add ++ (own ++ rest))) ∧ (∀ p ∈ add, p.1 ≠ D ∧ ∀ q ∈ own, p.1 ≠ q.1) ∧ J m' its' (add ++ rest)
def GrowPost (h₀ : Heap) (L D : Addr) (J : (Str → Option Value) → List Value → List (Addr × Obj) → Prop) (own rest : List (Addr × Obj)) (s₁ : Shared) (Q : Flow → Shared → Prop) (f : Flow) (s' : Shared) : Prop :=
  match f with
  | .ret v => Q (.ret v) s'
  | .brk => Q .next s'
  | _ => Hold (GrowEnd h₀ L D J own rest s₁ s')
theorem grow_next {L D : Addr} {J : (Str → Option Value) → List Value → List (Addr × Obj) → Prop} {own rest : List (Addr × Obj)} {s₁ s' : Shared} (h : GrowEnd h₀ L D J own rest s₁ s') : GrowPost h₀ L D J own rest s₁ Q .next s' := h
theorem grow_at {I D : Addr} {fp : List Addr} {n : Nat} {P : Nat → Value → Prop} {St : Nat → Heap → Prop} {m₀ : Str → Option Value} {its₀ : List Value} {n₀ : Nat} {rest₀ : List (Addr × Obj)}
    (J : Nat → (Str → Option Value) → List Value → List (Addr × Obj) → Prop)
    (W : Walks prog w A I fp [I] n P St) (hIo : ∀ i h, St i h → ∃ o, h.get? I = some o) (hLf : env.locals ∉ fp) (hDf : D ∉ fp) (hI : h₀.get? I = none) (hst : St 0 s.heap) (F : Fr h₀ env.locals s.heap m₀)
    (N : News h₀ env.locals s.heap ((D, lobj its₀ n₀) :: rest₀)) (hD : ∀ p ∈ rest₀, p.1 ≠ D) (hrI : ∀ p ∈ rest₀, p.1 ≠ I) (hj : J 0 m₀ its₀ rest₀)
    (turn : ∀ i v m₁ its k rest own h tk, i < n → P i v → J i m₁ its rest → (∀ p ∈ own ++ rest, p.1 ≠ D) → Fr h₀ env.locals h (fun y => if y = x then some v else m₁ y) → News h₀ env.locals h ((D, lobj its k) :: (own ++ rest)) →
      wpAny (model prog w) A (execs body env) (GrowPost h₀ env.locals D (J (i + 1)) own rest s Q) E { s with heap := h, toks := tk })
    (done : ∀ m₁ its k rest h tk, J n m₁ its rest → (∀ p ∈ rest, p.1 ≠ D) → Fr h₀ env.locals h m₁ → News h₀ env.locals h ((D, lobj its k) :: rest) → Q .next { s with heap := h, toks := tk }) :
    LoopAtV prog w A h₀ env x body Q E (.ref I) s := by
  have hIf : I ∈ fp := W.sub I (List.mem_singleton.mpr rfl)
  have hDI : D ≠ I := fun e => hDf (e ▸ hIf)
  refine ⟨I, fp, [I], n, P, St, m₀, (D, lobj its₀ n₀) :: rest₀, fun i m news => ∃ its k rest, news = (D, lobj its k) :: rest ∧ (∀ p ∈ rest, p.1 ≠ D) ∧ J i m its rest, rfl, W, hLf, ?_, ?_, hst, F, N, ⟨its₀, n₀, rest₀, rfl, hD, hj⟩, ?_, ?_⟩
  · intro b hb; rw [List.mem_singleton.mp hb]; exact hI
  · intro p hp hb
    rw [List.mem_singleton] at hb
    rcases List.mem_cons.mp hp with rfl | hp
    · exact hDI hb
    · exact hrI p hp hb
  · rintro i v m₁ _ s₁ own ⟨h, tk, rfl⟩ hin hP ⟨its, k, rest, rfl, hr, hJ⟩ hoff hown _ hall hst₁ F₁ N₁
    obtain ⟨oI, hoI⟩ := hIo _ _ hst₁
    have hIown : (I, oI) ∈ own := hall I hIf hI oI hoI
    have hoD : ∀ p ∈ own ++ rest, p.1 ≠ D := fun p hp => by
      rcases List.mem_append.mp hp with hp | hp
      · exact fun e => hDf (e ▸ hown p hp)
      · exact hr p hp
    have N₂ : News h₀ env.locals h ((D, lobj its k) :: (own ++ rest)) := fun p hp => N₁ p (by
      rcases List.mem_cons.mp hp with rfl | hp
      · exact List.mem_append_right _ List.mem_cons_self
      · rcases List.mem_append.mp hp with hp | hp
        · exact List.mem_append_left _ hp
        · exact List.mem_append_right _ (List.mem_cons_of_mem _ hp))
    refine wpAny_mono (turn i v m₁ its k rest own h tk hin hP hJ hoD F₁ N₂) (fun f s' g => ?_) fun _ _ e => e
    have fin : GrowEnd h₀ env.locals D (J (i + 1)) own rest s s' → LoopStepU h₀ env.locals [I] own (fun m news => ∃ its k rest, news = (D, lobj its k) :: rest ∧ (∀ p ∈ rest, p.1 ≠ D) ∧ J (i + 1) m its rest) { s with heap := h, toks := tk } .next s' := by
      rintro ⟨h', tk', m', its', n', add, rfl, F', N', ha, hJ'⟩
      refine ⟨rfl, h', tk', m', (D, lobj its' n') :: (add ++ rest), rfl, F', ?_, ?_, its', n', add ++ rest, rfl, ?_, hJ'⟩
      · intro p hp
        refine N' p ?_
        rcases List.mem_append.mp hp with hp | hp
        · exact List.mem_cons_of_mem _ (List.mem_append_right _ (List.mem_append_left _ hp))
        · rcases List.mem_cons.mp hp with rfl | hp
          · exact List.mem_cons_self
          · rcases List.mem_append.mp hp with hp | hp
            · exact List.mem_cons_of_mem _ (List.mem_append_left _ hp)
            · exact List.mem_cons_of_mem _ (List.mem_append_right _ (List.mem_append_right _ hp))
      · intro p hp hb
        rw [List.mem_singleton] at hb
        rcases List.mem_cons.mp hp with rfl | hp
        · exact hDI hb
        · rcases List.mem_append.mp hp with hp | hp
          · exact (ha p hp).2 _ hIown hb
          · exact hoff p (List.mem_cons_of_mem _ hp) (List.mem_singleton.mpr hb)
      · intro p hp
        rcases List.mem_append.mp hp with hp | hp
        · exact (ha p hp).1
        · exact hr p hp
    cases f with
    | ret v => exact LoopStepV.ret g
    | brk => exact LoopStepV.brk g
    | next => exact LoopStepV.next (fin g)
    | cont => exact LoopStepV.cont (fin g)
  · rintro h' tk m' _ F' N' _ ⟨its, k, rest, rfl, hr, hJ⟩
    exact done m' its k rest h' tk hJ hr F' N'
theorem pyIter_text {x : Str} {t : Tok} {Q : Value → Shared → Prop}
    (hQ : ∀ (o : Obj) (St : Nat → Heap → Prop), (∀ A' : Around, A'.handled = none → Walks prog w A' s.heap.objs.size [s.heap.objs.size] [s.heap.objs.size] x.cps.size (SignAt x) St) → (∀ i h, St i h → ∃ o, h.get? s.heap.objs.size = some o) → St 0 (s.heap.push o) →
      Q (.ref s.heap.objs.size) { s with heap := s.heap.push o }) : wpAny (model prog w) A (pyIter (.str x t)) Q E s := by
  cases ha : x.cps.all (· < 128)
  · exact wpAny_pyIter_wide ha (hQ _ _ (fun A' hA => Walks.strWide hA _ x t) (fun _ _ st => let ⟨o, e, _⟩ := st; ⟨o, e⟩) ⟨_, Heap.get?_push_size _ rfl, rfl, rfl⟩)
  · exact wpAny_pyIter_ascii ha (hQ _ _ (fun A' hA => Walks.strAscii hA _ x t) (fun _ _ st => let ⟨o, e, _⟩ := st; ⟨o, e⟩) ⟨_, Heap.get?_push_size _ rfl, rfl, rfl⟩)
/-- a loop over a text that lets one list and the new objects grow -/
theorem grow_text {z : Str} {t : Tok} {D : Addr} {m₀ : Str → Option Value} {its₀ : List Value} {n₀ : Nat} {rest₀ : List (Addr × Obj)} (J : Nat → (Str → Option Value) → List Value → List (Addr × Obj) → Prop)
    (hh : A.handled = none) (F : Fr h₀ env.locals s.heap m₀) (N : News h₀ env.locals s.heap ((D, lobj its₀ n₀) :: rest₀)) (hD : ∀ p ∈ rest₀, p.1 ≠ D) (hj : J 0 m₀ its₀ rest₀)
    (turn : ∀ i c u m₁ its k rest own h tk, z.cps[i]? = some c → J i m₁ its rest → (∀ p ∈ own ++ rest, p.1 ≠ D) → Fr h₀ env.locals h (fun y => if y = x then some (.str ⟨#[c]⟩ u) else m₁ y) → News h₀ env.locals h ((D, lobj its k) :: (own ++ rest)) →
      wpAny (model prog w) A (execs body env) (GrowPost h₀ env.locals D (J (i + 1)) own rest s Q) E { s with heap := h, toks := tk })
    (done : ∀ m₁ its k rest h tk, J z.length m₁ its rest → (∀ p ∈ rest, p.1 ≠ D) → Fr h₀ env.locals h m₁ → News h₀ env.locals h ((D, lobj its k) :: rest) → Q .next { s with heap := h, toks := tk }) :
    wpAny (model prog w) A (pyIter (.str z t)) (fun it s₂ => LoopAtV prog w A h₀ env x body Q E it s₂) E s := by
  refine pyIter_text fun o St W hIo hst => ?_
  have lt : ∀ p ∈ (D, lobj its₀ n₀) :: rest₀, p.1 ≠ s.heap.objs.size := fun p hp e => Nat.lt_irrefl _ (e ▸ Heap.lt_size (N p hp).1)
  refine grow_at (s := { s with heap := s.heap.push o }) J (W A hh) hIo ?_ ?_ (next_is_new F) hst (F.push o) (fun p hp => ⟨Heap.get?_push_of_some _ (N p hp).1, (N p hp).2⟩) hD (fun p hp => lt p (List.mem_cons_of_mem _ hp)) hj ?_ ?_
  · intro hb
    exact Nat.lt_irrefl _ (List.mem_singleton.mp hb ▸ F.ns.lt)
  · intro hb
    exact lt _ List.mem_cons_self (List.mem_singleton.mp hb)
  · intro i v m₁ its k rest own h tk hin hP hJ ho F₁ N₁
    obtain ⟨c, u, e, rfl⟩ := hP
    exact turn i c u m₁ its k rest own h tk e hJ ho F₁ N₁
  · intro m₁ its k rest h tk hJ hr F₁ N₁
    exact done m₁ its k rest h tk hJ hr F₁ N₁
/-- a loop over an older list that lets one list and the new objects grow -/
theorem grow_list {l : Addr} {vs : List Value} {D : Addr} {m₀ : Str → Option Value} {its₀ : List Value} {n₀ : Nat} {rest₀ : List (Addr × Obj)} (J : Nat → (Str → Option Value) → List Value → List (Addr × Obj) → Prop)
    (hh : A.handled = none) (hl : h₀.IsList l vs.toArray) (F : Fr h₀ env.locals s.heap m₀) (N : News h₀ env.locals s.heap ((D, lobj its₀ n₀) :: rest₀)) (hD : ∀ p ∈ rest₀, p.1 ≠ D) (hj : J 0 m₀ its₀ rest₀)
    (turn : ∀ i v m₁ its k rest own h tk, vs[i]? = some v → J i m₁ its rest → (∀ p ∈ own ++ rest, p.1 ≠ D) → Fr h₀ env.locals h (fun y => if y = x then some v else m₁ y) → News h₀ env.locals h ((D, lobj its k) :: (own ++ rest)) →
      wpAny (model prog w) A (execs body env) (GrowPost h₀ env.locals D (J (i + 1)) own rest s Q) E { s with heap := h, toks := tk })
    (done : ∀ m₁ its k rest h tk, J vs.length m₁ its rest → (∀ p ∈ rest, p.1 ≠ D) → Fr h₀ env.locals h m₁ → News h₀ env.locals h ((D, lobj its k) :: rest) → Q .next { s with heap := h, toks := tk }) :
    wpAny (model prog w) A (pyIter (.ref l)) (fun it s₂ => LoopAtV prog w A h₀ env x body Q E it s₂) E s := by
  have hls : s.heap.IsList l vs.toArray := hl.at fun o e => F.keep l o e
  obtain ⟨ol, hol, _⟩ := id hl
  have hlt : l < h₀.objs.size := Heap.lt_size hol
  have hne : l ≠ s.heap.objs.size := Nat.ne_of_lt (Nat.lt_trans (Nat.lt_of_lt_of_le hlt F.above) F.ns.lt)
  refine wpAny_pyIter_list hls ?_
  have lt : ∀ p ∈ (D, lobj its₀ n₀) :: rest₀, p.1 ≠ s.heap.objs.size := fun p hp e => Nat.lt_irrefl _ (e ▸ Heap.lt_size (N p hp).1)
  refine grow_at (s := { s with heap := s.heap.push _ }) J (Walks.list (prog := prog) (w := w) hh s.heap.objs.size l hne vs.toArray) (fun _ _ st => let ⟨o, e, _⟩ := st.1; ⟨o, e⟩) ?_ ?_ (next_is_new F) ⟨⟨_, Heap.get?_push_size _ rfl, rfl, rfl⟩, hls.push _⟩ (F.push _) (fun p hp => ⟨Heap.get?_push_of_some _ (N p hp).1, (N p hp).2⟩) hD (fun p hp => lt p (List.mem_cons_of_mem _ hp)) hj ?_ ?_
  · intro hb
    rcases List.mem_cons.mp hb with e | hb
    · exact Nat.lt_irrefl _ (e ▸ F.ns.lt)
    · exact Nat.lt_irrefl _ (List.mem_singleton.mp hb ▸ (Nat.lt_of_lt_of_le hlt F.above))
  · intro hb
    rcases List.mem_cons.mp hb with e | hb
    · exact lt _ List.mem_cons_self e
    · have e := (N _ List.mem_cons_self).2.2
      rw [show (D, lobj its₀ n₀).1 = l from List.mem_singleton.mp hb, hol] at e
      cases e
  · intro i v m₁ its k rest own h tk hin hP hJ ho F₁ N₁
    exact turn i v m₁ its k rest own h tk (by simpa using hP) hJ ho F₁ N₁
  · intro m₁ its k rest h tk hJ hr F₁ N₁
    exact done m₁ its k rest h tk (by simpa using hJ) hr F₁ N₁
end
theorem digit_of {n : Int} (h0 : 0 ≤ n) {c : Nat} (hc : c ∈ (Str.ofString (toString n)).cps.toList) : ∃ j, j < 10 ∧ c = 48 + j := by
  obtain ⟨m, rfl⟩ : ∃ m : Nat, n = Int.ofNat m := ⟨n.toNat, by simp; omega⟩
  rw [text_ofNat] at hc
  simp only [List.mem_map] at hc
  obtain ⟨ch, hm, rfl⟩ := hc
  have hd := Nat.isDigit_of_mem_toDigits (by decide) (by decide) hm
  unfold Char.isDigit at hd
  simp only [Bool.and_eq_true, decide_eq_true_eq] at hd
  have h1 : 48 ≤ ch.toNat := hd.1
  have h2 : ch.toNat ≤ 57 := hd.2
  exact ⟨ch.toNat - 48, by omega, by omega⟩
theorem ten {j : Nat} (hj : j < 10) : j = 0 ∨ j = 1 ∨ j = 2 ∨ j = 3 ∨ j = 4 ∨ j = 5 ∨ j = 6 ∨ j = 7 ∨ j = 8 ∨ j = 9 := by omega
theorem int_of_sign {j : Nat} (hj : j < 10) : PySem.intText? ⟨#[48 + j]⟩ = some (j : Int) := by
  rcases ten hj with rfl | rfl | rfl | rfl | rfl | rfl | rfl | rfl | rfl | rfl <;> decide +kernel
def sigTab (j : Nat) : Str := match j with
  | 0 => "." | 1 => "/" | 2 => "" | 3 => "." | 4 => "a" | 5 => "㏇" | 6 => "" | 7 => "" | 8 => "b" | _ => "/"
end Mine

end P2_
section WT_
open PySem PySem.W PyProof.Rows
set_option maxRecDepth 100000
set_option Elab.async false
namespace Mine
def anyP : Params := { strHash := fun _ => 0, shareClass := fun _ => 0, mergeTok := id, idOf := fun _ => 0, idOfShared := fun _ _ => 0, followText := fun _ => false, idOfImm := fun _ => 0 }
/-- what stands in the set of table B.1 -/
def b1es : List (Int × Value) := match (o126v17 anyP).data with
  | .set es _ _ => es.toList
  | _ => []
def b1tab (P : Params) : SetTable := match (o126v17 P).data with
  | .set _ _ t => t
  | _ => .fresh 0 0 true
def b1S (k : Int) : Bool := b1es.any fun e => Value.isInt k e.2
def b1ok : List (Int × Value) → Bool
  | (h, .int i _) :: r => decide (h = hashInt i) && b1ok r
  | [] => true
  | _ => false
theorem b1ok_spec {prog : Program} {w : World} : ∀ l : List (Int × Value), b1ok l = true → ElemsOf (intKind prog w) l
  | [], _, _, h => by cases h
  | (h, .int i t) :: r, ho, e, he => by
    simp only [b1ok, Bool.and_eq_true, decide_eq_true_eq] at ho
    rcases List.mem_cons.mp he with rfl | he
    · exact ⟨⟨i, by simp [intKind, Value.isInt], ho.1⟩, rfl⟩
    · exact b1ok_spec r ho.2 e he
theorem b1all : b1ok b1es = true := by kernel_rfl
theorem b1Set {w : World} {h : Heap} (X : (K w.params).In h) : h.SetOf (intKind pw w) 126 b1S 27 := by
  refine ⟨o126v17 w.params, b1es.toArray, 29, b1tab w.params, X 126 _ rfl, ⟨rfl, rfl, rfl⟩, ?d, ?e, ?m, ?s, ?f, ?n⟩
  case d => rfl
  case e => exact b1ok_spec _ b1all
  case m => intro k; exact List.any_eq_true
  case s => show b1es.toArray.size < scanBound; decide +kernel
  case f => rfl
  case n => rfl
theorem keysOf_ents {prog : Program} {w : World} (c : Nat) : ∀ (l : List (Int × Str)) (t : Nat), ∀ e ∈ ents c l t, ∃ k, (intKind prog w).is k e.key = true ∧ e.hash = (intKind prog w).hash k
  | [], _, _, h => by cases h
  | (k, x) :: l, t, e, h => by
    rcases List.mem_cons.mp h with rfl | h
    · exact ⟨k, by simp [intKind, Value.isInt, ent], rfl⟩
    · exact keysOf_ents c l (t + c) e h
def look (l : List (Int × Str)) (k : Int) : Option Str := (l.find? fun p => p.1 == k).map (·.2)
theorem find_ents (c : Nat) (k : Int) : ∀ (l : List (Int × Str)) (t : Nat), ((look l k = none ∧ (ents c l t).find? (fun e => Value.isInt k e.key) = none) ∨ ∃ x tk h, look l k = some x ∧ (ents c l t).find? (fun e => Value.isInt k e.key) = some ⟨h, .int k tk, .str x (tk + 1)⟩)
  | [], _ => .inl ⟨rfl, rfl⟩
  | (k', x) :: l, t => by
    unfold look ents
    rw [List.find?_cons, List.find?_cons]
    by_cases hk : k' = k
    · subst hk
      right
      exact ⟨x, t, hashInt k', by simp, by simp [ent, Value.isInt]⟩
    · have e1 : (k' == k) = false := beq_eq_false_iff_ne.mpr hk
      have e2 : Value.isInt k (ent k' x t).key = false := by simp [ent, Value.isInt, hk]
      rw [e2]
      dsimp only
      rw [e1]
      exact find_ents c k l (t + c)
def b3Look (k : Int) : Option Str := look b3P k
def b3F : Int → Option Value := findBy Value.isInt (b3es 432).toArray
theorem look_append (l r : List (Int × Str)) (k : Int) : look (l ++ r) k = (look l k).or (look r k) := by
  unfold look
  rw [List.find?_append]
  cases List.find? (fun p => p.1 == k) l <;> rfl
theorem b3F_spec (k : Int) : (b3Look k = none ∧ b3F k = none) ∨ ∃ x t, b3Look k = some x ∧ b3F k = some (.str x t) := by
  have e : b3Look k = (look (b3P.take 646) k).or (look b3last k) := by
    unfold b3Look
    rw [← look_append, b3last, List.take_append_drop]
  have f : b3F k = (((ents 3 (b3P.take 646) 432).find? fun e => Value.isInt k e.key).or ((ents 2 b3last (432 + 1938)).find? fun e => Value.isInt k e.key)).map (·.val) := by
    unfold b3F findBy b3es
    rw [List.find?_toArray, List.find?_append]
  rw [e, f]
  rcases find_ents 3 k (b3P.take 646) 432 with ⟨a1, a2⟩ | ⟨x, t, h, a1, a2⟩
  · rcases find_ents 2 k b3last (432 + 1938) with ⟨b1, b2⟩ | ⟨x, t, h, b1, b2⟩
    · left; rw [a1, a2, b1, b2]; exact ⟨rfl, rfl⟩
    · right; rw [a1, a2, b1, b2]; exact ⟨x, _, rfl, rfl⟩
  · right; rw [a1, a2]; exact ⟨x, _, rfl, rfl⟩
theorem b3Map {w : World} {h : Heap} (X : (K w.params).In h) : h.MapOf (intKind pw w) 137 b3F := by
  refine ⟨_, (b3es 432).toArray, 650, X 137 _ rfl, ⟨rfl, rfl, rfl⟩, rfl, ?_, fun k => rfl⟩
  intro e he
  rw [List.mem_toArray] at he
  unfold b3es at he
  rcases List.mem_append.mp he with he | he
  · exact keysOf_ents _ _ _ e he
  · exact keysOf_ents _ _ _ e he
end Mine
namespace Mine
/-- what a sign of the law may be: its code and what it means -/
def okSign (c : Nat) (m : Str) : Bool :=
  (if b1S c then m == Str.empty else (b3Look c).getD (Txt.lower ⟨#[c]⟩) == m) &&
  (if c == 46 then m == ⟨#[46]⟩ else if c == 47 then m == ⟨#[47]⟩ else if c == 13255 then m == ⟨#[99, 111, 46]⟩ else !m.cps.contains 46 && !m.cps.contains 47) && PyData.strOk m && decide (m.length ≤ 4)
theorem pick {l : List Value} {P : Value → Prop} (h : ∀ v ∈ l, P v) {k : Int} (h0 : 0 ≤ k) (h1 : k < l.length) : ∃ x, seqIndex? k l.length = some k.toNat ∧ l[k.toNat]? = some x ∧ P x := by
  have hk : k.toNat < l.length := by omega
  refine ⟨l[k.toNat], ?_, List.getElem?_eq_getElem hk, h _ (List.getElem_mem hk)⟩
  unfold seqIndex?
  simp only [show ¬ k < 0 by omega, if_false]
  rw [if_pos (by simp; omega)]
theorem news_one {h₀ h : Heap} {L a : Addr} {o : Obj} {news : List (Addr × Obj)} (N : News h₀ L h news) (hm : (a, o) ∈ news) : News h₀ L h [(a, o)] := fun p hp => by
  rcases List.mem_singleton.mp hp with rfl
  exact N _ hm
def SpecialIn (h₀ : Heap) (L : Addr) (h : Heap) (v : Value) : Prop := ∃ a z m t1 t2, v = .ref a ∧ News h₀ L h [(a, ⟨.type "tuple", none, .seq #[.int z t1, .str m t2] 0, #[]⟩)] ∧ okSign z.toNat m = true ∧ 0 ≤ z ∧ z ≤ 0x10FFFF
end Mine
namespace Mine
theorem item_pick {prog : Program} {w : World} {A : Around} {E : Value → Shared → Prop} {s : Shared} {value slice : PySem.Expr} {t : Addr} {l : List Value} {k : Int} {u : Tok} {Q : Value → Shared → Prop} (P : Heap → Value → Prop) (ht : IsTup s.heap t l.toArray)
    (h0 : 0 ≤ k) (h1 : k < l.length) (hz : l.length < 1000) (hP : ∀ v ∈ l, P s.heap v) (h : ∀ x, P s.heap x → Q x s)
    (hs : subscripted slice false (.ref t) (.int k u) = operate [.ref t, .int k u] (getItem (.ref t) (.int k u)) := by with_unfolding_all rfl) :
    wpAny (model prog w) A (subscriptTail value slice (.ref t) (.int k u)) Q E s := by
  obtain ⟨x, hx1, hx2, hx⟩ := pick hP h0 h1
  exact item_tupleT ht (by omega) (by omega) hx1 hx2 (h x hx) hs
end Mine

end WT_
section P3_
open PySem PySem.W PyProof.Rows
set_option Elab.async false
set_option linter.unusedVariables false
set_option maxRecDepth 100000
namespace Mine
def pairObj (c : Nat) (m : Str) (t1 t2 : Tok) : Obj := ⟨.type "tuple", none, .seq #[.str ⟨#[c]⟩ t1, .str m t2] 0, #[]⟩
def PairIn (news : List (Addr × Obj)) (v : Value) (q : Nat × Str) : Prop := ∃ a t1 t2, v = .ref a ∧ (a, pairObj q.1 q.2 t1 t2) ∈ news ∧ okSign q.1 q.2 = true
def PairAt (h : Heap) (v : Value) (q : Nat × Str) : Prop := ∃ a t1 t2, v = .ref a ∧ h.get? a = some (pairObj q.1 q.2 t1 t2) ∧ okSign q.1 q.2 = true
theorem paired_mono {F G : Value → Nat × Str → Prop} (h : ∀ v q, F v q → G v q) : ∀ {l : List Value} {r : List (Nat × Str)}, Paired F l r → Paired G l r
  | _, _, .nil => .nil
  | _, _, .cons a b => .cons (h _ _ a) (paired_mono h b)
def J2 (D : Addr) (n : Int) (t : Tok) (i0 len0 : Nat) (own rest : List (Addr × Obj)) (i : Nat) (m : Str → Option Value) (its : List Value) (r : List (Addr × Obj)) : Prop :=
  m "signs" = some (.ref D) ∧ m "number" = some (.int n t) ∧ ∃ add sg, r = add ++ (own ++ rest) ∧ (∀ p ∈ add, p.1 ≠ D ∧ ∀ q ∈ own, p.1 ≠ q.1) ∧ Paired (PairIn (add ++ rest)) its sg ∧ its.length ≤ len0 + i
theorem item_at {prog : Program} {w : World} {A : Around} {E : Value → Shared → Prop} {s : Shared} {value slice : PySem.Expr} {t : Addr} {l : List Value} {k : Int} {u : Tok} {Q : Value → Shared → Prop} (ht : IsTup s.heap t l.toArray)
    (h0 : 0 ≤ k) (h1 : k < l.length) (hz : l.length < 1000) (h : ∀ x, l[k.toNat]? = some x → Q x s)
    (hs : subscripted slice false (.ref t) (.int k u) = operate [.ref t, .int k u] (getItem (.ref t) (.int k u)) := by with_unfolding_all rfl) :
    wpAny (model prog w) A (subscriptTail value slice (.ref t) (.int k u)) Q E s := by
  obtain ⟨x, hx1, hx2, _⟩ := pick (P := fun _ => True) (fun _ _ => trivial) h0 h1
  exact item_tupleT ht (by omega) (by omega) hx1 hx2 (h x hx2) hs
theorem ne_of_news {h₀ h : Heap} {L : Addr} {news : List (Addr × Obj)} (N : News h₀ L h news) : ∀ p ∈ news, p.1 ≠ h.objs.size := fun p hp e => Nat.lt_irrefl _ (e ▸ Heap.lt_size (N p hp).1)
theorem sign_end {h₀ : Heap} {L D T : Addr} {n : Int} {t t1 t2 : Tok} {i0 len0 i2 k2 tk : Nat} {own rest own2 add : List (Addr × Obj)} {sg2 : List (Nat × Str)} {its2 : List Value} {m8 : Str → Option Value} {h8 : Heap} {z1 mm : Str} {s₁ : Shared} {Q : Flow → Shared → Prop}
    (F8 : Fr h₀ L h8 m8) (N8 : News h₀ L h8 ((T, ⟨.type "tuple", none, .seq #[.str z1 t1, .str mm t2] 0, #[]⟩) :: (D, { cls := .type "list", data := .seq (its2.toArray.push (.ref T)) (k2 + 1) }) :: (own2 ++ (add ++ (own ++ rest)))))
    (hT : ∀ p ∈ ((D, ({ cls := .type "list", data := .seq its2.toArray k2 } : Obj)) :: (own2 ++ (add ++ (own ++ rest)))), p.1 ≠ T) (e1 : m8 "signs" = some (.ref D)) (e2 : m8 "number" = some (.int n t))
    (ha : ∀ p ∈ add, p.1 ≠ D ∧ ∀ q ∈ own, p.1 ≠ q.1) (hp : Paired (PairIn (add ++ rest)) its2 sg2) (hle : its2.length ≤ len0 + i2) (hok : ∃ c, z1 = ⟨#[c]⟩ ∧ okSign c mm = true) :
    GrowPost h₀ L D (J2 D n t i0 len0 own rest (i2 + 1)) own2 (add ++ (own ++ rest)) s₁ Q .next { s₁ with heap := h8, toks := tk } := by
  obtain ⟨c, rfl, hok⟩ := hok
  refine grow_next ⟨h8, tk, m8, its2 ++ [.ref T], k2 + 1, [(T, pairObj c mm t1 t2)], rfl, F8, ?_, ?_, e1, e2, (T, pairObj c mm t1 t2) :: add, sg2 ++ [(c, mm)], rfl, ?_, ?_, ?_⟩
  · intro p hp
    rcases List.mem_cons.mp hp with rfl | hp
    · have := N8 _ (List.mem_cons_of_mem _ List.mem_cons_self)
      simpa [lobj] using this
    · rcases List.mem_append.mp hp with hp | hp
      · rw [List.mem_singleton.mp hp]
        exact N8 _ List.mem_cons_self
      · exact N8 p (List.mem_cons_of_mem _ (List.mem_cons_of_mem _ hp))
  · intro p hp
    rw [List.mem_singleton.mp hp]
    exact ⟨fun e => hT _ List.mem_cons_self e.symm, fun q hq e => hT q (List.mem_cons_of_mem _ (List.mem_append_left _ hq)) e.symm⟩
  · intro p hp
    rcases List.mem_cons.mp hp with rfl | hp
    · exact ⟨fun e => hT _ List.mem_cons_self e.symm, fun q hq e => hT q (List.mem_cons_of_mem _ (List.mem_append_right _ (List.mem_append_right _ (List.mem_append_left _ hq)))) e.symm⟩
    · exact ha p hp
  · refine Paired.snoc (paired_mono (fun v q hq => ?_) hp) ⟨T, t1, t2, rfl, List.mem_cons_self, hok⟩
    obtain ⟨a, u1, u2, e, hm, ho⟩ := hq
    exact ⟨a, u1, u2, e, List.mem_cons_of_mem _ hm, ho⟩
  · simp; omega
theorem fig_26 {j : Nat} (hj : j < 10) (h : (Builtin.Str.occurrences (Str.ofString "26") ⟨#[48 + j]⟩ 0 (Str.ofString "26").length 1).isEmpty = false) : sigTab j = Str.ofString "" := by
  rcases ten hj with rfl | rfl | rfl | rfl | rfl | rfl | rfl | rfl | rfl | rfl <;> first | rfl | (exfalso; revert h; decide +kernel)
theorem fig_4 {j : Nat} (hj : j < 10) (h : ((⟨#[48 + j]⟩ : Str) == Str.ofString "4") = true) : j = 4 := by
  rcases ten hj with rfl | rfl | rfl | rfl | rfl | rfl | rfl | rfl | rfl | rfl <;> first | rfl | (exfalso; revert h; decide +kernel)
theorem fig_5 {j : Nat} (hj : j < 10) (h : ((⟨#[48 + j]⟩ : Str) == Str.ofString "5") = true) : j = 5 := by
  rcases ten hj with rfl | rfl | rfl | rfl | rfl | rfl | rfl | rfl | rfl | rfl <;> first | rfl | (exfalso; revert h; decide +kernel)
theorem fig_8 {j : Nat} (hj : j < 10) (h : ((⟨#[48 + j]⟩ : Str) == Str.ofString "8") = true) : j = 8 := by
  rcases ten hj with rfl | rfl | rfl | rfl | rfl | rfl | rfl | rfl | rfl | rfl <;> first | rfl | (exfalso; revert h; decide +kernel)
theorem ok_46 : okSign 46 (Str.ofString ".") = true := by decide +kernel
theorem ok_47 : okSign 47 (Str.ofString "/") = true := by decide +kernel
theorem ok_co : okSign 13255 (Str.ofString "co.") = true := by decide +kernel
theorem fig_rest {j : Nat} (hj : j < 10) (h0 : (Builtin.Str.occurrences (Str.ofString "26") ⟨#[48 + j]⟩ 0 (Str.ofString "26").length 1).isEmpty = true) (h4 : ((⟨#[48 + j]⟩ : Str) == Str.ofString "4") = false)
    (h5 : ((⟨#[48 + j]⟩ : Str) == Str.ofString "5") = false) (h7 : ((⟨#[48 + j]⟩ : Str) == Str.ofString "7") = false) (h8 : ((⟨#[48 + j]⟩ : Str) == Str.ofString "8") = false) : ∃ c, sigTab j = ⟨#[c]⟩ ∧ okSign c (sigTab j) = true := by
  rcases ten hj with rfl | rfl | rfl | rfl | rfl | rfl | rfl | rfl | rfl | rfl
  · exact ⟨46, rfl, ok_46⟩
  · exact ⟨47, rfl, ok_47⟩
  · exfalso; revert h0; decide +kernel
  · exact ⟨46, rfl, ok_46⟩
  · exfalso; revert h4; decide +kernel
  · exfalso; revert h5; decide +kernel
  · exfalso; revert h0; decide +kernel
  · exfalso; revert h7; decide +kernel
  · exfalso; revert h8; decide +kernel
  · exact ⟨47, rfl, ok_47⟩
theorem ok_gone {c : Nat} (h : b1S (c : Int) = true) : okSign c (Str.ofString "") = true := by
  have n1 : c ≠ 46 := fun e => by subst e; revert h; decide +kernel
  have n2 : c ≠ 47 := fun e => by subst e; revert h; decide +kernel
  have n3 : c ≠ 13255 := fun e => by subst e; revert h; decide +kernel
  unfold okSign
  rw [if_pos h, if_neg (by simpa using n1), if_neg (by simpa using n2), if_neg (by simpa using n3)]
  decide +kernel
def ChrIn (m : Str) (_ : Heap) (v : Value) : Prop := ∃ z t, v = .int z t ∧ okSign z.toNat m = true ∧ 0 ≤ z ∧ z ≤ 0x10FFFF
end Mine

end P3_
section P4_
open PySem PySem.W PyProof.Rows
set_option Elab.async false
namespace Mine
theorem join_flat0 : ∀ L : List Str, (Str.join (Str.ofString "") L).cps.toList = L.flatMap fun x => x.cps.toList
  | [] => rfl
  | [x] => by simp [join_one]
  | x :: y :: r => by
    rw [join_cons_cons, cps_toList_append, cps_toList_append, join_flat0 (y :: r)]
    have e0 : (Str.ofString "").cps.toList = [] := by decide +kernel
    rw [e0]
    simp
theorem join_flat (L : List Str) : (Txt.join (Str.ofString "") L).cps.toList = L.flatMap fun x => x.cps.toList := by
  unfold Txt.join
  rw [StrLaws.glued_eq_join]
  exact join_flat0 L
theorem join_signs (cs : List Nat) : Txt.join (Str.ofString "") (cs.map fun c => ⟨#[c]⟩) = ⟨cs.toArray⟩ := by
  have h := join_flat (cs.map fun c => ⟨#[c]⟩)
  have e : (cs.map fun c => (⟨#[c]⟩ : Str)).flatMap (fun x => x.cps.toList) = cs := by
    induction cs with
    | nil => rfl
    | cons c cs ih => simp at ih ⊢; exact ih (join_flat _)
  rw [e] at h
  generalize Txt.join (Str.ofString "") (cs.map fun c => ⟨#[c]⟩) = S at h
  obtain ⟨a⟩ := S
  have : a.toList = cs := h
  subst this
  simp
end Mine

end P4_
section P5_
open PySem PySem.W PyProof.Rows
set_option Elab.async false
set_option linter.unusedVariables false
set_option maxRecDepth 100000
namespace Mine
section
variable {prog : Program} {w : World} {A : Around} {E : Value → Shared → Prop} {s : Shared} {Q : Value → Shared → Prop}
theorem ne_pair {a b : Addr} {x y : Str} {t1 t2 t3 t4 : Tok} (h1 : s.heap.get? a = some ⟨.type "tuple", none, .seq #[.str x t1, .str y t2] 0, #[]⟩) (h2 : s.heap.get? b = some ⟨.type "tuple", none, .seq #[.str x t3, .str y t4] 0, #[]⟩)
    (hx : PyData.strOk x = true) (hy : PyData.strOk y = true) (hu : A.units + 64 < cLine) (h : Q (.bool false) s) : wpAny (model prog w) A (compareOp .NotEq (.ref a) (.ref b)) Q E s := by
  have sh : SeqAt.shaped (PyData.tuple [PyData.str x, PyData.str y]) = true := by
    simp [SeqAt.shaped, PyData.canLay0, PyData.canLayAll0, PyData.depth, PyData.depthAll, hx, hy]
  refine ne_dataH (Reads.tuple h1 rfl rfl (ReadsAll.cons (Reads.str x t1) (ReadsAll.cons (Reads.str y t2) ReadsAll.nil))) (Reads.tuple h2 rfl rfl (ReadsAll.cons (Reads.str x t3) (ReadsAll.cons (Reads.str y t4) ReadsAll.nil))) sh sh hu ?_
  have e : PyData.eqv (.tuple [.str x, .str y]) (.tuple [.str x, .str y]) = true := by
    simp [PyData.eqv, PyData.eqvAll]
  rw [e]
  exact h
theorem news_new {h₀ h h' : Heap} {L D : Addr} {m : Str → Option Value} {items : Array Value} (F : Fr h₀ L h m) (hD : h.get? D = none) (hl : h'.PlainList D items) : ∃ n, News h₀ L h' [(D, { cls := .type "list", data := .seq items n })] := by
  obtain ⟨n, e⟩ := hl
  refine ⟨n, fun p hp => ?_⟩
  rw [List.mem_singleton.mp hp]
  refine ⟨e, fun e' => ?_, ?_⟩
  · obtain ⟨⟨_, _, _, e2, _⟩, _, _⟩ := F
    have e' : D = L := e'
    rw [← e', hD] at e2
    cases e2
  · cases q : h₀.get? D with
    | none => rfl
    | some o => rw [F.keep D o q] at hD; cases hD
end
end Mine

end P5_
section PL_
open PySem PySem.W PyProof.Rows
set_option Elab.async false
set_option linter.unusedVariables false
set_option maxRecDepth 100000
namespace Mine
def afterLast (c : Nat) : List Nat → List Nat
  | [] => []
  | x :: r => if c ∈ r then afterLast c r else if x = c then r else x :: r
theorem afterLast_free {c : Nat} : ∀ {l : List Nat}, c ∉ l → afterLast c l = l
  | [], _ => rfl
  | x :: r, h => by
    have h1 : c ∉ r := fun e => h (List.mem_cons_of_mem _ e)
    have h2 : x ≠ c := fun e => h (e ▸ List.mem_cons_self)
    unfold afterLast
    rw [if_neg h1, if_neg h2]
theorem afterLast_cons_mem {c x : Nat} {r : List Nat} (h : c ∈ r) : afterLast c (x :: r) = afterLast c r := by
  conv => lhs; unfold afterLast
  rw [if_pos h]
theorem afterLast_append (c : Nat) (J : List Nat) : ∀ pre : List Nat, afterLast c (pre ++ c :: J) = afterLast c J
  | [] => by
    by_cases h : c ∈ J
    · exact afterLast_cons_mem h
    · show afterLast c (c :: J) = _
      conv => lhs; unfold afterLast
      rw [if_neg h, if_pos rfl, afterLast_free h]
  | x :: r => by
    show afterLast c (x :: (r ++ c :: J)) = _
    rw [afterLast_cons_mem (by simp), afterLast_append c J r]
theorem afterLast_mem {c : Nat} {J : List Nat} (h : c ∈ J) (pre : List Nat) : afterLast c (pre ++ J) = afterLast c J := by
  induction pre with
  | nil => rfl
  | cons x r ih => rw [List.cons_append, afterLast_cons_mem (by simp [h]), ih]
theorem afterLast_cases (c : Nat) : ∀ l : List Nat, c ∈ l → ∃ pre, l = pre ++ c :: afterLast c l ∧ c ∉ afterLast c l
  | x :: r, hm => by
    by_cases h : c ∈ r
    · obtain ⟨pre, e, hn⟩ := afterLast_cases c r h
      rw [afterLast_cons_mem h]
      exact ⟨x :: pre, by rw [List.cons_append, ← e], hn⟩
    · have hx : x = c := by
        rcases List.mem_cons.mp hm with e | e
        · exact e.symm
        · exact absurd e h
      have e : afterLast c (x :: r) = r := by
        conv => lhs; unfold afterLast
        rw [if_neg h, if_pos hx]
      rw [e]
      exact ⟨[], by rw [hx]; rfl, h⟩
theorem lastOf_cons (x y : Str) (r : List Str) : lastOf (x :: y :: r) = lastOf (y :: r) := by
  unfold lastOf
  simp
theorem join_last (c : Nat) : ∀ parts : List Str, (∀ p ∈ parts, c ∉ p.cps.toList) → (lastOf parts).cps.toList = afterLast c (Str.join ⟨#[c]⟩ parts).cps.toList ∧ (1 < parts.length ↔ c ∈ (Str.join ⟨#[c]⟩ parts).cps.toList)
  | [], _ => ⟨rfl, by simp [Str.join, Str.empty]⟩
  | [x], h => by
    have hx := h x List.mem_cons_self
    rw [join_one]
    exact ⟨by rw [afterLast_free hx]; rfl, by simp [hx]⟩
  | x :: y :: r, h => by
    obtain ⟨e1, e2⟩ := join_last c (y :: r) fun p hp => h p (List.mem_cons_of_mem _ hp)
    rw [join_cons_cons, cps_toList_append, cps_toList_append]
    have e0 : (⟨#[c]⟩ : Str).cps.toList = [c] := rfl
    rw [e0, List.append_assoc, List.singleton_append, afterLast_append, ← e1, lastOf_cons]
    exact ⟨rfl, by simp⟩
theorem split_last (x : Str) (c : Nat) : (lastOf (Txt.split x ⟨#[c]⟩)).cps.toList = afterLast c x.cps.toList ∧ (1 < (Txt.split x ⟨#[c]⟩).length ↔ c ∈ x.cps.toList) := by
  have h := join_last c (Txt.split x ⟨#[c]⟩) (StrLaws.split_free x c)
  rw [StrLaws.join_split] at h
  exact h
def noDot (l : List Nat) : List Nat := l.dropWhile fun c => c == 46
def ext0 (b : List Nat) : List Nat := if 46 ∈ noDot b then 46 :: afterLast 46 (noDot b) else []
theorem drop_takeWhile (p : Nat → Bool) : ∀ l : List Nat, l.drop (l.takeWhile p).length = l.dropWhile p
  | [] => rfl
  | x :: r => by
    cases h : p x with
    | true => rw [List.takeWhile_cons_of_pos h, List.dropWhile_cons_of_pos h, List.length_cons, List.drop_succ_cons, drop_takeWhile p r]
    | false => rw [List.takeWhile_cons_of_neg (by simp [h]), List.dropWhile_cons_of_neg (by simp [h])]; rfl
theorem dotGoes : (Str.ofString ".").cps.contains = fun c => c == 46 := by
  have e : (Str.ofString ".").cps = #[46] := by decide +kernel
  rw [e]
  funext c
  by_cases h : c = 46 <;> simp [h]
theorem lstrip_dot (x : Str) : (Txt.lstripChars x (Str.ofString ".")).cps.toList = noDot x.cps.toList := by
  unfold Txt.lstripChars
  rw [PyProof.Rows.stripBy_eq, StrLaws.strSub_toList, dotGoes]
  unfold stripLo stripHi noDot
  rw [if_pos rfl, if_neg (by simp), drop_takeWhile]
  rw [List.take_of_length_le]
  rw [← drop_takeWhile, List.length_drop]
  simp [Str.length]
theorem strip_dot (x : Str) : (Txt.stripChars x (Str.ofString ".") == Str.ofString "") = x.cps.toList.all (fun c => c == 46) := by
  have hlen : x.cps.toList.length = x.length := by simp [Str.length]
  unfold Txt.stripChars
  rw [PyProof.Rows.stripBy_eq, dotGoes]
  obtain ⟨l1, l2, l3⟩ := lo_facts (fun c => c == 46) x
  obtain ⟨h1, h2, h3, h4⟩ := hi_facts (fun c => c == 46) x _ l1
  generalize stripLo (fun c => c == 46) true x = lo at *
  generalize stripHi (fun c => c == 46) true x lo = hi at *
  have key : (Builtin.Str.strSub x lo hi == Str.ofString "") = true ↔ hi = lo := by
    have e0 : Str.ofString "" = ⟨#[]⟩ := by decide +kernel
    rw [beq_iff_eq, e0]
    constructor
    · intro e
      have := congrArg (fun s => s.cps.toList.length) e
      simp only [StrLaws.strSub_toList, List.length_take, List.length_drop, hlen] at this
      simp at this
      omega
    · rintro rfl
      exact StrLaws.mk_of_toList (l := []) (by rw [StrLaws.strSub_toList]; simp)
  rw [Bool.eq_iff_iff, key, List.all_eq_true]
  constructor
  · rintro rfl c hc
    obtain ⟨k, hk, rfl⟩ := List.mem_iff_getElem.mp hc
    have hk' : k < x.length := by omega
    have e : x.cps.getD k 0 = x.cps.toList[k] := by
      simp [Array.getD, show k < x.cps.size from hk']
      try rfl
    show (x.cps.toList[k] == 46) = true
    rw [← e]
    by_cases hlt : k < hi
    · exact l2 k hlt
    · exact h3 k (by omega) hk'
  · intro hall
    rcases h4 with e | e
    · exact e
    · by_cases hz : hi = 0
      · omega
      · exfalso
        have hk : hi - 1 < x.cps.toList.length := by omega
        have := hall _ (List.getElem_mem hk)
        have e' : x.cps.getD (hi - 1) 0 = x.cps.toList[hi - 1] := by
          simp [Array.getD, show hi - 1 < x.cps.size from (by have : x.cps.size = x.length := rfl
                                                              omega)]
        rw [e', this] at e
        cases e
theorem rfind_one (x : Str) (c : Nat) : Txt.rfind x ⟨#[c]⟩ = if c ∈ x.cps.toList then (x.cps.toList.length : Int) - (afterLast c x.cps.toList).length - 1 else -1 := by
  have at_iff : ∀ i, StrLaws.At x ⟨#[c]⟩ x.length i ↔ x.cps.toList[i]? = some c := fun i => StrLaws.subAt_one x c i
  unfold Txt.rfind
  rcases StrLaws.last_spec x ⟨#[c]⟩ with ⟨e, hn⟩ | ⟨i, e, h1, h2⟩
  · rw [e, if_neg]
    intro hm
    obtain ⟨k, hk⟩ := List.mem_iff_getElem?.mp hm
    exact hn k ((at_iff k).mpr hk)
  · rw [e]
    have hi := (at_iff i).mp h1
    have hm : c ∈ x.cps.toList := List.mem_of_getElem? hi
    rw [if_pos hm]
    obtain ⟨pre, el, hn⟩ := afterLast_cases c _ hm
    generalize afterLast c x.cps.toList = y at el hn ⊢
    generalize x.cps.toList = l at *
    subst el
    have hp : (pre ++ c :: y)[pre.length]? = some c := by simp
    have hle : ¬ i < pre.length := fun hlt => h2 _ hlt ((at_iff _).mpr hp)
    have hge : ¬ pre.length < i := fun hlt => by
      obtain ⟨d, rfl⟩ : ∃ d, i = pre.length + 1 + d := ⟨i - (pre.length + 1), by omega⟩
      rw [List.getElem?_append_right (by omega)] at hi
      rw [show pre.length + 1 + d - pre.length = d + 1 by omega, List.getElem?_cons_succ] at hi
      exact hn (List.mem_of_getElem? hi)
    have : i = pre.length := by omega
    subst this
    simp
    omega
end Mine
namespace Mine
theorem slice_from {x : Str} {i : Int} (h : 0 ≤ i ∧ i ≤ x.cps.toList.length) : (Txt.slice x (some i) none).cps.toList = x.cps.toList.drop i.toNat := by
  have e : Txt.slice x (some i) none = _ := StrLaws.sliceText_from h
  rw [e]
  have : ((x.cps.toList.length : Int) - i).toNat = x.cps.toList.length - i.toNat := by omega
  rw [this]
  show (x.cps.toList.drop i.toNat).take _ = _
  rw [List.take_of_length_le]
  rw [List.length_drop]
  exact Nat.le_refl _
theorem slice_to {x : Str} {j : Int} (h : 0 ≤ j ∧ j ≤ x.cps.toList.length) : (Txt.slice x none (some j)).cps.toList = x.cps.toList.take j.toNat := by
  have e : Txt.slice x none (some j) = _ := StrLaws.sliceText_to h
  rw [e]
  simp
theorem slice_one {x : Str} {i : Int} (h0 : 0 ≤ i) (h1 : i < x.cps.toList.length) : (Txt.slice x (some i) (some (i + 1))).cps.toList = (x.cps.toList.drop i.toNat).take 1 := by
  have e : Txt.slice x (some i) (some (i + 1)) = _ := StrLaws.sliceText_plain ⟨h0, by omega, by omega⟩
  rw [e]
  have : (i + 1 - i).toNat = 1 := by omega
  rw [this]
theorem takeWhile_mem {p : Nat → Bool} {c : Nat} : ∀ {l : List Nat}, c ∈ l.takeWhile p → p c = true
  | x :: r, h => by
    cases hx : p x with
    | true =>
      rw [List.takeWhile_cons_of_pos hx] at h
      rcases List.mem_cons.mp h with rfl | h
      · exact hx
      · exact takeWhile_mem h
    | false => rw [List.takeWhile_cons_of_neg (by simp [hx])] at h; cases h
theorem noDot_suffix (b : List Nat) : ∃ d, b = d ++ noDot b ∧ ∀ c ∈ d, c = 46 := by
  refine ⟨b.takeWhile fun c => c == 46, (List.takeWhile_append_dropWhile).symm, fun c hc => ?_⟩
  have := takeWhile_mem hc
  simpa using this
theorem noDot_head {b : List Nat} : noDot b = [] ∨ ∃ c r, noDot b = c :: r ∧ c ≠ 46 := by
  unfold noDot
  induction b with
  | nil => exact .inl rfl
  | cons x r ih =>
    by_cases h : x = 46
    · subst h; rw [List.dropWhile_cons_of_pos (by rfl)]; exact ih
    · rw [List.dropWhile_cons_of_neg (by simp [h])]
      exact .inr ⟨x, r, rfl, h⟩
theorem ext0_suffix (b : List Nat) : ∃ pre, b = pre ++ ext0 b := by
  obtain ⟨d, e, _⟩ := noDot_suffix b
  unfold ext0
  by_cases h : 46 ∈ noDot b
  · rw [if_pos h]
    obtain ⟨pre, e2, _⟩ := afterLast_cases 46 _ h
    exact ⟨d ++ pre, by rw [List.append_assoc, ← e2, ← e]⟩
  · rw [if_neg h]
    exact ⟨b, by simp⟩
theorem after_suffix (c : Nat) (l : List Nat) : ∃ pre, l = pre ++ afterLast c l := by
  by_cases h : c ∈ l
  · obtain ⟨pre, e, _⟩ := afterLast_cases c l h
    exact ⟨pre ++ [c], by rw [List.append_assoc]; exact e⟩
  · exact ⟨[], by rw [afterLast_free h]; rfl⟩
def nameL (x : Str) : List Nat := afterLast 47 x.cps.toList
def extL (x : Str) : List Nat := ext0 (nameL x)
theorem slash_one : Str.ofString "/" = ⟨#[47]⟩ := by decide +kernel
theorem dot_one : Str.ofString "." = ⟨#[46]⟩ := by decide +kernel
theorem cut_is (x : Str) : cutSize x = (x.cps.toList.length : Int) - (extL x).length := by
  have h1 := split_last x 47
  unfold cutSize
  rw [slash_one]
  generalize hy : lastOf (Txt.split x ⟨#[47]⟩) = y at h1 ⊢
  have h2 : (Txt.lstripChars y (Str.ofString ".")).cps.toList = noDot (nameL x) := by
    rw [lstrip_dot, h1.1]; rfl
  generalize Txt.lstripChars y (Str.ofString ".") = z at h2 ⊢
  rw [dot_one]
  have h3 := split_last z 46
  rw [h2] at h3
  unfold extL ext0
  have hlen : (x.length : Int) = x.cps.toList.length := by simp [Str.length]
  rw [hlen]
  by_cases hd : 46 ∈ noDot (nameL x)
  · rw [if_pos (h3.2.mpr hd), if_pos hd]
    have : (lastOf (Txt.split z ⟨#[46]⟩)).length = (afterLast 46 (noDot (nameL x))).length := by
      rw [← h3.1]; simp [Str.length]
    rw [this]
    simp
  · rw [if_neg (fun h => hd (h3.2.mp h)), if_neg hd]
    simp
theorem ext_pre (x : Str) : ∃ pre, x.cps.toList = pre ++ extL x := by
  obtain ⟨p1, e1⟩ := after_suffix 47 x.cps.toList
  obtain ⟨p2, e2⟩ := ext0_suffix (nameL x)
  refine ⟨p1 ++ p2, ?_⟩
  rw [List.append_assoc]
  unfold extL
  rw [← e2]
  exact e1
theorem cut_from (x : Str) : (Txt.slice x (some (cutSize x)) none).cps.toList = extL x := by
  obtain ⟨pre, e⟩ := ext_pre x
  have hl := congrArg List.length e
  rw [List.length_append] at hl
  have hc := cut_is x
  rw [slice_from ⟨by omega, by omega⟩, show (cutSize x).toNat = pre.length by omega]
  rw [e]
  simp
theorem cut_to (x : Str) : x.cps.toList = (Txt.slice x none (some (cutSize x))).cps.toList ++ extL x := by
  obtain ⟨pre, e⟩ := ext_pre x
  have hl := congrArg List.length e
  rw [List.length_append] at hl
  have hc := cut_is x
  rw [slice_to ⟨by omega, by omega⟩, show (cutSize x).toNat = pre.length by omega]
  conv => lhs; rw [e]
  congr 1
  rw [e]
  simp
end Mine
namespace Mine
theorem str_ext {x y : Str} (h : x.cps.toList = y.cps.toList) : x = y := by
  have h1 := StrLaws.mk_of_toList h
  rw [h1]
theorem law_a0 {x u v : Str} (h : SplitIs x u v) : u = Txt.slice x none (some (cutSize x)) ∧ v = Txt.slice x (some (cutSize x)) none := by
  have hc := cut_is x
  have hs : sepAt x = (x.cps.toList.length : Int) - (nameL x).length - 1 := by
    unfold sepAt
    rw [slash_one, rfind_one]
    by_cases hm : 47 ∈ x.cps.toList
    · rw [if_pos hm]; rfl
    · rw [if_neg hm]; unfold nameL; rw [afterLast_free hm]; omega
  obtain ⟨q0, eq0⟩ := after_suffix 47 x.cps.toList
  change x.cps.toList = q0 ++ nameL x at eq0
  obtain ⟨d, ed, hd⟩ := noDot_suffix (nameL x)
  have hdot : dotAt x = if 46 ∈ x.cps.toList then (x.cps.toList.length : Int) - (afterLast 46 x.cps.toList).length - 1 else -1 := by
    unfold dotAt
    rw [dot_one, rfind_one]
  have hlen : x.cps.toList.length = q0.length + d.length + (noDot (nameL x)).length := by
    conv => lhs; rw [eq0, ed]
    simp; omega
  have hnl : (nameL x).length = d.length + (noDot (nameL x)).length := by
    conv => lhs; rw [ed]
    simp
  by_cases hp : 46 ∈ noDot (nameL x)
  · -- the cut stands at the last dot
    have hext : extL x = 46 :: afterLast 46 (noDot (nameL x)) := by unfold extL ext0; rw [if_pos hp]
    have hal : afterLast 46 x.cps.toList = afterLast 46 (noDot (nameL x)) := by
      conv => lhs; rw [eq0, ed, ← List.append_assoc]
      exact afterLast_mem hp _
    have hmem : 46 ∈ x.cps.toList := by rw [eq0, ed]; simp [hp]
    rw [if_pos hmem, hal] at hdot
    have hcd : cutSize x = dotAt x := by
      rw [hc, hdot, hext, List.length_cons]; omega
    rcases h with ⟨_, h1, h2⟩ | ⟨hn, _, _⟩
    · rw [hcd]; exact ⟨h1, h2⟩
    · exfalso
      apply hn
      rcases (noDot_head : noDot (nameL x) = [] ∨ _) with e | ⟨c, r, e, hne⟩
      · rw [e] at hp; cases hp
      · have hr : 46 ∈ r := by
          rw [e] at hp
          rcases List.mem_cons.mp hp with e' | e'
          · exact absurd e'.symm hne
          · exact e'
        rw [e] at hdot hlen hnl
        rw [afterLast_cons_mem hr] at hdot
        obtain ⟨pr, epr, _⟩ := afterLast_cases 46 r hr
        have hl3 := congrArg List.length epr
        rw [List.length_append, List.length_cons] at hl3
        rw [List.length_cons] at hlen hnl
        refine ⟨by omega, (q0.length + d.length : Nat), by omega, by omega, fun e9 => ?_⟩
        have e10 := congrArg (fun s : Str => s.cps.toList) e9
        rw [slice_one (by omega) (by omega), dot_one] at e10
        rw [show ((q0.length + d.length : Nat) : Int).toNat = (q0 ++ d).length by simp; omega] at e10
        rw [show x.cps.toList = (q0 ++ d) ++ c :: r by rw [← e, List.append_assoc, ← ed]; exact eq0] at e10
        rw [List.drop_left] at e10
        simp at e10
        exact hne e10
  · have hext : extL x = [] := by unfold extL ext0; rw [if_neg hp]
    have hcl : cutSize x = (x.cps.toList.length : Int) := by rw [hc, hext]; simp
    have hncut : ¬ SplitCut x := by
      rintro ⟨h1, i, h2, h3, h4⟩
      have hm : 46 ∈ x.cps.toList := by
        by_cases hm : 46 ∈ x.cps.toList
        · exact hm
        · rw [if_neg hm] at hdot; omega
      rw [if_pos hm] at hdot
      obtain ⟨pr, epr, hfree⟩ := afterLast_cases 46 _ hm
      have hl3 := congrArg List.length epr
      rw [List.length_append, List.length_cons] at hl3
      have hdp : dotAt x = pr.length := by omega
      -- the sign at the last dot
      have hat : x.cps.toList[pr.length]? = some 46 := by
        conv => lhs; rw [epr]
        simp
      -- it lies in the name
      obtain ⟨i', rfl⟩ : ∃ i' : Nat, i = i' := ⟨i.toNat, by omega⟩
      have hi : i' < x.cps.toList.length := by omega
      have hx : x.cps.toList = (q0 ++ d) ++ noDot (nameL x) := by rw [List.append_assoc, ← ed]; exact eq0
      have hq : q0.length ≤ i' := by omega
      by_cases hin : i' < q0.length + d.length
      · -- a dot
        apply h4
        apply str_ext
        rw [slice_one (by omega) (by omega), dot_one]
        have e1 : x.cps.toList[i']? = some 46 := by
          rw [hx, List.getElem?_append_left (by simp; omega), List.getElem?_append_right hq]
          have hlt : i' - q0.length < d.length := by omega
          rw [List.getElem?_eq_getElem hlt]
          exact congrArg some (hd _ (List.getElem_mem hlt))
        have := List.getElem?_eq_some_iff.mp e1
        obtain ⟨h5, h6⟩ := this
        show (x.cps.toList.drop (i' : Int).toNat).take 1 = [46]
        rw [show ((i' : Nat) : Int).toNat = i' by simp, List.drop_eq_getElem_cons h5, h6]
        rfl
      · apply hp
        rw [hx, List.getElem?_append_right (by simp; omega)] at hat
        exact List.mem_of_getElem? hat
    rcases h with ⟨hy, _, _⟩ | ⟨_, h1, h2⟩
    · exact absurd hy hncut
    · rw [hcl]
      constructor
      · rw [h1]; apply str_ext; rw [slice_to ⟨by omega, by omega⟩, show ((x.cps.toList.length : Nat) : Int).toNat = x.cps.toList.length by simp, List.take_length]
      · rw [h2]; apply str_ext
        rw [slice_to ⟨by omega, by omega⟩, slice_from ⟨by omega, by omega⟩]; simp
end Mine

end PL_
section WF_
open PySem PySem.W PyProof.Rows PySem.Calls
set_option maxRecDepth 100000
set_option Elab.async false
namespace Mine
section
variable {prog : Program} {w : World} {A : Around} {E : Value → Shared → Prop} {s : Shared}
abbrev tupSB : Obj := ⟨.type "tuple", none, .seq #[.type "str", .type "bytes"] 0, #[]⟩
theorem str_sub_str : isSubtype (.type "str") (.type "str") = pure true := by with_unfolding_all rfl
theorem tup_sub_tup : isSubtype (.type "tuple") (.type "tuple") = pure true := by with_unfolding_all rfl
theorem kind_isn : builtinKind "issubclass.nested" = none := by decide +kernel
theorem plain_isn : plainId "issubclass.nested" = true := by decide +kernel
theorem args_isn (a b c : Value) : argsOk "issubclass.nested" ⟨[a, b, c], []⟩ := by unfold argsOk; kernel_rfl
theorem issub_one {i : Int} {tk : Tok} {Q : PySem.Fin → Shared → Prop} (h : Q (.done (.ret (.bool true))) s) : wpAny (model prog w) A (Builtin.«issubclass.nested» ⟨[.type "str", .type "str", .int i tk], []⟩) Q E s := by
  have e : Builtin.«issubclass.nested» ⟨[.type "str", .type "str", .int i tk], []⟩ = pure (.done (.ret (.bool true))) := by with_unfolding_all rfl
  rw [e]
  exact wpAny_pure h
theorem issub_tup {D : Addr} {tk : Tok} {Q : PySem.Fin → Shared → Prop} (hD : s.heap.get? D = some tupSB) (h : Q (.done (.ret (.bool true))) s) :
    wpAny (model prog w) A (Builtin.«issubclass.nested» ⟨[.type "str", .ref D, .int 0 tk], []⟩) Q E s := by
  have hT : s.TypeIs (.ref D) "tuple" := ⟨_, hD, rfl⟩
  unfold Builtin.«issubclass.nested»
  refine wpAny_bind (wpAny_typeOf hT ?_)
  rw [if_neg (by decide)]
  refine wpAny_bind ?_
  unfold Builtin.Builtins.unionMembers
  refine wpAny_bind (wpAny_typeOf hT ?_)
  rw [if_neg (by decide)]
  refine wpAny_pure ?_
  refine wpAny_bind (wpAny_isInstance hT tup_sub_tup ?_)
  rw [if_pos rfl]
  dsimp only
  rw [if_neg (by decide)]
  refine wpAny_bind (wpAny_mono (Q := fun x s' => x = some #[.type "str", .type "bytes"] ∧ s' = s) ?_ (fun x s' hx => ?_) fun _ _ e => e)
  · unfold seqItems?
    exact wpAny_bind (wpAny_load hD (wpAny_pure ⟨rfl, rfl⟩))
  obtain ⟨rfl, rfl⟩ := hx
  refine wpAny_bind ?_
  rw [show (some (#[Value.type "str", .type "bytes"] : Array Value)).getD #[] = #[Value.type "str", .type "bytes"] from rfl, ← Array.forIn_toList, List.forIn_cons]
  refine wpAny_bind (wpAny_bind (call_function_meets kind_isn plain_isn F.entry_issubclass_nested (args_isn _ _ _) (S := fun _ R s' => R (.ok (.ret (.bool true))) s') (fun _ _ _ _ _ hs => issub_one hs) ?_))
  show wpAny _ _ _ _ _ _
  refine wpAny_bind (wpAny_truthy_bool ?_)
  rw [if_pos rfl]
  exact wpAny_bind (wpAny_pure (wpAny_pure (wpAny_pure (wpAny_pure h))))
theorem call_issub_tup {D : Addr} {Q : Value → Shared → Prop} (hD : s.heap.get? D = some tupSB) (h : Q (.bool true) s) : wpAny (model prog w) A (call (.builtin "issubclass") [.type "str", .ref D]) Q E s :=
  call_issubclass (S := fun _ R s => s.heap.get? D = some tupSB ∧ R (.ok (.ret (.bool true))) s) (fun _ _ _ _ _ hs => issubclass_outer (issub_tup hs.1 hs.2)) ⟨hD, h⟩
end
end Mine

end WF_
section WB_
open PySem PySem.W PyProof.Rows
set_option maxRecDepth 100000
set_option Elab.async false
set_option pp.deepTerms false
set_option pp.deepTerms.threshold 8
set_option maxHeartbeats 4000000
set_option linter.unusedVariables false
namespace Mine
theorem kfillB : PySem.Challenge.rw_ij0132_01 = PySem.Challenge.rw_ij0132_01 ∧ K = K := by
  k_fill
  exact ⟨rfl, rfl⟩
section
variable {p : Program} {loose : List Str} {mean : ExcName → Option Value} {mg mb : Str → Option Value} {w : World} {A : Around} {s : Shared}
theorem spec_b1 (hd : A.depth < 400) (X : (K w.params).In s.heap) (T : Top p loose mean mg mb s.heap) {c : Nat} {t : Tok} {R : Result → Shared → Prop}
    (h : ∀ h' tk, (∀ b o, s.heap.get? b = some o → h'.get? b = some o) → R (.ok (.ret (.bool (b1S c)))) { s with heap := h', toks := tk }) :
    codeAny (model pw w) A (.call (.ref 136) ⟨[.str ⟨#[c]⟩ t], []⟩) R s := by
  have hb : fBody (fd 18) = fBody (fd 18) := rfl
  conv at hb => rhs; whnf
  have hs : fScope (fd 18) = fScope (fd 18) := rfl
  conv at hs => rhs; whnf
  have hp : fParams (fd 18) = fParams (fd 18) := rfl
  conv at hp => rhs; whnf
  refine call_plain_ret (name := "in_table_b1") (params := fParams (fd 18)) (body := fBody (fd 18)) (scope := fScope (fd 18)) (Nat.lt_trans hd (by decide)) (X 136 _ rfl) rfl T.nolimit (codeRec_of X (by rfl)) (binds := [("code", .str ⟨#[c]⟩ t)]) ?_ ?_ (fun h₁ F => ?_) ?_ ?_ ?_ ?_
  all_goals try rw [hb]
  all_goals try rw [hs]
  all_goals try rw [hp]
  all_goals clear hb hs hp
  · exact rfl
  · exact locs rfl
  rotate_left 1
  · decide
  k_fold
  have N0 : News s.heap s.heap.objs.size h₁ [] := News.nil
  (repeat' (first | (k_unfold; (try dsimp only)) | walk1 | (dsimp only; walk1) | fail "no step"))
  rename Fr _ _ _ _ => FF
  refine wpAny_inSet_of (knd := intKind pw w) (k := (c : Int)) (intKind_is _ _ _ _) rfl (b1Set (X.keeps FF.keep)) ?_
  dsimp only [qk]
  exact h _ _ FF.keep
theorem spec_b3 (hd : A.depth < 400) (X : (K w.params).In s.heap) (T : Top p loose mean mg mb s.heap) {c : Nat} {t : Tok} {R : Result → Shared → Prop}
    (h : ∀ h' tk t, (∀ b o, s.heap.get? b = some o → h'.get? b = some o) → R (.ok (.ret (.str ((b3Look c).getD (Txt.lower ⟨#[c]⟩)) t))) { s with heap := h', toks := tk }) :
    codeAny (model pw w) A (.call (.ref 182) ⟨[.str ⟨#[c]⟩ t], []⟩) R s := by
  have hb : fBody (fd 20) = fBody (fd 20) := rfl
  conv at hb => rhs; whnf
  have hs : fScope (fd 20) = fScope (fd 20) := rfl
  conv at hs => rhs; whnf
  have hp : fParams (fd 20) = fParams (fd 20) := rfl
  conv at hp => rhs; whnf
  refine call_plain_ret (name := "map_table_b3") (params := fParams (fd 20)) (body := fBody (fd 20)) (scope := fScope (fd 20)) (Nat.lt_trans hd (by decide)) (X 182 _ rfl) rfl T.nolimit (codeRec_of X (by rfl)) (binds := [("code", .str ⟨#[c]⟩ t)]) ?_ ?_ (fun h₁ F => ?_) ?_ ?_ ?_ ?_
  all_goals try rw [hb]
  all_goals try rw [hs]
  all_goals try rw [hp]
  all_goals clear hb hs hp
  · exact rfl
  · exact locs rfl
  rotate_left 1
  · decide
  k_fold
  have N0 : News s.heap s.heap.objs.size h₁ [] := News.nil
  (repeat' (first | (k_unfold; (try dsimp only)) | walk1 | (dsimp only; walk1) | fail "no step"))
  rename Fr _ _ _ _ => FF
  have hM := b3Map (X.keeps FF.keep)
  refine getMethod_builtin hM.typeIs PySem.F.plainAttrs_dict PySem.F.slot_dict_get PySem.F.type_dict_get hM.noDict ?_
  clear hM
  (repeat' (first | (k_unfold; (try dsimp only)) | walk1 | (dsimp only; walk1) | fail "no step"))
  have hM := b3Map (X.keeps FF.keep)
  refine call_meetsIn PySem.F.slot_dict_get hM.typeIs PySem.F.entry_dict_get (PySem.F.args_dict_get_2 _ _) (meets_dict_get (intKind pw w) 137 (k := (c : Int)) (intKind_is _ _ _ _) rfl) ⟨_, hM, ?_⟩
  clear hM
  rcases b3F_spec c with ⟨e1, e2⟩ | ⟨x, tx, e1, e2⟩
  · rw [e2]
    rw [e1] at h
    dsimp only [Option.getD]
    show wpAny _ _ _ _ _ _
    (repeat' (first | (k_unfold; (try dsimp only)) | walk1 | (dsimp only; walk1) | fail "no step"))
    have hl1 : (⟨#[c]⟩ : Str).length ≤ 1 := Nat.le_refl _
    refine SCL.lower (by omega) ?_
    intro _
    rename Fr _ _ _ _ => FF
    dsimp only [qk]
    exact h _ _ _ FF.keep
  · rw [e2]
    rw [e1] at h
    dsimp only [Option.getD]
    show wpAny _ _ _ _ _ _
    (repeat' (first | (k_unfold; (try dsimp only)) | walk1 | (dsimp only; walk1) | fail "no step"))
    rename Fr _ _ _ _ => FF
    dsimp only [qk]
    exact h _ _ _ FF.keep
end
end Mine

end WB_
section WC_
open PySem PySem.W PyProof.Rows
set_option maxRecDepth 100000
set_option Elab.async false
set_option pp.deepTerms false
set_option pp.deepTerms.threshold 8
set_option maxHeartbeats 4000000
set_option linter.unusedVariables false
namespace Mine
theorem kfillC : PySem.Challenge.rw_ij0132_01 = PySem.Challenge.rw_ij0132_01 ∧ K = K := by
  k_fill
  exact ⟨rfl, rfl⟩
section
variable {p : Program} {loose : List Str} {mean : ExcName → Option Value} {mg mb : Str → Option Value} {w : World} {A : Around} {s : Shared}
theorem spec_cut (hd : A.depth < 400) (X : (K w.params).In s.heap) (T : Top p loose mean mg mb s.heap) {x : Str} {t : Tok} (hx : x.length ≤ 1000) {R : Result → Shared → Prop}
    (h : ∀ h' tk a z1 z2 t1 t2, z1 = cutSize x → z2 = cutSize x → (∀ b o, s.heap.get? b = some o → h'.get? b = some o) → h'.get? a = some ⟨.type "tuple", none, .seq #[.str (Txt.slice x none (some z1)) t1, .str (Txt.slice x (some z2) none) t2] 0, #[]⟩ →
      R (.ok (.ret (.ref a))) { s with heap := h', toks := tk }) :
    codeAny (model pw w) A (.call (.ref 215) ⟨[.str x t], []⟩) R s := by
  have hb : fBody (fd 26) = fBody (fd 26) := rfl
  conv at hb => rhs; whnf
  have hs : fScope (fd 26) = fScope (fd 26) := rfl
  conv at hs => rhs; whnf
  have hp : fParams (fd 26) = fParams (fd 26) := rfl
  conv at hp => rhs; whnf
  refine call_plain_ret (name := "_law_cut") (params := fParams (fd 26)) (body := fBody (fd 26)) (scope := fScope (fd 26)) (Nat.lt_trans hd (by decide)) (X 215 _ rfl) rfl T.nolimit (codeRec_of X (by rfl)) (binds := [("path", .str x t)]) ?_ ?_ (fun h₁ F => ?_) ?_ ?_ ?_ ?_
  all_goals try rw [hb]
  all_goals try rw [hs]
  all_goals try rw [hp]
  all_goals clear hb hs hp
  · exact rfl
  · exact locs rfl
  rotate_left 1
  · decide
  k_fold
  have N0 : News s.heap s.heap.objs.size h₁ [] := News.nil
  (repeat' (first | (k_unfold; (try dsimp only)) | walk1 | (dsimp only; walk1) | fail "no step"))
  rename_i y ty hy
  rename ∀ a ∈ List.map _ _, _ => hl
  rename List.map _ _ = Txt.split _ _ => hsp
  have hyl := hl y (List.mem_of_getElem? hy)
  have hyl2 : y.length ≤ 1000 := Nat.le_trans hyl hx
  have hy2 := last_at hsp hy
  have hyl3 := len_lstripChars y (Str.ofString ".")
  clear hl hsp hy
  (repeat' (first | (k_unfold; (try dsimp only)) | walk1 | (dsimp only; walk1) | fail "no step"))
  · rename ∀ a ∈ List.map _ _, _ => hl
    rename List.map _ _ = Txt.split _ _ => hsp
    rename (1 : Int) < _ => h1
    have hlast := last_getD hsp
    have hz := lastD_len hl
    (repeat' (first | (k_unfold; (try dsimp only)) | walk1 | (dsimp only; walk1) | fail "no step"))
    dsimp only [qk]
    rename News _ _ _ _ => NN
    rename Fr _ _ _ _ => FF
    refine h _ _ _ _ _ _ _ ?_ ?_ FF.keep (NN.get (by k_mem))
    all_goals (unfold cutSize; rw [← hy2, ← hsp, List.length_map, if_pos (by omega), hsp, ← hlast, hsp])
  · rename List.map _ _ = Txt.split _ _ => hsp
    rename ¬ ((1 : Int) < _) => h1
    dsimp only [qk]
    rename News _ _ _ _ => NN
    rename Fr _ _ _ _ => FF
    refine h _ _ _ _ _ _ _ ?_ ?_ FF.keep (NN.get (by k_mem))
    all_goals (unfold cutSize; rw [← hy2, ← hsp, List.length_map, if_neg (by omega)])
end
end Mine

end WC_
section WS_
open PySem PySem.W PyProof.Rows
set_option maxRecDepth 100000
set_option Elab.async false
set_option pp.deepTerms false
set_option pp.deepTerms.threshold 8
set_option maxHeartbeats 4000000
set_option linter.unusedVariables false
namespace Mine
theorem kfillF : PySem.Challenge.rw_ij0132_01 = PySem.Challenge.rw_ij0132_01 ∧ K = K := by
  k_fill
  exact ⟨rfl, rfl⟩
section
variable {p : Program} {loose : List Str} {mean : ExcName → Option Value} {mg mb : Str → Option Value} {w : World} {A : Around} {s : Shared}
theorem spec_fspath (hd : A.depth < 401) (X : (K w.params).In s.heap) (T : Top p loose mean mg mb s.heap) {x : Str} {t : Tok} (hx : x.length ≤ 1000) {R : Result → Shared → Prop}
    (h : ∀ h' tk, (∀ b o, s.heap.get? b = some o → h'.get? b = some o) → R (.ok (.ret (.str x t))) { s with heap := h', toks := tk }) :
    codeAny (model pw w) A (.call (.ref 101) ⟨[.str x t], []⟩) R s := by
  have hb : fBody (fd 10) = fBody (fd 10) := rfl
  conv at hb => rhs; whnf
  have hs : fScope (fd 10) = fScope (fd 10) := rfl
  conv at hs => rhs; whnf
  have hp : fParams (fd 10) = fParams (fd 10) := rfl
  conv at hp => rhs; whnf
  refine call_plain_ret (name := "fspath") (params := fParams (fd 10)) (body := fBody (fd 10)) (scope := fScope (fd 10)) (Nat.lt_trans hd (by decide)) (X 101 _ rfl) rfl T.nolimit (codeRec_of X (by rfl)) (binds := [("path", .str x t)]) ?_ ?_ (fun h₁ F => ?_) ?_ ?_ ?_ ?_
  all_goals try rw [hb]
  all_goals try rw [hs]
  all_goals try rw [hp]
  all_goals clear hb hs hp
  · exact rfl
  · exact locs rfl
  rotate_left 1
  · decide
  k_fold
  have N0 : News s.heap s.heap.objs.size h₁ [] := News.nil
  (repeat' (first | (k_unfold; (try dsimp only)) | walk1 | (dsimp only; walk1) | fail "no step"))
  rename News _ _ _ _ => NN
  refine call_issub_tup (NN.get (by k_mem)) ?_
  (repeat' (first | (k_unfold; (try dsimp only)) | walk1 | (dsimp only; walk1) | fail "no step"))
  dsimp only [qk]
  rename Fr _ _ _ _ => FF
  exact h _ _ FF.keep
theorem spec_split0 (hd : A.depth < 401) (X : (K w.params).In s.heap) (T : Top p loose mean mg mb s.heap) {x : Str} {t t1 t2 : Tok} (hx : x.length ≤ 1000) {R : Result → Shared → Prop}
    (h : ∀ h' tk a u v t1 t2, SplitIs x u v → (∀ b o, s.heap.get? b = some o → h'.get? b = some o) → h'.get? a = some ⟨.type "tuple", none, .seq #[.str u t1, .str v t2] 0, #[]⟩ → R (.ok (.ret (.ref a))) { s with heap := h', toks := tk }) :
    codeAny (model pw w) A (.call (.ref 108) ⟨[.str x t, .str (Str.ofString "/") t1, .none, .str (Str.ofString ".") t2], []⟩) R s := by
  have hb : fBody (fd 12) = fBody (fd 12) := rfl
  conv at hb => rhs; whnf
  have hs : fScope (fd 12) = fScope (fd 12) := rfl
  conv at hs => rhs; whnf
  have hp : fParams (fd 12) = fParams (fd 12) := rfl
  conv at hp => rhs; whnf
  refine call_plain_ret (name := "_splitext") (params := fParams (fd 12)) (body := fBody (fd 12)) (scope := fScope (fd 12)) (Nat.lt_trans hd (by decide)) (X 108 _ rfl) rfl T.nolimit (codeRec_of X (by rfl)) (binds := [("p", .str x t), ("sep", .str (Str.ofString "/") t1), ("altsep", .none), ("extsep", .str (Str.ofString ".") t2)]) ?_ ?_ (fun h₁ F => ?_) ?_ ?_ ?_ ?_
  all_goals try rw [hb]
  all_goals try rw [hs]
  all_goals try rw [hp]
  all_goals clear hb hs hp
  · exact rfl
  · exact locs rfl
  rotate_left 1
  · decide
  k_fold
  have N0 : News s.heap s.heap.objs.size h₁ [] := News.nil
  (repeat' (first | (k_unfold; (try dsimp only)) | ((with_reducible show wpAny _ _ (exec (Stmt.While _ _ _ _) _) _ _ _); refine hold ?_) | walk1 | (dsimp only; walk1) | fail "no step"))
  · rename Fr _ _ _ _ => F3
    rename Txt.rfind _ _ < Txt.rfind _ _ => hlt
    refine (whl_start 0 ?_ : Hold _)
    refine while_by (fun n s' => ∃ (i : Int) (h' : Heap) (tk : Nat) (ti t5 t6 : Tok), s' = { s with heap := h', toks := tk } ∧ Fr s.heap s.heap.objs.size h' (fun y => if y = Str.ofString "filenameIndex" then some (Value.int i ti) else if y = Str.ofString "dotIndex" then some (Value.int (dotAt x) t5) else if y = Str.ofString "sepIndex" then some (Value.int (sepAt x) t6) else List.lookup y [(Str.ofString "p", Value.str x t), (Str.ofString "sep", Value.str (Str.ofString "/") t1), (Str.ofString "altsep", Value.none), (Str.ofString "extsep", Value.str (Str.ofString ".") t2)].reverse) ∧ sepAt x + 1 ≤ i ∧ i ≤ dotAt x ∧ n = (dotAt x - i).toNat ∧ ∀ j, sepAt x + 1 ≤ j → j < i → Txt.slice x (some j) (some (j + 1)) = Str.ofString ".") (by first | passes_own | with_unfolding_all passes_own) ?turn _ _ 0
      ⟨sepAt x + 1, _, _, _, _, _, rfl, F3, Int.le_refl _, hlt, rfl, fun j h1 h2 => absurd h2 (by omega)⟩
    clear F3
    rintro n s' ⟨i, h', tk, ti, t5, t6, rfl, F, hi1, hi2, rfl, hj⟩
    have N0 : News s.heap s.heap.objs.size h' [] := News.nil
    (repeat' (first | (k_unfold; (try dsimp only)) | ((with_reducible show wpAny _ _ (exec (Stmt.While _ _ _ _) _) _ _ _); refine hold ?_) | walk1 | (dsimp only; walk1) | fail "no step"))
    by_cases hid : i < dotAt x
    · refine WhlIf.yes (decide_eq_true hid) ?_
      (repeat' (first | (k_unfold; (try dsimp only)) | ((with_reducible show wpAny _ _ (exec (Stmt.While _ _ _ _) _) _ _ _); refine hold ?_) | walk1 | (dsimp only; walk1) | fail "no step"))
      · dsimp only [qk]
        rename News _ _ _ _ => NN
        rename Fr _ _ _ _ => FF
        rename (Txt.slice _ _ _ != _) = _ => hne
        refine h _ _ _ _ _ _ _ (.inl ⟨⟨hlt, i, hi1, hid, bne_iff_ne.mp hne⟩, rfl, rfl⟩) FF.keep (NN.get (by k_mem))
      · rename Fr _ _ _ _ => FF
        refine @id (Hold _) (show ∃ m, _ from ⟨(dotAt x - (i + 1)).toNat, by omega, i + 1, _, _, _, _, _, rfl, fr_twice FF, by omega, by omega, rfl, fun j h1 h2 => ?_⟩)
        by_cases hji : j = i
        · subst hji
          rename (Txt.slice _ _ _ != _) = _ => hne
          simpa using hne
        · exact hj j h1 (by omega)
    · refine WhlIf.no (decide_eq_false hid) ?_
      (repeat' (first | (k_unfold; (try dsimp only)) | ((with_reducible show wpAny _ _ (exec (Stmt.While _ _ _ _) _) _ _ _); refine hold ?_) | walk1 | (dsimp only; walk1) | fail "no step"))
      dsimp only [qk]
      rename News _ _ _ _ => NN
      rename Fr _ _ _ _ => FF
      refine h _ _ _ _ _ _ _ (.inr ⟨fun hc => ?_, rfl, rfl⟩) FF.keep (NN.get (by k_mem))
      obtain ⟨_, j, j1, j2, j3⟩ := hc
      exact j3 (hj j j1 (by omega))
  · rename ¬ (Txt.rfind _ _ < Txt.rfind _ _) => hlt
    dsimp only [qk]
    rename News _ _ _ _ => NN
    rename Fr _ _ _ _ => FF
    refine h _ _ _ _ _ _ _ (.inr ⟨fun hc => hlt hc.1, rfl, rfl⟩) FF.keep (NN.get (by k_mem))
end
end Mine

end WS_
section WS2_
open PySem PySem.W PyProof.Rows
set_option maxRecDepth 100000
set_option Elab.async false
set_option pp.deepTerms false
set_option pp.deepTerms.threshold 8
set_option maxHeartbeats 4000000
set_option linter.unusedVariables false
namespace Mine
theorem kfillS : PySem.Challenge.rw_ij0132_01 = PySem.Challenge.rw_ij0132_01 ∧ K = K := by
  k_fill
  exact ⟨rfl, rfl⟩
section
variable {p : Program} {loose : List Str} {mean : ExcName → Option Value} {mg mb : Str → Option Value} {w : World} {A : Around} {s : Shared}
theorem spec_splitext (hd : A.depth < 400) (X : (K w.params).In s.heap) (T : Top p loose mean mg mb s.heap) {x : Str} {t : Tok} (hx : x.length ≤ 1000) {R : Result → Shared → Prop}
    (h : ∀ h' tk a u v t1 t2, SplitIs x u v → (∀ b o, s.heap.get? b = some o → h'.get? b = some o) → h'.get? a = some ⟨.type "tuple", none, .seq #[.str u t1, .str v t2] 0, #[]⟩ → R (.ok (.ret (.ref a))) { s with heap := h', toks := tk }) :
    codeAny (model pw w) A (.call (.ref 115) ⟨[.str x t], []⟩) R s := by
  have hb : fBody (fd 14) = fBody (fd 14) := rfl
  conv at hb => rhs; whnf
  have hs : fScope (fd 14) = fScope (fd 14) := rfl
  conv at hs => rhs; whnf
  have hp : fParams (fd 14) = fParams (fd 14) := rfl
  conv at hp => rhs; whnf
  refine call_plain_ret (name := "splitext") (params := fParams (fd 14)) (body := fBody (fd 14)) (scope := fScope (fd 14)) (Nat.lt_trans hd (by decide)) (X 115 _ rfl) rfl T.nolimit (codeRec_of X (by rfl)) (binds := [("p", .str x t)]) ?_ ?_ (fun h₁ F => ?_) ?_ ?_ ?_ ?_
  all_goals try rw [hb]
  all_goals try rw [hs]
  all_goals try rw [hp]
  all_goals clear hb hs hp
  · exact rfl
  · exact locs rfl
  rotate_left 1
  · decide
  k_fold
  have N0 : News s.heap s.heap.objs.size h₁ [] := News.nil
  (repeat' (first | (k_unfold; (try dsimp only)) | walk1 | (dsimp only; walk1) | fail "no step"))
  rename Fr _ _ _ _ => FF
  refine wpAny_call (spec_fspath (by show A.depth + 1 < 401; omega) (X.keeps FF.keep) (T.keeps FF.keep) hx fun h2 tk2 kp2 => ?_)
  have F2 := fr_keeps FF kp2
  have N2 : News s.heap s.heap.objs.size h2 [] := News.nil
  clear FF
  dsimp only
  (repeat' (first | (k_unfold; (try dsimp only)) | walk1 | (dsimp only; walk1) | fail "no step"))
  rename Fr _ _ _ _ => FF
  refine wpAny_call (spec_split0 (by show A.depth + 1 < 401; omega) (X.keeps FF.keep) (T.keeps FF.keep) hx fun h3 tk3 a u v t1 t2 hs kp3 hg => ?_)
  dsimp only [qk]
  exact h _ _ _ _ _ _ _ hs (fun b o e => kp3 b o (FF.keep b o e)) hg
end
end Mine

end WS2_
section WG_
open PySem PySem.W PyProof.Rows
set_option maxRecDepth 100000
set_option Elab.async false
set_option pp.deepTerms false
set_option pp.deepTerms.threshold 8
set_option maxHeartbeats 4000000
set_option linter.unusedVariables false
namespace Mine
theorem kfillWG : PySem.Challenge.rw_ij0132_01 = PySem.Challenge.rw_ij0132_01 ∧ K = K := by
  k_fill
  exact ⟨rfl, rfl⟩
section
variable {p : Program} {loose : List Str} {mean : ExcName → Option Value} {mg mb : Str → Option Value} {w : World} {A : Around} {s : Shared}
theorem spec_gone (hd : A.depth < 400) (X : (K w.params).In s.heap) (T : Top p loose mean mg mb s.heap) {n : Int} {t : Tok} (h0 : 0 ≤ n) (h1 : n < 2 ^ 30) {R : Result → Shared → Prop}
    (h : ∀ h' tk (c : Nat) t, b1S c = true → (∀ b o, s.heap.get? b = some o → h'.get? b = some o) → R (.ok (.ret (.str ⟨#[c]⟩ t))) { s with heap := h', toks := tk }) :
    codeAny (model pw w) A (.call (.ref 189) ⟨[.int n t], []⟩) R s := by
  have hb : fBody (fd 22) = fBody (fd 22) := rfl
  conv at hb => rhs; whnf
  have hs : fScope (fd 22) = fScope (fd 22) := rfl
  conv at hs => rhs; whnf
  have hp : fParams (fd 22) = fParams (fd 22) := rfl
  conv at hp => rhs; whnf
  refine call_plain_ret (name := "_law_gone") (params := fParams (fd 22)) (body := fBody (fd 22)) (scope := fScope (fd 22)) (Nat.lt_trans hd (by decide)) (X 189 _ rfl) rfl T.nolimit (codeRec_of X (by rfl)) (binds := [("turn", .int n t)]) ?_ ?_ (fun h₁ F => ?_) ?_ ?_ ?_ ?_
  all_goals try rw [hb]
  all_goals try rw [hs]
  all_goals try rw [hp]
  all_goals clear hb hs hp
  · exact rfl
  · exact locs rfl
  rotate_left 1
  · decide
  k_fold
  have N0 : News s.heap s.heap.objs.size h₁ [] := News.nil
  have hm0 : 0 ≤ n.fmod 27 := by have := fdiv_fmod_facts n 27; omega
  have hm1 : n.fmod 27 < 27 := by have := fdiv_fmod_facts n 27; omega
  (repeat' (first | (k_unfold; (try dsimp only)) | walk1 | (dsimp only; walk1) | fail "no step"))
  · rename Fr _ _ _ _ => FF
    dsimp only [qk]
    have hc : n.fmod 27 = 0 ∨ n.fmod 27 = 1 ∨ n.fmod 27 = 2 ∨ n.fmod 27 = 3 ∨ n.fmod 27 = 4 ∨ n.fmod 27 = 5 ∨ n.fmod 27 = 6 ∨ n.fmod 27 = 7 ∨ n.fmod 27 = 8 ∨ n.fmod 27 = 9 ∨ n.fmod 27 = 10 := by omega
    rcases hc with e | e | e | e | e | e | e | e | e | e | e <;> (rw [e]; exact h _ _ _ _ (by decide +kernel) FF.keep)
  · rename Fr _ _ _ _ => FF
    (try dsimp only [qk])
    refine h _ _ _ _ ?_ FF.keep
    have hc : n.fmod 27 = 11 ∨ n.fmod 27 = 12 ∨ n.fmod 27 = 13 ∨ n.fmod 27 = 14 ∨ n.fmod 27 = 15 ∨ n.fmod 27 = 16 ∨ n.fmod 27 = 17 ∨ n.fmod 27 = 18 ∨ n.fmod 27 = 19 ∨ n.fmod 27 = 20 ∨ n.fmod 27 = 21 ∨ n.fmod 27 = 22 ∨ n.fmod 27 = 23 ∨ n.fmod 27 = 24 ∨ n.fmod 27 = 25 ∨ n.fmod 27 = 26 := by omega
    rcases hc with e | e | e | e | e | e | e | e | e | e | e | e | e | e | e | e <;> (rw [e]; decide +kernel)
theorem gen_toks {M : Model} {A : Around} {α : Type} {T : Sem α} {Q : α → Shared → Prop} {E : Value → Shared → Prop} {h : Heap} {g : Array GenState} {d : Drawn} {k : Nat} {os : OsState} (H : ∀ tk, wpAny M A T Q E ⟨h, g, d, tk, os⟩) : wpAny M A T Q E ⟨h, g, d, k, os⟩ := H k
theorem spec_special (hd : A.depth < 400) (hh : A.handled = none) (X : (K w.params).In s.heap) (T : Top p loose mean mg mb s.heap) {n : Int} {t : Tok} (h0 : 0 ≤ n) (h1 : n < 2 ^ 30) {R : Result → Shared → Prop}
    (h : ∀ h' tk a (c : Nat) m t1 t2, okSign c m = true → (∀ b o, s.heap.get? b = some o → h'.get? b = some o) → h'.get? a = some ⟨.type "tuple", none, .seq #[.str ⟨#[c]⟩ t1, .str m t2] 0, #[]⟩ →
      R (.ok (.ret (.ref a))) { s with heap := h', toks := tk }) :
    codeAny (model pw w) A (.call (.ref 196) ⟨[.int n t], []⟩) R s := by
  have hb : fBody (fd 23) = fBody (fd 23) := rfl
  conv at hb => rhs; whnf
  have hs : fScope (fd 23) = fScope (fd 23) := rfl
  conv at hs => rhs; whnf
  have hp : fParams (fd 23) = fParams (fd 23) := rfl
  conv at hp => rhs; whnf
  refine call_plain_ret (name := "_law_special") (params := fParams (fd 23)) (body := fBody (fd 23)) (scope := fScope (fd 23)) (Nat.lt_trans hd (by decide)) (X 196 _ rfl) rfl T.nolimit (codeRec_of X (by rfl)) (binds := [("turn", .int n t)]) ?_ ?_ (fun h₁ F => ?_) ?_ ?_ ?_ ?_
  all_goals try rw [hb]
  all_goals try rw [hs]
  all_goals try rw [hp]
  all_goals clear hb hs hp
  · exact rfl
  · exact locs rfl
  rotate_left 1
  · decide
  k_fold
  have N0 : News s.heap s.heap.objs.size h₁ [] := News.nil
  (repeat' (first | (k_unfold; (try dsimp only)) | walk1 | (dsimp only; walk1) | fail "no step"))
  rename News _ _ _ _ => NN
  have hm0 : 0 ≤ n.fmod 16 := by have := fdiv_fmod_facts n 16; omega
  have hm1 : n.fmod 16 < 16 := by have := fdiv_fmod_facts n 16; omega
  rename Fr _ _ _ _ => FF
  refine item_pick (SpecialIn s.heap s.heap.objs.size) (NN.isTup (by k_mem)) hm0 (by simpa using hm1) (by simp) ?all ?_
  case all => repeat' (first | exact List.forall_mem_nil _ | refine List.forall_mem_cons.mpr ⟨⟨_, _, _, _, _, rfl, news_one NN (by k_mem), by decide +kernel, by decide, by decide⟩, ?_⟩)
  rintro x ⟨a, z, m, t1, t2, rfl, N2, hok, hz0, hz1⟩
  clear NN
  refine unpackN_ FF N2 (N2.isTup (by k_mem)) hh rfl rfl ?_
  intro h2 F2 N3
  clear FF N2
  refine gen_toks fun tkq => ?_
  (repeat' (first | (k_unfold; (try dsimp only)) | walk1 | (dsimp only; walk1) | fail "no step"))
  rename Fr _ _ _ _ => FF
  rename News _ _ _ _ => NN
  (try dsimp only [qk])
  exact h _ _ _ _ _ _ _ hok FF.keep (NN.get (by k_mem))
end
end Mine

end WG_
section WP_
open PySem PySem.W PyProof.Rows
set_option maxRecDepth 100000
set_option Elab.async false
set_option pp.deepTerms false
set_option pp.deepTerms.threshold 8
set_option maxHeartbeats 4000000
set_option linter.unusedVariables false
namespace Mine
theorem kfillWP : PySem.Challenge.rw_ij0132_01 = PySem.Challenge.rw_ij0132_01 ∧ K = K := by
  k_fill
  exact ⟨rfl, rfl⟩
section
variable {p : Program} {loose : List Str} {mean : ExcName → Option Value} {mg mb : Str → Option Value} {w : World} {A : Around} {s : Shared}
def b3V (c : Nat) : Str := (b3Look (c : Int)).getD (Txt.lower ⟨#[c]⟩)
def prepL (l : List Nat) : List Str := (l.filter fun (c : Nat) => !b1S (c : Int)).map b3V
def prepT (x : Str) : Str := Txt.join (Str.ofString "") (prepL x.cps.toList)
def smallC (x : Str) : Prop := x.length ≤ 100 ∧ ∀ c ∈ x.cps.toList, b1S (c : Int) = false → (b3V c).length ≤ 4
theorem joinOk_empty {texts : List Str} {B : Nat} (hB : ∀ y ∈ texts, y.length ≤ B) (h : texts.length * B ≤ 16777216) : JoinOk (Str.ofString "") texts = true := by
  have := StrLaws.joinFits (sep := Str.ofString "") hB (by have : (Str.ofString "").length = 0 := by decide +kernel
                                                           rw [this]; omega)
  simpa [JoinOk] using this
theorem spec_prep (hd : A.depth < 399) (hh : A.handled = none) (X : (K w.params).In s.heap) (T : Top p loose mean mg mb s.heap) {x : Str} {t : Tok} (hx : smallC x) {R : Result → Shared → Prop}
    (h : ∀ h' tk t, (∀ b o, s.heap.get? b = some o → h'.get? b = some o) → R (.ok (.ret (.str (prepT x) t))) { s with heap := h', toks := tk }) :
    codeAny (model pw w) A (.call (.ref 208) ⟨[.str x t], []⟩) R s := by
  have hb : fBody (fd 25) = fBody (fd 25) := rfl
  conv at hb => rhs; whnf
  have hs : fScope (fd 25) = fScope (fd 25) := rfl
  conv at hs => rhs; whnf
  have hp : fParams (fd 25) = fParams (fd 25) := rfl
  conv at hp => rhs; whnf
  refine call_plain_ret (name := "_law_prepared") (params := fParams (fd 25)) (body := fBody (fd 25)) (scope := fScope (fd 25)) (Nat.lt_trans hd (by decide)) (X 208 _ rfl) rfl T.nolimit (codeRec_of X (by rfl)) (binds := [("path", .str x t)]) ?_ ?_ (fun h₁ F => ?_) ?_ ?_ ?_ ?_
  all_goals try rw [hb]
  all_goals try rw [hs]
  all_goals try rw [hp]
  all_goals clear hb hs hp
  · exact rfl
  · exact locs rfl
  rotate_left 1
  · decide
  k_fold
  have N0 : News s.heap s.heap.objs.size h₁ [] := News.nil
  (repeat' (first | (k_unfold; (try dsimp only)) | ((with_reducible show wpAny _ _ (eval (PySem.Expr.ListComp _ _ _ _) _) _ _ _); refine hold ?_) | walk1 | (dsimp only; walk1) | fail "no step"))
  rename Fr _ _ _ _ => FF
  unfold Hold
  refine comp_text (fun (c : Nat) => !b1S (c : Int)) b3V FF ?c1 ?c2 ?c3 ?c4 ?c5 ?c6 ?c7
  case c1 => rfl
  case c2 => decide
  case c3 => rfl
  case c4 => decide
  case c5 => rfl
  case c7 => intro _; rfl
  (repeat' (first | (k_unfold; (try dsimp only)) | walk1 | (dsimp only; walk1) | fail "no step"))
  rename Fr _ _ _ _ => FF
  rename News _ _ _ _ => NN
  unfold Hold
  refine ⟨x, t, rfl, hh, Nat.le_trans hx.1 (by decide), FF, ?tst, ?elt, ?don⟩
  case tst =>
    clear NN
    intro C c u s₃ m₃ E' hc F₃ hm kp
    clear FF
    (repeat' (first | (k_unfold; (try dsimp only)) | walk1 | (dsimp only; walk1) | fail "no step"))
    refine wpAny_Name (wpAny_loadName_local rfl rfl F₃.ns hm ?_)
    (repeat' (first | (k_unfold; (try dsimp only)) | walk1 | (dsimp only; walk1) | fail "no step"))
    refine wpAny_call (spec_b1 (by show A.depth + 1 < 400; omega) (X.keeps F₃.keep) (T.keeps F₃.keep) fun h2 tk2 kp2 => ?_)
    dsimp only
    (repeat' (first | (k_unfold; (try dsimp only)) | walk1 | (dsimp only; walk1) | fail "no step"))
    all_goals exact ⟨_, _, rfl, kp2⟩
  case elt =>
    clear NN
    intro C c u s₃ m₃ E' hc hz F₃ hm kp
    clear FF
    (repeat' (first | (k_unfold; (try dsimp only)) | walk1 | (dsimp only; walk1) | fail "no step"))
    refine wpAny_Name (wpAny_loadName_local rfl rfl F₃.ns hm ?_)
    (repeat' (first | (k_unfold; (try dsimp only)) | walk1 | (dsimp only; walk1) | fail "no step"))
    refine wpAny_call (spec_b3 (by show A.depth + 1 < 400; omega) (X.keeps F₃.keep) (T.keeps F₃.keep) fun h2 tk2 t2 kp2 => ?_)
    dsimp only
    (repeat' (first | (k_unfold; (try dsimp only)) | walk1 | (dsimp only; walk1) | fail "no step"))
    all_goals exact ⟨_, _, rfl, kp2⟩
  case don =>
    intro D h' tk l F' kp hD hl hm
    have hl2 := hl.isList
    clear FF NN
    (repeat' (first | (k_unfold; (try dsimp only)) | walk1 | (dsimp only; walk1) | fail "no step"))
    refine PySem.SC.join (texts := prepL x.cps.toList) hl2 hm ?_ ?_
    · refine joinOk_empty (B := 4) ?_ ?_
      · intro y hy
        unfold prepL at hy
        obtain ⟨c, hc, rfl⟩ := List.mem_map.mp hy
        have hc' := List.mem_filter.mp hc
        exact hx.2 c hc'.1 (by simpa using hc'.2)
      · have e1 : (prepL x.cps.toList).length ≤ 100 := by
          unfold prepL
          rw [List.length_map]
          exact Nat.le_trans (List.length_filter_le _ _) (by rw [Array.length_toList]; exact hx.1)
        omega
    · intro t' k
      dsimp only [qk]
      exact h _ _ _ F'.keep
end
end Mine

end WP_
section WN_
open PySem PySem.W PyProof.Rows
set_option maxRecDepth 100000
set_option Elab.async false
set_option pp.deepTerms false
set_option pp.deepTerms.threshold 8
set_option maxHeartbeats 4000000
set_option linter.unusedVariables false
namespace Mine
theorem kfillWN : PySem.Challenge.rw_ij0132_01 = PySem.Challenge.rw_ij0132_01 ∧ K = K := by
  k_fill
  exact ⟨rfl, rfl⟩
section
variable {p : Program} {loose : List Str} {mean : ExcName → Option Value} {mg mb : Str → Option Value} {w : World} {A : Around} {s : Shared}
theorem spec_signs (hd : A.depth < 399) (hh : A.handled = none) (X : (K w.params).In s.heap) (T : Top p loose mean mg mb s.heap) {l : Addr} {vs : List Value} (hl : s.heap.IsList l vs.toArray) (hv : ∀ v ∈ vs, ∃ n t, v = .int n t ∧ 0 ≤ n ∧ n < 1000000) (hn : vs.length ≤ 4) {R : Result → Shared → Prop}
    (h : ∀ h' tk D its n sg rest, (∀ b o, s.heap.get? b = some o → h'.get? b = some o) → News s.heap s.heap.objs.size h' ((D, lobj its n) :: rest) → Paired (PairIn rest) its sg → its.length ≤ 24 → R (.ok (.ret (.ref D))) { s with heap := h', toks := tk }) :
    codeAny (model pw w) A (.call (.ref 203) ⟨[.ref l], []⟩) R s := by
  have hb : fBody (fd 24) = fBody (fd 24) := rfl
  conv at hb => rhs; whnf
  have hs : fScope (fd 24) = fScope (fd 24) := rfl
  conv at hs => rhs; whnf
  have hp : fParams (fd 24) = fParams (fd 24) := rfl
  conv at hp => rhs; whnf
  refine call_plain_ret (name := "_law_signs") (params := fParams (fd 24)) (body := fBody (fd 24)) (scope := fScope (fd 24)) (Nat.lt_trans hd (by decide)) (X 203 _ rfl) rfl T.nolimit (codeRec_of X (by rfl)) (binds := [("numbers", .ref l)]) ?_ ?_ (fun h₁ F => ?_) ?_ ?_ ?_ ?_
  all_goals try rw [hb]
  all_goals try rw [hs]
  all_goals try rw [hp]
  all_goals clear hb hs hp
  · exact rfl
  · exact locs rfl
  rotate_left 1
  · decide
  k_fold
  have N0 : News s.heap s.heap.objs.size h₁ [] := News.nil
  (repeat' (first | (k_unfold; (try dsimp only)) | ((with_reducible show wpAny _ _ (exec (Stmt.For _ _ _ _ _) _) _ _ _); refine hold ?_) | ((with_reducible show wpAny _ _ (newTuple _) _ _ _); refine hold ?_) | walk1 | (dsimp only; walk1) | fail "no step"))
  rename Fr _ _ _ _ => FF
  rename News _ _ _ _ => NN
  rename_i D _ _ _
  have NN : News s.heap s.heap.objs.size _ [(D, lobj [] 0)] := NN
  unfold Hold
  refine For_invV s.heap rfl rfl ?_ (by intro _; rfl) (by first | passes_own | with_unfolding_all passes_own)
  (repeat' (first | (k_unfold; (try dsimp only)) | ((with_reducible show wpAny _ _ (exec (Stmt.For _ _ _ _ _) _) _ _ _); refine hold ?_) | ((with_reducible show wpAny _ _ (newTuple _) _ _ _); refine hold ?_) | walk1 | (dsimp only; walk1) | fail "no step"))
  refine grow_list (l := l) (vs := vs) (D := D) (its₀ := []) (n₀ := 0) (rest₀ := []) (fun i m its rest => m "signs" = some (.ref D) ∧ ∃ sg, Paired (PairIn rest) its sg ∧ its.length ≤ 6 * i) hh hl FF NN (by simp) ⟨by rfl, [], .nil, by simp⟩ ?turn ?done
  case done =>
    clear FF NN
    intro m₁ its k rest h2 tk2 hJ hr FF NN
    have FF := fr_map (m' := fun y => if y = "signs" then some (.ref D) else m₁ y) FF fun y => by
      by_cases hy : y = "signs"
      · rw [if_pos hy, hy, hJ.1]
      · rw [if_neg hy]
    (repeat' (first | (k_unfold; (try dsimp only)) | ((with_reducible show wpAny _ _ (exec (Stmt.For _ _ _ _ _) _) _ _ _); refine hold ?_) | ((with_reducible show wpAny _ _ (newTuple _) _ _ _); refine hold ?_) | walk1 | (dsimp only; walk1) | fail "no step"))
    obtain ⟨e1, sg, hp, hle⟩ := hJ
    dsimp only [qk]
    exact h h2 _ D its k sg rest FF.keep NN hp (by omega)
  case turn =>
    clear FF NN
    intro i v m₁ its k rest own h2 tk2 hvi hJ ho FF NN
    obtain ⟨n, t, rfl, hn0, hn1⟩ := hv v (List.mem_of_getElem? hvi)
    have FF := fr_map (m' := fun y => if y = "number" then some (.int n t) else if y = "signs" then some (.ref D) else m₁ y) FF fun y => by
      by_cases hy : y = "signs"
      · rw [if_pos hy]; rw [hy, if_neg (by decide), if_neg (by decide), hJ.1]
      · rw [if_neg hy]
    (repeat' (first | (k_unfold; (try dsimp only)) | ((with_reducible show wpAny _ _ (exec (Stmt.For _ _ _ _ _) _) _ _ _); refine hold ?_) | ((with_reducible show wpAny _ _ (newTuple _) _ _ _); refine hold ?_) | walk1 | (dsimp only; walk1) | fail "no step"))
    unfold Hold
    refine For_invV s.heap rfl rfl ?_ (by intro _; rfl) (by first | passes_own | with_unfolding_all passes_own)
    (repeat' (first | (k_unfold; (try dsimp only)) | ((with_reducible show wpAny _ _ (exec (Stmt.For _ _ _ _ _) _) _ _ _); refine hold ?_) | ((with_reducible show wpAny _ _ (newTuple _) _ _ _); refine hold ?_) | walk1 | (dsimp only; walk1) | fail "no step"))
    have hz : (Str.ofString (toString n)).length ≤ 6 := toString_length_le hn0 (by decide) (by omega)
    have hcs : ∀ c ∈ (Str.ofString (toString n)).cps.toList, ∃ j, j < 10 ∧ c = 48 + j := fun c hc => digit_of hn0 hc
    obtain ⟨hJ1, sg, hsg, hlen⟩ := hJ
    have hi4 : i < 4 := by
      have : i < vs.length := (List.getElem?_eq_some_iff.mp hvi).1
      omega
    refine grow_text (D := D) (its₀ := its) (n₀ := k) (rest₀ := own ++ rest) (J2 D n t i its.length own rest) hh FF NN ho ⟨by rfl, by rfl, [], sg, rfl, by simp, hsg, by omega⟩ ?turn2 ?done2
    case done2 =>
      clear FF NN
      intro m₂ its2 k2 rest2 h3 tk3 hJ2 hr FF NN
      obtain ⟨e1, e2, add, sg2, rfl, ha, hp, hle⟩ := hJ2
      (repeat' (first | (k_unfold; (try dsimp only)) | ((with_reducible show wpAny _ _ (exec (Stmt.For _ _ _ _ _) _) _ _ _); refine hold ?_) | ((with_reducible show wpAny _ _ (newTuple _) _ _ _); refine hold ?_) | walk1 | (dsimp only; walk1) | fail "no step"))
      refine grow_next ⟨h3, tk3, m₂, its2, k2, add, rfl, FF, NN, ha, e1, sg2, hp, by omega⟩
    case turn2 =>
      clear FF NN
      intro i2 c u m₂ its2 k2 rest2 own2 h3 tk3 hc hJ2 hr FF NN
      obtain ⟨e1, e2, add, sg2, rfl, ha, hp, hle⟩ := hJ2
      have NN : News s.heap s.heap.objs.size _ ((D, { cls := .type "list", data := .seq its2.toArray k2 }) :: _) := NN
      obtain ⟨j, hj, rfl⟩ := hcs c (List.mem_of_getElem? (by simpa using hc))
      have FF := fr_map (m' := fun y => if y = "figure" then some (.str ⟨#[48 + j]⟩ u) else if y = "number" then some (.int n t) else if y = "signs" then some (.ref D) else m₂ y) FF fun y => by
        by_cases hy : y = "signs"
        · rw [if_pos hy]; rw [hy, if_neg (by decide), if_neg (by decide), if_neg (by decide), e1]
        · rw [if_neg hy]
          by_cases hy : y = "number"
          · rw [if_pos hy]; rw [hy, if_neg (by decide), if_neg (by decide), e2]
          · rw [if_neg hy]
      (repeat' (first | (k_unfold; (try dsimp only)) | ((with_reducible show wpAny _ _ (exec (Stmt.For _ _ _ _ _) _) _ _ _); refine hold ?_) | ((with_reducible show wpAny _ _ (newTuple _) _ _ _); refine hold ?_) | walk1 | (dsimp only; walk1) | fail "no step"))
      have hi2 : i2 < 6 := Nat.lt_of_lt_of_le (Array.getElem?_eq_some_iff.mp hc).1 hz
      have hsz2 : its2.length ≤ 23 := by omega
      refine PySem.Calls.call_len_list (NN.isList (by k_mem)) (by simp only [List.size_toArray]; omega) ?_
      (repeat' (first | (k_unfold; (try dsimp only)) | ((with_reducible show wpAny _ _ (exec (Stmt.For _ _ _ _ _) _) _ _ _); refine hold ?_) | ((with_reducible show wpAny _ _ (newTuple _) _ _ _); refine hold ?_) | walk1 | (dsimp only; walk1) | fail "no step"))
      rename News _ _ _ _ => N3
      rename Fr _ _ _ _ => F3
      unfold Hold
      refine newTuple_N F3 N3 ?_ (by show 10 ≤ sizeLine; decide)
      intro h4 F4 N4
      clear F3 N3
      (repeat' (first | (k_unfold; (try dsimp only)) | ((with_reducible show wpAny _ _ (exec (Stmt.For _ _ _ _ _) _) _ _ _); refine hold ?_) | ((with_reducible show wpAny _ _ (newTuple _) _ _ _); refine hold ?_) | walk1 | (dsimp only; walk1) | fail "no step"))
      have hnum : 0 ≤ n + (its2.toArray.size : Int) ∧ n + (its2.toArray.size : Int) < 2 ^ 30 := by simp only [List.size_toArray]; omega
      refine PySem.W.KIN.call_text (int_of_sign hj) (by show 1 ≤ 640; decide) ?_
      (repeat' (first | (k_unfold; (try dsimp only)) | ((with_reducible show wpAny _ _ (exec (Stmt.For _ _ _ _ _) _) _ _ _); refine hold ?_) | ((with_reducible show wpAny _ _ (newTuple _) _ _ _); refine hold ?_) | walk1 | (dsimp only; walk1) | fail "no step"))
      refine item_at (N4.isTup (by k_mem)) (by omega) (by show (j : Int) < 10; omega) (by show 10 < 1000; decide) ?_
      intro x hx
      obtain ⟨tx, rfl⟩ : ∃ tx, x = .str (sigTab j) tx := by
        rcases ten hj with rfl | rfl | rfl | rfl | rfl | rfl | rfl | rfl | rfl | rfl <;> exact ⟨_, (Option.some.inj hx).symm⟩
      clear hx
      have N5 : News s.heap s.heap.objs.size _ ((D, { cls := .type "list", data := .seq its2.toArray k2 }) :: _) := fun p hp => N4 p (List.mem_cons_of_mem _ hp)
      clear N4
      (repeat' (first | (k_unfold; (try dsimp only)) | ((with_reducible show wpAny _ _ (exec (Stmt.For _ _ _ _ _) _) _ _ _); refine hold ?_) | ((with_reducible show wpAny _ _ (newTuple _) _ _ _); refine hold ?_) | walk1 | (dsimp only; walk1) | fail "no step"))
      · rename ((_ : Str) == _) = true => hb
        obtain rfl := fig_4 hj hb
        rename News _ _ _ _ => N6
        rename Fr _ _ _ _ => F6
        unfold Hold
        refine newTuple_N F6 N6 ?_ (by show 5 ≤ sizeLine; decide)
        intro h9 F9 N9
        clear F6
        (repeat' (first | (k_unfold; (try dsimp only)) | ((with_reducible show wpAny _ _ (exec (Stmt.For _ _ _ _ _) _) _ _ _); refine hold ?_) | ((with_reducible show wpAny _ _ (newTuple _) _ _ _); refine hold ?_) | walk1 | (dsimp only; walk1) | fail "no step"))
        have hm0 := (fdiv_fmod_facts (n + (its2.toArray.size : Int)) 5)
        have hq : ∀ q : Nat, q < 5 → okSign (([97, 65, 119808, 120068, 119964] : List Int).getD q 0).toNat (Str.ofString "a") = true ∧ 0 ≤ ([97, 65, 119808, 120068, 119964] : List Int).getD q 0 ∧ ([97, 65, 119808, 120068, 119964] : List Int).getD q 0 ≤ 0x10FFFF := by
          intro q hq
          have hq' : q = 0 ∨ q = 1 ∨ q = 2 ∨ q = 3 ∨ q = 4 := by omega
          rcases hq' with rfl | rfl | rfl | rfl | rfl <;> exact ⟨by decide +kernel, by decide, by decide⟩
        have hq := hq ((n + (its2.toArray.size : Int)).fmod 5).toNat (by omega)
        generalize List.getD _ _ _ = z at hq ⊢
        obtain ⟨hok, hz0, hz1⟩ := hq
        have N10 : News s.heap s.heap.objs.size _ ((D, { cls := .type "list", data := .seq its2.toArray k2 }) :: _) := fun p hp => N9 p (List.mem_cons_of_mem _ hp)
        clear N9 N6
        (repeat' (first | (k_unfold; (try dsimp only)) | ((with_reducible show wpAny _ _ (exec (Stmt.For _ _ _ _ _) _) _ _ _); refine hold ?_) | ((with_reducible show wpAny _ _ (newTuple _) _ _ _); refine hold ?_) | walk1 | (dsimp only; walk1) | fail "no step"))
        rename News _ _ _ _ => N6
        rename Fr _ _ _ _ => F6
        unfold Hold
        refine newTuple_N F6 N6 ?_ (by show 2 ≤ sizeLine; decide)
        intro h7 F7 N7
        have hT := ne_of_news N6
        clear F6 N6
        (repeat' (first | (k_unfold; (try dsimp only)) | ((with_reducible show wpAny _ _ (exec (Stmt.For _ _ _ _ _) _) _ _ _); refine hold ?_) | ((with_reducible show wpAny _ _ (newTuple _) _ _ _); refine hold ?_) | walk1 | (dsimp only; walk1) | fail "no step"))
        refine append_second F7 N7 (fun e => hT _ (by k_mem) e.symm) hr ?_ (by simp only [List.size_toArray]; exact Nat.le_trans hsz2 (by decide))
        intro h8 F8 N8
        clear F7 N7
        (repeat' (first | (k_unfold; (try dsimp only)) | ((with_reducible show wpAny _ _ (exec (Stmt.For _ _ _ _ _) _) _ _ _); refine hold ?_) | ((with_reducible show wpAny _ _ (newTuple _) _ _ _); refine hold ?_) | walk1 | (dsimp only; walk1) | fail "no step"))
        exact sign_end F8 N8 hT (by rfl) (by rfl) ha hp hle ⟨_, rfl, hok⟩

      · rename ((_ : Str) == _) = true => hb
        obtain rfl := fig_5 hj hb
        rename News _ _ _ _ => N6
        rename Fr _ _ _ _ => F6
        unfold Hold
        refine newTuple_N F6 N6 ?_ (by show 2 ≤ sizeLine; decide)
        intro h7 F7 N7
        have hT := ne_of_news N6
        clear F6 N6
        (repeat' (first | (k_unfold; (try dsimp only)) | ((with_reducible show wpAny _ _ (exec (Stmt.For _ _ _ _ _) _) _ _ _); refine hold ?_) | ((with_reducible show wpAny _ _ (newTuple _) _ _ _); refine hold ?_) | walk1 | (dsimp only; walk1) | fail "no step"))
        refine append_second F7 N7 (fun e => hT _ (by k_mem) e.symm) hr ?_ (by simp only [List.size_toArray]; exact Nat.le_trans hsz2 (by decide))
        intro h8 F8 N8
        clear F7 N7
        (repeat' (first | (k_unfold; (try dsimp only)) | ((with_reducible show wpAny _ _ (exec (Stmt.For _ _ _ _ _) _) _ _ _); refine hold ?_) | ((with_reducible show wpAny _ _ (newTuple _) _ _ _); refine hold ?_) | walk1 | (dsimp only; walk1) | fail "no step"))
        exact sign_end F8 N8 hT (by rfl) (by rfl) ha hp hle ⟨13255, rfl, ok_co⟩

      · rename News _ _ _ _ => N6
        rename Fr _ _ _ _ => F6
        refine wpAny_call (spec_special (by show A.depth + 1 < 400; omega) (by exact hh) (X.keeps F6.keep) (T.keeps F6.keep) hnum.1 hnum.2 fun h9 tk9 a c mm t1 t2 hok9 kp hg => ?_)
        have F9 := fr_keeps F6 kp
        have N9 := news_keeps N6 kp
        clear F6 N6
        dsimp only
        (repeat' (first | (k_unfold; (try dsimp only)) | ((with_reducible show wpAny _ _ (exec (Stmt.For _ _ _ _ _) _) _ _ _); refine hold ?_) | ((with_reducible show wpAny _ _ (newTuple _) _ _ _); refine hold ?_) | walk1 | (dsimp only; walk1) | fail "no step"))
        refine unpackN_ F9 N9 ⟨_, hg, rfl, _, rfl⟩ hh rfl rfl ?_
        intro h10 F10 N10
        clear F9 N9
        (repeat' (first | (k_unfold; (try dsimp only)) | ((with_reducible show wpAny _ _ (exec (Stmt.For _ _ _ _ _) _) _ _ _); refine hold ?_) | ((with_reducible show wpAny _ _ (newTuple _) _ _ _); refine hold ?_) | walk1 | (dsimp only; walk1) | fail "no step"))
        rename News _ _ _ _ => N6
        rename Fr _ _ _ _ => F6
        unfold Hold
        refine newTuple_N F6 N6 ?_ (by show 2 ≤ sizeLine; decide)
        intro h7 F7 N7
        have hT := ne_of_news N6
        clear F6 N6
        (repeat' (first | (k_unfold; (try dsimp only)) | ((with_reducible show wpAny _ _ (exec (Stmt.For _ _ _ _ _) _) _ _ _); refine hold ?_) | ((with_reducible show wpAny _ _ (newTuple _) _ _ _); refine hold ?_) | walk1 | (dsimp only; walk1) | fail "no step"))
        refine append_second F7 N7 (fun e => hT _ (by k_mem) e.symm) hr ?_ (by simp only [List.size_toArray]; exact Nat.le_trans hsz2 (by decide))
        intro h8 F8 N8
        clear F7 N7
        (repeat' (first | (k_unfold; (try dsimp only)) | ((with_reducible show wpAny _ _ (exec (Stmt.For _ _ _ _ _) _) _ _ _); refine hold ?_) | ((with_reducible show wpAny _ _ (newTuple _) _ _ _); refine hold ?_) | walk1 | (dsimp only; walk1) | fail "no step"))
        exact sign_end F8 N8 hT (by rfl) (by rfl) ha hp hle ⟨_, rfl, hok9⟩

      · rename ((_ : Str) == _) = true => hb
        obtain rfl := fig_8 hj hb
        rename News _ _ _ _ => N6
        rename Fr _ _ _ _ => F6
        unfold Hold
        refine newTuple_N F6 N6 ?_ (by show 4 ≤ sizeLine; decide)
        intro h9 F9 N9
        clear F6
        (repeat' (first | (k_unfold; (try dsimp only)) | ((with_reducible show wpAny _ _ (exec (Stmt.For _ _ _ _ _) _) _ _ _); refine hold ?_) | ((with_reducible show wpAny _ _ (newTuple _) _ _ _); refine hold ?_) | walk1 | (dsimp only; walk1) | fail "no step"))
        have hm0 := (fdiv_fmod_facts (n + (its2.toArray.size : Int)) 4)
        have hq : ∀ q : Nat, q < 4 → okSign (([98, 66, 119809, 8492] : List Int).getD q 0).toNat (Str.ofString "b") = true ∧ 0 ≤ ([98, 66, 119809, 8492] : List Int).getD q 0 ∧ ([98, 66, 119809, 8492] : List Int).getD q 0 ≤ 0x10FFFF := by
          intro q hq
          have hq' : q = 0 ∨ q = 1 ∨ q = 2 ∨ q = 3 := by omega
          rcases hq' with rfl | rfl | rfl | rfl <;> exact ⟨by decide +kernel, by decide, by decide⟩
        have hq := hq ((n + (its2.toArray.size : Int)).fmod 4).toNat (by omega)
        generalize List.getD _ _ _ = z at hq ⊢
        obtain ⟨hok, hz0, hz1⟩ := hq
        have N10 : News s.heap s.heap.objs.size _ ((D, { cls := .type "list", data := .seq its2.toArray k2 }) :: _) := fun p hp => N9 p (List.mem_cons_of_mem _ hp)
        clear N9 N6
        (repeat' (first | (k_unfold; (try dsimp only)) | ((with_reducible show wpAny _ _ (exec (Stmt.For _ _ _ _ _) _) _ _ _); refine hold ?_) | ((with_reducible show wpAny _ _ (newTuple _) _ _ _); refine hold ?_) | walk1 | (dsimp only; walk1) | fail "no step"))
        rename News _ _ _ _ => N6
        rename Fr _ _ _ _ => F6
        unfold Hold
        refine newTuple_N F6 N6 ?_ (by show 2 ≤ sizeLine; decide)
        intro h7 F7 N7
        have hT := ne_of_news N6
        clear F6 N6
        (repeat' (first | (k_unfold; (try dsimp only)) | ((with_reducible show wpAny _ _ (exec (Stmt.For _ _ _ _ _) _) _ _ _); refine hold ?_) | ((with_reducible show wpAny _ _ (newTuple _) _ _ _); refine hold ?_) | walk1 | (dsimp only; walk1) | fail "no step"))
        refine append_second F7 N7 (fun e => hT _ (by k_mem) e.symm) hr ?_ (by simp only [List.size_toArray]; exact Nat.le_trans hsz2 (by decide))
        intro h8 F8 N8
        clear F7 N7
        (repeat' (first | (k_unfold; (try dsimp only)) | ((with_reducible show wpAny _ _ (exec (Stmt.For _ _ _ _ _) _) _ _ _); refine hold ?_) | ((with_reducible show wpAny _ _ (newTuple _) _ _ _); refine hold ?_) | walk1 | (dsimp only; walk1) | fail "no step"))
        exact sign_end F8 N8 hT (by rfl) (by rfl) ha hp hle ⟨_, rfl, hok⟩

      · have hok := fig_rest hj (by assumption) (by assumption) (by assumption) (by assumption) (by assumption)
        rename News _ _ _ _ => N6
        rename Fr _ _ _ _ => F6
        unfold Hold
        refine newTuple_N F6 N6 ?_ (by show 2 ≤ sizeLine; decide)
        intro h7 F7 N7
        have hT := ne_of_news N6
        clear F6 N6
        (repeat' (first | (k_unfold; (try dsimp only)) | ((with_reducible show wpAny _ _ (exec (Stmt.For _ _ _ _ _) _) _ _ _); refine hold ?_) | ((with_reducible show wpAny _ _ (newTuple _) _ _ _); refine hold ?_) | walk1 | (dsimp only; walk1) | fail "no step"))
        refine append_second F7 N7 (fun e => hT _ (by k_mem) e.symm) hr ?_ (by simp only [List.size_toArray]; exact Nat.le_trans hsz2 (by decide))
        intro h8 F8 N8
        clear F7 N7
        (repeat' (first | (k_unfold; (try dsimp only)) | ((with_reducible show wpAny _ _ (exec (Stmt.For _ _ _ _ _) _) _ _ _); refine hold ?_) | ((with_reducible show wpAny _ _ (newTuple _) _ _ _); refine hold ?_) | walk1 | (dsimp only; walk1) | fail "no step"))
        exact sign_end F8 N8 hT (by rfl) (by rfl) ha hp hle hok

      · rename (_ : Bool) = false => hb
        rename News _ _ _ _ => N6
        rename Fr _ _ _ _ => F6
        have hm := fig_26 hj hb
        refine wpAny_call (spec_gone (by show A.depth + 1 < 400; omega) (X.keeps F6.keep) (T.keeps F6.keep) hnum.1 hnum.2 fun h9 tk9 c t9 hc9 kp => ?_)
        have F9 := fr_keeps F6 kp
        have N9 := news_keeps N6 kp
        clear F6 N6
        dsimp only
        (repeat' (first | (k_unfold; (try dsimp only)) | ((with_reducible show wpAny _ _ (exec (Stmt.For _ _ _ _ _) _) _ _ _); refine hold ?_) | ((with_reducible show wpAny _ _ (newTuple _) _ _ _); refine hold ?_) | walk1 | (dsimp only; walk1) | fail "no step"))
        rename News _ _ _ _ => N6
        rename Fr _ _ _ _ => F6
        unfold Hold
        refine newTuple_N F6 N6 ?_ (by show 2 ≤ sizeLine; decide)
        intro h7 F7 N7
        have hT := ne_of_news N6
        clear F6 N6
        (repeat' (first | (k_unfold; (try dsimp only)) | ((with_reducible show wpAny _ _ (exec (Stmt.For _ _ _ _ _) _) _ _ _); refine hold ?_) | ((with_reducible show wpAny _ _ (newTuple _) _ _ _); refine hold ?_) | walk1 | (dsimp only; walk1) | fail "no step"))
        refine append_second F7 N7 (fun e => hT _ (by k_mem) e.symm) hr ?_ (by simp only [List.size_toArray]; exact Nat.le_trans hsz2 (by decide))
        intro h8 F8 N8
        clear F7 N7
        (repeat' (first | (k_unfold; (try dsimp only)) | ((with_reducible show wpAny _ _ (exec (Stmt.For _ _ _ _ _) _) _ _ _); refine hold ?_) | ((with_reducible show wpAny _ _ (newTuple _) _ _ _); refine hold ?_) | walk1 | (dsimp only; walk1) | fail "no step"))
        exact sign_end F8 N8 hT (by rfl) (by rfl) ha hp hle ⟨c, rfl, hm ▸ ok_gone hc9⟩

end
end Mine

end WN_
section WA_
open PySem PySem.W PyProof.Rows
set_option maxRecDepth 100000
set_option Elab.async false
set_option pp.deepTerms false
set_option pp.deepTerms.threshold 8
set_option maxHeartbeats 4000000
set_option linter.unusedVariables false
namespace Mine
theorem kfillWA : PySem.Challenge.rw_ij0132_01 = PySem.Challenge.rw_ij0132_01 ∧ K = K := by
  k_fill
  exact ⟨rfl, rfl⟩
section
variable {p : Program} {loose : List Str} {mean : ExcName → Option Value} {mg mb : Str → Option Value} {w : World} {A : Around} {s : Shared}
def GFst (h : Heap) (v r : Value) : Prop := ∃ a c m t1 t2, v = .ref a ∧ h.get? a = some (pairObj c m t1 t2) ∧ r = .str ⟨#[c]⟩ t1
def GSnd (h : Heap) (v r : Value) : Prop := ∃ a c m t1 t2, v = .ref a ∧ h.get? a = some (pairObj c m t1 t2) ∧ r = .str m t2
theorem mem_pair {F : Value → Nat × Str → Prop} {v : Value} : ∀ {l : List Value} {r : List (Nat × Str)}, Paired F l r → v ∈ l → ∃ q, F v q
  | _, _, .cons a b, hm => by
    rcases List.mem_cons.mp hm with rfl | hm
    · exact ⟨_, a⟩
    · exact mem_pair b hm
theorem pair_mem {F : Value → Nat × Str → Prop} {q : Nat × Str} : ∀ {l : List Value} {r : List (Nat × Str)}, Paired F l r → q ∈ r → ∃ v, F v q
  | _, _, .cons a b, hm => by
    rcases List.mem_cons.mp hm with rfl | hm
    · exact ⟨_, a⟩
    · exact pair_mem b hm
theorem pair_fst {h : Heap} : ∀ {l : List Value} {r : List (Nat × Str)} {ys : List Value}, Paired (PairAt h) l r → Paired (GFst h) l ys → ∃ z, ys = strValues z ∧ z.map (·.1) = r.map fun q => ⟨#[q.1]⟩
  | _, _, _, .nil, .nil => ⟨[], rfl, rfl⟩
  | _, _, _, .cons ⟨a, t1, t2, e, hg, _⟩ b, .cons ⟨a', c, m, u1, u2, e', hg', er⟩ d => by
    obtain ⟨z, rfl, hz⟩ := pair_fst b d
    subst e
    injection e' with e'
    subst e' er
    rw [hg] at hg'
    unfold pairObj at hg'
    simp only [Option.some.injEq, Obj.mk.injEq, Data.seq.injEq] at hg'
    have e1 := hg'.2.2.1.1
    simp at e1
    exact ⟨(_, _) :: z, rfl, by simp [hz, e1]⟩
theorem pair_snd {h : Heap} : ∀ {l : List Value} {r : List (Nat × Str)} {ys : List Value}, Paired (PairAt h) l r → Paired (GSnd h) l ys → ∃ z, ys = strValues z ∧ z.map (·.1) = r.map fun q => q.2
  | _, _, _, .nil, .nil => ⟨[], rfl, rfl⟩
  | _, _, _, .cons ⟨a, t1, t2, e, hg, _⟩ b, .cons ⟨a', c, m, u1, u2, e', hg', er⟩ d => by
    obtain ⟨z, rfl, hz⟩ := pair_snd b d
    subst e
    injection e' with e'
    subst e' er
    rw [hg] at hg'
    unfold pairObj at hg'
    simp only [Option.some.injEq, Obj.mk.injEq, Data.seq.injEq] at hg'
    have e1 := hg'.2.2.1.1
    simp at e1
    exact ⟨(_, _) :: z, rfl, by simp [hz, e1]⟩
def hasCo (x : Str) : Bool := decide (13255 ∈ x.cps.toList)
def codesT (sg : List (Nat × Str)) : Str := ⟨(sg.map (·.1)).toArray⟩
def metasT (sg : List (Nat × Str)) : Str := Txt.join (Str.ofString "") (sg.map (·.2))
def alikeB (sg : List (Nat × Str)) : Bool :=
  if (Txt.slice (codesT sg) (some (cutSize (codesT sg))) none == Str.ofString "") = true then !hasCo (lastOf (Txt.split (Txt.slice (codesT sg) none (some (cutSize (codesT sg)))) (Str.ofString "/")))
  else !hasCo (Txt.slice (codesT sg) (some (cutSize (codesT sg))) none) &&
    !(Txt.stripChars (lastOf (Txt.split (metasT (sg.take (Txt.slice (codesT sg) none (some (cutSize (codesT sg)))).length)) (Str.ofString "/"))) (Str.ofString ".") == Str.ofString "")
theorem not_in_co (x : Str) : (!!(Builtin.Str.occurrences x (Str.ofString "㏇") 0 x.length 1).isEmpty) = !hasCo x := by
  have := StrLaws.found_one x 13255
  have e : Str.ofString "㏇" = ⟨#[13255]⟩ := by decide +kernel
  rw [e]
  unfold hasCo
  rw [← this]
theorem paired_take {F : Value → Nat × Str → Prop} : ∀ (k : Nat) {l : List Value} {r : List (Nat × Str)}, Paired F l r → Paired F (l.take k) (r.take k)
  | 0, _, _, _ => .nil
  | _ + 1, _, _, .nil => .nil
  | k + 1, _, _, .cons a b => .cons a (paired_take k b)
theorem spec_alike (hd : A.depth < 399) (hh : A.handled = none) (X : (K w.params).In s.heap) (T : Top p loose mean mg mb s.heap) {D : Addr} {its : List Value} {n : Nat} {sg : List (Nat × Str)} (hD : s.heap.get? D = some (lobj its n)) (hP : Paired (PairAt s.heap) its sg) (hl : its.length ≤ 24) {R : Result → Shared → Prop}
    (h : ∀ h' tk, (∀ b o, s.heap.get? b = some o → h'.get? b = some o) → R (.ok (.ret (.bool (alikeB sg)))) { s with heap := h', toks := tk }) :
    codeAny (model pw w) A (.call (.ref 220) ⟨[.ref D], []⟩) R s := by
  have hb : fBody (fd 27) = fBody (fd 27) := rfl
  conv at hb => rhs; whnf
  have hs : fScope (fd 27) = fScope (fd 27) := rfl
  conv at hs => rhs; whnf
  have hp : fParams (fd 27) = fParams (fd 27) := rfl
  conv at hp => rhs; whnf
  refine call_plain_ret (name := "_law_alike") (params := fParams (fd 27)) (body := fBody (fd 27)) (scope := fScope (fd 27)) (Nat.lt_trans hd (by decide)) (X 220 _ rfl) rfl T.nolimit (codeRec_of X (by rfl)) (binds := [("signs", .ref D)]) ?_ ?_ (fun h₁ F => ?_) ?_ ?_ ?_ ?_
  all_goals try rw [hb]
  all_goals try rw [hs]
  all_goals try rw [hp]
  all_goals clear hb hs hp
  · exact rfl
  · exact locs rfl
  rotate_left 1
  · decide
  k_fold
  have N0 : News s.heap s.heap.objs.size h₁ [] := News.nil
  have hDl : s.heap.IsList D its.toArray := ⟨_, hD, rfl, _, rfl⟩
  (repeat' (first | (k_unfold; (try dsimp only)) | ((with_reducible show wpAny _ _ (eval (PySem.Expr.ListComp _ _ _ _) _) _ _ _); refine hold ?_) | walk1 | (dsimp only; walk1) | fail "no step"))
  rename Fr _ _ _ _ => FF
  unfold Hold
  refine comp_list (GFst s.heap) FF ?c1 ?c2 ?c3 ?c4 ?c5 ?c6 ?c7
  case c1 => rfl
  case c2 => decide
  case c3 => rfl
  case c4 => decide
  case c5 => rfl
  case c7 => intro _; rfl
  (repeat' (first | (k_unfold; (try dsimp only)) | ((with_reducible show wpAny _ _ (eval (PySem.Expr.ListComp _ _ _ _) _) _ _ _); refine hold ?_) | walk1 | (dsimp only; walk1) | fail "no step"))
  unfold Hold
  rename Fr _ _ _ _ => FF
  refine ⟨D, its, rfl, hh, Nat.le_trans hl (by decide), FF, hDl.at fun o e => FF.keep _ _ e, ?elt, ?don⟩
  case elt =>
    intro C v s₃ m₃ E' hv F₃ hm kp
    (repeat' (first | (k_unfold; (try dsimp only)) | ((with_reducible show wpAny _ _ (eval (PySem.Expr.ListComp _ _ _ _) _) _ _ _); refine hold ?_) | walk1 | (dsimp only; walk1) | fail "no step"))
    refine wpAny_Name (wpAny_loadName_local rfl rfl F₃.ns hm ?_)
    (repeat' (first | (k_unfold; (try dsimp only)) | ((with_reducible show wpAny _ _ (eval (PySem.Expr.ListComp _ _ _ _) _) _ _ _); refine hold ?_) | walk1 | (dsimp only; walk1) | fail "no step"))
    obtain ⟨q, a, t1, t2, rfl, hg, _⟩ := mem_pair hP hv
    refine item_at (l := [.str ⟨#[q.1]⟩ t1, .str q.2 t2]) ⟨_, F₃.keep _ _ hg, rfl, _, rfl⟩ (by decide) (by show (0 : Int) < 2; decide) (by show 2 < 1000; decide) ?_
    intro x hx
    obtain rfl := Option.some.inj hx
    exact ⟨⟨a, _, _, t1, t2, rfl, hg, rfl⟩, _, _, rfl, fun _ _ e => e⟩
  case don =>
    intro D1 h1 tk1 ys1 F1 kp1 hD1 hl1 hG1
    (repeat' (first | (k_unfold; (try dsimp only)) | ((with_reducible show wpAny _ _ (eval (PySem.Expr.ListComp _ _ _ _) _) _ _ _); refine hold ?_) | walk1 | (dsimp only; walk1) | fail "no step"))
    have hl1' := hl1.isList
    have hlen := hP.length
    obtain ⟨z, hz1, hz2⟩ := pair_fst hP hG1
    have hys : ys1 = (strValues z).toArray := by rw [← hz1]
    rw [hys] at hl1'
    refine PySem.SC.join hl1' hz2 (joinOk_empty (B := 1) (by intro y hy; obtain ⟨q, _, rfl⟩ := List.mem_map.mp hy; exact Nat.le_refl _) (by rw [List.length_map]; omega)) ?_
    intro t' k
    rw [show (sg.map fun q => (⟨#[q.1]⟩ : Str)) = (sg.map (·.1)).map (fun c => ⟨#[c]⟩) by rw [List.map_map]; rfl, join_signs]
    have hSl : (⟨(sg.map (·.1)).toArray⟩ : Str).length ≤ 24 := by
      show (sg.map (·.1)).toArray.size ≤ 24
      simp; omega
    generalize hS : (⟨(sg.map (·.1)).toArray⟩ : Str) = S at hSl ⊢
    clear FF hl1 hl1' hys hz1 hz2 hG1
    (repeat' (first | (k_unfold; (try dsimp only)) | ((with_reducible show wpAny _ _ (eval (PySem.Expr.ListComp _ _ _ _) _) _ _ _); refine hold ?_) | walk1 | (dsimp only; walk1) | fail "no step"))
    refine wpAny_call (spec_cut (by show A.depth + 1 < 400; omega) (X.keeps F1.keep) (T.keeps F1.keep) (by omega) fun h2 tk2 a z1 z2 t1 t2 ez1 ez2 kp2 hg => ?_)
    have F2 := fr_keeps F1 kp2
    have N2 : News s.heap s.heap.objs.size h2 [] := News.nil
    clear F1
    dsimp only
    have hHl := Nat.le_trans (Txt.slice_le S none (some z1)) hSl
    have hEl := Nat.le_trans (Txt.slice_le S (some z2) none) hSl
    generalize hH : Txt.slice S none (some z1) = H at hHl hg ⊢
    generalize hE : Txt.slice S (some z2) none = En at hEl hg ⊢
    refine unpackN_ F2 N2 ⟨_, hg, rfl, _, rfl⟩ hh rfl rfl ?_
    intro h3 F3 N3
    clear F2 N2
    (repeat' (first | (k_unfold; (try dsimp only)) | ((with_reducible show wpAny _ _ (eval (PySem.Expr.ListComp _ _ _ _) _) _ _ _); refine hold ?_) | walk1 | (dsimp only; walk1) | fail "no step"))
    rotate_left 1
    · unfold Hold
      rename Fr _ _ _ _ => FF
      refine comp_list (GSnd s.heap) FF ?d1 ?d2 ?d3 ?d4 ?d5 ?d6 ?d7
      case d1 => rfl
      case d2 => decide
      case d3 => rfl
      case d4 => decide
      case d5 => rfl
      case d7 => intro _; rfl
      (repeat' (first | (k_unfold; (try dsimp only)) | ((with_reducible show wpAny _ _ (eval (PySem.Expr.ListComp _ _ _ _) _) _ _ _); refine hold ?_) | walk1 | (dsimp only; walk1) | fail "no step"))
      rename Fr _ _ _ _ => FF
      rename News _ _ _ _ => NN
      rename (En == _) = false => hEn
      have hsl := slicePick_upto' its.toArray H.length
      simp only [List.toList_toArray] at hsl
      unfold Hold
      refine ⟨_, its.take H.length, rfl, hh, by rw [List.length_take]; omega, FF, hsl ▸ NN.isList (by k_mem), ?elt2, ?don2⟩
      case elt2 =>
        intro C v s₃ m₃ E' hv F₃ hm kp
        (repeat' (first | (k_unfold; (try dsimp only)) | ((with_reducible show wpAny _ _ (eval (PySem.Expr.ListComp _ _ _ _) _) _ _ _); refine hold ?_) | walk1 | (dsimp only; walk1) | fail "no step"))
        refine wpAny_Name (wpAny_loadName_local rfl rfl F₃.ns hm ?_)
        (repeat' (first | (k_unfold; (try dsimp only)) | ((with_reducible show wpAny _ _ (eval (PySem.Expr.ListComp _ _ _ _) _) _ _ _); refine hold ?_) | walk1 | (dsimp only; walk1) | fail "no step"))
        obtain ⟨q, a, t1, t2, rfl, hg, _⟩ := mem_pair hP (List.mem_of_mem_take hv)
        refine item_at (l := [.str ⟨#[q.1]⟩ t1, .str q.2 t2]) ⟨_, F₃.keep _ _ hg, rfl, _, rfl⟩ (by decide) (by show (1 : Int) < 2; decide) (by show 2 < 1000; decide) ?_
        intro x hx
        obtain rfl := Option.some.inj hx
        exact ⟨⟨a, _, _, t1, t2, rfl, hg, rfl⟩, _, _, rfl, fun _ _ e => e⟩
      case don2 =>
        intro D2 h4 tk4 ys2 F4 kp4 hD2 hl2 hG2
        clear FF NN hsl
        have N4 : News s.heap s.heap.objs.size h4 [] := News.nil
        (repeat' (first | (k_unfold; (try dsimp only)) | ((with_reducible show wpAny _ _ (eval (PySem.Expr.ListComp _ _ _ _) _) _ _ _); refine hold ?_) | walk1 | (dsimp only; walk1) | fail "no step"))
        have hl2' := hl2.isList
        obtain ⟨z, hz1, hz2⟩ := pair_snd (paired_take H.length hP) hG2
        have hys : ys2 = (strValues z).toArray := by rw [← hz1]
        rw [hys] at hl2'
        have hsm : ∀ y ∈ (sg.take H.length).map (fun q => q.2), y.length ≤ 4 := by
          intro y hy
          obtain ⟨q, hq, rfl⟩ := List.mem_map.mp hy
          obtain ⟨v, hv⟩ := pair_mem hP (List.mem_of_mem_take hq)
          obtain ⟨_, _, _, _, _, ho⟩ := hv
          unfold okSign at ho
          simp only [Bool.and_eq_true, decide_eq_true_eq] at ho
          exact ho.2
        have hll : ((sg.take H.length).map (fun q => q.2)).length ≤ 24 := by rw [List.length_map, List.length_take]; omega
        refine PySem.SC.join hl2' hz2 (joinOk_empty hsm (by omega)) ?_
        intro t' k
        have hml := StrLaws.join_length_le (Str.ofString "") ((sg.take H.length).map fun q => q.2)
        have hml2 : (Txt.join (Str.ofString "") ((sg.take H.length).map fun q => q.2)).length ≤ 1000 := by
          have h1 := StrLaws.sumLen_le _ hsm
          have h0 : (Str.ofString "").length = 0 := by decide +kernel
          unfold Txt.join
          rw [StrLaws.glued_eq_join]
          rw [h0] at hml
          omega
        generalize hM : Txt.join (Str.ofString "") ((sg.take H.length).map fun q => q.2) = M at hml2 ⊢
        clear hl2 hl2' hys hz1 hz2 hG2 hml hll hsm
        (repeat' (first | (k_unfold; (try dsimp only)) | ((with_reducible show wpAny _ _ (eval (PySem.Expr.ListComp _ _ _ _) _) _ _ _); refine hold ?_) | walk1 | (dsimp only; walk1) | fail "no step"))
        · rename ∀ a ∈ List.map _ _, _ => hla
          rename List.map _ _ = Txt.split _ _ => hsp
          rename (List.map _ _)[_]? = some _ => hy
          have hyl := Nat.le_trans (hla _ (List.mem_of_getElem? hy)) hml2
          have hy2 := last_at hsp hy
          clear hla
          (repeat' (first | (k_unfold; (try dsimp only)) | ((with_reducible show wpAny _ _ (eval (PySem.Expr.ListComp _ _ _ _) _) _ _ _); refine hold ?_) | walk1 | (dsimp only; walk1) | fail "no step"))
          rename List.isEmpty _ = true => hb
          have hb' := not_in_co En
          rw [hb] at hb'
          rename Fr _ _ _ _ => FF
          (try dsimp only [qk])
          rw [hy2]
          have e : alikeB sg = (Txt.stripChars (lastOf (Txt.split M (Str.ofString "/"))) (Str.ofString ".") != Str.ofString "") := by
            unfold alikeB codesT
            rw [hS, ← ez1, hH, ez1, ← ez2, hE, if_neg (by rw [hEn]; exact Bool.false_ne_true)]
            unfold metasT
            rw [hM, ← hb']
            rfl
          rw [← e]
          exact h _ _ FF.keep
        · rename List.isEmpty _ = false => hb
          have hb' := not_in_co En
          rename Fr _ _ _ _ => FF
          show R (Except.ok (Flow.ret (Value.bool _))) _
          have e : alikeB sg = (!!(Builtin.Str.occurrences En (Str.ofString "㏇") 0 En.length 1).isEmpty) := by
            unfold alikeB codesT
            rw [hS, ← ez1, hH, ez1, ← ez2, hE, if_neg (by rw [hEn]; exact Bool.false_ne_true)]
            unfold metasT
            rw [hM, hb', ← hb', hb]
            rfl
          rw [← e]
          exact h _ _ FF.keep
    rename List.map _ _ = Txt.split _ _ => hsp
    rename (En == _) = true => hEn
    rename_i hy
    have hy2 := last_at hsp hy
    rename Fr _ _ _ _ => FF
    rw [not_in_co, hy2]
    have e : alikeB sg = !hasCo (lastOf (Txt.split H (Str.ofString "/"))) := by
      unfold alikeB codesT
      rw [hS, ← ez1, hH, ez1, ← ez2, hE, if_pos hEn]
    rw [← e]
    exact h _ _ FF.keep
end
end Mine

end WA_
section WL_
open PySem PySem.W PyProof.Rows
set_option maxRecDepth 100000
set_option Elab.async false
set_option pp.deepTerms false
set_option pp.deepTerms.threshold 8
set_option maxHeartbeats 4000000
set_option linter.unusedVariables false
namespace Mine
theorem kfillWL : PySem.Challenge.rw_ij0132_01 = PySem.Challenge.rw_ij0132_01 ∧ K = K := by
  k_fill
  exact ⟨rfl, rfl⟩
section
variable {p : Program} {loose : List Str} {mean : ExcName → Option Value} {mg mb : Str → Option Value} {w : World} {A : Around} {s : Shared}
def GNum (v r : Value) : Prop := ∃ n t, r = .int n t ∧ 0 ≤ n ∧ n < 1000000
theorem paired_all {G : Value → Prop} : ∀ {l r : List Value}, Paired (fun _ y => G y) l r → ∀ y ∈ r, G y
  | _, _, .nil, _, h => by cases h
  | _, _, .cons a b, y, h => by
    rcases List.mem_cons.mp h with rfl | h
    · exact a
    · exact paired_all b y h
theorem ints_mem {v : Value} : ∀ {vs : List Value} {ns : List Int}, IntsAre vs ns → v ∈ vs → ∃ n t, v = .int n t
  | _, _, .cons n t r, h => by
    rcases List.mem_cons.mp h with rfl | h
    · exact ⟨_, _, rfl⟩
    · exact ints_mem r h
theorem news_base {h₀ h1 h2 : Heap} {L L' : Addr} {m : Str → Option Value} {news : List (Addr × Obj)} (F : Fr h₀ L h1 m) (N : News h1 L' h2 news) : News h₀ L h2 news := fun p hp => by
  obtain ⟨e1, _, e3⟩ := N p hp
  refine ⟨e1, fun e => ?_, ?_⟩
  · obtain ⟨⟨o', es, ep, e2, _⟩, _, _⟩ := F
    rw [← e, e3] at e2
    cases e2
  · cases q : h₀.get? p.1 with
    | none => rfl
    | some o => rw [F.keep _ _ q] at e3; cases e3
theorem seq_ne {h₀ h : Heap} {L b : Addr} {m : Str → Option Value} {o : Obj} {xs : Array Value} {k : Nat} (F : Fr h₀ L h m) (e : h.get? b = some o) (ed : o.data = .seq xs k) : b ≠ L := by
  rintro rfl
  obtain ⟨⟨o', es, ep, e2, d2, _⟩, _, _⟩ := F
  rw [e2] at e
  cases e
  rw [d2] at ed
  cases ed
def LawRest (w : World) (A : Around) (s : Shared) (a : Addr) (env : Env) (stmts : List Stmt) (Q : Flow → Shared → Prop) (E : Value → Shared → Prop) : Prop :=
  ∀ h tk D its n sg prs, Fr s.heap env.locals h (fun y => if y = "signs" then some (.ref D) else if y = "script" then some (.ref a) else none) → News s.heap env.locals h ((D, lobj its n) :: prs) → Paired (PairIn prs) its sg → its.length ≤ 24 → wpAny (model pw w) A (execs stmts env) Q E { s with heap := h, toks := tk }
theorem law_body {a : Addr} {vs : List Value} {ns : List Int} {L : Addr} {fa : Addr} {cd : Value} {h₁ : Heap} {tk₁ : Nat} {Q : Flow → Shared → Prop} {E : Value → Shared → Prop} (hd : A.depth < 390) (hh : A.handled = none) (X : (K w.params).In s.heap) (T : Top p loose mean mg mb s.heap)
    (hl : s.heap.IsList a vs.toArray) (hi : IntsAre vs ns) (hn : vs.length ≤ 63) (F : Fr s.heap L h₁ (fun x => List.lookup x [(Str.ofString "script", Value.ref a)].reverse))
    (hrest : LawRest w (A.deeper (envOf (Str.ofString "law") (fScope (fd 28)) L fa cd)) s a (envOf (Str.ofString "law") (fScope (fd 28)) L fa cd) ((fBody (fd 28)).drop 1) Q E) :
    wpAny (model pw w) (A.deeper (envOf (Str.ofString "law") (fScope (fd 28)) L fa cd)) (execs (fBody (fd 28)) (envOf (Str.ofString "law") (fScope (fd 28)) L fa cd)) Q E { s with heap := h₁, toks := tk₁ } := by
  have hb : fBody (fd 28) = fBody (fd 28) := rfl
  conv at hb => rhs; whnf
  have hs : fScope (fd 28) = fScope (fd 28) := rfl
  conv at hs => rhs; whnf
  rw [hb, hs] at hrest ⊢
  dsimp only [List.drop] at hrest
  clear hb hs
  have N0 : News s.heap L h₁ [] := News.nil
  (repeat' (first | (k_unfold; (try dsimp only)) | ((with_reducible show wpAny _ _ (eval (PySem.Expr.ListComp _ _ _ _) _) _ _ _); refine hold ?_) | ((with_reducible show wpAny _ _ (execs (Stmt.Assign _ (PySem.Expr.ListComp _ _ _ _) _ :: _) _) _ _ _); refine hold ?_) | walk1 | (dsimp only; walk1) | fail "no step"))
  unfold Hold
  rename Fr _ _ _ _ => FF
  refine comp_list (fun _ r => GNum r r) FF ?d1 ?d2 ?d3 ?d4 ?d5 ?d6 ?d7
  case d1 => rfl
  case d2 => decide
  case d3 => rfl
  case d4 => decide
  case d5 => rfl
  case d7 => intro _; rfl
  (repeat' (first | (k_unfold; (try dsimp only)) | ((with_reducible show wpAny _ _ (eval (PySem.Expr.ListComp _ _ _ _) _) _ _ _); refine hold ?_) | ((with_reducible show wpAny _ _ (execs (Stmt.Assign _ (PySem.Expr.ListComp _ _ _ _) _ :: _) _) _ _ _); refine hold ?_) | walk1 | (dsimp only; walk1) | fail "no step"))
  rename IntsAre _ (List.take 4 ns) => hI
  rename News _ _ _ _ => NN
  rename Fr _ _ _ _ => FF
  have hI4 := hI.length
  rw [List.length_take] at hI4
  unfold Hold
  refine ⟨_, _, rfl, hh, ?len, FF, NN.isList (by k_mem), ?elt, ?don⟩
  case len => omega
  case elt =>
    intro C v s₃ m₃ E' hv F₃ hm kp
    obtain ⟨n, t, rfl⟩ := ints_mem hI hv
    clear NN FF
    (repeat' (first | (k_unfold; (try dsimp only)) | ((with_reducible show wpAny _ _ (eval (PySem.Expr.ListComp _ _ _ _) _) _ _ _); refine hold ?_) | ((with_reducible show wpAny _ _ (execs (Stmt.Assign _ (PySem.Expr.ListComp _ _ _ _) _ :: _) _) _ _ _); refine hold ?_) | walk1 | (dsimp only; walk1) | fail "no step"))
    refine wpAny_Name (wpAny_loadName_local rfl rfl F₃.ns hm ?_)
    (repeat' (first | (k_unfold; (try dsimp only)) | ((with_reducible show wpAny _ _ (eval (PySem.Expr.ListComp _ _ _ _) _) _ _ _); refine hold ?_) | ((with_reducible show wpAny _ _ (execs (Stmt.Assign _ (PySem.Expr.ListComp _ _ _ _) _ :: _) _) _ _ _); refine hold ?_) | walk1 | (dsimp only; walk1) | fail "no step"))
    · have e : (10 : Int) ^ Int.toNat 6 = 1000000 := by decide
      have hf := fdiv_fmod_facts n 1000000
      exact ⟨_, _, rfl, by rw [e]; omega, by rw [e]; omega⟩
    · exact ⟨_, _, rfl, fun _ _ e => e⟩
  case don =>
    intro D1 h1 tk1 ys1 F1 kp1 hD1 hl1 hG1
    obtain ⟨k1, N1⟩ := news_new FF hD1 hl1
    clear NN FF
    (repeat' (first | (k_unfold; (try dsimp only)) | ((with_reducible show wpAny _ _ (eval (PySem.Expr.ListComp _ _ _ _) _) _ _ _); refine hold ?_) | ((with_reducible show wpAny _ _ (execs (Stmt.Assign _ (PySem.Expr.ListComp _ _ _ _) _ :: _) _) _ _ _); refine hold ?_) | walk1 | (dsimp only; walk1) | fail "no step"))
    have hlen := hG1.length
    have hsz : ys1.size ≤ 4 := by
      have : ys1.toList.length = ys1.size := by simp
      omega
    have hgn := paired_all hG1
    refine wpAny_truthy_list (N1.isList (by k_mem)) (by omega) ?_
    cases hem : ys1.isEmpty with
    | false =>
      dsimp only [Bool.not_false]
      (repeat' (first | (k_unfold; (try dsimp only)) | ((with_reducible show wpAny _ _ (eval (PySem.Expr.ListComp _ _ _ _) _) _ _ _); refine hold ?_) | ((with_reducible show wpAny _ _ (execs (Stmt.Assign _ (PySem.Expr.ListComp _ _ _ _) _ :: _) _) _ _ _); refine hold ?_) | walk1 | (dsimp only; walk1) | fail "no step"))
      refine wpAny_call (spec_signs (by show A.depth + 1 < 399; omega) (by exact hh) (X.keeps F1.keep) (T.keeps F1.keep) (vs := ys1.toList) (by simpa using N1.isList (by k_mem)) (fun v hv => hgn v hv) (by simpa using hsz) fun h2 tk2 D2 its n2 sg prs kp2 hg2 hp2 hl2 => ?_)
      have F2 := fr_keeps F1 kp2
      have N2 := news_base F1 hg2
      clear F1 N1
      dsimp only
      (repeat' (first | (k_unfold; (try dsimp only)) | ((with_reducible show wpAny _ _ (eval (PySem.Expr.ListComp _ _ _ _) _) _ _ _); refine hold ?_) | ((with_reducible show wpAny _ _ (execs (Stmt.Assign _ (PySem.Expr.ListComp _ _ _ _) _ :: _) _) _ _ _); refine hold ?_) | walk1 | (dsimp only; walk1) | fail "no step"))
      rename News _ _ _ _ => N4
      rename Fr _ _ _ _ => F4
      unfold Hold
      refine hrest _ _ D2 its n2 sg prs (fr_map F4 fun y => ?_) N4 hp2 hl2
      by_cases hy : y = "signs"
      · rw [if_pos hy, if_pos hy]
      · rw [if_neg hy, if_neg hy]
        by_cases hz : y = "script"
        · rw [if_pos hz, hz]; rfl
        · rw [if_neg hz]
          have hz' : (y == Str.ofString "script") = false := by simpa using hz
          simp [List.lookup, hz']
    | true =>
      dsimp only [Bool.not_true]
      (repeat' (first | (k_unfold; (try dsimp only)) | ((with_reducible show wpAny _ _ (eval (PySem.Expr.ListComp _ _ _ _) _) _ _ _); refine hold ?_) | ((with_reducible show wpAny _ _ (execs (Stmt.Assign _ (PySem.Expr.ListComp _ _ _ _) _ :: _) _) _ _ _); refine hold ?_) | walk1 | (dsimp only; walk1) | fail "no step"))
      rename News _ _ _ _ => N3
      rename Fr _ _ _ _ => F3
      refine wpAny_call (spec_signs (by show A.depth + 1 < 399; omega) (by exact hh) (X.keeps F3.keep) (T.keeps F3.keep) (vs := [_]) (N3.isList (by k_mem)) (fun v hv => ⟨_, _, List.mem_singleton.mp hv, by decide, by decide⟩) (by show 1 ≤ 4; decide) fun h2 tk2 D2 its n2 sg prs kp2 hg2 hp2 hl2 => ?_)
      have F2 := fr_keeps F3 kp2
      have N2 := news_base F3 hg2
      clear N1 F3 N3
      dsimp only
      (repeat' (first | (k_unfold; (try dsimp only)) | ((with_reducible show wpAny _ _ (eval (PySem.Expr.ListComp _ _ _ _) _) _ _ _); refine hold ?_) | ((with_reducible show wpAny _ _ (execs (Stmt.Assign _ (PySem.Expr.ListComp _ _ _ _) _ :: _) _) _ _ _); refine hold ?_) | walk1 | (dsimp only; walk1) | fail "no step"))
      rename News _ _ _ _ => N4
      rename Fr _ _ _ _ => F4
      unfold Hold
      refine hrest _ _ D2 its n2 sg prs (fr_map F4 fun y => ?_) N4 hp2 hl2
      by_cases hy : y = "signs"
      · rw [if_pos hy, if_pos hy]
      · rw [if_neg hy, if_neg hy]
        by_cases hz : y = "script"
        · rw [if_pos hz, hz]; rfl
        · rw [if_neg hz]
          have hz' : (y == Str.ofString "script") = false := by simpa using hz
          simp [List.lookup, hz']
end
end Mine

end WL_
section PM1_
open PySem PySem.W PyProof.Rows
set_option Elab.async false
set_option linter.unusedVariables false
set_option maxRecDepth 100000
namespace Mine
structure Ok (c : Nat) (m : Str) : Prop where
  prep : (b1S (c : Int) = true ∧ m = Str.empty) ∨ (b1S (c : Int) = false ∧ m = b3V c)
  dots : (c = 46 ∧ m = ⟨#[46]⟩) ∨ (c = 47 ∧ m = ⟨#[47]⟩) ∨ (c = 13255 ∧ m = ⟨#[99, 111, 46]⟩) ∨ (c ≠ 46 ∧ c ≠ 47 ∧ c ≠ 13255 ∧ 46 ∉ m.cps.toList ∧ 47 ∉ m.cps.toList)
  sok : PyData.strOk m = true
  len : m.length ≤ 4
theorem ok_of {c : Nat} {m : Str} (h : okSign c m = true) : Ok c m := by
  unfold okSign at h
  rw [Bool.and_eq_true, Bool.and_eq_true, Bool.and_eq_true] at h
  obtain ⟨⟨⟨h1, h2⟩, h3⟩, h4⟩ := h
  refine ⟨?_, ?_, h3, of_decide_eq_true h4⟩
  · cases hb : b1S (c : Int) with
    | true => rw [hb, if_pos rfl] at h1; exact .inl ⟨rfl, eq_of_beq h1⟩
    | false => rw [hb, if_neg Bool.false_ne_true] at h1; exact .inr ⟨rfl, (eq_of_beq h1).symm⟩
  · by_cases e1 : c = 46
    · rw [if_pos (by simp [e1])] at h2; exact .inl ⟨e1, eq_of_beq h2⟩
    · rw [if_neg (by simp [e1])] at h2
      by_cases e2 : c = 47
      · rw [if_pos (by simp [e2])] at h2; exact .inr (.inl ⟨e2, eq_of_beq h2⟩)
      · rw [if_neg (by simp [e2])] at h2
        by_cases e3 : c = 13255
        · rw [if_pos (by simp [e3])] at h2; exact .inr (.inr (.inl ⟨e3, eq_of_beq h2⟩))
        · rw [if_neg (by simp [e3])] at h2
          simp only [Bool.and_eq_true, Bool.not_eq_true'] at h2
          refine .inr (.inr (.inr ⟨e1, e2, e3, ?_, ?_⟩))
          · have := h2.1; simpa using this
          · have := h2.2; simpa using this
theorem prep_ok0 {c : Nat} {m : Str} (h : Ok c m) : prepT ⟨#[c]⟩ = m := by
  unfold prepT prepL
  have e : (⟨#[c]⟩ : Str).cps.toList = [c] := rfl
  rw [e]
  rcases h.prep with ⟨hb, rfl⟩ | ⟨hb, rfl⟩
  · rw [List.filter_cons_of_neg (by simp [hb])]
    rfl
  · rw [List.filter_cons_of_pos (by simp [hb])]
    show Txt.join (Str.ofString "") [b3V c] = _
    apply str_ext
    rw [join_flat]
    simp
theorem small_c0 {c : Nat} {m : Str} (h : Ok c m) : smallC ⟨#[c]⟩ := by
  refine ⟨by show 1 ≤ 100; decide, fun d hd hb => ?_⟩
  have e : d = c := by simpa using hd
  subst e
  rcases h.prep with ⟨hb', _⟩ | ⟨_, hm⟩
  · rw [hb'] at hb; cases hb
  · rw [← hm]; exact h.len
theorem slice_mem {x : Str} {l u : Option Int} {c : Nat} (h : c ∈ (Txt.slice x l u).cps.toList) : c ∈ x.cps.toList := by
  unfold Txt.slice at h
  split at h
  · exact h
  · simp only [List.mem_filterMap] at h
    obtain ⟨i, _, e⟩ := h
    have := Array.getElem?_eq_some_iff.mp e
    obtain ⟨h5, h6⟩ := this
    rw [← h6]
    simp
theorem small_slice0 {sg : List (Nat × Str)} (h : ∀ q ∈ sg, Ok q.1 q.2) (hl : sg.length ≤ 24) (l u : Option Int) : smallC (Txt.slice (codesT sg) l u) := by
  refine ⟨?_, fun d hd hb => ?_⟩
  · have := Txt.slice_le (codesT sg) l u
    have e : (codesT sg).length = sg.length := by show (sg.map (·.1)).toArray.size = _; simp
    omega
  · have hm : d ∈ sg.map (·.1) := by have := slice_mem hd; simpa [codesT] using this
    obtain ⟨q, hq, rfl⟩ := List.mem_map.mp hm
    rcases (h q hq).prep with ⟨hb', _⟩ | ⟨_, hm⟩
    · rw [hb'] at hb; cases hb
    · rw [← hm]; exact (h q hq).len
theorem metas_flat (sg : List (Nat × Str)) : (metasT sg).cps.toList = sg.flatMap fun q => q.2.cps.toList := by
  unfold metasT
  rw [join_flat, List.flatMap_map]
theorem strOk_slice0 {sg : List (Nat × Str)} (h : ∀ q ∈ sg, Ok q.1 q.2) (l u : Option Int) : PyData.strOk (Txt.slice (metasT sg) l u) = true := by
  unfold PyData.strOk
  rw [Array.all_eq_true']
  intro c hc
  have hm := slice_mem (x := metasT sg) (l := l) (u := u) (c := c) (by simpa using hc)
  rw [metas_flat] at hm
  obtain ⟨q, hq, hcq⟩ := List.mem_flatMap.mp hm
  have := (h q hq).sok
  unfold PyData.strOk at this
  rw [Array.all_eq_true'] at this
  exact this c (by simpa using hcq)
theorem flat_len {sg : List (Nat × Str)} (h : ∀ q ∈ sg, Ok q.1 q.2) : (sg.flatMap fun q => q.2.cps.toList).length ≤ 4 * sg.length := by
  induction sg with
  | nil => simp
  | cons q r ih =>
    have := ih fun p hp => h p (List.mem_cons_of_mem _ hp)
    have h1 := (h q List.mem_cons_self).len
    have e : q.2.cps.toList.length = q.2.length := by simp [Str.length]
    rw [List.flatMap_cons, List.length_append, List.length_cons]
    omega
theorem metas_len0 {sg : List (Nat × Str)} (h : ∀ q ∈ sg, Ok q.1 q.2) (hl : sg.length ≤ 24) : (metasT sg).length ≤ 96 := by
  have e : (metasT sg).length = (metasT sg).cps.toList.length := by simp [Str.length]
  rw [e, metas_flat]
  have := flat_len h
  omega
end Mine

end PM1_
section PM2_
open PySem PySem.W PyProof.Rows
set_option Elab.async false
set_option linter.unusedVariables false
set_option maxRecDepth 100000
namespace Mine
abbrev Sg := List (Nat × Str)
def cd (sg : Sg) : List Nat := sg.map (·.1)
def fl (sg : Sg) : List Nat := sg.flatMap fun q => q.2.cps.toList
def OkS (sg : Sg) : Prop := ∀ q ∈ sg, Ok q.1 q.2
theorem cd_append (a b : Sg) : cd (a ++ b) = cd a ++ cd b := List.map_append
theorem fl_append (a b : Sg) : fl (a ++ b) = fl a ++ fl b := List.flatMap_append
theorem fl_cons (q : Nat × Str) (r : Sg) : fl (q :: r) = q.2.cps.toList ++ fl r := List.flatMap_cons
theorem fl_no47 {sg : Sg} (h : OkS sg) (hn : ∀ q ∈ sg, q.1 ≠ 47) : 47 ∉ fl sg := by
  intro hm
  obtain ⟨q, hq, hc⟩ := List.mem_flatMap.mp hm
  rcases (h q hq).dots with ⟨_, e⟩ | ⟨e, _⟩ | ⟨_, e⟩ | ⟨_, _, _, _, e⟩
  · rw [e] at hc; simp at hc
  · exact hn q hq e
  · rw [e] at hc; simp at hc
  · exact e hc
theorem fl_no46 {sg : Sg} (h : OkS sg) (hn : ∀ q ∈ sg, q.1 ≠ 46 ∧ q.1 ≠ 13255) : 46 ∉ fl sg := by
  intro hm
  obtain ⟨q, hq, hc⟩ := List.mem_flatMap.mp hm
  rcases (h q hq).dots with ⟨e, _⟩ | ⟨_, e⟩ | ⟨e, _⟩ | ⟨_, _, _, e, _⟩
  · exact (hn q hq).1 e
  · rw [e] at hc; simp at hc
  · exact (hn q hq).2 e
  · exact e hc
theorem split47 : ∀ {sg : Sg}, OkS sg → ∃ A B, sg = A ++ B ∧ (∀ X, 47 ∉ X → afterLast 47 (cd A ++ X) = X ∧ afterLast 47 (fl A ++ X) = X) ∧ ∀ q ∈ B, q.1 ≠ 47
  | [], _ => ⟨[], [], rfl, fun X hX => ⟨afterLast_free hX, afterLast_free hX⟩, fun _ h => nomatch h⟩
  | q :: r, h => by
    obtain ⟨A, B, e, hA, hB⟩ := split47 (sg := r) fun p hp => h p (List.mem_cons_of_mem _ hp)
    cases A with
    | cons a A' =>
      refine ⟨q :: a :: A', B, by rw [e]; rfl, fun X hX => ?_, hB⟩
      obtain ⟨h1, h2⟩ := hA X hX
      by_cases hm : 47 ∈ cd (a :: A')
      · have hf : 47 ∈ fl (a :: A') := by
          obtain ⟨p, hp, e1⟩ := List.mem_map.mp hm
          refine List.mem_flatMap.mpr ⟨p, hp, ?_⟩
          have hpo := h p (by rw [e]; exact List.mem_cons_of_mem _ (List.mem_append_left _ hp))
          rcases hpo.dots with ⟨e2, _⟩ | ⟨_, e2⟩ | ⟨e2, _⟩ | ⟨_, e2, _⟩
          · omega
          · rw [e2]; simp
          · omega
          · exact absurd e1 e2
        constructor
        · show afterLast 47 (q.1 :: (cd (a :: A') ++ X)) = X
          rw [afterLast_cons_mem (by simp [hm]), h1]
        · rw [fl_cons, List.append_assoc, afterLast_mem (by simp [hf]), h2]
      · exfalso
        have hfree : 47 ∉ cd (a :: A') ++ X := by simp [hm, hX]
        rw [afterLast_free hfree] at h1
        have := congrArg List.length h1
        simp [cd] at this
        omega
    | nil =>
      have hr : ∀ p ∈ r, p.1 ≠ 47 := by rw [e]; exact hB
      by_cases hq : q.1 = 47
      · refine ⟨[q], r, rfl, fun X hX => ?_, hr⟩
        rcases (h q List.mem_cons_self).dots with ⟨e2, _⟩ | ⟨_, e2⟩ | ⟨e2, _⟩ | ⟨_, e2, _⟩
        · omega
        · constructor
          · show afterLast 47 (q.1 :: X) = X
            rw [hq]
            exact (afterLast_append 47 X []).trans (afterLast_free hX)
          · show afterLast 47 (fl [q] ++ X) = X
            have : fl [q] = [47] := by rw [fl_cons, e2]; rfl
            rw [this]
            exact (afterLast_append 47 X []).trans (afterLast_free hX)
        · omega
        · exact absurd hq e2
      · exact ⟨[], q :: r, rfl, fun X hX => ⟨afterLast_free hX, afterLast_free hX⟩, fun p hp => by
          rcases List.mem_cons.mp hp with rfl | hp
          · exact hq
          · exact hr p hp⟩
theorem noDot_append {pre y : List Nat} (h : ∃ c ∈ pre, c ≠ 46) : noDot (pre ++ y) = noDot pre ++ y := by
  induction pre with
  | nil => obtain ⟨c, hc, _⟩ := h; cases hc
  | cons x r ih =>
    unfold noDot at *
    by_cases hx : x = 46
    · subst hx
      rw [List.cons_append, List.dropWhile_cons_of_pos (by rfl), List.dropWhile_cons_of_pos (by rfl)]
      refine ih ?_
      obtain ⟨c, hc, hn⟩ := h
      rcases List.mem_cons.mp hc with rfl | hc
      · exact absurd rfl hn
      · exact ⟨c, hc, hn⟩
    · rw [List.cons_append, List.dropWhile_cons_of_neg (by simp [hx]), List.dropWhile_cons_of_neg (by simp [hx])]
      rfl
theorem ext_mid {pre y : List Nat} (h : ∃ c ∈ pre, c ≠ 46) (hy : 46 ∉ y) : ext0 (pre ++ 46 :: y) = 46 :: y := by
  unfold ext0
  rw [noDot_append h, if_pos (by simp), afterLast_append, afterLast_free hy]
theorem ext_mid' {pre y : List Nat} (h : ∃ c ∈ pre, c ≠ 46) : ext0 (pre ++ 46 :: y) = 46 :: afterLast 46 y := by
  unfold ext0
  rw [noDot_append h, if_pos (by simp), afterLast_append]
theorem noDot_dots {d y : List Nat} (h : ∀ c ∈ d, c = 46) : noDot (d ++ y) = noDot y := by
  induction d with
  | nil => rfl
  | cons x r ih =>
    obtain rfl := h x List.mem_cons_self
    unfold noDot at *
    rw [List.cons_append, List.dropWhile_cons_of_pos (by rfl)]
    exact ih fun c hc => h c (List.mem_cons_of_mem _ hc)
theorem ext_none {d y : List Nat} (h : ∀ c ∈ d, c = 46) (hy : 46 ∉ y) : ext0 (d ++ y) = [] := by
  unfold ext0
  rw [noDot_dots h, if_neg]
  intro hm
  obtain ⟨e, e1, _⟩ := noDot_suffix y
  exact hy (by rw [e1]; exact List.mem_append_right _ hm)
theorem prep_fl {C : Sg} (h : OkS C) {x : Str} (hx : x.cps.toList = cd C) : (prepT x).cps.toList = fl C := by
  unfold prepT prepL
  rw [join_flat, hx]
  clear hx
  induction C with
  | nil => rfl
  | cons q r ih =>
    have ih := ih fun p hp => h p (List.mem_cons_of_mem _ hp)
    rw [fl_cons]
    show (List.map b3V (List.filter _ (q.1 :: cd r))).flatMap _ = _
    rcases (h q List.mem_cons_self).prep with ⟨hb, e⟩ | ⟨hb, e⟩
    · rw [List.filter_cons_of_neg (by simp [hb]), ih, e]; rfl
    · rw [List.filter_cons_of_pos (by simp [hb]), List.map_cons, List.flatMap_cons, ih, e]
theorem co_split {C : Sg} (h : OkS C) (hc : 13255 ∈ cd C) : ∃ X Y, fl C = (X ++ [99, 111]) ++ 46 :: Y := by
  obtain ⟨q, hq, e⟩ := List.mem_map.mp hc
  obtain ⟨a, b, rfl⟩ := List.append_of_mem hq
  rcases (h q hq).dots with ⟨e2, _⟩ | ⟨e2, _⟩ | ⟨_, e2⟩ | ⟨_, _, e2, _⟩
  · omega
  · omega
  · refine ⟨fl a, fl b, ?_⟩
    rw [fl_append, fl_cons, e2]
    simp
  · exact absurd e e2
end Mine
namespace Mine
theorem dots_split : ∀ {B : Sg}, OkS B → (46 ∉ noDot (cd B) ∧ ∃ B1 B2, B = B1 ++ B2 ∧ (∀ q ∈ B1, q.1 = 46) ∧ ∀ q ∈ B2, q.1 ≠ 46) ∨ (∃ B' C' q0, B = B' ++ q0 :: C' ∧ q0.1 = 46 ∧ (∃ q ∈ B', q.1 ≠ 46) ∧ ∀ q ∈ C', q.1 ≠ 46) := by
  intro B hB
  by_cases hp : 46 ∈ noDot (cd B)
  · right
    obtain ⟨d, ed, hd⟩ := noDot_suffix (cd B)
    obtain ⟨pre, ep, hn⟩ := afterLast_cases 46 _ hp
    have e1 : cd B = (d ++ pre) ++ 46 :: afterLast 46 (noDot (cd B)) := by rw [List.append_assoc, ← ep, ← ed]
    obtain ⟨B', R, rfl, h1, h2⟩ := List.map_eq_append_iff.mp e1
    obtain ⟨q0, C', rfl, h3, h4⟩ := List.map_eq_cons_iff.mp h2
    refine ⟨B', C', q0, rfl, h3, ?_, fun q hq e => hn (by rw [← h4]; exact e ▸ List.mem_map_of_mem hq)⟩
    rcases (noDot_head : noDot (cd (B' ++ q0 :: C')) = [] ∨ _) with e | ⟨c, r, e, hne⟩
    · rw [e] at hp; cases hp
    · cases pre with
      | nil =>
        rw [List.nil_append, e] at ep
        injection ep with ep _
        exact absurd ep hne
      | cons x pre =>
        rw [List.cons_append, e] at ep
        injection ep with ep _
        have hx : x ∈ List.map (·.1) B' := by rw [h1]; simp
        obtain ⟨q, hq, eq⟩ := List.mem_map.mp hx
        exact ⟨q, hq, fun e => hne (by rw [ep, ← eq]; exact e)⟩
  · left
    refine ⟨hp, ?_⟩
    obtain ⟨d, ed, hd⟩ := noDot_suffix (cd B)
    obtain ⟨B1, B2, rfl, h1, h2⟩ := List.map_eq_append_iff.mp ed
    refine ⟨B1, B2, rfl, fun q hq => hd _ (by rw [← h1]; exact List.mem_map_of_mem hq), fun q hq e => hp (by rw [← h2]; exact e ▸ List.mem_map_of_mem hq)⟩
theorem fl_dots {B : Sg} (h : OkS B) (hd : ∀ q ∈ B, q.1 = 46) : ∀ c ∈ fl B, c = 46 := by
  intro c hc
  obtain ⟨q, hq, hcq⟩ := List.mem_flatMap.mp hc
  have e := hd q hq
  rcases (h q hq).dots with ⟨_, e2⟩ | ⟨e2, _⟩ | ⟨e2, _⟩ | ⟨e2, _⟩
  · rw [e2] at hcq; simpa using hcq
  · omega
  · omega
  · exact absurd e e2
theorem ext_co {C : Sg} (h : OkS C) (hc : 13255 ∈ cd C) (pre : List Nat) : ∃ X Y, fl C = (X ++ [99, 111]) ++ 46 :: Y ∧ ext0 (pre ++ fl C) = 46 :: afterLast 46 Y := by
  obtain ⟨X, Y, e⟩ := co_split h hc
  refine ⟨X, Y, e, ?_⟩
  rw [e, ← List.append_assoc]
  exact ext_mid' ⟨99, by simp, by decide⟩
theorem str_beq (x y : Str) : (x == y) = (x.cps.toList == y.cps.toList) := by
  rw [Bool.eq_iff_iff, beq_iff_eq, beq_iff_eq]
  exact ⟨fun e => e ▸ rfl, str_ext⟩
theorem afterLast_len (c : Nat) (l : List Nat) : (afterLast c l).length ≤ l.length := by
  obtain ⟨pre, e⟩ := after_suffix c l
  have := congrArg List.length e
  rw [List.length_append] at this
  omega
theorem law_b0 {sg : Sg} (h : OkS sg) : (Txt.slice (metasT sg) (some (cutSize (metasT sg))) none == prepT (Txt.slice (codesT sg) (some (cutSize (codesT sg))) none)) = alikeB sg := by
  obtain ⟨A, B, rfl, hA, hB⟩ := split47 h
  have okB : OkS B := fun q hq => h q (List.mem_append_right _ hq)
  have hcS : (codesT (A ++ B)).cps.toList = cd A ++ cd B := by rw [← cd_append]; simp [codesT, cd]
  have hcM : (metasT (A ++ B)).cps.toList = fl A ++ fl B := by rw [← fl_append]; exact metas_flat _
  have n47 : 47 ∉ cd B := fun hm => by obtain ⟨q, hq, e⟩ := List.mem_map.mp hm; exact hB q hq e
  have hnS : nameL (codesT (A ++ B)) = cd B := by unfold nameL; rw [hcS]; exact (hA _ n47).1
  have hnM : nameL (metasT (A ++ B)) = fl B := by unfold nameL; rw [hcM]; exact (hA _ (fl_no47 okB hB)).2
  have heS := cut_from (codesT (A ++ B))
  have hhS := cut_to (codesT (A ++ B))
  have heM := cut_from (metasT (A ++ B))
  unfold alikeB
  generalize hE : Txt.slice (codesT (A ++ B)) (some (cutSize (codesT (A ++ B)))) none = E at *
  generalize hH : Txt.slice (codesT (A ++ B)) none (some (cutSize (codesT (A ++ B)))) = H at *
  generalize hV : Txt.slice (metasT (A ++ B)) (some (cutSize (metasT (A ++ B)))) none = V at *
  have eext : extL (codesT (A ++ B)) = ext0 (cd B) := by unfold extL; rw [hnS]
  have mext : extL (metasT (A ++ B)) = ext0 (fl B) := by unfold extL; rw [hnM]
  rw [eext] at heS hhS
  rw [mext] at heM
  rw [hcS] at hhS
  rw [str_beq V, heM, str_beq E, heS]
  have e0 : (Str.ofString "").cps.toList = [] := by decide +kernel
  rw [e0]
  have hco : ∀ x : Str, hasCo x = decide (13255 ∈ x.cps.toList) := fun _ => rfl
  have hls : ∀ x : Str, (lastOf (Txt.split x (Str.ofString "/"))).cps.toList = afterLast 47 x.cps.toList := fun x => by rw [slash_one]; exact (split_last x 47).1
  rcases dots_split okB with ⟨hno, B1, B2, rfl, h1, h2⟩ | ⟨B', C', q0, rfl, h0, hnd, h2⟩
  · have ex : ext0 (cd (B1 ++ B2)) = [] := by unfold ext0; rw [if_neg hno]
    have hp0 : (prepT E).cps.toList = [] := prep_fl (C := []) (fun _ h => nomatch h) (by rw [heS, ex]; rfl)
    rw [ex] at hhS ⊢
    rw [if_pos (show (([] : List Nat) == []) = true from rfl), hp0, hco, hls]
    rw [List.append_nil] at hhS
    rw [← hhS, (hA _ n47).1]
    by_cases hc : 13255 ∈ cd (B1 ++ B2)
    · obtain ⟨X, Y, _, e⟩ := ext_co okB hc []
      rw [List.nil_append] at e
      rw [e, decide_eq_true hc]
      rfl
    · have okB2 : OkS B2 := fun q hq => okB q (List.mem_append_right _ hq)
      have okB1 : OkS B1 := fun q hq => okB q (List.mem_append_left _ hq)
      have : ext0 (fl (B1 ++ B2)) = [] := by
        rw [fl_append]
        exact ext_none (fl_dots okB1 h1) (fl_no46 okB2 fun q hq => ⟨h2 q hq, fun e => hc (e ▸ List.mem_map_of_mem (List.mem_append_right _ hq))⟩)
      rw [this, decide_eq_false hc]
      rfl
  · have okB' : OkS B' := fun q hq => okB q (List.mem_append_left _ hq)
    have okC : OkS (q0 :: C') := fun q hq => okB q (List.mem_append_right _ hq)
    have okC' : OkS C' := fun q hq => okC q (List.mem_cons_of_mem _ hq)
    have m0 : q0.2.cps.toList = [46] := by
      rcases (okC q0 List.mem_cons_self).dots with ⟨_, e2⟩ | ⟨e2, _⟩ | ⟨e2, _⟩ | ⟨e2, _⟩
      · rw [e2]
      · omega
      · omega
      · exact absurd h0 e2
    have c46 : 46 ∉ cd C' := fun hm => by obtain ⟨q, hq, e⟩ := List.mem_map.mp hm; exact h2 q hq e
    have ecd : cd (B' ++ q0 :: C') = cd B' ++ 46 :: cd C' := by rw [cd_append]; show _ ++ q0.1 :: _ = _; rw [h0]; rfl
    have efl : fl (B' ++ q0 :: C') = fl B' ++ 46 :: fl C' := by rw [fl_append, fl_cons, m0]; rfl
    have ex : ext0 (cd (B' ++ q0 :: C')) = 46 :: cd C' := by
      rw [ecd]
      obtain ⟨q, hq, hqn⟩ := hnd
      exact ext_mid ⟨q.1, List.mem_map_of_mem hq, hqn⟩ c46
    have hpE : (prepT E).cps.toList = 46 :: fl C' := by
      rw [prep_fl (C := q0 :: C') okC (by rw [heS, ex]; show _ = q0.1 :: _; rw [h0]; rfl), fl_cons, m0]
      rfl
    rw [ex] at hhS
    have hHl : H.cps.toList = cd (A ++ B') := by
      rw [ecd, ← List.append_assoc] at hhS
      have := List.append_cancel_right hhS
      rw [← this, cd_append]
    have htake : (A ++ (B' ++ q0 :: C')).take H.length = A ++ B' := by
      have : H.length = (A ++ B').length := by
        have e : H.length = H.cps.toList.length := by simp [Str.length]
        rw [e, hHl]; simp [cd]
      rw [this, ← List.append_assoc, List.take_left]
    rw [htake, hpE, ex, if_neg (by simp), hco, strip_dot, hls, metas_flat]
    have n47' : 47 ∉ fl B' := fl_no47 okB' fun q hq => hB q (List.mem_append_left _ hq)
    have : afterLast 47 ((A ++ B').flatMap fun q => q.2.cps.toList) = fl B' := by
      show afterLast 47 (fl (A ++ B')) = _
      rw [fl_append]
      exact (hA _ n47').2
    rw [this, heS, ex, efl]
    by_cases hc : 13255 ∈ cd C'
    · obtain ⟨X, Y, e1, e2⟩ := ext_co okC' hc (fl B' ++ [46])
      rw [List.append_assoc] at e2
      have e2 : ext0 (fl B' ++ 46 :: fl C') = 46 :: afterLast 46 Y := e2
      rw [e2, decide_eq_true (List.mem_cons_of_mem _ hc)]
      simp only [Bool.not_true, Bool.false_and]
      rw [beq_eq_false_iff_ne]
      intro e3
      injection e3 with _ e3
      have h5 := afterLast_len 46 Y
      have h6 := congrArg List.length e1
      rw [← e3] at h6
      simp at h6
      omega
    · have hcn : ¬ 13255 ∈ 46 :: cd C' := by simp [hc]
      rw [decide_eq_false hcn]
      have f46 : 46 ∉ fl C' := fl_no46 okC' fun q hq => ⟨h2 q hq, fun e => hc (e ▸ List.mem_map_of_mem hq)⟩
      cases hall : (fl B').all fun c => c == 46 with
      | true =>
        have hd : ∀ c ∈ fl B' ++ [46], c = 46 := by
          intro c hc
          rcases List.mem_append.mp hc with hc | hc
          · have := List.all_eq_true.mp hall c hc; simpa using this
          · simpa using hc
        have : ext0 (fl B' ++ 46 :: fl C') = [] := by
          have := ext_none hd f46
          rwa [List.append_assoc] at this
        rw [this]
        rfl
      | false =>
        obtain ⟨c, hc1, hc2⟩ := List.all_eq_false.mp hall
        rw [ext_mid ⟨c, hc1, by simpa using hc2⟩ f46]
        simp
end Mine

end PM2_
section PM0_
open PySem PySem.W PyProof.Rows
set_option Elab.async false
set_option linter.unusedVariables false
set_option maxRecDepth 100000
namespace Mine
def okAll (sg : List (Nat × Str)) : Prop := ∀ q ∈ sg, okSign q.1 q.2 = true
theorem law_a {x u v : Str} (h : SplitIs x u v) : u = Txt.slice x none (some (cutSize x)) ∧ v = Txt.slice x (some (cutSize x)) none := law_a0 h
theorem law_b {sg : List (Nat × Str)} (h : okAll sg) : (Txt.slice (metasT sg) (some (cutSize (metasT sg))) none == prepT (Txt.slice (codesT sg) (some (cutSize (codesT sg))) none)) = alikeB sg := law_b0 (fun q hq => ok_of (h q hq))
theorem prep_ok {c : Nat} {m : Str} (h : okSign c m = true) : prepT ⟨#[c]⟩ = m := prep_ok0 (ok_of h)
theorem small_c {c : Nat} {m : Str} (h : okSign c m = true) : smallC ⟨#[c]⟩ := small_c0 (ok_of h)
theorem small_slice {sg : List (Nat × Str)} (h : okAll sg) (hl : sg.length ≤ 24) (l u : Option Int) : smallC (Txt.slice (codesT sg) l u) := small_slice0 (fun q hq => ok_of (h q hq)) hl l u
theorem strOk_slice {sg : List (Nat × Str)} (h : okAll sg) (l u : Option Int) : PyData.strOk (Txt.slice (metasT sg) l u) = true := strOk_slice0 (fun q hq => ok_of (h q hq)) l u
theorem metas_len {sg : List (Nat × Str)} (h : okAll sg) (hl : sg.length ≤ 24) : (metasT sg).length ≤ 96 := metas_len0 (fun q hq => ok_of (h q hq)) hl
theorem codes_len {sg : List (Nat × Str)} (hl : sg.length ≤ 24) : (codesT sg).length ≤ 24 := by
  show (sg.map (·.1)).toArray.size ≤ 24
  simpa using hl
end Mine

end PM0_
section WR_
open PySem PySem.W PyProof.Rows
set_option maxRecDepth 100000
set_option Elab.async false
set_option pp.deepTerms false
set_option pp.deepTerms.threshold 8
set_option maxHeartbeats 40000000
set_option linter.unusedVariables false
namespace Mine
theorem kfillWR : PySem.Challenge.rw_ij0132_01 = PySem.Challenge.rw_ij0132_01 ∧ K = K := by
  k_fill
  exact ⟨rfl, rfl⟩
section
variable {p : Program} {loose : List Str} {mean : ExcName → Option Value} {mg mb : Str → Option Value} {w : World} {A : Around} {s : Shared}
def GPrep (h : Heap) (v r : Value) : Prop := ∃ a c m t1 t2 t', v = .ref a ∧ h.get? a = some (pairObj c m t1 t2) ∧ r = .str m t'
theorem pair_at {h₀ h : Heap} {L : Addr} {news : List (Addr × Obj)} (N : News h₀ L h news) : ∀ {l : List Value} {r : List (Nat × Str)}, Paired (PairIn news) l r → Paired (PairAt h) l r := fun p => paired_mono (fun v q ⟨a, t1, t2, e, hm, ho⟩ => ⟨a, t1, t2, e, (N _ hm).1, ho⟩) p
theorem pair_prep {h : Heap} : ∀ {l : List Value} {r : List (Nat × Str)} {ys : List Value}, Paired (PairAt h) l r → Paired (GPrep h) l ys → ∃ z, ys = strValues z ∧ z.map (·.1) = r.map fun q => q.2
  | _, _, _, .nil, .nil => ⟨[], rfl, rfl⟩
  | _, _, _, .cons ⟨a, t1, t2, e, hg, _⟩ b, .cons ⟨a', c, m, u1, u2, u3, e', hg', er⟩ d => by
    obtain ⟨z, rfl, hz⟩ := pair_prep b d
    subst e
    injection e' with e'
    subst e' er
    rw [hg] at hg'
    unfold pairObj at hg'
    simp only [Option.some.injEq, Obj.mk.injEq, Data.seq.injEq] at hg'
    have e1 := hg'.2.2.1.1
    simp at e1
    exact ⟨(_, _) :: z, rfl, by simp [hz, e1]⟩
theorem pair_ok {h : Heap} {l : List Value} {sg : List (Nat × Str)} (p : Paired (PairAt h) l sg) : okAll sg := fun q hq => by
  obtain ⟨v, _, _, _, _, _, ho⟩ := pair_mem p hq
  exact ho
theorem news_two {h₀ h h' : Heap} {L D : Addr} {m : Str → Option Value} {news : List (Addr × Obj)} {items : Array Value} (F : Fr h₀ L h m) (N : News h₀ L h news) (hD : h.get? D = none) (hl : h'.PlainList D items) (kp : ∀ b o, b ≠ L → h.get? b = some o → h'.get? b = some o) :
    ∃ n, News h₀ L h' ((D, { cls := .type "list", data := .seq items n }) :: news) := by
  obtain ⟨n, N1⟩ := news_new F hD hl
  refine ⟨n, fun p hp => ?_⟩
  rcases List.mem_cons.mp hp with rfl | hp
  · exact N1 _ List.mem_cons_self
  · exact ⟨kp _ _ (N p hp).2.1 (N p hp).1, (N p hp).2⟩
structure TurnF (z : List (Str × Tok)) (sg : List (Nat × Str)) : Prop where
  ok : okAll sg
  len : sg.length ≤ 24
  zk : z.map (·.1) = sg.map (·.2)
  small : ∀ y ∈ sg.map (·.2), y.length ≤ 4
theorem turnF {z : List (Str × Tok)} {sg : List (Nat × Str)} (hok : okAll sg) (hl : sg.length ≤ 24) (hz : z.map (·.1) = sg.map (·.2)) {k : Nat} : TurnF (z.take k) (sg.take k) where
  ok := fun q hq => hok q (List.mem_of_mem_take hq)
  len := by rw [List.length_take]; omega
  zk := by rw [List.map_take, List.map_take]; exact congrArg _ hz
  small := by
    intro y hy
    obtain ⟨q, hq, rfl⟩ := List.mem_map.mp hy
    have ho := hok q (List.mem_of_mem_take hq)
    unfold okSign at ho
    simp only [Bool.and_eq_true, decide_eq_true_eq] at ho
    exact ho.2
structure IsMeta (sg : List (Nat × Str)) (M : Str) : Prop where
  eq : metasT sg = M
  len : M.length ≤ 96
structure CutOf (M u v : Str) : Prop where
  ueq : u = Txt.slice M none (some (cutSize M))
  veq : v = Txt.slice M (some (cutSize M)) none
  uok : PyData.strOk u = true
  vok : PyData.strOk v = true
  vlen : v.length ≤ 96
theorem cutOf {sg : List (Nat × Str)} {M u v : Str} (hok : okAll sg) (fM : IsMeta sg M) (h : SplitIs M u v) : CutOf M u v := by
  obtain ⟨e1, e2⟩ := law_a h
  refine ⟨e1, e2, ?_, ?_, ?_⟩
  · rw [e1, ← fM.eq]; exact strOk_slice hok _ _
  · rw [e2, ← fM.eq]; exact strOk_slice hok _ _
  · rw [e2]; exact Nat.le_trans (Txt.slice_le _ _ _) fM.len
structure IsCodes (sg : List (Nat × Str)) (S : Str) : Prop where
  eq : codesT sg = S
  len : S.length ≤ 24
structure EndOf (sg : List (Nat × Str)) (S v : Str) : Prop where
  eq : v = Txt.slice S (some (cutSize S)) none
  small : smallC v
theorem endOf {sg : List (Nat × Str)} {S u v : Str} (hok : okAll sg) (hl : sg.length ≤ 24) (fS : IsCodes sg S) (h : SplitIs S u v) : EndOf sg S v := by
  obtain ⟨_, e2⟩ := law_a h
  refine ⟨e2, ?_⟩
  rw [e2, ← fS.eq]
  exact small_slice hok hl _ _
structure IsPrep (v P : Str) : Prop where
  eq : prepT v = P
theorem lawB {sg : List (Nat × Str)} {M S u v v2 P : Str} (hok : okAll sg) (fM : IsMeta sg M) (fS : IsCodes sg S) (fc : CutOf M u v) (fe : EndOf sg S v2) (fP : IsPrep v2 P) : (v == P) = alikeB sg := by
  have h := law_b hok
  rw [fM.eq, fS.eq, ← fc.veq, ← fe.eq, fP.eq] at h
  exact h
theorem inv_next {h₀ : Heap} {L : Addr} {J : (Str → Option Value) → List (Addr × Obj) → Prop} {own : List (Addr × Obj)} {adr : List Addr} {s₁ s' : Shared} {Q : Flow → Shared → Prop} (h : PySem.W.InvEndN h₀ L J own adr s₁ s') : PySem.W.InvPostN h₀ L J own adr s₁ Q .next s' := h
theorem slice_take (its : List Value) {k : Int} (h : 0 ≤ k) : slicePick its.toArray none (some k) none = (its.take k.toNat).toArray := by
  obtain ⟨j, rfl⟩ : ∃ j : Nat, k = j := ⟨k.toNat, by omega⟩
  exact slicePick_upto' its.toArray j
theorem slice_strs (z : List (Str × Tok)) {k : Int} (h : 0 ≤ k) : (slicePick (strValues z).toArray none (some k) none).toList = strValues (z.take k.toNat) := by
  rw [slice_take _ h]
  simp [strValues, List.map_take]
theorem law_rest {a : Addr} {L : Addr} {fa : Addr} {cd : Value} {Q : Flow → Shared → Prop} (hd : A.depth < 390) (hh : A.handled = none) (hu : (A.deeper (envOf (Str.ofString "law") (fScope (fd 28)) L fa cd)).units + 64 < cLine) (X : (K w.params).In s.heap) (T : Top p loose mean mg mb s.heap)
    (hQ : ∀ h' tk, (∀ b o, s.heap.get? b = some o → h'.get? b = some o) → Q (.ret (.bool true)) { s with heap := h', toks := tk }) :
    LawRest w (A.deeper (envOf (Str.ofString "law") (fScope (fd 28)) L fa cd)) s a (envOf (Str.ofString "law") (fScope (fd 28)) L fa cd) ((fBody (fd 28)).drop 1) Q (fun _ _ => False) := by
  have hb : fBody (fd 28) = fBody (fd 28) := rfl
  conv at hb => rhs; whnf
  have hs : fScope (fd 28) = fScope (fd 28) := rfl
  conv at hs => rhs; whnf
  rw [hb, hs] at *
  clear hb hs
  dsimp only [List.drop]
  intro h tk D its n sg prs FF NN hP0 hl24
  have NN : News s.heap _ h ((D, { cls := .type "list", data := .seq its.toArray n }) :: prs) := NN
  have hP := pair_at (fun p hp => NN p (List.mem_cons_of_mem _ hp)) hP0
  have hok := pair_ok hP
  have hlen := hP.length
  (repeat' (first | (k_unfold; (try dsimp only)) | ((with_reducible show wpAny _ _ (exec (Stmt.Assign _ (PySem.Expr.ListComp _ _ _ _) _) _) _ _ _); refine hold ?_) | ((with_reducible show wpAny _ _ (eval (PySem.Expr.ListComp _ _ _ _) _) _ _ _); refine hold ?_) | walk1 | (dsimp only; walk1) | fail "no step"))
  unfold Hold
  refine comp_list_assign (GPrep h) FF ?e0 ?e1 ?e2 ?e3 ?e4 ?e5 ?e6 ?e7 ?e8 ?e9
  case e0 => rfl
  case e1 => rfl
  case e2 => decide
  case e3 => rfl
  case e4 => decide
  case e5 => rfl
  case e6 => rfl
  case e7 => rfl
  case e9 => intro _; rfl
  (repeat' (first | (k_unfold; (try dsimp only)) | ((with_reducible show wpAny _ _ (eval (PySem.Expr.ListComp _ _ _ _) _) _ _ _); refine hold ?_) | walk1 | (dsimp only; walk1) | fail "no step"))
  unfold Hold
  refine ⟨_, its, rfl, hh, by omega, FF, NN.isList (by k_mem), ?elt, ?don⟩
  case elt =>
    intro C v s₃ m₃ E' hv F₃ hm kp
    obtain ⟨q, a1, t1, t2, rfl, hg, ho⟩ := mem_pair hP hv
    (repeat' (first | (k_unfold; (try dsimp only)) | ((with_reducible show wpAny _ _ (eval (PySem.Expr.ListComp _ _ _ _) _) _ _ _); refine hold ?_) | walk1 | (dsimp only; walk1) | fail "no step"))
    refine wpAny_Name (wpAny_loadName_local rfl rfl F₃.ns hm ?_)
    (repeat' (first | (k_unfold; (try dsimp only)) | ((with_reducible show wpAny _ _ (eval (PySem.Expr.ListComp _ _ _ _) _) _ _ _); refine hold ?_) | walk1 | (dsimp only; walk1) | fail "no step"))
    refine item_at (l := [.str ⟨#[q.1]⟩ t1, .str q.2 t2]) ⟨_, kp _ _ hg, rfl, _, rfl⟩ (by decide) (by show (0 : Int) < 2; decide) (by show 2 < 1000; decide) ?_
    intro x hx
    obtain rfl := Option.some.inj hx
    (repeat' (first | (k_unfold; (try dsimp only)) | ((with_reducible show wpAny _ _ (eval (PySem.Expr.ListComp _ _ _ _) _) _ _ _); refine hold ?_) | walk1 | (dsimp only; walk1) | fail "no step"))
    refine wpAny_call (spec_prep (by show A.depth + 1 < 399; omega) (by exact hh) (by exact X.keeps F₃.keep) (by exact T.keeps F₃.keep) (small_c ho) fun h2 tk2 t3 kp2 => ?_)
    rw [prep_ok ho]
    dsimp only
    (repeat' (first | (k_unfold; (try dsimp only)) | ((with_reducible show wpAny _ _ (eval (PySem.Expr.ListComp _ _ _ _) _) _ _ _); refine hold ?_) | walk1 | (dsimp only; walk1) | fail "no step"))
    · exact ⟨a1, _, _, t1, t2, _, rfl, hg, rfl⟩
    · exact ⟨_, _, rfl, kp2⟩
  case don =>
    intro Dr h1 tk1 ys1 F1 kp1 hD1 hl1 hG1
    have N1 := news_two FF NN hD1 hl1 kp1
    clear FF NN
    obtain ⟨k1, N1⟩ := N1
    obtain ⟨z, hz1, hz2⟩ := pair_prep hP hG1
    obtain ⟨ys1⟩ := ys1
    obtain rfl : ys1 = strValues z := hz1
    (repeat' (first | (k_unfold; (try dsimp only)) | ((with_reducible show wpAny _ _ (exec (Stmt.For _ _ _ _ _) _) _ _ _); refine hold ?_) | ((with_reducible show wpAny _ _ (eval (PySem.Expr.ListComp _ _ _ _) _) _ _ _); refine hold ?_) | walk1 | (dsimp only; walk1) | fail "no step"))
    rename News _ _ _ _ => NN
    rename Fr _ _ _ _ => FF
    unfold Hold
    refine For_invV s.heap rfl rfl ?_ (by intro _; rfl) (by first | passes_own | with_unfolding_all passes_own)
    (repeat' (first | (k_unfold; (try dsimp only)) | ((with_reducible show wpAny _ _ (exec (Stmt.For _ _ _ _ _) _) _ _ _); refine hold ?_) | ((with_reducible show wpAny _ _ (eval (PySem.Expr.ListComp _ _ _ _) _) _ _ _); refine hold ?_) | walk1 | (dsimp only; walk1) | fail "no step"))
    refine PySem.Calls.call_len_list (NN.isList (items := its.toArray) (by k_mem)) (by simp only [List.size_toArray]; omega) ?_
    clear kp1 hD1 hl1 hG1
    (repeat' (first | (k_unfold; (try dsimp only)) | ((with_reducible show wpAny _ _ (exec (Stmt.For _ _ _ _ _) _) _ _ _); refine hold ?_) | ((with_reducible show wpAny _ _ (eval (PySem.Expr.ListComp _ _ _ _) _) _ _ _); refine hold ?_) | walk1 | (dsimp only; walk1) | fail "no step"))
    rename IsRange _ _ _ _ _ _ _ _ => hR
    rename News _ _ _ _ => NN
    rename Fr _ _ _ _ => FF
    refine PySem.W.iter_rangeS (σ := Unit) (n := its.length + 1) (fun _ m nx => nx = ((Dr, { cls := .type "list", data := .seq (strValues z).toArray k1 }) :: (D, { cls := .type "list", data := .seq its.toArray n }) :: prs) ∧ m "signs" = some (.ref D) ∧ m "ready" = some (.ref Dr)) (fun _ _ => ()) () hh hR ?small ?rsize FF NN ⟨rfl, by rfl, by rfl⟩ ?turn ?done
    case small => simp only [List.size_toArray]; exact PySem.small_one (by omega) (by omega) (by omega) (by omega)
    case rsize => simp only [List.size_toArray, Builtin.Range.rangeSize]; simp
    case done =>
      clear FF NN hR
      intro m₁ nx h2 tk2 hJ FF NN
      (repeat' (first | (k_unfold; (try dsimp only)) | ((with_reducible show wpAny _ _ (exec (Stmt.For _ _ _ _ _) _) _ _ _); refine hold ?_) | ((with_reducible show wpAny _ _ (eval (PySem.Expr.ListComp _ _ _ _) _) _ _ _); refine hold ?_) | walk1 | (dsimp only; walk1) | fail "no step"))
      exact hQ _ _ FF.keep
    case turn =>
      clear FF NN hR
      intro k t u m₁ nx h2 tk2 own hk ho hJ FF NN
      have hk2 := PySem.W.mem_rangeKs hk
      obtain ⟨rfl, e1, e2⟩ := hJ
      have FF := fr_map (m' := fun y => if y = "size" then some (.int k t) else if y = "signs" then some (.ref D) else if y = "ready" then some (.ref Dr) else m₁ y) FF fun y => by
        by_cases hy : y = "signs"
        · rw [if_neg (by rw [hy]; decide), hy, if_neg (by decide), if_pos rfl, e1]
        · by_cases hy2 : y = "ready"
          · rw [hy2, if_neg (by decide), if_neg (by decide), if_neg (by decide), if_pos rfl, e2]
          · rw [if_neg hy, if_neg hy2]
      have NN : News s.heap _ h2 ((Dr, { cls := .type "list", data := .seq (strValues z).toArray k1 }) :: (D, { cls := .type "list", data := .seq its.toArray n }) :: (prs ++ own)) := NN
      have hprs : Hold (∀ p ∈ prs, h2.get? p.1 = some p.2) := fun p hp => (NN p (List.mem_cons_of_mem _ (List.mem_cons_of_mem _ (List.mem_append_left _ hp)))).1
      have hP2 := pair_at NN (paired_mono (fun v q ⟨a1, u1, u2, e, hm, ho⟩ => (⟨a1, u1, u2, e, List.mem_cons_of_mem _ (List.mem_cons_of_mem _ (List.mem_append_left _ hm)), ho⟩ : PairIn _ v q)) hP0)
      (repeat' (first | (k_unfold; (try dsimp only)) | ((with_reducible show wpAny _ _ (eval (PySem.Expr.ListComp _ _ _ _) _) _ _ _); refine hold ?_) | walk1 | (dsimp only; walk1) | fail "no step"))
      have ek : k = (k.toNat : Int) := by omega
      have zlen : z.length = sg.length := by
        have := congrArg List.length hz2
        simpa using this
      refine kmk_slice_lit FF NN (NN.isList (by k_mem)) IsPart.none (IsPart.int k t) (slice_strs z hk2.1) ?_ (by with_unfolding_all rfl) (fun _ => rfl) (by simp only [List.size_toArray]; show (List.map _ z).length ≤ _; rw [List.length_map]; exact Nat.le_trans (show z.length ≤ 24 by omega) (by decide))
      intro D1 h3 F3 N3 hlt3
      clear FF NN
      (repeat' (first | (k_unfold; (try dsimp only)) | ((with_reducible show wpAny _ _ (eval (PySem.Expr.ListComp _ _ _ _) _) _ _ _); refine hold ?_) | walk1 | (dsimp only; walk1) | fail "no step"))
      obtain ⟨sgk, hPk, hQk, fk⟩ : ∃ sgk, Paired (PairAt h2) (its.take k.toNat) sgk ∧ Paired (PairIn prs) (its.take k.toNat) sgk ∧ TurnF (z.take k.toNat) sgk := ⟨sg.take k.toNat, paired_take k.toNat hP2, paired_take k.toNat hP0, turnF hok (by omega) hz2⟩
      have hlk := fk.len
      have hls : (sgk.map (·.2)).length ≤ 24 := by rw [List.length_map]; exact hlk
      refine PySem.SC.join (l := z.take k.toNat) (texts := sgk.map (·.2)) (N3.isList (by k_mem)) fk.zk (joinOk_empty fk.small (by omega)) ?_
      intro t5 k5
      show wpAny _ _ _ _ _ _
      obtain ⟨M, fM⟩ : ∃ M, IsMeta sgk M := ⟨metasT sgk, ⟨rfl, metas_len fk.ok hlk⟩⟩
      have hMl := fM.len
      rw [show Txt.join (Str.ofString "") (sgk.map (·.2)) = M from fM.eq]
      (repeat' (first | (k_unfold; (try dsimp only)) | ((with_reducible show wpAny _ _ (eval (PySem.Expr.ListComp _ _ _ _) _) _ _ _); refine hold ?_) | walk1 | (dsimp only; walk1) | fail "no step"))
      refine wpAny_call (spec_splitext (by show A.depth + 1 < 400; omega) (by exact X.keeps F3.keep) (by exact T.keeps F3.keep) (by omega) fun h4 tk4 a4 u v t6 t7 hs4 kp4 hg4 => ?_)
      have fc : CutOf M u v := cutOf fk.ok fM hs4
      have hVl := fc.vlen
      have F4 := fr_keeps F3 kp4
      have N4 : News s.heap _ h4 ((Dr, { cls := .type "list", data := .seq (strValues z).toArray k1 }) :: (D, { cls := .type "list", data := .seq its.toArray n }) :: (prs ++ own)) := fun p hp => news_keeps N3 kp4 p (List.mem_cons_of_mem _ hp)
      clear F3 N3 hlt3 hs4
      (try dsimp only)
      (repeat' (first | (k_unfold; (try dsimp only)) | ((with_reducible show wpAny _ _ (eval (PySem.Expr.ListComp _ _ _ _) _) _ _ _); refine hold ?_) | walk1 | (dsimp only; walk1) | fail "no step"))
      refine unpackN_ F4 N4 ⟨_, hg4, rfl, _, rfl⟩ hh rfl rfl ?_
      intro h5 F5 N5
      clear F4 N4 hg4 kp4
      (repeat' (first | (k_unfold; (try dsimp only)) | ((with_reducible show wpAny _ _ (eval (PySem.Expr.ListComp _ _ _ _) _) _ _ _); refine hold ?_) | walk1 | (dsimp only; walk1) | fail "no step"))
      unfold Hold
      rename Fr _ _ _ _ => FF
      rename News _ _ _ _ => NN
      refine comp_list (GSnd h2) FF ?f1 ?f2 ?f3 ?f4 ?f5 ?f6 ?f7
      case f1 => rfl
      case f2 => decide
      case f3 => rfl
      case f4 => decide
      case f5 => rfl
      case f7 => intro _; rfl
      (repeat' (first | (k_unfold; (try dsimp only)) | ((with_reducible show wpAny _ _ (eval (PySem.Expr.ListComp _ _ _ _) _) _ _ _); refine hold ?_) | walk1 | (dsimp only; walk1) | fail "no step"))
      rename Fr _ _ _ _ => F6
      rename News _ _ _ _ => N6
      have hpr : ∀ p ∈ prs, _ := fun p hp => (N6 p (by simp [hp])).1
      unfold Hold
      refine ⟨_, its.take k.toNat, rfl, hh, by rw [List.length_take]; omega, F6, slice_take its hk2.1 ▸ N6.isList (by k_mem), ?elta, ?dona⟩
      case elta =>
        intro C v9 s₃ m₃ E' hv F₃ hm kp
        obtain ⟨q, a1, t1, t2, rfl, hgm, _⟩ := mem_pair hP0 (List.mem_of_mem_take hv)
        clear FF NN F6 N6
        (repeat' (first | (k_unfold; (try dsimp only)) | ((with_reducible show wpAny _ _ (eval (PySem.Expr.ListComp _ _ _ _) _) _ _ _); refine hold ?_) | walk1 | (dsimp only; walk1) | fail "no step"))
        refine wpAny_Name (wpAny_loadName_local rfl rfl F₃.ns hm ?_)
        (repeat' (first | (k_unfold; (try dsimp only)) | ((with_reducible show wpAny _ _ (eval (PySem.Expr.ListComp _ _ _ _) _) _ _ _); refine hold ?_) | walk1 | (dsimp only; walk1) | fail "no step"))
        refine item_at (l := [.str ⟨#[q.1]⟩ t1, .str q.2 t2]) ⟨_, kp _ _ (hpr _ hgm), rfl, _, rfl⟩ (by decide) (by show (1 : Int) < 2; decide) (by show 2 < 1000; decide) ?_
        intro x hx
        obtain rfl := Option.some.inj hx
        exact ⟨⟨a1, _, _, t1, t2, rfl, (show ∀ p ∈ prs, h2.get? p.1 = some p.2 from hprs) _ hgm, rfl⟩, _, _, rfl, fun _ _ e => e⟩
      intro D2 h6 tk6 ys2 F7 kp7 hD7 hl7 hG7
      have N7 : News s.heap _ h6 ((_, _) :: (Dr, _) :: (D, _) :: (prs ++ own)) := fun p hp => news_keeps N6 kp7 p (List.mem_cons_of_mem _ hp)
      obtain ⟨z7, hz7, hz7'⟩ := pair_snd hPk hG7
      obtain ⟨ys2⟩ := ys2
      obtain rfl : ys2 = strValues z7 := hz7
      have hl7' := hl7.isList
      clear FF NN F6 N6 hpr hl7 hG7
      (repeat' (first | (k_unfold; (try dsimp only)) | ((with_reducible show wpAny _ _ (eval (PySem.Expr.ListComp _ _ _ _) _) _ _ _); refine hold ?_) | walk1 | (dsimp only; walk1) | fail "no step"))
      refine PySem.SC.join (l := z7) (texts := sgk.map (·.2)) hl7' hz7' (joinOk_empty fk.small (by omega)) ?_
      intro t8 k8
      show wpAny _ _ _ _ _ _
      rw [show Txt.join (Str.ofString "") (sgk.map (·.2)) = M from fM.eq]
      clear hl7' hz7'
      (repeat' (first | (k_unfold; (try dsimp only)) | ((with_reducible show wpAny _ _ (eval (PySem.Expr.ListComp _ _ _ _) _) _ _ _); refine hold ?_) | walk1 | (dsimp only; walk1) | fail "no step"))
      clear kp7 hD7
      refine wpAny_call (spec_cut (by show A.depth + 1 < 400; omega) (by exact X.keeps F7.keep) (by exact T.keeps F7.keep) (by omega) fun h8 tk8 a8 z1 z2 t9 t10 ez1 ez2 kp8 hg8 => ?_)
      rw [ez1, ez2, ← fc.ueq, ← fc.veq] at hg8
      have F8 := fr_keeps F7 kp8
      have N8 := news_keeps N7 kp8
      clear F7 N7 ez1 ez2 kp8
      (try dsimp only)
      refine ne_pair (N8.get (by k_mem)) hg8 fc.uok fc.vok (by exact hu) ?_
      have N8 : News s.heap _ h8 ((Dr, _) :: (D, _) :: (prs ++ own)) := fun p hp => N8 p (List.mem_cons_of_mem _ hp)
      clear hg8
      (try dsimp only)
      (repeat' (first | (k_unfold; (try dsimp only)) | ((with_reducible show wpAny _ _ (eval (PySem.Expr.ListComp _ _ _ _) _) _ _ _); refine hold ?_) | walk1 | (dsimp only; walk1) | fail "no step"))
      unfold Hold
      rename Fr _ _ _ _ => FF
      rename News _ _ _ _ => NN
      refine comp_list (GFst h2) FF ?g1 ?g2 ?g3 ?g4 ?g5 ?g6 ?g7
      case g1 => rfl
      case g2 => decide
      case g3 => rfl
      case g4 => decide
      case g5 => rfl
      case g7 => intro _; rfl
      (repeat' (first | (k_unfold; (try dsimp only)) | ((with_reducible show wpAny _ _ (eval (PySem.Expr.ListComp _ _ _ _) _) _ _ _); refine hold ?_) | walk1 | (dsimp only; walk1) | fail "no step"))
      rename Fr _ _ _ _ => F6
      rename News _ _ _ _ => N6
      have hpr : ∀ p ∈ prs, _ := fun p hp => (N6 p (by simp [hp])).1
      unfold Hold
      refine ⟨_, its.take k.toNat, rfl, hh, by rw [List.length_take]; omega, F6, slice_take its hk2.1 ▸ N6.isList (by k_mem), ?eltb, ?donb⟩
      case eltb =>
        intro C v9 s₃ m₃ E' hv F₃ hm kp
        obtain ⟨q, a1, t1, t2, rfl, hgm, _⟩ := mem_pair hP0 (List.mem_of_mem_take hv)
        clear FF NN F6 N6
        (repeat' (first | (k_unfold; (try dsimp only)) | ((with_reducible show wpAny _ _ (eval (PySem.Expr.ListComp _ _ _ _) _) _ _ _); refine hold ?_) | walk1 | (dsimp only; walk1) | fail "no step"))
        refine wpAny_Name (wpAny_loadName_local rfl rfl F₃.ns hm ?_)
        (repeat' (first | (k_unfold; (try dsimp only)) | ((with_reducible show wpAny _ _ (eval (PySem.Expr.ListComp _ _ _ _) _) _ _ _); refine hold ?_) | walk1 | (dsimp only; walk1) | fail "no step"))
        refine item_at (l := [.str ⟨#[q.1]⟩ t1, .str q.2 t2]) ⟨_, kp _ _ (hpr _ hgm), rfl, _, rfl⟩ (by decide) (by show (0 : Int) < 2; decide) (by show 2 < 1000; decide) ?_
        intro x hx
        obtain rfl := Option.some.inj hx
        exact ⟨⟨a1, _, _, t1, t2, rfl, (show ∀ p ∈ prs, h2.get? p.1 = some p.2 from hprs) _ hgm, rfl⟩, _, _, rfl, fun _ _ e => e⟩
      intro D10 h10 tk10 ys10 F10 kp10 hD10 hl10 hG10
      have N10 : News s.heap _ h10 ((Dr, _) :: (D, _) :: (prs ++ own)) := fun p hp => news_keeps N6 kp10 p (List.mem_cons_of_mem _ hp)
      obtain ⟨z10, hz10, hz10'⟩ := pair_fst hPk hG10
      obtain ⟨ys10⟩ := ys10
      obtain rfl : ys10 = strValues z10 := hz10
      have hl10' := hl10.isList
      clear FF NN F6 N6 hpr hl10 hG10 kp10 hD10
      (repeat' (first | (k_unfold; (try dsimp only)) | ((with_reducible show wpAny _ _ (eval (PySem.Expr.ListComp _ _ _ _) _) _ _ _); refine hold ?_) | walk1 | (dsimp only; walk1) | fail "no step"))
      refine PySem.SC.join (l := z10) (texts := sgk.map fun q => ⟨#[q.1]⟩) hl10' hz10' (joinOk_empty (B := 1) (by intro y hy; obtain ⟨q, _, rfl⟩ := List.mem_map.mp hy; exact Nat.le_refl _) (by rw [List.length_map]; omega)) ?_
      intro t11 k11
      show wpAny _ _ _ _ _ _
      rw [show (sgk.map fun q => (⟨#[q.1]⟩ : Str)) = (sgk.map (·.1)).map (fun c => ⟨#[c]⟩) by rw [List.map_map]; rfl, join_signs]
      obtain ⟨S, fS⟩ : ∃ S, IsCodes sgk S := ⟨codesT sgk, ⟨rfl, codes_len hlk⟩⟩
      have hSl := fS.len
      rw [show (⟨(sgk.map (·.1)).toArray⟩ : Str) = S from fS.eq]
      clear hl10' hz10'
      (repeat' (first | (k_unfold; (try dsimp only)) | ((with_reducible show wpAny _ _ (eval (PySem.Expr.ListComp _ _ _ _) _) _ _ _); refine hold ?_) | walk1 | (dsimp only; walk1) | fail "no step"))
      refine wpAny_call (spec_splitext (by show A.depth + 1 < 400; omega) (by exact X.keeps F10.keep) (by exact T.keeps F10.keep) (by omega) fun h12 tk12 a12 u2 v2 t12 t13 hs12 kp12 hg12 => ?_)
      have fe : EndOf sgk S v2 := endOf fk.ok hlk fS hs12
      have F12 := fr_keeps F10 kp12
      have N12 := news_keeps N10 kp12
      clear F10 N10 hs12 kp12
      (try dsimp only)
      (repeat' (first | (k_unfold; (try dsimp only)) | ((with_reducible show wpAny _ _ (eval (PySem.Expr.ListComp _ _ _ _) _) _ _ _); refine hold ?_) | walk1 | (dsimp only; walk1) | fail "no step"))
      refine item_at (l := [.str u2 t12, .str v2 t13]) ⟨_, hg12, rfl, _, rfl⟩ (by decide) (by show (1 : Int) < 2; decide) (by show 2 < 1000; decide) ?_
      intro x hx
      obtain rfl := Option.some.inj hx
      clear hg12 hx
      (repeat' (first | (k_unfold; (try dsimp only)) | ((with_reducible show wpAny _ _ (eval (PySem.Expr.ListComp _ _ _ _) _) _ _ _); refine hold ?_) | walk1 | (dsimp only; walk1) | fail "no step"))
      rename Fr _ _ _ _ => F14
      rename News _ _ _ _ => N14
      refine wpAny_call (spec_prep (by show A.depth + 1 < 399; omega) (by exact hh) (by exact X.keeps F14.keep) (by exact T.keeps F14.keep) fe.small fun h15 tk15 t15 kp15 => ?_)
      obtain ⟨P, fP⟩ : ∃ P, IsPrep v2 P := ⟨prepT v2, ⟨rfl⟩⟩
      rw [show prepT v2 = P from fP.eq]
      have F15 := fr_keeps F14 kp15
      have N15 : News s.heap _ h15 ((Dr, _) :: (D, _) :: (prs ++ own)) := news_keeps N14 kp15
      clear F14 N14 kp15
      (try dsimp only)
      (repeat' (first | (k_unfold; (try dsimp only)) | ((with_reducible show wpAny _ _ (eval (PySem.Expr.ListComp _ _ _ _) _) _ _ _); refine hold ?_) | walk1 | (dsimp only; walk1) | fail "no step"))
      rename Fr _ _ _ _ => F16
      rename News _ _ _ _ => N16
      refine wpAny_call (spec_alike (by show A.depth + 1 < 399; omega) (by exact hh) (by exact X.keeps F16.keep) (by exact T.keeps F16.keep) (its := its.take k.toNat) (n := 0) (sg := sgk) (by have e := N16.get List.mem_cons_self; rw [slice_take its hk2.1] at e; exact e) (pair_at (fun p hp => N16 p (by simp [hp])) hQk) (by rw [List.length_take]; omega) fun h17 tk17 kp17 => ?_)
      rw [← lawB fk.ok fM fS fc fe fP]
      generalize (v == P) = B
      have F17 := fr_keeps F16 kp17
      have N17 : News s.heap _ h17 ((Dr, _) :: (D, _) :: (prs ++ own)) := fun p hp => news_keeps N16 kp17 p (List.mem_cons_of_mem _ hp)
      clear F16 N16 kp17
      (try dsimp only)
      cases B
      all_goals
        (repeat' (first | (k_unfold; (try dsimp only)) | ((with_reducible show wpAny _ _ (eval (PySem.Expr.ListComp _ _ _ _) _) _ _ _); refine hold ?_) | walk1 | (dsimp only; walk1) | fail "no step"))
      all_goals
        refine PySem.W.InvEndN.intro F17 N17 ⟨rfl, by rfl, by rfl⟩ (by rfl) (fun p hp => ?_) (fun p hp => ?_)
        · rcases List.mem_cons.mp hp with rfl | hp
          · exact List.mem_cons_self
          · rcases List.mem_cons.mp hp with rfl | hp
            · exact List.mem_cons_of_mem _ List.mem_cons_self
            · exact List.mem_cons_of_mem _ (List.mem_cons_of_mem _ (List.mem_append_left _ hp))
        · exact List.mem_cons_of_mem _ (List.mem_cons_of_mem _ (List.mem_append_right _ hp))
end
end Mine

end WR_
section FIN0_
open PySem PySem.W PyProof.Rows
set_option maxRecDepth 100000
set_option Elab.async false
set_option linter.unusedVariables false
set_option pp.deepTerms false
set_option pp.deepTerms.threshold 8
set_option maxHeartbeats 40000000 in
theorem PySem.Challenge.cw_ij0132_01_holds : PySem.Challenge.rw_ij0132_01.Holds := by
  w_on
  o_law
  refine PySem.W.holds_open (q := Mine.viewQ) (loose := Mine.looseQ) (Xt := Mine.XtQ) (XP := XL Mine.viewQ []) (Yf := Mine.HK.obs) (Ya := Mine.HK.val) (YP := Mine.HK.says) (N := 20000) Mine.tLeft Mine.HK.of Mine.HK.keeps (fun s e => xl_of s (Bool.and_eq_true_iff.mp e).1) XL.keeps (by rfl) (by rfl) (by rfl) (fun s e => recFacts_of (Bool.and_eq_true_iff.mp e).2) (by rfl) (by first | assumption | decide +kernel) (by decide +kernel) ⟨rfl, rfl, rfl, rfl, rfl, by decide +kernel⟩ ?hw ?hc
  case hw => w_witness2
  k_go0
  all_goals (try k_fold)
  rename (Mine.K _).In _ => KX
  rename Top _ _ _ _ _ _ => TT
  rename Heap.IsList _ _ _ => hL
  rename IntsAre _ _ => hI
  rename Fr _ _ _ _ => FF
  rename ¬ _ < _ => hn
  have hlen := hI.length
  refine wpAny_mono (Mine.law_body (w := _) (A := callerA) (E := fun _ _ => False) (by decide) rfl KX TT hL hI (by omega) FF (Mine.law_rest (by decide) rfl (Nat.le_of_ble_eq_true rfl) KX TT ?_)) (fun _ _ q => q) (fun _ _ f => f.elim)
  intro h' tk kp
  have F2 := Mine.fr_keeps FF (fun b o e => e)
  refine ⟨.inl ⟨_, .bool true, [], rfl, ?raisesN, .bool _, ?postP, fun _ => ⟨.nil, fun _ h => nomatch h⟩⟩, kp, rfl, by assumption⟩
  case raisesN => intro cls; rfl
  case postP => exact postW_of (by wrow_shape) (by wtm_val) (by str_meet; first | done | w_fin)

end FIN0_
