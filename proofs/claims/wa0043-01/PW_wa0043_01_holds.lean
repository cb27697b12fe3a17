import PyProof.Rows.All
import Wide.All
import OpenK.AllK
import Wide.FinOn
import PySem.Challenge.RW_wa0043_01
set_option Elab.async false
section
open PySem PySem.W PyProof.Rows
set_option linter.all false
set_option maxRecDepth 100000
namespace LW
abbrev P0 : Program := PySem.Challenge.pw_wa0043_01
abbrev z0 : Pos := ⟨0, 0, 0, 0⟩
abbrev B0 : List Frame := [topFrame z0]
abbrev seg (w : World) (n : Nat) (s : Shared) (t : Thread) := segRun treeTable P0 w 11 (some (.ref 6)) 1 n s t

/-- the tree m, run ahead of anything, goes from s to s' with the value a, in at most b steps -/
def Go (w : World) {α : Type} (m : Sem α) (s : Shared) (a : α) (s' : Shared) (b : Nat) : Prop :=
  ∃ n, n ≤ b ∧ ∀ (K : α → Sem Fin) (H : Value → Sem Fin) (gd : Bool → Bool) (lv : List Value → List Value) (c : Code) (p : Pos), ∃ p', ∀ N, seg w (N + n) s ⟨m.wrap K H gd lv, c, p, B0⟩ = seg w N s' ⟨K a, c, p', B0⟩

section
variable {w : World} {α β : Type} {s s' s'' : Shared} {a : α} {b : β}
theorem go_pure : Go w (Sem.pure a) s a s 0 := ⟨0, Nat.le_refl _, fun K H gd lv c p => ⟨p, fun N => rfl⟩⟩
theorem go_pure' : Go w (pure a : Sem α) s a s 0 := go_pure
theorem go_le {m : Sem α} {x y : Nat} (h : Go w m s a s' x) (le : x ≤ y) : Go w m s a s' y := let ⟨n, hn, k⟩ := h; ⟨n, Nat.le_trans hn le, k⟩
theorem go_bind' {m : Sem α} {f : α → Sem β} {x y : Nat} (h : Go w m s a s' x) (k : Go w (f a) s' b s'' y) : Go w (m.bind f) s b s'' (x + y) := by
  obtain ⟨n, hn, h⟩ := h
  obtain ⟨n', hn', k⟩ := k
  refine ⟨n' + n, by omega, fun K H gd lv c p => ?_⟩
  obtain ⟨p1, h⟩ := h (fun a => (f a).wrap K H gd lv) H gd lv c p
  obtain ⟨p2, k⟩ := k K H gd lv c p1
  refine ⟨p2, fun N => ?_⟩
  rw [Sem.bind_eq_wrap, Sem.wrap_wrap, ← Nat.add_assoc]
  exact (h (N + n')).trans (k N)
theorem go_bind {m : Sem α} {f : α → Sem β} {x y : Nat} (h : Go w m s a s' x) (k : Go w (f a) s' b s'' y) : Go w (m >>= f) s b s'' (x + y) := go_bind' h k
theorem go_keep {m : Sem α} {vs : List Value} {x : Nat} (h : Go w m s a s' x) : Go w (m.keep vs) s a s' x := by
  obtain ⟨n, hn, h⟩ := h
  refine ⟨n, hn, fun K H gd lv c p => ?_⟩
  obtain ⟨p1, h⟩ := h K H gd (fun l => lv (vs ++ l)) c p
  refine ⟨p1, fun N => ?_⟩
  rw [Sem.keep_eq_wrap, Sem.wrap_wrap]
  exact h N
theorem go_holding {m : Sem α} {vs : List Value} {x : Nat} (h : Go w m s a s' x) : Go w (holding vs m) s a s' x := by
  unfold holding
  split
  · exact h
  · exact go_keep h
theorem go_onRaise {m : Sem α} {k : Value → Sem Unit} {x : Nat} (h : Go w m s a s' x) : Go w (m.onRaise k) s a s' x := by
  obtain ⟨n, hn, h⟩ := h
  refine ⟨n, hn, fun K H gd lv c p => ?_⟩
  obtain ⟨p1, h⟩ := h K (fun e => ((k e).bind fun _ => (.raise e : Sem α)).wrap K H gd lv) gd lv c p
  refine ⟨p1, fun N => ?_⟩
  rw [Sem.onRaise_eq_wrap, Sem.wrap_wrap]
  exact h N
theorem go_step {m m' : Sem α} {x : Nat} (h : Go w m' s' a s'' x)
    (e : ∀ (K : α → Sem Fin) (H : Value → Sem Fin) (gd : Bool → Bool) (lv : List Value → List Value) (c : Code) (p : Pos), ∃ p', ∀ N, seg w (N + 1) s ⟨m.wrap K H gd lv, c, p, B0⟩ = seg w N s' ⟨m'.wrap K H gd lv, c, p', B0⟩) : Go w m s a s'' (x + 1) := by
  obtain ⟨n, hn, h⟩ := h
  refine ⟨n + 1, by omega, fun K H gd lv c p => ?_⟩
  obtain ⟨p0, e⟩ := e K H gd lv c p
  obtain ⟨p1, h⟩ := h K H gd lv c p0
  exact ⟨p1, fun N => by rw [← Nat.add_assoc]; exact (e (N + n)).trans (h N)⟩
theorem go_rule {t : String} : Go w (rule t) s () s 1 := go_step (m' := .pure ()) go_pure fun K H gd lv c p => ⟨p, fun N => rfl⟩
theorem go_at {q : Pos} : Go w (standAt q) s () s 1 := go_step (m' := .pure ()) go_pure fun K H gd lv c p => ⟨q, fun N => rfl⟩
theorem go_point : Go w point s () s 1 := go_step (m' := .pure ()) go_pure fun K H gd lv c p => ⟨p, fun N => rfl⟩
theorem go_fresh : Go w fresh s s.toks { s with toks := s.toks + 1 } 1 := go_step (m' := .pure _) go_pure fun K H gd lv c p => ⟨p, fun N => rfl⟩
theorem go_ask : Go w ask s ⟨P0, w.params⟩ s 1 := go_step (m' := .pure _) go_pure fun K H gd lv c p => ⟨p, fun N => rfl⟩
theorem go_alloc {o : Obj} : Go w (alloc o) s s.heap.objs.size { s with heap := s.heap.push o } 1 := go_step (m' := .pure _) go_pure fun K H gd lv c p => ⟨p, fun N => rfl⟩
theorem go_loadPart {d : Addr} {q : Option Value} {o : Obj} (h : s.heap.get? d = some o) : Go w (loadPart d q) s o s 1 := go_step (m' := .pure _) go_pure fun K H gd lv c p => ⟨p, fun N => by
  show (match step (denote treeTable) P0 w s ⟨.load d q fun x => (Sem.pure x).wrap K H gd lv, c, p, B0⟩ with | .go s' t' => seg w N s' t' | .halt _ _ => none) = _
  simp only [step, h]⟩
theorem go_load {d : Addr} {o : Obj} (h : s.heap.get? d = some o) : Go w (load d) s o s 1 := go_loadPart h
theorem go_updatePart {d : Addr} {q : Option Value} {f : Obj → Obj} (h : (s.heap.get? d).isSome = true) (hd : Nat.ble 11 d = true) : Go w (updatePart d q f) s () { s with heap := s.heap.update d f } 1 := go_step (m' := .pure ()) go_pure fun K H gd lv c p => ⟨p, fun N => by
  show (match stepOk 11 (some (.ref 6)) ⟨.update d q f fun x => (Sem.pure x).wrap K H gd lv, c, p, B0⟩ with | false => none | true => match step (denote treeTable) P0 w s ⟨.update d q f fun x => (Sem.pure x).wrap K H gd lv, c, p, B0⟩ with | .go s' t' => seg w N s' t' | .halt _ _ => none) = _
  have e : stepOk 11 (some (.ref 6)) ⟨.update d q f fun x => (Sem.pure x).wrap K H gd lv, c, p, B0⟩ = true := by
    show (_ && (((Nat.ble 11 d || _) || _) || _)) = true
    rw [hd]; rfl
  rw [e]
  simp only [step, h, if_true]⟩

/-- a tree that reads one object alone -/
def peek1 (o : Obj) (S : Setting) : Nat → Sem α → Option (α × List Addr)
  | _, .pure a => some (a, [])
  | 0, _ => none
  | n + 1, .rule _ k => peek1 o S n (k ())
  | n + 1, .point _ k => peek1 o S n (k ())
  | n + 1, .ask k => peek1 o S n (k S)
  | n + 1, .load a _ k => (peek1 o S n (k o)).map fun x => (x.1, a :: x.2)
  | _, _ => none
theorem go_peek1 {o : Obj} : ∀ (n : Nat) {t : Sem α} {l : List Addr}, peek1 o ⟨P0, w.params⟩ n t = some (a, l) → (∀ x ∈ l, s.heap.get? x = some o) → Go w t s a s n := by
  intro n
  induction n with
  | zero =>
    intro t l e h
    cases t with
    | pure b => cases e; exact go_pure
    | _ => exact absurd e (by simp [peek1])
  | succ n ih =>
    intro t l e h
    cases t with
    | pure b => cases e; exact go_le go_pure (Nat.zero_le _)
    | rule t k => exact go_step (ih (t := k ()) e h) fun K H gd lv c p => ⟨p, fun N => rfl⟩
    | point t k => exact go_step (ih (t := k ()) e h) fun K H gd lv c p => ⟨p, fun N => rfl⟩
    | ask k => exact go_step (ih (t := k _) e h) fun K H gd lv c p => ⟨p, fun N => rfl⟩
    | load d q k =>
      obtain ⟨⟨a', l'⟩, e1, e2⟩ := Option.map_eq_some_iff.mp e
      cases e2
      have hd := h d (.head _)
      refine go_step (ih (t := k o) e1 fun x hx => h x (.tail _ hx)) fun K H gd lv c p => ⟨p, fun N => ?_⟩
      show (match step (denote treeTable) P0 w s ⟨.load d q fun x => (k x).wrap K H gd lv, c, p, B0⟩ with | .go s' t' => seg w N s' t' | .halt _ _ => none) = _
      simp only [step, hd]
    | _ => exact absurd e (by simp [peek1])

theorem byFollow (row : String) {P : World → Prop} (h : ∀ (w : World) (b : Bool), P (w.withFollow row b)) (w : World) : P w := by
  have := h w (w.params.followText row); rwa [World.withFollow_self] at this
theorem hash_steps {k : Int} {t : Tok} (K : Int → Sem Fin) (H : Value → Sem Fin) (gd : Bool → Bool) (lv : List Value → List Value) (c : Code) (p : Pos) (N : Nat) (s : Shared) :
    ∀ w, seg w (N + 5) s ⟨(pyHash (.int k t)).wrap K H gd lv, c, p, B0⟩ = seg w N { s with toks := s.toks + 1 } ⟨(pyHashByItsType.reduced (rawHash k)).wrap K H gd lv, c, p, B0⟩ := by
  refine byFollow "special-get-raises" fun w b => ?_
  cases b
  · delta seg
    rw [Fast.te14374325043358763698, Fast.te14364793385576792824]
    kernel_rfl
  · delta seg
    rw [Fast.te14374325043358763698, Fast.te14364793385576792824]
    kernel_rfl
theorem reduced_raw (k : Int) : pyHashByItsType.reduced (rawHash k) = Sem.pure (hashInt k) := by
  have hr := rawHash_range k
  unfold pyHashByItsType.reduced
  rw [if_pos (by rw [decide_eq_true hr.1, decide_eq_true hr.2]; rfl)]
  rfl
theorem go_hash {k : Int} {t : Tok} : Go w (pyHash (.int k t)) s (hashInt k) { s with toks := s.toks + 1 } 5 :=
  ⟨5, Nat.le_refl _, fun K H gd lv c p => ⟨p, fun N => by rw [hash_steps, reduced_raw]; rfl⟩⟩
end
end LW
end
section
open PySem PySem.W PyProof.Rows
set_option linter.all false
set_option maxRecDepth 100000
namespace LW
abbrev dO (es : List DictEntry) (n : Nat) : Obj := ⟨.type "dict", none, .dict es.toArray n, #[]⟩

theorem update_const {h : Heap} {d : Addr} {o : Obj} (f : Obj → Obj) (ho : h.get? d = some o) : h.update d f = h.update d (fun _ => f o) := by
  obtain ⟨objs, l⟩ := h
  have e : objs[d]? = some o := by
    unfold Heap.get? at ho
    dsimp only at ho
    split at ho
    · cases ho
    · exact ho
  show Heap.mk (objs.modify d f) l = Heap.mk (objs.modify d _) l
  congr 1
  apply Array.ext_getElem?
  intro i
  rw [Array.getElem?_modify, Array.getElem?_modify]
  by_cases hi : d = i
  · subst hi; simp [e]
  · simp [hi]
theorem update_update (h : Heap) (d : Addr) (x y : Obj) : (h.update d (fun _ => x)).update d (fun _ => y) = h.update d (fun _ => y) := by
  obtain ⟨objs, l⟩ := h
  show Heap.mk ((objs.modify d _).modify d _) l = Heap.mk (objs.modify d _) l
  congr 1
  apply Array.ext_getElem?
  intro i
  simp only [Array.getElem?_modify]
  by_cases hi : d = i
  · subst hi; cases objs[d]? <;> simp
  · simp [hi]
theorem get_upd {h : Heap} {d : Addr} {o x : Obj} (ho : h.get? d = some o) (hx : x.isFreed = false) : (h.update d (fun _ => x)).get? d = some x := Heap.get?_update_self _ ho hx

/-- no entry bears this hash -/
def NoHash (es : List DictEntry) (h : Int) : Prop := ∀ e ∈ es, e.hash ≠ h
theorem places_none {es : List DictEntry} {h : Int} (n : NoHash es h) : placesWithHash es.toArray.size (fun i => es.toArray[i]?.map (·.hash)) h = [] := by
  unfold placesWithHash
  rw [List.filter_eq_nil_iff]
  intro i _
  simp only [List.getElem?_toArray]
  cases e : es[i]? with
  | none => simp
  | some x =>
    have := n x (List.mem_of_getElem? e)
    simp [this]

section
variable {w : World} {s : Shared} {d : Addr} {es : List DictEntry} {n : Nat} {k : Int} {t : Tok} {h : Int} {v : Value}
theorem go_entries {q : Option Value} (ho : s.heap.get? d = some (dO es n)) : Go w (dictEntries d q) s es.toArray s 1 := by
  unfold dictEntries
  exact go_le (go_bind (go_loadPart ho) go_pure') (by decide)
theorem go_epoch {q : Option Value} (ho : s.heap.get? d = some (dO es n)) : Go w (dictEpoch d q) s n s 1 := by
  unfold dictEpoch
  exact go_le (go_bind (go_loadPart ho) go_pure') (by decide)
theorem go_find (ho : s.heap.get? d = some (dO es n)) (hn : NoHash es h) : Go w (dictFind d (.int k t) h) s none s 1 := by
  unfold dictFind
  refine go_holding ?_
  refine go_bind (y := 0) (go_entries ho) ?_
  dsimp only
  rw [places_none hn]
  exact go_pure'
theorem go_updKeys {e : DictEntry} {q : Option Value} (ho : s.heap.get? d = some (dO es n)) (hd : Nat.ble 11 d = true) (hz : es.length ≤ sizeLine) :
    Go w (updateDictKeys d (·.push e) q) s () { s with heap := s.heap.update d (fun _ => dO (es ++ [e]) (n + 1)) } 3 := by
  have hu : s.heap.update d (Obj.mapDictKeys (·.push e)) = s.heap.update d (fun _ => dO (es ++ [e]) (n + 1)) := by
    rw [update_const _ ho]
    show s.heap.update d (fun _ => (⟨.type "dict", none, .dict (es.toArray.push e) (n + 1), #[]⟩ : Obj)) = _
    rw [List.push_toArray]
  unfold updateDictKeys
  refine go_bind (y := 2) (go_loadPart ho) ?_
  dsimp only
  refine go_bind (y := 1) (go_updatePart (by rw [ho]; rfl) hd) ?_
  rw [hu]
  unfold lookBehind
  refine go_le (go_bind (go_loadPart (o := dO (es ++ [e]) (n + 1)) (get_upd ho rfl)) (y := 0) ?_) (by decide)
  have : (dO (es ++ [e]) (n + 1)).data.pastItsLine = none := by
    show (if (es ++ [e]).toArray.size > sizeLine + 1 then some "dict:memory" else none) = none
    rw [if_neg]
    simp only [List.size_toArray, List.length_append, List.length_cons, List.length_nil]
    omega
  rw [this]
  exact go_pure'

theorem go_dictSet (ho : s.heap.get? d = some (dO es n)) (hd : Nat.ble 11 d = true) (hz : es.length ≤ sizeLine) (hn : NoHash es (hashInt k)) :
    Go w (dictSet d (.int k t) v) s () { s with heap := s.heap.update d (fun _ => dO (es ++ [⟨hashInt k, .int k t, v⟩]) (n + 1)), toks := s.toks + 1 } 10 := by
  unfold dictSet
  refine go_holding ?_
  refine go_bind (y := 5) go_hash ?_
  unfold dictSetHashed
  refine go_holding ?_
  refine go_bind (y := 4) (go_find (s := { s with toks := s.toks + 1 }) ho hn) ?_
  dsimp only
  exact go_bind (x := 1) (y := 3) go_rule (go_updKeys (s := { s with toks := s.toks + 1 }) ho hd hz)

theorem go_dictPut (ho : s.heap.get? d = some (dO es n)) (hd : Nat.ble 11 d = true) (hz : es.length ≤ sizeLine) (hn : NoHash es h) :
    Go w (dictPut d h (.int k t) v) s () { s with heap := s.heap.update d (fun _ => dO (es ++ [⟨h, .int k t, v⟩]) (n + 1)) } 4 := by
  unfold dictPut
  exact go_bind (x := 1) (y := 3) (go_find ho hn) (go_updKeys ho hd hz)
end
end LW
end
section
open PySem PySem.W PyProof.Rows
set_option linter.all false
set_option maxRecDepth 100000
namespace LW
/-- the entries of a display's part, laid one by one | at once -/
def ent3 : Nat → List (Int × Str) → List DictEntry
  | _, [] => []
  | t, (k, v) :: r => ⟨hashInt k, .int k t, .str v (t + 1)⟩ :: ent3 (t + 3) r
def ent2 : Nat → List (Int × Str) → List DictEntry
  | _, [] => []
  | t, (k, v) :: r => ⟨hashInt k, .int k t, .str v (t + 1)⟩ :: ent2 (t + 2) r
theorem ent3_len : ∀ (l : List (Int × Str)) (t : Nat), (ent3 t l).length = l.length
  | [], _ => rfl
  | (k, v) :: r, t => by simp only [ent3, List.length_cons, ent3_len r]
theorem ent2_len : ∀ (l : List (Int × Str)) (t : Nat), (ent2 t l).length = l.length
  | [], _ => rfl
  | (k, v) :: r, t => by simp only [ent2, List.length_cons, ent2_len r]
abbrev PW (es : List DictEntry) : Prop := es.Pairwise fun a b => a.hash ≠ b.hash
theorem pw_no {es r : List DictEntry} {e : DictEntry} (h : PW (es ++ e :: r)) : NoHash es e.hash := fun x hx => (List.pairwise_append.mp h).2.2 x hx e (.head _)
theorem pw_next {es r : List DictEntry} {e : DictEntry} (h : PW (es ++ e :: r)) : PW ((es ++ [e]) ++ r) := by rw [List.append_assoc]; exact h

abbrev mkK (x : Int × Str) : Sem Value := mkInt x.1
abbrev mkV (q : Pos) (x : Int × Str) : Sem Value := do let y ← mkText x.2; standAt q; pure y
abbrev mkP (q : Pos) (x : Int × Str) : Sem Value × Sem Value := (mkK x, mkV q x)
theorem update_same {h : Heap} {d : Addr} {o : Obj} (ho : h.get? d = some o) : h.update d (fun _ => o) = h := by
  obtain ⟨objs, l⟩ := h
  have e : objs[d]? = some o := by
    unfold Heap.get? at ho
    dsimp only at ho
    split at ho
    · cases ho
    · exact ho
  show Heap.mk (objs.modify d _) l = Heap.mk objs l
  congr 1
  apply Array.ext_getElem?
  intro i
  rw [Array.getElem?_modify]
  by_cases hi : d = i
  · subst hi; simp [e]
  · simp [hi]
section
variable {w : World} {s : Shared} {d : Addr} {es : List DictEntry} {n : Nat} {q : Pos}
theorem go_mkK {x : Int × Str} : Go w (mkK x) s (.int x.1 s.toks) { s with toks := s.toks + 1 } 1 := go_bind (x := 1) (y := 0) go_fresh go_pure'
theorem go_mkV {x : Int × Str} : Go w (mkV q x) s (.str x.2 s.toks) { s with toks := s.toks + 1 } 2 :=
  go_bind (x := 1) (y := 1) (go_bind (x := 1) (y := 0) go_fresh go_pure') (go_bind (x := 1) (y := 0) go_at go_pure')

theorem go_long : ∀ (l : List (Int × Str)) (s : Shared) (es : List DictEntry) (n : Nat), s.heap.get? d = some (dO es n) → Nat.ble 11 d = true → es.length + l.length ≤ sizeLine → PW (es ++ ent3 s.toks l) →
    Go w (forIn (l.map (mkP q)) PUnit.unit fun (x : Sem Value × Sem Value) (__s : PUnit) => (match x with
                | (k, v) => do
                  let kv ← k
                  let vv ← holding [kv] v
                  holding [kv, vv] (dictSet d kv vv)
                  pure (ForInStep.yield PUnit.unit) : Sem (ForInStep PUnit))) s PUnit.unit { s with heap := s.heap.update d (fun _ => dO (es ++ ent3 s.toks l) (n + l.length)), toks := s.toks + 3 * l.length } (13 * l.length)
  | [], s, es, n, ho, hd, hz, hp => by
    have e : ({ s with heap := s.heap.update d (fun _ => dO (es ++ ent3 s.toks []) (n + ([] : List (Int × Str)).length)), toks := s.toks + 3 * ([] : List (Int × Str)).length } : Shared) = s := by
      show ({ s with heap := s.heap.update d (fun _ => dO (es ++ []) (n + 0)), toks := s.toks + 3 * 0 } : Shared) = s
      rw [List.append_nil, Nat.add_zero, update_same ho]
      rfl
    rw [e]
    exact go_pure'
  | x :: r, s, es, n, ho, hd, hz, hp => by
    rw [List.map_cons, List.forIn_cons]
    have hz' : es.length ≤ sizeLine := by simp only [List.length_cons] at hz; omega
    have s1 := go_dictSet (w := w) (s := { s with toks := s.toks + 2 }) (d := d) (es := es) (n := n) (k := x.1) (t := s.toks) (v := .str x.2 (s.toks + 1)) ho hd hz' (pw_no (e := ⟨hashInt x.1, .int x.1 s.toks, .str x.2 (s.toks + 1)⟩) hp)
    have ih := go_long r { s with heap := s.heap.update d (fun _ => dO (es ++ [⟨hashInt x.1, .int x.1 s.toks, .str x.2 (s.toks + 1)⟩]) (n + 1)), toks := s.toks + 3 } (es ++ [⟨hashInt x.1, .int x.1 s.toks, .str x.2 (s.toks + 1)⟩]) (n + 1) (get_upd ho rfl) hd
      (by simp only [List.length_append, List.length_cons, List.length_nil] at hz ⊢; omega) (pw_next (e := ⟨hashInt x.1, .int x.1 s.toks, .str x.2 (s.toks + 1)⟩) hp)
    have e : ({ s with heap := s.heap.update d (fun _ => dO (es ++ ent3 s.toks (x :: r)) (n + (x :: r).length)), toks := s.toks + 3 * (x :: r).length } : Shared) =
        { s with heap := (s.heap.update d (fun _ => dO (es ++ [⟨hashInt x.1, .int x.1 s.toks, .str x.2 (s.toks + 1)⟩]) (n + 1))).update d (fun _ => dO ((es ++ [⟨hashInt x.1, .int x.1 s.toks, .str x.2 (s.toks + 1)⟩]) ++ ent3 (s.toks + 3) r) (n + 1 + r.length)), toks := s.toks + 3 + 3 * r.length } := by
      rw [update_update, List.append_assoc]
      have : n + (x :: r).length = n + 1 + r.length := by rw [List.length_cons]; omega
      rw [this]
      have : s.toks + 3 * (x :: r).length = s.toks + 3 + 3 * r.length := by rw [List.length_cons]; omega
      rw [this]
      rfl
    rw [e]
    refine go_le (go_bind (x := 13) (y := 13 * r.length) (go_bind (x := 1) (y := 12) go_mkK (go_bind (x := 2) (y := 10) (go_holding go_mkV) (go_bind (x := 10) (y := 0) (go_holding s1) go_pure'))) ?_) (by rw [List.length_cons]; omega)
    dsimp only
    exact ih

theorem go_pairs : ∀ (l : List (Int × Str)) (s : Shared), Go w (evalPairs (l.map (mkP q))) s ((ent2 s.toks l).map fun e => (e.key, e.val)) { s with toks := s.toks + 2 * l.length } (3 * l.length)
  | [], s => go_pure'
  | x :: r, s => by
    rw [List.map_cons]
    have ih := go_pairs r { s with toks := s.toks + 2 }
    have e : ({ s with toks := s.toks + 2 * (x :: r).length } : Shared) = { s with toks := s.toks + 2 + 2 * r.length } := by
      have : s.toks + 2 * (x :: r).length = s.toks + 2 + 2 * r.length := by rw [List.length_cons]; omega
      rw [this]
    rw [e]
    unfold evalPairs
    exact go_le (go_bind (x := 1) (y := 2 + 3 * r.length) go_mkK (go_bind (x := 2) (y := 3 * r.length) (go_holding go_mkV) (go_bind (x := 3 * r.length) (y := 0) (go_holding ih) go_pure'))) (by rw [List.length_cons]; omega)

/-- the entries of written pairs -/
def entV (kv : Value × Value) : DictEntry := ⟨match kv.1 with | .int k _ => hashInt k | _ => 0, kv.1, kv.2⟩
theorem go_short : ∀ (l : List (Int × Tok × Value)) (s : Shared) (es : List DictEntry) (n : Nat), s.heap.get? d = some (dO es n) → Nat.ble 11 d = true → es.length + l.length ≤ sizeLine → PW (es ++ l.map fun x => ⟨hashInt x.1, .int x.1 x.2.1, x.2.2⟩) →
    Go w (forIn (l.map fun x => (Value.int x.1 x.2.1, x.2.2)) PUnit.unit fun (x : Value × Value) (__s : PUnit) => (match x with
                    | (k, v) => do
                      dictSet d k v
                      pure (ForInStep.yield PUnit.unit) : Sem (ForInStep PUnit))) s PUnit.unit
      { s with heap := s.heap.update d (fun _ => dO (es ++ l.map fun x => ⟨hashInt x.1, .int x.1 x.2.1, x.2.2⟩) (n + l.length)), toks := s.toks + l.length } (10 * l.length)
  | [], s, es, n, ho, hd, hz, hp => by
    have e : ({ s with heap := s.heap.update d (fun _ => dO (es ++ ([] : List (Int × Tok × Value)).map fun x => ⟨hashInt x.1, .int x.1 x.2.1, x.2.2⟩) (n + ([] : List (Int × Tok × Value)).length)), toks := s.toks + ([] : List (Int × Tok × Value)).length } : Shared) = s := by
      show ({ s with heap := s.heap.update d (fun _ => dO (es ++ []) (n + 0)), toks := s.toks + 0 } : Shared) = s
      rw [List.append_nil, Nat.add_zero, update_same ho]
      rfl
    rw [e]
    exact go_pure'
  | x :: r, s, es, n, ho, hd, hz, hp => by
    rw [List.map_cons, List.forIn_cons]
    have hz' : es.length ≤ sizeLine := by simp only [List.length_cons] at hz; omega
    have s1 := go_dictSet (w := w) (s := s) (d := d) (es := es) (n := n) (k := x.1) (t := x.2.1) (v := x.2.2) ho hd hz' (pw_no (e := ⟨hashInt x.1, .int x.1 x.2.1, x.2.2⟩) hp)
    have ih := go_short r { s with heap := s.heap.update d (fun _ => dO (es ++ [⟨hashInt x.1, .int x.1 x.2.1, x.2.2⟩]) (n + 1)), toks := s.toks + 1 } (es ++ [⟨hashInt x.1, .int x.1 x.2.1, x.2.2⟩]) (n + 1) (get_upd ho rfl) hd
      (by simp only [List.length_append, List.length_cons, List.length_nil] at hz ⊢; omega) (pw_next (e := ⟨hashInt x.1, .int x.1 x.2.1, x.2.2⟩) hp)
    have e : ({ s with heap := s.heap.update d (fun _ => dO (es ++ (x :: r).map fun x => ⟨hashInt x.1, .int x.1 x.2.1, x.2.2⟩) (n + (x :: r).length)), toks := s.toks + (x :: r).length } : Shared) =
        { s with heap := (s.heap.update d (fun _ => dO (es ++ [⟨hashInt x.1, .int x.1 x.2.1, x.2.2⟩]) (n + 1))).update d (fun _ => dO ((es ++ [⟨hashInt x.1, .int x.1 x.2.1, x.2.2⟩]) ++ r.map fun x => ⟨hashInt x.1, .int x.1 x.2.1, x.2.2⟩) (n + 1 + r.length)), toks := s.toks + 1 + r.length } := by
      rw [update_update, List.append_assoc]
      have : n + (x :: r).length = n + 1 + r.length := by rw [List.length_cons]; omega
      rw [this]
      have : s.toks + (x :: r).length = s.toks + 1 + r.length := by rw [List.length_cons]; omega
      rw [this]
      rfl
    rw [e]
    refine go_le (go_bind (x := 10) (y := 10 * r.length) (go_bind (x := 10) (y := 0) s1 go_pure') ?_) (by rw [List.length_cons]; omega)
    dsimp only
    exact ih

theorem get_push {h : Heap} {o : Obj} (hf : o.isFreed = false := by rfl) : (h.push o).get? h.objs.size = some o := Heap.get?_push_size _ hf

/-- a part of more than fifteen pairs: a new dict -/
theorem go_subLong {l : List (Int × Str)} {s : Shared} (h15 : ¬ l.length ≤ 15) (hs : Nat.ble 11 s.heap.objs.size = true) (hz : l.length ≤ sizeLine) (hp : PW (ent3 s.toks l)) :
    Go w (subDict (l.map (mkP q))) s s.heap.objs.size { s with heap := s.heap.push (dO (ent3 s.toks l) l.length), toks := s.toks + 3 * l.length } (2 + 13 * l.length) := by
  unfold subDict
  have G := go_long (w := w) (q := q) (d := s.heap.objs.size) l { s with heap := s.heap.push (dO [] 0) } [] 0 get_push hs (by simpa using hz) hp
  have e : (s.heap.push (dO [] 0)).update s.heap.objs.size (fun _ => dO ([] ++ ent3 s.toks l) (0 + l.length)) = s.heap.push (dO (ent3 s.toks l) l.length) := by
    obtain ⟨⟨objs, lf⟩, _, _, _, _⟩ := s
    show Heap.mk ((objs.push _).modify objs.size _) lf = Heap.mk (objs.push _) lf
    congr 1
    apply Array.ext_getElem?
    intro i
    rw [Array.getElem?_modify, Array.getElem?_push, Array.getElem?_push]
    by_cases hi : i = objs.size
    · subst hi; simp
    · have : ¬ objs.size = i := fun e => hi e.symm
      simp [hi, this]
  have G : Go w (forIn (l.map (mkP q)) PUnit.unit _) { s with heap := s.heap.push (dO [] 0) } PUnit.unit { s with heap := s.heap.push (dO (ent3 s.toks l) l.length), toks := s.toks + 3 * l.length } (13 * l.length) := e ▸ G
  refine go_le (go_bind (x := 1) (y := 1 + 13 * l.length) go_alloc (go_bind (x := 1 + 13 * l.length) (y := 0) (go_holding (a := ()) ?_) go_pure')) (by omega)
  · rw [if_neg (by rw [List.length_map]; exact h15)]
    exact go_bind (x := 1) (y := 13 * l.length) go_rule (go_bind (x := 13 * l.length) (y := 0) G go_pure')

theorem push_update {h : Heap} {x y : Obj} : (h.push x).update h.objs.size (fun _ => y) = h.push y := by
  obtain ⟨objs, lf⟩ := h
  show Heap.mk ((objs.push _).modify objs.size _) lf = Heap.mk (objs.push _) lf
  congr 1
  apply Array.ext_getElem?
  intro i
  rw [Array.getElem?_modify, Array.getElem?_push, Array.getElem?_push]
  by_cases hi : i = objs.size
  · subst hi; simp
  · have : ¬ objs.size = i := fun e => hi e.symm
    simp [hi, this]
/-- the ints and values of a part laid at once -/
def tri : Nat → List (Int × Str) → List (Int × Tok × Value)
  | _, [] => []
  | t, (k, v) :: r => (k, t, .str v (t + 1)) :: tri (t + 2) r
theorem tri_ent : ∀ (l : List (Int × Str)) (t : Nat), ((tri t l).map fun x => (⟨hashInt x.1, .int x.1 x.2.1, x.2.2⟩ : DictEntry)) = ent2 t l
  | [], _ => rfl
  | (k, v) :: r, t => by simp only [tri, List.map_cons, ent2, tri_ent r]
theorem tri_kv : ∀ (l : List (Int × Str)) (t : Nat), ((tri t l).map fun x => (Value.int x.1 x.2.1, x.2.2)) = (ent2 t l).map fun e => (e.key, e.val)
  | [], _ => rfl
  | (k, v) :: r, t => by simp only [tri, List.map_cons, ent2, tri_kv r]
theorem tri_len : ∀ (l : List (Int × Str)) (t : Nat), (tri t l).length = l.length
  | [], _ => rfl
  | (k, v) :: r, t => by simp only [tri, List.length_cons, tri_len r]
theorem go_subShort {l : List (Int × Str)} {s : Shared} (h15 : l.length ≤ 15) (hs : Nat.ble 11 s.heap.objs.size = true) (hp : PW (ent2 s.toks l)) :
    Go w (subDict (l.map (mkP q))) s s.heap.objs.size { s with heap := s.heap.push (dO (ent2 s.toks l) l.length), toks := s.toks + 3 * l.length } (2 + 13 * l.length) := by
  unfold subDict
  have G := go_short (w := w) (d := s.heap.objs.size) (tri s.toks l) { s with heap := s.heap.push (dO [] 0), toks := s.toks + 2 * l.length } [] 0 get_push hs
    (by have : sizeLine = 16777216 := by decide
        rw [tri_len]; simp only [List.length_nil]; omega) (by rw [tri_ent]; exact hp)
  rw [tri_kv, tri_ent, tri_len] at G
  have e : ({ s with heap := (s.heap.push (dO [] 0)).update s.heap.objs.size (fun _ => dO ([] ++ ent2 s.toks l) (0 + l.length)), toks := s.toks + 2 * l.length + l.length } : Shared) =
      { s with heap := s.heap.push (dO (ent2 s.toks l) l.length), toks := s.toks + 3 * l.length } := by
    rw [push_update, List.nil_append, Nat.zero_add]
    have : s.toks + 2 * l.length + l.length = s.toks + 3 * l.length := by omega
    rw [this]
  have G : Go w (forIn ((ent2 s.toks l).map fun e => (e.key, e.val)) PUnit.unit _) { s with heap := s.heap.push (dO [] 0), toks := s.toks + 2 * l.length } PUnit.unit { s with heap := s.heap.push (dO (ent2 s.toks l) l.length), toks := s.toks + 3 * l.length } (10 * l.length) := e ▸ G
  refine go_le (go_bind (x := 1) (y := 1 + 13 * l.length) go_alloc (go_bind (x := 1 + 13 * l.length) (y := 0) (go_holding (a := ()) ?_) go_pure')) (by omega)
  rw [if_pos (by rw [List.length_map]; exact h15)]
  exact go_le (go_bind (x := 3 * l.length) (y := 10 * l.length) (go_pairs l { s with heap := s.heap.push (dO [] 0) }) (go_holding (go_bind (x := 10 * l.length) (y := 0) G go_pure'))) (by omega)

theorem inst_dict {es : List DictEntry} {n : Nat} {a : Addr} {S : Setting} : peek1 (dO es n) S 5 (isInstance (.ref a) (.type "dict")) = some (true, [a]) := by
  delta isInstance
  rfl
theorem iter_dict {es : List DictEntry} {n : Nat} {a : Addr} {S : Setting} : peek1 (dO es n) S 5 (specialOf (.ref a) "__iter__") = some (some (.builtin "dict.__iter__"), [a]) := by
  rfl
end
end LW
end
section
open PySem PySem.W PyProof.Rows
set_option linter.all false
set_option maxRecDepth 100000
namespace LW
section
variable {w : World} {d : Addr} {q : Pos}

theorem go_inst {m : Addr} {s : Shared} {fs : List DictEntry} {nf : Nat} (hm : s.heap.get? m = some (dO fs nf)) : Go w (isInstance (.ref m) (.type "dict")) s true s 5 :=
  go_peek1 5 inst_dict fun x hx => by
    cases hx with
    | head => exact hm
    | tail _ hx => cases hx
theorem go_iterOf {m : Addr} {s : Shared} {fs : List DictEntry} {nf : Nat} (hm : s.heap.get? m = some (dO fs nf)) : Go w (specialOf (.ref m) "__iter__") s (some (.builtin "dict.__iter__")) s 5 :=
  go_peek1 5 iter_dict fun x hx => by
    cases hx with
    | head => exact hm
    | tail _ hx => cases hx
/-- the merging loop -/
theorem go_mergeLoop {m : Addr} {fs : List DictEntry} {nf : Nat} (hdm : d ≠ m) (hd : Nat.ble 11 d = true) : ∀ (post pre : List DictEntry) (s : Shared) (es : List DictEntry) (n : Nat), fs = pre ++ post → s.heap.get? d = some (dO es n) → s.heap.get? m = some (dO fs nf) →
    (∀ e ∈ post, ∃ k t, e.key = .int k t) → es.length + post.length ≤ sizeLine → PW (es ++ post) →
    Go w (forIn (List.range' pre.length post.length) PUnit.unit fun (i : Nat) (__s : PUnit) => (do
                  let __do_lift ← dictEntries m
                  match __do_lift[i]? with
                    | some e => do
                      holding [e.key, e.val]
                          (have __do_jp : Unit → Sem Unit := fun __r => dictPut d e.hash e.key e.val;
                          if false = true then do
                            let __do_lift ← dictFind d e.key e.hash
                            if __do_lift.isSome = true then do
                                rule "dict.merge.duplicate-key"
                                let __do_lift ← newExc (Value.type "KeyError") [e.key]
                                let __r ← raiseNew __do_lift
                                __do_jp __r
                              else __do_jp ()
                          else __do_jp ())
                      let __do_lift ← dictEpoch m
                      if (__do_lift != nf) = true then do
                          unsupported "dict.changed-during-merge"
                          pure (ForInStep.yield PUnit.unit)
                        else pure (ForInStep.yield PUnit.unit)
                    | x => do
                      unsupported "dict.changed-during-merge" : Sem (ForInStep PUnit))) s PUnit.unit { s with heap := s.heap.update d (fun _ => dO (es ++ post) (n + post.length)) } (6 * post.length)
  | [], pre, s, es, n, hf, ho, hm, hk, hz, hp => by
    have e : ({ s with heap := s.heap.update d (fun _ => dO (es ++ []) (n + ([] : List DictEntry).length)) } : Shared) = s := by
      show ({ s with heap := s.heap.update d (fun _ => dO (es ++ []) (n + 0)) } : Shared) = s
      rw [List.append_nil, Nat.add_zero, update_same ho]
    rw [e]
    exact go_pure'
  | x :: r, pre, s, es, n, hf, ho, hm, hk, hz, hp => by
    rw [List.length_cons, List.range'_succ, List.forIn_cons]
    have hz' : es.length ≤ sizeLine := by simp only [List.length_cons] at hz; omega
    obtain ⟨h, xk, xv⟩ := x
    obtain ⟨k, t, rfl⟩ : ∃ k t, xk = .int k t := hk _ (.head _)
    have s1 := go_dictPut (w := w) (s := s) (d := d) (es := es) (n := n) (k := k) (t := t) (v := xv) (h := h) ho hd hz' (pw_no (e := ⟨h, .int k t, xv⟩) hp)
    have hm' : (s.heap.update d (fun _ => dO (es ++ [⟨h, .int k t, xv⟩]) (n + 1))).get? m = some (dO fs nf) := (Heap.get?_update_ne _ _ _ _ (Ne.symm hdm)).trans hm
    have ih := go_mergeLoop hdm hd r (pre ++ [⟨h, .int k t, xv⟩]) { s with heap := s.heap.update d (fun _ => dO (es ++ [⟨h, .int k t, xv⟩]) (n + 1)) } (es ++ [⟨h, .int k t, xv⟩]) (n + 1) (by rw [hf, List.append_assoc]; rfl) (get_upd ho rfl) hm'
      (fun e he => hk e (.tail _ he)) (by simp only [List.length_append, List.length_cons, List.length_nil] at hz ⊢; omega) (pw_next (e := ⟨h, .int k t, xv⟩) hp)
    have e : ({ s with heap := s.heap.update d (fun _ => dO (es ++ (⟨h, .int k t, xv⟩ :: r)) (n + (r.length + 1))) } : Shared) =
        { s with heap := (s.heap.update d (fun _ => dO (es ++ [⟨h, .int k t, xv⟩]) (n + 1))).update d (fun _ => dO ((es ++ [⟨h, .int k t, xv⟩]) ++ r) (n + 1 + r.length)) } := by
      rw [update_update, List.append_assoc]
      have : n + (r.length + 1) = n + 1 + r.length := by omega
      rw [this]
      rfl
    rw [e]
    have gi : fs.toArray[pre.length]? = some ⟨h, .int k t, xv⟩ := by
      rw [List.getElem?_toArray, hf, List.getElem?_append_right (Nat.le_refl _), Nat.sub_self]; rfl
    refine go_le (go_bind (x := 6) (y := 6 * r.length) (a := ForInStep.yield PUnit.unit) (s' := { s with heap := s.heap.update d (fun _ => dO (es ++ [⟨h, .int k t, xv⟩]) (n + 1)) }) (go_bind (x := 1) (y := 5) (go_entries hm) ?_) ?_) (by omega)
    · rw [gi]
      refine go_bind (x := 4) (y := 1) (a := ()) (go_holding ?_) (go_bind (x := 1) (y := 0) (go_epoch (s := { s with heap := s.heap.update d (fun _ => dO (es ++ [⟨h, .int k t, xv⟩]) (n + 1)) }) hm') ?_)
      · dsimp only
        exact s1
      · rw [if_neg (by simp)]
        exact go_pure'
    · dsimp only
      rw [List.length_append] at ih
      exact ih

theorem go_merge {m : Addr} {s : Shared} {es fs : List DictEntry} {n nf : Nat} (hdm : d ≠ m) (hms : (m == sysModules) = false) (hd : Nat.ble 11 d = true) (hne : es ≠ []) (ho : s.heap.get? d = some (dO es n)) (hm : s.heap.get? m = some (dO fs nf))
    (hk : ∀ e ∈ fs, ∃ k t, e.key = .int k t) (hz : es.length + fs.length ≤ sizeLine) (hp : PW (es ++ fs)) :
    Go w (mergeMapping d (.ref m) false) s () { s with heap := s.heap.update d (fun _ => dO (es ++ fs) (n + fs.length)) } (20 + 6 * fs.length) := by
  unfold mergeMapping
  refine go_le (go_bind (x := 5) (y := 8 + 6 * fs.length) (go_inst hm) ?_) (by omega)
  dsimp only
  rw [if_pos rfl]
  refine go_le (x := 5 + (3 + 6 * fs.length)) (go_bind (x := 5) (y := 3 + 6 * fs.length) (go_iterOf hm) (go_le (x := 0 + (3 + 6 * fs.length)) (go_bind (x := 0) (y := 3 + 6 * fs.length) go_pure' ?_) (by omega))) (by omega)
  rw [show ((some (Value.builtin "dict.__iter__") : Option Value) == some (Value.builtin "dict.__iter__")) = true from by decide +kernel]
  dsimp only
  rw [hms]
  rw [if_neg (by decide)]
  refine go_le (x := 1 + (2 + 6 * fs.length)) (go_bind (x := 1) (y := 2 + 6 * fs.length) (go_entries ho) ?_) (by omega)
  have : es.toArray.isEmpty = false := by cases es with | nil => exact absurd rfl hne | cons => rfl
  rw [this, if_neg (by decide)]
  refine go_le (x := 1 + (1 + 6 * fs.length)) (go_bind (x := 1) (y := 1 + 6 * fs.length) (go_entries hm) (go_bind (x := 1) (y := 6 * fs.length) (go_epoch hm) ?_)) (by omega)
  rw [List.size_toArray, List.range_eq_range']
  exact go_bind (x := 6 * fs.length) (y := 0) (go_mergeLoop hdm hd fs [] s es n rfl ho hm hk hz hp) go_pure'
end
end LW
end
section
open PySem PySem.W PyProof.Rows
set_option linter.all false
set_option maxRecDepth 100000
namespace LW
abbrev itm (q : Pos) (x : Int × Str) : Option (Sem Value) × Sem Value := (some (mkK x), mkV q x)
/-- what the big display leaves: n parts of seventeen, then a short one -/
def afterS (d : Addr) : Nat → List (Int × Str) → Heap → Nat → List DictEntry → Heap × Nat × List DictEntry
  | 0, l, h, t, es => ((h.push (dO (ent2 t l) l.length)).update d (fun _ => dO (es ++ ent2 t l) (es ++ ent2 t l).length), t + 3 * l.length, es ++ ent2 t l)
  | n + 1, l, h, t, es => afterS d n (l.drop 17) ((h.push (dO (ent3 t (l.take 17)) 17)).update d (fun _ => dO (es ++ ent3 t (l.take 17)) (es ++ ent3 t (l.take 17)).length)) (t + 51) (es ++ ent3 t (l.take 17))
def allE : Nat → List (Int × Str) → Nat → List DictEntry
  | 0, l, t => ent2 t l
  | n + 1, l, t => ent3 t (l.take 17) ++ allE n (l.drop 17) (t + 51)

abbrev St := Option Addr × List (Sem Value × Sem Value)
structure IsBody (q : Pos) (flush : List (Sem Value × Sem Value) → Option Addr → Sem (Option Addr)) (F : Option (Sem Value) × Sem Value → St → Sem (ForInStep St)) : Prop where
  more : ∀ x m run, ((run ++ [mkP q x]).length == 17) = false → F (itm q x) (m, run) = pure (ForInStep.yield (m, run ++ [mkP q x]))
  full : ∀ x m run, ((run ++ [mkP q x]).length == 17) = true → F (itm q x) (m, run) = flush (run ++ [mkP q x]) m >>= fun m' => pure (ForInStep.yield (m', []))
structure IsFlush (flush : List (Sem Value × Sem Value) → Option Addr → Sem (Option Addr)) : Prop where
  first : ∀ run, run.isEmpty = false → flush run none = (do let d ← subDict run; pure (some d))
  next : ∀ run d, run.isEmpty = false → ∃ k : Value → Sem Unit, flush run (some d) = (do
          let sub ← holding [Value.ref d] (subDict run)
          (holding [Value.ref d, Value.ref sub] (mergeMapping d (Value.ref sub) false)).onRaise k
          pure (some d))
section
variable {w : World} {d : Addr} {q : Pos} {flush : List (Sem Value × Sem Value) → Option Addr → Sem (Option Addr)} {F : Option (Sem Value) × Sem Value → St → Sem (ForInStep St)}
theorem go_acc (hF : IsBody q flush F) {s s' : Shared} {m : Option Addr} {a : St} {b : Nat} {rest : List (Option (Sem Value) × Sem Value)} : ∀ (l r : List (Int × Str)), r.length + l.length < 17 →
    Go w (forIn rest (m, (r ++ l).map (mkP q)) F) s a s' b → Go w (forIn (l.map (itm q) ++ rest) (m, r.map (mkP q)) F) s a s' b
  | [], r, _, h => by rw [List.append_nil] at h; exact h
  | x :: l, r, hl, h => by
    rw [List.map_cons, List.cons_append, List.forIn_cons]
    have e := hF.more x m (r.map (mkP q)) (by rw [beq_eq_false_iff_ne]; simp only [List.length_append, List.length_map, List.length_cons, List.length_nil] at hl ⊢; omega)
    rw [e]
    have ih := go_acc hF l (r ++ [x]) (by simp only [List.length_append, List.length_cons, List.length_nil] at hl ⊢; omega) (by rw [List.append_assoc]; exact h)
    rw [List.map_append] at ih
    exact ih
theorem go_chunk (hF : IsBody q flush F) {s s1 s' : Shared} {m m' : Option Addr} {a : St} {b1 b2 : Nat} {rest : List (Option (Sem Value) × Sem Value)} {c : List (Int × Str)} (hc : c.length = 17)
    (h1 : Go w (flush (c.map (mkP q)) m) s m' s1 b1) (h2 : Go w (forIn rest (m', []) F) s1 a s' b2) : Go w (forIn (c.map (itm q) ++ rest) (m, []) F) s a s' (b1 + b2) := by
  obtain ⟨i, x, rfl⟩ : ∃ i x, c = i ++ [x] := ⟨c.dropLast, c.getLast (by intro e; rw [e] at hc; cases hc), (List.dropLast_concat_getLast _).symm⟩
  rw [List.map_append, List.append_assoc]
  refine go_acc hF i [] (by simp only [List.length_append, List.length_cons, List.length_nil] at hc ⊢; omega) ?_
  rw [List.nil_append, List.map_cons, List.map_nil, List.cons_append, List.nil_append, List.forIn_cons]
  rw [hF.full x m (i.map (mkP q)) (by rw [beq_iff_eq]; simp only [List.length_append, List.length_map, List.length_cons, List.length_nil] at hc ⊢; omega)]
  rw [List.map_append] at h1
  exact go_bind (x := b1) (y := b2) (go_bind (x := b1) (y := 0) h1 go_pure') h2
theorem ent3_int : ∀ (l : List (Int × Str)) (t : Nat), ∀ e ∈ ent3 t l, ∃ k u, e.key = .int k u
  | [], _, _, h => nomatch h
  | (k, v) :: r, t, e, h => by
    simp only [ent3, List.mem_cons] at h
    rcases h with rfl | h
    · exact ⟨_, _, rfl⟩
    · exact ent3_int r _ e h
theorem ent2_int : ∀ (l : List (Int × Str)) (t : Nat), ∀ e ∈ ent2 t l, ∃ k u, e.key = .int k u
  | [], _, _, h => nomatch h
  | (k, v) :: r, t, e, h => by
    simp only [ent2, List.mem_cons] at h
    rcases h with rfl | h
    · exact ⟨_, _, rfl⟩
    · exact ent2_int r _ e h
theorem isEmpty_map {l : List (Int × Str)} (h : 0 < l.length) : (l.map (mkP q)).isEmpty = false := by cases l with | nil => exact absurd h (Nat.lt_irrefl _) | cons => rfl

/-- one more part, merged in -/
theorem go_flushNext (hf : IsFlush flush) {s : Shared} {c : List (Int × Str)} {es fs : List DictEntry} {b : Nat} (hne : es ≠ []) (hc : 0 < c.length)
    (hsub : Go w (subDict (c.map (mkP q))) s s.heap.objs.size { s with heap := s.heap.push (dO fs c.length), toks := s.toks + 3 * c.length } b) (hl : fs.length = c.length) (hk : ∀ e ∈ fs, ∃ k t, e.key = .int k t)
    (hd : Nat.ble 11 d = true) (hds : d < s.heap.objs.size) (hsm : (s.heap.objs.size == sysModules) = false) (ho : s.heap.get? d = some (dO es es.length)) (hz : es.length + c.length ≤ sizeLine) (hp : PW (es ++ fs)) :
    Go w (flush (c.map (mkP q)) (some d)) s (some d) { s with heap := (s.heap.push (dO fs c.length)).update d (fun _ => dO (es ++ fs) (es ++ fs).length), toks := s.toks + 3 * c.length } (b + (20 + 6 * c.length)) := by
  obtain ⟨k, e⟩ := hf.next (c.map (mkP q)) d (isEmpty_map hc)
  rw [e]
  refine go_bind (x := b) (y := 20 + 6 * c.length) (go_holding hsub) ?_
  have g := go_merge (w := w) (d := d) (m := s.heap.objs.size) (s := { s with heap := s.heap.push (dO fs c.length), toks := s.toks + 3 * c.length }) (es := es) (fs := fs) (n := es.length) (nf := c.length) (Nat.ne_of_lt hds) hsm hd hne
    (Heap.get?_push_of_some _ ho) get_push hk (by omega) hp
  rw [hl] at g
  have : (es ++ fs).length = es.length + c.length := by rw [List.length_append, hl]
  rw [this]
  exact go_bind (x := 20 + 6 * c.length) (y := 0) (go_onRaise (go_holding g)) go_pure'

theorem size_push {h : Heap} {o : Obj} : (h.push o).objs.size = h.objs.size + 1 := by obtain ⟨objs, l⟩ := h; exact Array.size_push ..
theorem size_upd {h : Heap} {a : Addr} {f : Obj → Obj} : (h.update a f).objs.size = h.objs.size := by obtain ⟨objs, l⟩ := h; exact Array.size_modify ..

theorem go_parts (hF : IsBody q flush F) (hf : IsFlush flush) (hd : Nat.ble 11 d = true) : ∀ (n : Nat) (l : List (Int × Str)) (s : Shared) (es : List DictEntry), 17 * n < l.length → l.length ≤ 17 * n + 15 → es ≠ [] → d < s.heap.objs.size → 11 ≤ s.heap.objs.size →
    s.heap.get? d = some (dO es es.length) → es.length + l.length ≤ sizeLine → PW (es ++ allE n l s.toks) →
    ∃ st s1 b1 b2, Go w (forIn (l.map (itm q)) ((some d, []) : St) F) s st s1 b1 ∧ Go w (flush st.2 st.1) s1 (some d) { s with heap := (afterS d n l s.heap s.toks es).1, toks := (afterS d n l s.heap s.toks es).2.1 } b2 ∧ b1 + b2 ≤ 20 * l.length + 40 * (n + 1)
  | 0, l, s, es, h1, h2, hne, hds, h11, ho, hz, hp => by
    have e : l.map (itm q) = l.map (itm q) ++ [] := (List.append_nil _).symm
    rw [e]
    have hsm : (s.heap.objs.size == sysModules) = false := beq_eq_false_iff_ne.mpr (by unfold sysModules; omega)
    refine ⟨_, _, 0, 2 + 13 * l.length + (20 + 6 * l.length), go_acc hF (m := some d) (a := (some d, l.map (mkP q))) l [] (by simp only [List.length_nil]; omega) go_pure', ?_, by omega⟩
    exact go_flushNext hf hne (by omega) (go_subShort (by omega) (Nat.ble_eq_true_of_le h11) (List.Pairwise.sublist (List.sublist_append_right _ _) hp)) (ent2_len _ _) (ent2_int _ _) hd hds hsm ho (by omega) hp
  | n + 1, l, s, es, h1, h2, hne, hds, h11, ho, hz, hp => by
    have e : l.map (itm q) = (l.take 17).map (itm q) ++ (l.drop 17).map (itm q) := by rw [← List.map_append, List.take_append_drop]
    rw [e]
    have hsm : (s.heap.objs.size == sysModules) = false := beq_eq_false_iff_ne.mpr (by unfold sysModules; omega)
    have hc : (l.take 17).length = 17 := by rw [List.length_take]; omega
    have hsz : sizeLine = 16777216 := by decide
    have hp' : PW ((es ++ ent3 s.toks (l.take 17)) ++ allE n (l.drop 17) (s.toks + 51)) := by rw [List.append_assoc]; exact hp
    have hp1 : PW (es ++ ent3 s.toks (l.take 17)) := List.Pairwise.sublist (List.sublist_append_left _ _) hp'
    have hle : (es ++ ent3 s.toks (l.take 17)).length = es.length + 17 := by rw [List.length_append, ent3_len, hc]
    have g1 := go_flushNext (w := w) (d := d) (q := q) (flush := flush) hf (s := s) (c := l.take 17) (es := es) (fs := ent3 s.toks (l.take 17)) hne (by omega)
      (go_subLong (by omega) (Nat.ble_eq_true_of_le h11) (by omega) (List.Pairwise.sublist (List.sublist_append_right _ _) hp1)) (ent3_len _ _) (ent3_int _ _) hd hds hsm ho (by omega) hp1
    rw [hc] at g1
    have ih := go_parts hF hf hd n (l.drop 17) { s with heap := (s.heap.push (dO (ent3 s.toks (l.take 17)) 17)).update d (fun _ => dO (es ++ ent3 s.toks (l.take 17)) (es ++ ent3 s.toks (l.take 17)).length), toks := s.toks + 51 } (es ++ ent3 s.toks (l.take 17))
      (by rw [List.length_drop]; omega) (by rw [List.length_drop]; omega) (by intro e; have := congrArg List.length e; rw [hle] at this; cases this)
      (by show d < (Heap.update _ _ _).objs.size; rw [size_upd, size_push]; exact Nat.lt_succ_of_lt hds) (by show 11 ≤ (Heap.update _ _ _).objs.size; rw [size_upd, size_push]; exact Nat.le_succ_of_le h11)
      (get_upd (Heap.get?_push_of_some _ ho) rfl) (by rw [hle, List.length_drop]; omega) hp'
    obtain ⟨st, s1, b1, b2, i1, i2, i3⟩ := ih
    rw [List.length_drop] at i3
    exact ⟨st, s1, _, b2, go_chunk hF hc g1 i1, i2, by omega⟩

/-- the display as a whole -/
theorem go_displayOf (hF : IsBody q flush F) (hf : IsFlush flush) {n : Nat} {l : List (Int × Str)} {s : Shared} (h1 : 17 * n < (l.drop 17).length) (h2 : (l.drop 17).length ≤ 17 * n + 15) (h17 : 17 ≤ l.length) (h11 : 11 ≤ s.heap.objs.size)
    (hz : l.length ≤ 10000) (hp : PW (ent3 s.toks (l.take 17) ++ allE n (l.drop 17) (s.toks + 51))) (k : Option Addr → Sem Value) (hk : k (some s.heap.objs.size) = pure (.ref s.heap.objs.size)) :
    ∃ b, b ≤ 20 * l.length + 40 * (n + 1) + 300 ∧ Go w (forIn (l.map (itm q)) ((none, []) : St) F >>= fun st => flush st.2 st.1 >>= k) s (.ref s.heap.objs.size)
      { s with heap := (afterS s.heap.objs.size n (l.drop 17) (s.heap.push (dO (ent3 s.toks (l.take 17)) (ent3 s.toks (l.take 17)).length)) (s.toks + 51) (ent3 s.toks (l.take 17))).1,
               toks := (afterS s.heap.objs.size n (l.drop 17) (s.heap.push (dO (ent3 s.toks (l.take 17)) (ent3 s.toks (l.take 17)).length)) (s.toks + 51) (ent3 s.toks (l.take 17))).2.1 } b := by
  have hc : (l.take 17).length = 17 := by rw [List.length_take]; omega
  have hsz : sizeLine = 16777216 := by decide
  have he : (ent3 s.toks (l.take 17)).length = 17 := (ent3_len _ _).trans hc
  have e : l.map (itm q) = (l.take 17).map (itm q) ++ (l.drop 17).map (itm q) := by rw [← List.map_append, List.take_append_drop]
  have hp1 : PW (ent3 s.toks (l.take 17)) := List.Pairwise.sublist (List.sublist_append_left _ _) hp
  have g0 := go_subLong (w := w) (q := q) (l := l.take 17) (s := s) (by omega) (Nat.ble_eq_true_of_le h11) (by omega) hp1
  rw [hc] at g0
  have g1 : Go w (flush ((l.take 17).map (mkP q)) none) s (some s.heap.objs.size) { s with heap := s.heap.push (dO (ent3 s.toks (l.take 17)) 17), toks := s.toks + 51 } (2 + 13 * 17 + 0) := by
    rw [hf.first _ (isEmpty_map (by omega))]
    exact go_bind (x := 2 + 13 * 17) (y := 0) g0 go_pure'
  obtain ⟨st, s1, b1, b2, i1, i2, i3⟩ := go_parts hF hf (Nat.ble_eq_true_of_le h11) n (l.drop 17) { s with heap := s.heap.push (dO (ent3 s.toks (l.take 17)) (ent3 s.toks (l.take 17)).length), toks := s.toks + 51 } (ent3 s.toks (l.take 17)) h1 h2
    (by intro e; rw [e] at he; cases he) (by show s.heap.objs.size < (Heap.push _ _).objs.size; rw [size_push]; exact Nat.lt_succ_self _) (by show 11 ≤ (Heap.push _ _).objs.size; rw [size_push]; exact Nat.le_succ_of_le h11) get_push
    (by rw [he, List.length_drop]; omega) hp
  rw [e]
  rw [he] at i1 i2 ⊢
  have i3' : b1 + b2 ≤ 20 * l.length + 40 * (n + 1) := by rw [List.length_drop] at i3; omega
  exact ⟨_, by omega, go_bind (go_chunk hF hc g1 i1) (go_bind (x := b2) (y := 0) i2 (by rw [hk]; exact go_pure'))⟩
end
end LW
end
section
open PySem PySem.W PyProof.Rows
set_option linter.all false
set_option maxRecDepth 100000
namespace LW
theorem go_dictDisplay {w : World} {q : Pos} {n : Nat} {l : List (Int × Str)} {s : Shared} (h1 : 17 * n < (l.drop 17).length) (h2 : (l.drop 17).length ≤ 17 * n + 15) (h17 : 17 ≤ l.length) (h11 : 11 ≤ s.heap.objs.size)
    (hz : l.length ≤ 10000) (hp : PW (ent3 s.toks (l.take 17) ++ allE n (l.drop 17) (s.toks + 51))) :
    ∃ b, b ≤ 20 * l.length + 40 * (n + 1) + 300 ∧ Go w (dictDisplay (l.map (itm q))) s (.ref s.heap.objs.size)
      { s with heap := (afterS s.heap.objs.size n (l.drop 17) (s.heap.push (dO (ent3 s.toks (l.take 17)) (ent3 s.toks (l.take 17)).length)) (s.toks + 51) (ent3 s.toks (l.take 17))).1,
               toks := (afterS s.heap.objs.size n (l.drop 17) (s.heap.push (dO (ent3 s.toks (l.take 17)) (ent3 s.toks (l.take 17)).length)) (s.toks + 51) (ent3 s.toks (l.take 17))).2.1 } b := by
  unfold dictDisplay
  refine go_displayOf (flush := fun run m => if run.isEmpty = true then pure m else match m with
    | none => (do let d ← subDict run; pure (some d))
    | some d => (do
        let sub ← holding [Value.ref d] (subDict run)
        (holding [Value.ref d, Value.ref sub] (mergeMapping d (Value.ref sub) false)).onRaise fun x => do
          let _ ← holding [Value.ref d, x] (runValue (.builtin "proto.let_go" {}))
          pure ()
        pure (some d))) (k := fun m => match m with
    | some d => pure (Value.ref d)
    | none => newDict) ⟨fun x m run h => ?_, fun x m run h => ?_⟩ ⟨fun run h => ?_, fun run d h => ⟨fun x => (do let _ ← holding [Value.ref d, x] (runValue (.builtin "proto.let_go" {})); pure ()), ?_⟩⟩ h1 h2 h17 h11 hz hp rfl
  · dsimp only
    rw [h]; rfl
  · dsimp only
    rw [h]; rfl
  · dsimp only
    rw [h]; rfl
  · dsimp only
    rw [h]; rfl
end LW
end
section
open PySem PySem.W PyProof.Rows
set_option linter.all false
set_option maxRecDepth 100000
namespace LW
abbrev S (s : String) : Str := Str.ofString s
abbrev E : BT := .nil
abbrev N (o : Obj) (l r : BT) : BT := .node o l r
def st (i : Nat) : Stmt := (P0.main.body[i]?).getD (.Pass ⟨0, 0, 0, 0⟩)
def fName : Stmt → Str | .FunctionDef n .. => n | _ => S ""
def fPar : Stmt → Arguments | .FunctionDef _ a .. => a | _ => ⟨[], [], none, [], [], none, []⟩
def fBody : Stmt → List Stmt | .FunctionDef _ _ b .. => b | _ => []
def fScope : Stmt → Scope | .FunctionDef _ _ _ _ _ _ sc .. => sc | _ => P0.main.scope
abbrev fnO (i : Nat) (g : Addr) (pm code : Value) (b : Addr) : FuncData := { name := fName (st i), qualname := fName (st i), params := fPar (st i), body := .stmts (fBody (st i)), scope := fScope (st i), globals := g, closure := [], defaults := .none, kwdefaults := .none, pyModule := pm, code := code, builtins := b }
-- the table of the big dict
def dKV : Stmt → List (Option Expr) × List Expr | .Assign _ (.Dict ks vs _) _ => (ks, vs) | _ => ([], [])
def kInt : Option Expr → Int | some (.Constant (.int i) _ _) => i | _ => 0
def vStr : Expr → Str | .Constant (.str s) _ _ => s | _ => S ""
def kvs : List (Int × Str) := (dKV (st 3)).1.map kInt |>.zip ((dKV (st 3)).2.map vStr)
def mainE : List DictEntry := ent3 256 (kvs.take 17) ++ allE 37 (kvs.drop 17) 307
def subE (i : Nat) : List DictEntry := if i < 37 then ent3 (307 + 51 * i) ((kvs.drop (17 + 17 * i)).take 17) else ent2 2194 (kvs.drop 646)
noncomputable def o11_a (P : Params) : Obj := ⟨.type "tuple", none, .seq #[] 0, #[]⟩
noncomputable def o12_a (P : Params) : Obj := ⟨.none, none, .fields #[], #[]⟩
noncomputable def o13_a (P : Params) : Obj := ⟨.type "code", none, .fields #[.str (S "<module>") 182, .str (S "<module>") 183, .str (S "/claim/cut.py") 184, .int 1 0, .int 0 0, .int 0 0, .int 0 0, .int 0 0, .ref 11, .bool false, .int 181 0, .ref 12, .none, .none, .none, .none, .int 185 0, .int 1 0, .str (S "/claim/cut.py") 186], #[]⟩
noncomputable def o14_a (P : Params) : Obj := ⟨.type "frame", none, .plain, #[some (.ref 13), some (.ref 3), some (.ref 3), none, some (.str (S "__main__") 164), none, some (.ref 0)]⟩
noncomputable def t_a (P : Params) : BT := (N (boot_o_0 P) (N (boot_o_1 P) (N (boot_o_3 P) (N (boot_o_7 P) E E) (N (o11_a P) E E)) (N (boot_o_5 P) (N (boot_o_9 P) E E) (N (o13_a P) E E))) (N (boot_o_2 P) (N (boot_o_4 P) (N (boot_o_8 P) E E) (N (o12_a P) E E)) (N (boot_o_6 P) (N (boot_o_10 P) E E) (N (o14_a P) E E))))
-- a: n 15 toks 187
noncomputable def o3_1 (P : Params) : Obj := ⟨.type "dict", none, .dict #[⟨PyData.keyHash P (S "__name__"), .str (S "__name__") 165, .str (S "cpy313.stringprep") 187⟩, ⟨PyData.keyHash P (S "__doc__"), .str (S "__doc__") 166, .none⟩, ⟨PyData.keyHash P (S "__package__"), .str (S "__package__") 167, .none⟩, ⟨PyData.keyHash P (S "__loader__"), .str (S "__loader__") 168, .builtin "__main__.__loader__#opaque"⟩, ⟨PyData.keyHash P (S "__spec__"), .str (S "__spec__") 169, .none⟩, ⟨PyData.keyHash P (S "__annotations__"), .str (S "__annotations__") 170, .ref 6⟩, ⟨PyData.keyHash P (S "__builtins__"), .str (S "__builtins__") 171, .ref 4⟩, ⟨PyData.keyHash P (S "__file__"), .str (S "__file__") 173, .str (S "/claim/cut.py") 172⟩, ⟨PyData.keyHash P (S "__cached__"), .str (S "__cached__") 174, .none⟩, ⟨PyData.keyHash P (S "b1_set"), .str (S "b1_set") 248, .ref 22⟩] 10, #[]⟩
noncomputable def o15_1 (P : Params) : Obj := ⟨.type "list", none, .seq #[.int 173 189, .int 847 190, .int 6150 191, .int 6155 192, .int 6156 193, .int 6157 194, .int 8203 195, .int 8204 196, .int 8205 197, .int 8288 198, .int 65279 199] 0, #[]⟩
noncomputable def o16_1 (P : Params) : Obj := ⟨.type "range", none, .fields #[.int 65024 200, .int 65040 201, .int 1 202], #[]⟩
noncomputable def o17_1 (P : Params) : Obj := ⟨.type "list", none, .seq #[.int 65024 205, .int 65025 206, .int 65026 207, .int 65027 208, .int 65028 209, .int 65029 210, .int 65030 211, .int 65031 212, .int 65032 213, .int 65033 214, .int 65034 215, .int 65035 216, .int 65036 217, .int 65037 218, .int 65038 219, .int 65039 220] 18, #[]⟩
noncomputable def o18_1 (P : Params) : Obj := ⟨.type "range_iterator", none, .fields #[.int 65040 0, .int 0 0, .int 1 0], #[]⟩
noncomputable def o19_1 (P : Params) : Obj := ⟨.type "tuple", none, .seq #[] 0, #[]⟩
noncomputable def o20_1 (P : Params) : Obj := ⟨.type "StopIteration", none, .fields #[.ref 19, .none, .none, .none, .bool false, .none], #[]⟩
noncomputable def o21_1 (P : Params) : Obj := ⟨.type "list", none, .seq #[.int 173 189, .int 847 190, .int 6150 191, .int 6155 192, .int 6156 193, .int 6157 194, .int 8203 195, .int 8204 196, .int 8205 197, .int 8288 198, .int 65279 199, .int 65024 205, .int 65025 206, .int 65026 207, .int 65027 208, .int 65028 209, .int 65029 210, .int 65030 211, .int 65031 212, .int 65032 213, .int 65033 214, .int 65034 215, .int 65035 216, .int 65036 217, .int 65037 218, .int 65038 219, .int 65039 220] 0, #[]⟩
noncomputable def o22_1 (P : Params) : Obj := ⟨.type "set", none, .set #[(65024, .int 65024 205), (65025, .int 65025 206), (65026, .int 65026 207), (65027, .int 65027 208), (65028, .int 65028 209), (65029, .int 65029 210), (6150, .int 6150 191), (65030, .int 65030 211), (65031, .int 65031 212), (65032, .int 65032 213), (65033, .int 65033 214), (6155, .int 6155 192), (6156, .int 6156 193), (6157, .int 6157 194), (8203, .int 8203 195), (8204, .int 8204 196), (8205, .int 8205 197), (65034, .int 65034 215), (65035, .int 65035 216), (65036, .int 65036 217), (65037, .int 65037 218), (65038, .int 65038 219), (65039, .int 65039 220), (173, .int 173 189), (847, .int 847 190), (8288, .int 8288 198), (65279, .int 65279 199)] 29 ⟨127, #[0, 1, 2, 3, 4, 5, 6, 7, 8, 9, 10, 11, 12, 13, 14, 15, 16, 17, 18, 19, 20, 21, 22, 45, 79, 96, 127], #[], 0, !P.followText "set-order", 2, true⟩, #[]⟩
noncomputable def o23_1 (P : Params) : Obj := ⟨.type "list_iterator", none, .fields #[.none, .int 27 0], #[]⟩
noncomputable def o24_1 (P : Params) : Obj := ⟨.type "tuple", none, .seq #[] 0, #[]⟩
noncomputable def o25_1 (P : Params) : Obj := ⟨.type "StopIteration", none, .fields #[.ref 24, .none, .none, .none, .bool false, .none], #[]⟩
noncomputable def t_1 (P : Params) : BT := (N (boot_o_0 P) (N (boot_o_1 P) (N (o3_1 P) (N (boot_o_7 P) (N (o15_1 P) E E) (N (o23_1 P) E E)) (N (o11_a P) (N (o19_1 P) E E) E)) (N (boot_o_5 P) (N (boot_o_9 P) (N (o17_1 P) E E) (N (o25_1 P) E E)) (N (o13_a P) (N (o21_1 P) E E) E))) (N (boot_o_2 P) (N (boot_o_4 P) (N (boot_o_8 P) (N (o16_1 P) E E) (N (o24_1 P) E E)) (N (o12_a P) (N (o20_1 P) E E) E)) (N (boot_o_6 P) (N (boot_o_10 P) (N (o18_1 P) E E) E) (N (o14_a P) (N (o22_1 P) E E) E))))
-- 1: n 26 toks 249
noncomputable def o3_2 (P : Params) : Obj := ⟨.type "dict", none, .dict #[⟨PyData.keyHash P (S "__name__"), .str (S "__name__") 165, .str (S "cpy313.stringprep") 187⟩, ⟨PyData.keyHash P (S "__doc__"), .str (S "__doc__") 166, .none⟩, ⟨PyData.keyHash P (S "__package__"), .str (S "__package__") 167, .none⟩, ⟨PyData.keyHash P (S "__loader__"), .str (S "__loader__") 168, .builtin "__main__.__loader__#opaque"⟩, ⟨PyData.keyHash P (S "__spec__"), .str (S "__spec__") 169, .none⟩, ⟨PyData.keyHash P (S "__annotations__"), .str (S "__annotations__") 170, .ref 6⟩, ⟨PyData.keyHash P (S "__builtins__"), .str (S "__builtins__") 171, .ref 4⟩, ⟨PyData.keyHash P (S "__file__"), .str (S "__file__") 173, .str (S "/claim/cut.py") 172⟩, ⟨PyData.keyHash P (S "__cached__"), .str (S "__cached__") 174, .none⟩, ⟨PyData.keyHash P (S "b1_set"), .str (S "b1_set") 248, .ref 22⟩, ⟨PyData.keyHash P (S "in_table_b1"), .str (S "in_table_b1") 255, .ref 32⟩] 11, #[]⟩
noncomputable def o12_2 (P : Params) : Obj := ⟨.none, none, .fields #[.int 3 0, .int 0 0, .ref 31], #[]⟩
noncomputable def o26_2 (P : Params) : Obj := ⟨.type "tuple", none, .seq #[] 0, #[]⟩
noncomputable def o27_2 (P : Params) : Obj := ⟨.none, none, .fields #[], #[]⟩
noncomputable def o28_2 (P : Params) : Obj := ⟨.type "tuple", none, .seq #[.str (S "code") 252] 0, #[]⟩
noncomputable def o29_2 (P : Params) : Obj := ⟨.type "tuple", none, .seq #[] 0, #[]⟩
noncomputable def o30_2 (P : Params) : Obj := ⟨.none, none, .func (fnO 2 0 (.none) (.none) 0), #[]⟩
noncomputable def o31_2 (P : Params) : Obj := ⟨.type "code", none, .fields #[.str (S "in_table_b1") 249, .str (S "in_table_b1") 250, .str (S "/claim/cut.py") 251, .int 3 0, .int 1 0, .int 0 0, .int 0 0, .int 3 0, .ref 26, .bool true, .int 181 0, .ref 27, .none, .ref 28, .ref 29, .ref 30, .int 253 0, .int 3 0, .str (S "/claim/cut.py") 254], #[]⟩
noncomputable def o32_2 (P : Params) : Obj := ⟨.type "function", none, .func (fnO 2 3 (.str (S "cpy313.stringprep") 187) (.ref 31) 0), #[]⟩
noncomputable def t_2 (P : Params) : BT := (N (boot_o_0 P) (N (boot_o_1 P) (N (o3_2 P) (N (boot_o_7 P) (N (o15_1 P) (N (o31_2 P) E E) E) (N (o23_1 P) E E)) (N (o11_a P) (N (o19_1 P) E E) (N (o27_2 P) E E))) (N (boot_o_5 P) (N (boot_o_9 P) (N (o17_1 P) E E) (N (o25_1 P) E E)) (N (o13_a P) (N (o21_1 P) E E) (N (o29_2 P) E E)))) (N (boot_o_2 P) (N (boot_o_4 P) (N (boot_o_8 P) (N (o16_1 P) (N (o32_2 P) E E) E) (N (o24_1 P) E E)) (N (o12_2 P) (N (o20_1 P) E E) (N (o28_2 P) E E))) (N (boot_o_6 P) (N (boot_o_10 P) (N (o18_1 P) E E) (N (o26_2 P) E E)) (N (o14_a P) (N (o22_1 P) E E) (N (o30_2 P) E E)))))
-- 2: n 33 toks 256
noncomputable def o3_3 (P : Params) : Obj := ⟨.type "dict", none, .dict #[⟨PyData.keyHash P (S "__name__"), .str (S "__name__") 165, .str (S "cpy313.stringprep") 187⟩, ⟨PyData.keyHash P (S "__doc__"), .str (S "__doc__") 166, .none⟩, ⟨PyData.keyHash P (S "__package__"), .str (S "__package__") 167, .none⟩, ⟨PyData.keyHash P (S "__loader__"), .str (S "__loader__") 168, .builtin "__main__.__loader__#opaque"⟩, ⟨PyData.keyHash P (S "__spec__"), .str (S "__spec__") 169, .none⟩, ⟨PyData.keyHash P (S "__annotations__"), .str (S "__annotations__") 170, .ref 6⟩, ⟨PyData.keyHash P (S "__builtins__"), .str (S "__builtins__") 171, .ref 4⟩, ⟨PyData.keyHash P (S "__file__"), .str (S "__file__") 173, .str (S "/claim/cut.py") 172⟩, ⟨PyData.keyHash P (S "__cached__"), .str (S "__cached__") 174, .none⟩, ⟨PyData.keyHash P (S "b1_set"), .str (S "b1_set") 248, .ref 22⟩, ⟨PyData.keyHash P (S "in_table_b1"), .str (S "in_table_b1") 255, .ref 32⟩, ⟨PyData.keyHash P (S "b3_exceptions"), .str (S "b3_exceptions") 2206, .ref 33⟩] 12, #[]⟩
noncomputable def o33_3 (_ : Params) : Obj := dO mainE mainE.length
noncomputable def o34_3 (_ : Params) : Obj := dO (subE 0) (subE 0).length
noncomputable def o35_3 (_ : Params) : Obj := dO (subE 1) (subE 1).length
noncomputable def o36_3 (_ : Params) : Obj := dO (subE 2) (subE 2).length
noncomputable def o37_3 (_ : Params) : Obj := dO (subE 3) (subE 3).length
noncomputable def o38_3 (_ : Params) : Obj := dO (subE 4) (subE 4).length
noncomputable def o39_3 (_ : Params) : Obj := dO (subE 5) (subE 5).length
noncomputable def o40_3 (_ : Params) : Obj := dO (subE 6) (subE 6).length
noncomputable def o41_3 (_ : Params) : Obj := dO (subE 7) (subE 7).length
noncomputable def o42_3 (_ : Params) : Obj := dO (subE 8) (subE 8).length
noncomputable def o43_3 (_ : Params) : Obj := dO (subE 9) (subE 9).length
noncomputable def o44_3 (_ : Params) : Obj := dO (subE 10) (subE 10).length
noncomputable def o45_3 (_ : Params) : Obj := dO (subE 11) (subE 11).length
noncomputable def o46_3 (_ : Params) : Obj := dO (subE 12) (subE 12).length
noncomputable def o47_3 (_ : Params) : Obj := dO (subE 13) (subE 13).length
noncomputable def o48_3 (_ : Params) : Obj := dO (subE 14) (subE 14).length
noncomputable def o49_3 (_ : Params) : Obj := dO (subE 15) (subE 15).length
noncomputable def o50_3 (_ : Params) : Obj := dO (subE 16) (subE 16).length
noncomputable def o51_3 (_ : Params) : Obj := dO (subE 17) (subE 17).length
noncomputable def o52_3 (_ : Params) : Obj := dO (subE 18) (subE 18).length
noncomputable def o53_3 (_ : Params) : Obj := dO (subE 19) (subE 19).length
noncomputable def o54_3 (_ : Params) : Obj := dO (subE 20) (subE 20).length
noncomputable def o55_3 (_ : Params) : Obj := dO (subE 21) (subE 21).length
noncomputable def o56_3 (_ : Params) : Obj := dO (subE 22) (subE 22).length
noncomputable def o57_3 (_ : Params) : Obj := dO (subE 23) (subE 23).length
noncomputable def o58_3 (_ : Params) : Obj := dO (subE 24) (subE 24).length
noncomputable def o59_3 (_ : Params) : Obj := dO (subE 25) (subE 25).length
noncomputable def o60_3 (_ : Params) : Obj := dO (subE 26) (subE 26).length
noncomputable def o61_3 (_ : Params) : Obj := dO (subE 27) (subE 27).length
noncomputable def o62_3 (_ : Params) : Obj := dO (subE 28) (subE 28).length
noncomputable def o63_3 (_ : Params) : Obj := dO (subE 29) (subE 29).length
noncomputable def o64_3 (_ : Params) : Obj := dO (subE 30) (subE 30).length
noncomputable def o65_3 (_ : Params) : Obj := dO (subE 31) (subE 31).length
noncomputable def o66_3 (_ : Params) : Obj := dO (subE 32) (subE 32).length
noncomputable def o67_3 (_ : Params) : Obj := dO (subE 33) (subE 33).length
noncomputable def o68_3 (_ : Params) : Obj := dO (subE 34) (subE 34).length
noncomputable def o69_3 (_ : Params) : Obj := dO (subE 35) (subE 35).length
noncomputable def o70_3 (_ : Params) : Obj := dO (subE 36) (subE 36).length
noncomputable def o71_3 (_ : Params) : Obj := dO (subE 37) (subE 37).length
noncomputable def t_3 (P : Params) : BT := (N (boot_o_0 P) (N (boot_o_1 P) (N (o3_3 P) (N (boot_o_7 P) (N (o15_1 P) (N (o31_2 P) (N (o63_3 P) E E) E) (N (o47_3 P) E E)) (N (o23_1 P) (N (o39_3 P) (N (o71_3 P) E E) E) (N (o55_3 P) E E))) (N (o11_a P) (N (o19_1 P) (N (o35_3 P) (N (o67_3 P) E E) E) (N (o51_3 P) E E)) (N (o27_2 P) (N (o43_3 P) E E) (N (o59_3 P) E E)))) (N (boot_o_5 P) (N (boot_o_9 P) (N (o17_1 P) (N (o33_3 P) (N (o65_3 P) E E) E) (N (o49_3 P) E E)) (N (o25_1 P) (N (o41_3 P) E E) (N (o57_3 P) E E))) (N (o13_a P) (N (o21_1 P) (N (o37_3 P) (N (o69_3 P) E E) E) (N (o53_3 P) E E)) (N (o29_2 P) (N (o45_3 P) E E) (N (o61_3 P) E E))))) (N (boot_o_2 P) (N (boot_o_4 P) (N (boot_o_8 P) (N (o16_1 P) (N (o32_2 P) (N (o64_3 P) E E) E) (N (o48_3 P) E E)) (N (o24_1 P) (N (o40_3 P) E E) (N (o56_3 P) E E))) (N (o12_2 P) (N (o20_1 P) (N (o36_3 P) (N (o68_3 P) E E) E) (N (o52_3 P) E E)) (N (o28_2 P) (N (o44_3 P) E E) (N (o60_3 P) E E)))) (N (boot_o_6 P) (N (boot_o_10 P) (N (o18_1 P) (N (o34_3 P) (N (o66_3 P) E E) E) (N (o50_3 P) E E)) (N (o26_2 P) (N (o42_3 P) E E) (N (o58_3 P) E E))) (N (o14_a P) (N (o22_1 P) (N (o38_3 P) (N (o70_3 P) E E) E) (N (o54_3 P) E E)) (N (o30_2 P) (N (o46_3 P) E E) (N (o62_3 P) E E))))))
-- 3: n 72 toks 2207
noncomputable def o3_12 (P : Params) : Obj := ⟨.type "dict", none, .dict #[⟨PyData.keyHash P (S "__name__"), .str (S "__name__") 165, .str (S "cpy313.xml.etree.ElementTree") 2226⟩, ⟨PyData.keyHash P (S "__doc__"), .str (S "__doc__") 166, .none⟩, ⟨PyData.keyHash P (S "__package__"), .str (S "__package__") 167, .none⟩, ⟨PyData.keyHash P (S "__loader__"), .str (S "__loader__") 168, .builtin "__main__.__loader__#opaque"⟩, ⟨PyData.keyHash P (S "__spec__"), .str (S "__spec__") 169, .none⟩, ⟨PyData.keyHash P (S "__annotations__"), .str (S "__annotations__") 170, .ref 6⟩, ⟨PyData.keyHash P (S "__builtins__"), .str (S "__builtins__") 171, .ref 4⟩, ⟨PyData.keyHash P (S "__file__"), .str (S "__file__") 173, .str (S "/claim/cut.py") 172⟩, ⟨PyData.keyHash P (S "__cached__"), .str (S "__cached__") 174, .none⟩, ⟨PyData.keyHash P (S "b1_set"), .str (S "b1_set") 248, .ref 22⟩, ⟨PyData.keyHash P (S "in_table_b1"), .str (S "in_table_b1") 255, .ref 32⟩, ⟨PyData.keyHash P (S "b3_exceptions"), .str (S "b3_exceptions") 2206, .ref 33⟩, ⟨PyData.keyHash P (S "map_table_b3"), .str (S "map_table_b3") 2214, .ref 78⟩, ⟨PyData.keyHash P (S "_parse_varint"), .str (S "_parse_varint") 2225, .ref 85⟩, ⟨PyData.keyHash P (S "_raise_serialization_error"), .str (S "_raise_serialization_error") 2234, .ref 92⟩, ⟨PyData.keyHash P (S "_escape_cdata"), .str (S "_escape_cdata") 2241, .ref 99⟩, ⟨PyData.keyHash P (S "_escape_attrib"), .str (S "_escape_attrib") 2248, .ref 106⟩, ⟨PyData.keyHash P (S "_escape_attrib_html"), .str (S "_escape_attrib_html") 2255, .ref 113⟩, ⟨PyData.keyHash P (S "_escape_cdata_c14n"), .str (S "_escape_cdata_c14n") 2262, .ref 120⟩] 19, #[]⟩
noncomputable def o12_12 (P : Params) : Obj := ⟨.none, none, .fields #[.int 3 0, .int 0 0, .ref 31, .int 6 0, .int 0 0, .ref 77, .int 12 0, .int 0 0, .ref 84, .int 21 0, .int 0 0, .ref 91, .int 23 0, .int 0 0, .ref 98, .int 34 0, .int 0 0, .ref 105, .int 53 0, .int 0 0, .ref 112, .int 64 0, .int 0 0, .ref 119], #[]⟩
noncomputable def o72_12 (P : Params) : Obj := ⟨.type "tuple", none, .seq #[] 0, #[]⟩
noncomputable def o73_12 (P : Params) : Obj := ⟨.none, none, .fields #[], #[]⟩
noncomputable def o74_12 (P : Params) : Obj := ⟨.type "tuple", none, .seq #[.str (S "code") 2210, .str (S "r") 2211] 0, #[]⟩
noncomputable def o75_12 (P : Params) : Obj := ⟨.type "tuple", none, .seq #[] 0, #[]⟩
noncomputable def o76_12 (P : Params) : Obj := ⟨.none, none, .func (fnO 4 0 (.none) (.none) 0), #[]⟩
noncomputable def o77_12 (P : Params) : Obj := ⟨.type "code", none, .fields #[.str (S "map_table_b3") 2207, .str (S "map_table_b3") 2208, .str (S "/claim/cut.py") 2209, .int 6 0, .int 1 0, .int 0 0, .int 0 0, .int 3 0, .ref 72, .bool true, .int 181 0, .ref 73, .none, .ref 74, .ref 75, .ref 76, .int 2212 0, .int 6 0, .str (S "/claim/cut.py") 2213], #[]⟩
noncomputable def o78_12 (P : Params) : Obj := ⟨.type "function", none, .func (fnO 4 3 (.str (S "cpy313.stringprep") 187) (.ref 77) 0), #[]⟩
noncomputable def o79_12 (P : Params) : Obj := ⟨.type "tuple", none, .seq #[] 0, #[]⟩
noncomputable def o80_12 (P : Params) : Obj := ⟨.none, none, .fields #[], #[]⟩
noncomputable def o81_12 (P : Params) : Obj := ⟨.type "tuple", none, .seq #[.str (S "iterator") 2220, .str (S "b") 2221, .str (S "val") 2222] 0, #[]⟩
noncomputable def o82_12 (P : Params) : Obj := ⟨.type "tuple", none, .seq #[] 0, #[]⟩
noncomputable def o83_12 (P : Params) : Obj := ⟨.none, none, .func (fnO 6 0 (.none) (.none) 0), #[]⟩
noncomputable def o84_12 (P : Params) : Obj := ⟨.type "code", none, .fields #[.str (S "_parse_varint") 2217, .str (S "_parse_varint") 2218, .str (S "/claim/cut.py") 2219, .int 12 0, .int 1 0, .int 0 0, .int 0 0, .int 3 0, .ref 79, .bool true, .int 181 0, .ref 80, .none, .ref 81, .ref 82, .ref 83, .int 2223 0, .int 12 0, .str (S "/claim/cut.py") 2224], #[]⟩
noncomputable def o85_12 (P : Params) : Obj := ⟨.type "function", none, .func (fnO 6 3 (.str (S "cpy313.dis") 2215) (.ref 84) 0), #[]⟩
noncomputable def o86_12 (P : Params) : Obj := ⟨.type "tuple", none, .seq #[] 0, #[]⟩
noncomputable def o87_12 (P : Params) : Obj := ⟨.none, none, .fields #[], #[]⟩
noncomputable def o88_12 (P : Params) : Obj := ⟨.type "tuple", none, .seq #[.str (S "text") 2231] 0, #[]⟩
noncomputable def o89_12 (P : Params) : Obj := ⟨.type "tuple", none, .seq #[] 0, #[]⟩
noncomputable def o90_12 (P : Params) : Obj := ⟨.none, none, .func (fnO 8 0 (.none) (.none) 0), #[]⟩
noncomputable def o91_12 (P : Params) : Obj := ⟨.type "code", none, .fields #[.str (S "_raise_serialization_error") 2228, .str (S "_raise_serialization_error") 2229, .str (S "/claim/cut.py") 2230, .int 21 0, .int 1 0, .int 0 0, .int 0 0, .int 3 0, .ref 86, .bool true, .int 181 0, .ref 87, .none, .ref 88, .ref 89, .ref 90, .int 2232 0, .int 21 0, .str (S "/claim/cut.py") 2233], #[]⟩
noncomputable def o92_12 (P : Params) : Obj := ⟨.type "function", none, .func (fnO 8 3 (.str (S "cpy313.xml.etree.ElementTree") 2226) (.ref 91) 0), #[]⟩
noncomputable def o93_12 (P : Params) : Obj := ⟨.type "tuple", none, .seq #[] 0, #[]⟩
noncomputable def o94_12 (P : Params) : Obj := ⟨.none, none, .fields #[], #[]⟩
noncomputable def o95_12 (P : Params) : Obj := ⟨.type "tuple", none, .seq #[.str (S "text") 2238] 0, #[]⟩
noncomputable def o96_12 (P : Params) : Obj := ⟨.type "tuple", none, .seq #[] 0, #[]⟩
noncomputable def o97_12 (P : Params) : Obj := ⟨.none, none, .func (fnO 9 0 (.none) (.none) 0), #[]⟩
noncomputable def o98_12 (P : Params) : Obj := ⟨.type "code", none, .fields #[.str (S "_escape_cdata") 2235, .str (S "_escape_cdata") 2236, .str (S "/claim/cut.py") 2237, .int 23 0, .int 1 0, .int 0 0, .int 0 0, .int 3 0, .ref 93, .bool true, .int 181 0, .ref 94, .none, .ref 95, .ref 96, .ref 97, .int 2239 0, .int 23 0, .str (S "/claim/cut.py") 2240], #[]⟩
noncomputable def o99_12 (P : Params) : Obj := ⟨.type "function", none, .func (fnO 9 3 (.str (S "cpy313.xml.etree.ElementTree") 2226) (.ref 98) 0), #[]⟩
noncomputable def o100_12 (P : Params) : Obj := ⟨.type "tuple", none, .seq #[] 0, #[]⟩
noncomputable def o101_12 (P : Params) : Obj := ⟨.none, none, .fields #[], #[]⟩
noncomputable def o102_12 (P : Params) : Obj := ⟨.type "tuple", none, .seq #[.str (S "text") 2245] 0, #[]⟩
noncomputable def o103_12 (P : Params) : Obj := ⟨.type "tuple", none, .seq #[] 0, #[]⟩
noncomputable def o104_12 (P : Params) : Obj := ⟨.none, none, .func (fnO 10 0 (.none) (.none) 0), #[]⟩
noncomputable def o105_12 (P : Params) : Obj := ⟨.type "code", none, .fields #[.str (S "_escape_attrib") 2242, .str (S "_escape_attrib") 2243, .str (S "/claim/cut.py") 2244, .int 34 0, .int 1 0, .int 0 0, .int 0 0, .int 3 0, .ref 100, .bool true, .int 181 0, .ref 101, .none, .ref 102, .ref 103, .ref 104, .int 2246 0, .int 34 0, .str (S "/claim/cut.py") 2247], #[]⟩
noncomputable def o106_12 (P : Params) : Obj := ⟨.type "function", none, .func (fnO 10 3 (.str (S "cpy313.xml.etree.ElementTree") 2226) (.ref 105) 0), #[]⟩
noncomputable def o107_12 (P : Params) : Obj := ⟨.type "tuple", none, .seq #[] 0, #[]⟩
noncomputable def o108_12 (P : Params) : Obj := ⟨.none, none, .fields #[], #[]⟩
noncomputable def o109_12 (P : Params) : Obj := ⟨.type "tuple", none, .seq #[.str (S "text") 2252] 0, #[]⟩
noncomputable def o110_12 (P : Params) : Obj := ⟨.type "tuple", none, .seq #[] 0, #[]⟩
noncomputable def o111_12 (P : Params) : Obj := ⟨.none, none, .func (fnO 11 0 (.none) (.none) 0), #[]⟩
noncomputable def o112_12 (P : Params) : Obj := ⟨.type "code", none, .fields #[.str (S "_escape_attrib_html") 2249, .str (S "_escape_attrib_html") 2250, .str (S "/claim/cut.py") 2251, .int 53 0, .int 1 0, .int 0 0, .int 0 0, .int 3 0, .ref 107, .bool true, .int 181 0, .ref 108, .none, .ref 109, .ref 110, .ref 111, .int 2253 0, .int 53 0, .str (S "/claim/cut.py") 2254], #[]⟩
noncomputable def o113_12 (P : Params) : Obj := ⟨.type "function", none, .func (fnO 11 3 (.str (S "cpy313.xml.etree.ElementTree") 2226) (.ref 112) 0), #[]⟩
noncomputable def o114_12 (P : Params) : Obj := ⟨.type "tuple", none, .seq #[] 0, #[]⟩
noncomputable def o115_12 (P : Params) : Obj := ⟨.none, none, .fields #[], #[]⟩
noncomputable def o116_12 (P : Params) : Obj := ⟨.type "tuple", none, .seq #[.str (S "text") 2259] 0, #[]⟩
noncomputable def o117_12 (P : Params) : Obj := ⟨.type "tuple", none, .seq #[] 0, #[]⟩
noncomputable def o118_12 (P : Params) : Obj := ⟨.none, none, .func (fnO 12 0 (.none) (.none) 0), #[]⟩
noncomputable def o119_12 (P : Params) : Obj := ⟨.type "code", none, .fields #[.str (S "_escape_cdata_c14n") 2256, .str (S "_escape_cdata_c14n") 2257, .str (S "/claim/cut.py") 2258, .int 64 0, .int 1 0, .int 0 0, .int 0 0, .int 3 0, .ref 114, .bool true, .int 181 0, .ref 115, .none, .ref 116, .ref 117, .ref 118, .int 2260 0, .int 64 0, .str (S "/claim/cut.py") 2261], #[]⟩
noncomputable def o120_12 (P : Params) : Obj := ⟨.type "function", none, .func (fnO 12 3 (.str (S "cpy313.xml.etree.ElementTree") 2226) (.ref 119) 0), #[]⟩
noncomputable def t_12 (P : Params) : BT := (N (boot_o_0 P) (N (boot_o_1 P) (N (o3_12 P) (N (boot_o_7 P) (N (o15_1 P) (N (o31_2 P) (N (o63_3 P) E E) (N (o95_12 P) E E)) (N (o47_3 P) (N (o79_12 P) E E) (N (o111_12 P) E E))) (N (o23_1 P) (N (o39_3 P) (N (o71_3 P) E E) (N (o103_12 P) E E)) (N (o55_3 P) (N (o87_12 P) E E) (N (o119_12 P) E E)))) (N (o11_a P) (N (o19_1 P) (N (o35_3 P) (N (o67_3 P) E E) (N (o99_12 P) E E)) (N (o51_3 P) (N (o83_12 P) E E) (N (o115_12 P) E E))) (N (o27_2 P) (N (o43_3 P) (N (o75_12 P) E E) (N (o107_12 P) E E)) (N (o59_3 P) (N (o91_12 P) E E) E)))) (N (boot_o_5 P) (N (boot_o_9 P) (N (o17_1 P) (N (o33_3 P) (N (o65_3 P) E E) (N (o97_12 P) E E)) (N (o49_3 P) (N (o81_12 P) E E) (N (o113_12 P) E E))) (N (o25_1 P) (N (o41_3 P) (N (o73_12 P) E E) (N (o105_12 P) E E)) (N (o57_3 P) (N (o89_12 P) E E) E))) (N (o13_a P) (N (o21_1 P) (N (o37_3 P) (N (o69_3 P) E E) (N (o101_12 P) E E)) (N (o53_3 P) (N (o85_12 P) E E) (N (o117_12 P) E E))) (N (o29_2 P) (N (o45_3 P) (N (o77_12 P) E E) (N (o109_12 P) E E)) (N (o61_3 P) (N (o93_12 P) E E) E))))) (N (boot_o_2 P) (N (boot_o_4 P) (N (boot_o_8 P) (N (o16_1 P) (N (o32_2 P) (N (o64_3 P) E E) (N (o96_12 P) E E)) (N (o48_3 P) (N (o80_12 P) E E) (N (o112_12 P) E E))) (N (o24_1 P) (N (o40_3 P) (N (o72_12 P) E E) (N (o104_12 P) E E)) (N (o56_3 P) (N (o88_12 P) E E) (N (o120_12 P) E E)))) (N (o12_12 P) (N (o20_1 P) (N (o36_3 P) (N (o68_3 P) E E) (N (o100_12 P) E E)) (N (o52_3 P) (N (o84_12 P) E E) (N (o116_12 P) E E))) (N (o28_2 P) (N (o44_3 P) (N (o76_12 P) E E) (N (o108_12 P) E E)) (N (o60_3 P) (N (o92_12 P) E E) E)))) (N (boot_o_6 P) (N (boot_o_10 P) (N (o18_1 P) (N (o34_3 P) (N (o66_3 P) E E) (N (o98_12 P) E E)) (N (o50_3 P) (N (o82_12 P) E E) (N (o114_12 P) E E))) (N (o26_2 P) (N (o42_3 P) (N (o74_12 P) E E) (N (o106_12 P) E E)) (N (o58_3 P) (N (o90_12 P) E E) E))) (N (o14_a P) (N (o22_1 P) (N (o38_3 P) (N (o70_3 P) E E) (N (o102_12 P) E E)) (N (o54_3 P) (N (o86_12 P) E E) (N (o118_12 P) E E))) (N (o30_2 P) (N (o46_3 P) (N (o78_12 P) E E) (N (o110_12 P) E E)) (N (o62_3 P) (N (o94_12 P) E E) E))))))
-- 12: n 121 toks 2263
noncomputable def o3_21 (P : Params) : Obj := ⟨.type "dict", none, .dict #[⟨PyData.keyHash P (S "__name__"), .str (S "__name__") 165, .str (S "law_wa0043_01") 2270⟩, ⟨PyData.keyHash P (S "__doc__"), .str (S "__doc__") 166, .none⟩, ⟨PyData.keyHash P (S "__package__"), .str (S "__package__") 167, .none⟩, ⟨PyData.keyHash P (S "__loader__"), .str (S "__loader__") 168, .builtin "__main__.__loader__#opaque"⟩, ⟨PyData.keyHash P (S "__spec__"), .str (S "__spec__") 169, .none⟩, ⟨PyData.keyHash P (S "__annotations__"), .str (S "__annotations__") 170, .ref 6⟩, ⟨PyData.keyHash P (S "__builtins__"), .str (S "__builtins__") 171, .ref 4⟩, ⟨PyData.keyHash P (S "__file__"), .str (S "__file__") 173, .str (S "/claim/cut.py") 172⟩, ⟨PyData.keyHash P (S "__cached__"), .str (S "__cached__") 174, .none⟩, ⟨PyData.keyHash P (S "b1_set"), .str (S "b1_set") 248, .ref 22⟩, ⟨PyData.keyHash P (S "in_table_b1"), .str (S "in_table_b1") 255, .ref 32⟩, ⟨PyData.keyHash P (S "b3_exceptions"), .str (S "b3_exceptions") 2206, .ref 33⟩, ⟨PyData.keyHash P (S "map_table_b3"), .str (S "map_table_b3") 2214, .ref 78⟩, ⟨PyData.keyHash P (S "_parse_varint"), .str (S "_parse_varint") 2225, .ref 85⟩, ⟨PyData.keyHash P (S "_raise_serialization_error"), .str (S "_raise_serialization_error") 2234, .ref 92⟩, ⟨PyData.keyHash P (S "_escape_cdata"), .str (S "_escape_cdata") 2241, .ref 99⟩, ⟨PyData.keyHash P (S "_escape_attrib"), .str (S "_escape_attrib") 2248, .ref 106⟩, ⟨PyData.keyHash P (S "_escape_attrib_html"), .str (S "_escape_attrib_html") 2255, .ref 113⟩, ⟨PyData.keyHash P (S "_escape_cdata_c14n"), .str (S "_escape_cdata_c14n") 2262, .ref 120⟩, ⟨PyData.keyHash P (S "_escape_attrib_c14n"), .str (S "_escape_attrib_c14n") 2269, .ref 127⟩, ⟨PyData.keyHash P (S "_law_cells"), .str (S "_law_cells") 2281, .ref 134⟩, ⟨PyData.keyHash P (S "_law_text"), .str (S "_law_text") 2292, .ref 141⟩, ⟨PyData.keyHash P (S "_law_written"), .str (S "_law_written") 2298, .ref 146⟩, ⟨PyData.keyHash P (S "_law_prepared"), .str (S "_law_prepared") 2309, .ref 153⟩, ⟨PyData.keyHash P (S "_law_octets"), .str (S "_law_octets") 2321, .ref 160⟩, ⟨PyData.keyHash P (S "_law_read"), .str (S "_law_read") 2330, .ref 167⟩, ⟨PyData.keyHash P (S "law"), .str (S "law") 2336, .ref 172⟩] 27, #[]⟩
noncomputable def o12_21 (P : Params) : Obj := ⟨.none, none, .fields #[.int 3 0, .int 0 0, .ref 31, .int 6 0, .int 0 0, .ref 77, .int 12 0, .int 0 0, .ref 84, .int 21 0, .int 0 0, .ref 91, .int 23 0, .int 0 0, .ref 98, .int 34 0, .int 0 0, .ref 105, .int 53 0, .int 0 0, .ref 112, .int 64 0, .int 0 0, .ref 119, .int 77 0, .int 0 0, .ref 126, .int 95 0, .int 0 0, .ref 133, .int 100 0, .int 0 0, .ref 140, .int 113 0, .int 0 0, .ref 145, .int 116 0, .int 0 0, .ref 152, .int 125 0, .int 0 0, .ref 159, .int 135 0, .int 0 0, .ref 166, .int 143 0, .int 0 0, .ref 171], #[]⟩
noncomputable def o121_21 (P : Params) : Obj := ⟨.type "tuple", none, .seq #[] 0, #[]⟩
noncomputable def o122_21 (P : Params) : Obj := ⟨.none, none, .fields #[], #[]⟩
noncomputable def o123_21 (P : Params) : Obj := ⟨.type "tuple", none, .seq #[.str (S "text") 2266] 0, #[]⟩
noncomputable def o124_21 (P : Params) : Obj := ⟨.type "tuple", none, .seq #[] 0, #[]⟩
noncomputable def o125_21 (P : Params) : Obj := ⟨.none, none, .func (fnO 13 0 (.none) (.none) 0), #[]⟩
noncomputable def o126_21 (P : Params) : Obj := ⟨.type "code", none, .fields #[.str (S "_escape_attrib_c14n") 2263, .str (S "_escape_attrib_c14n") 2264, .str (S "/claim/cut.py") 2265, .int 77 0, .int 1 0, .int 0 0, .int 0 0, .int 3 0, .ref 121, .bool true, .int 181 0, .ref 122, .none, .ref 123, .ref 124, .ref 125, .int 2267 0, .int 77 0, .str (S "/claim/cut.py") 2268], #[]⟩
noncomputable def o127_21 (P : Params) : Obj := ⟨.type "function", none, .func (fnO 13 3 (.str (S "cpy313.xml.etree.ElementTree") 2226) (.ref 126) 0), #[]⟩
noncomputable def o128_21 (P : Params) : Obj := ⟨.type "tuple", none, .seq #[] 0, #[]⟩
noncomputable def o129_21 (P : Params) : Obj := ⟨.none, none, .fields #[], #[]⟩
noncomputable def o130_21 (P : Params) : Obj := ⟨.type "tuple", none, .seq #[.str (S "script") 2275, .str (S "cells") 2276, .str (S "place") 2277, .str (S "x") 2278] 0, #[]⟩
noncomputable def o131_21 (P : Params) : Obj := ⟨.type "tuple", none, .seq #[] 0, #[]⟩
noncomputable def o132_21 (P : Params) : Obj := ⟨.none, none, .func (fnO 15 0 (.none) (.none) 0), #[]⟩
noncomputable def o133_21 (P : Params) : Obj := ⟨.type "code", none, .fields #[.str (S "_law_cells") 2272, .str (S "_law_cells") 2273, .str (S "/claim/cut.py") 2274, .int 95 0, .int 1 0, .int 0 0, .int 0 0, .int 3 0, .ref 128, .bool true, .int 181 0, .ref 129, .none, .ref 130, .ref 131, .ref 132, .int 2279 0, .int 95 0, .str (S "/claim/cut.py") 2280], #[]⟩
noncomputable def o134_21 (P : Params) : Obj := ⟨.type "function", none, .func (fnO 15 3 (.str (S "law_wa0043_01") 2270) (.ref 133) 0), #[]⟩
noncomputable def o135_21 (P : Params) : Obj := ⟨.type "tuple", none, .seq #[] 0, #[]⟩
noncomputable def o136_21 (P : Params) : Obj := ⟨.none, none, .fields #[], #[]⟩
noncomputable def o137_21 (P : Params) : Obj := ⟨.type "tuple", none, .seq #[.str (S "cell") 2285, .str (S "text") 2286, .str (S "left") 2287, .str (S "_") 2288, .str (S "place") 2289] 0, #[]⟩
noncomputable def o138_21 (P : Params) : Obj := ⟨.type "tuple", none, .seq #[] 0, #[]⟩
noncomputable def o139_21 (P : Params) : Obj := ⟨.none, none, .func (fnO 16 0 (.none) (.none) 0), #[]⟩
noncomputable def o140_21 (P : Params) : Obj := ⟨.type "code", none, .fields #[.str (S "_law_text") 2282, .str (S "_law_text") 2283, .str (S "/claim/cut.py") 2284, .int 100 0, .int 1 0, .int 0 0, .int 0 0, .int 3 0, .ref 135, .bool true, .int 181 0, .ref 136, .none, .ref 137, .ref 138, .ref 139, .int 2290 0, .int 100 0, .str (S "/claim/cut.py") 2291], #[]⟩
noncomputable def o141_21 (P : Params) : Obj := ⟨.type "function", none, .func (fnO 16 3 (.str (S "law_wa0043_01") 2270) (.ref 140) 0), #[]⟩
noncomputable def o142_21 (P : Params) : Obj := ⟨.type "tuple", none, .seq #[] 0, #[]⟩
noncomputable def o143_21 (P : Params) : Obj := ⟨.none, none, .fields #[], #[]⟩
noncomputable def o144_21 (P : Params) : Obj := ⟨.none, none, .func (fnO 17 0 (.none) (.none) 0), #[]⟩
noncomputable def o145_21 (P : Params) : Obj := ⟨.type "code", none, .fields #[.str (S "_law_written") 2293, .str (S "_law_written") 2294, .str (S "/claim/cut.py") 2295, .int 113 0, .int 2 0, .int 0 0, .int 0 0, .int 3 0, .ref 142, .bool true, .int 181 0, .ref 143, .none, .none, .none, .ref 144, .int 2296 0, .int 113 0, .str (S "/claim/cut.py") 2297], #[]⟩
noncomputable def o146_21 (P : Params) : Obj := ⟨.type "function", none, .func (fnO 17 3 (.str (S "law_wa0043_01") 2270) (.ref 145) 0), #[]⟩
noncomputable def o147_21 (P : Params) : Obj := ⟨.type "tuple", none, .seq #[] 0, #[]⟩
noncomputable def o148_21 (P : Params) : Obj := ⟨.none, none, .fields #[], #[]⟩
noncomputable def o149_21 (P : Params) : Obj := ⟨.type "tuple", none, .seq #[.str (S "text") 2302, .str (S "folds") 2303, .str (S "kept") 2304, .str (S "sign") 2305, .str (S "code") 2306] 0, #[]⟩
noncomputable def o150_21 (P : Params) : Obj := ⟨.type "tuple", none, .seq #[] 0, #[]⟩
noncomputable def o151_21 (P : Params) : Obj := ⟨.none, none, .func (fnO 18 0 (.none) (.none) 0), #[]⟩
noncomputable def o152_21 (P : Params) : Obj := ⟨.type "code", none, .fields #[.str (S "_law_prepared") 2299, .str (S "_law_prepared") 2300, .str (S "/claim/cut.py") 2301, .int 116 0, .int 1 0, .int 0 0, .int 0 0, .int 3 0, .ref 147, .bool true, .int 181 0, .ref 148, .none, .ref 149, .ref 150, .ref 151, .int 2307 0, .int 116 0, .str (S "/claim/cut.py") 2308], #[]⟩
noncomputable def o153_21 (P : Params) : Obj := ⟨.type "function", none, .func (fnO 18 3 (.str (S "law_wa0043_01") 2270) (.ref 152) 0), #[]⟩
noncomputable def o154_21 (P : Params) : Obj := ⟨.type "tuple", none, .seq #[] 0, #[]⟩
noncomputable def o155_21 (P : Params) : Obj := ⟨.none, none, .fields #[], #[]⟩
noncomputable def o156_21 (P : Params) : Obj := ⟨.type "tuple", none, .seq #[.str (S "page") 2313, .str (S "mark") 2314, .str (S "row") 2315, .str (S "sign") 2316, .str (S "code") 2317, .str (S "digits") 2318] 0, #[]⟩
noncomputable def o157_21 (P : Params) : Obj := ⟨.type "tuple", none, .seq #[] 0, #[]⟩
noncomputable def o158_21 (P : Params) : Obj := ⟨.none, none, .func (fnO 19 0 (.none) (.none) 0), #[]⟩
noncomputable def o159_21 (P : Params) : Obj := ⟨.type "code", none, .fields #[.str (S "_law_octets") 2310, .str (S "_law_octets") 2311, .str (S "/claim/cut.py") 2312, .int 125 0, .int 2 0, .int 0 0, .int 0 0, .int 3 0, .ref 154, .bool true, .int 181 0, .ref 155, .none, .ref 156, .ref 157, .ref 158, .int 2319 0, .int 125 0, .str (S "/claim/cut.py") 2320], #[]⟩
noncomputable def o160_21 (P : Params) : Obj := ⟨.type "function", none, .func (fnO 19 3 (.str (S "law_wa0043_01") 2270) (.ref 159) 0), #[]⟩
noncomputable def o161_21 (P : Params) : Obj := ⟨.type "tuple", none, .seq #[] 0, #[]⟩
noncomputable def o162_21 (P : Params) : Obj := ⟨.none, none, .fields #[], #[]⟩
noncomputable def o163_21 (P : Params) : Obj := ⟨.type "tuple", none, .seq #[.str (S "octets") 2325, .str (S "flow") 2326, .str (S "numbers") 2327] 0, #[]⟩
noncomputable def o164_21 (P : Params) : Obj := ⟨.type "tuple", none, .seq #[] 0, #[]⟩
noncomputable def o165_21 (P : Params) : Obj := ⟨.none, none, .func (fnO 20 0 (.none) (.none) 0), #[]⟩
noncomputable def o166_21 (P : Params) : Obj := ⟨.type "code", none, .fields #[.str (S "_law_read") 2322, .str (S "_law_read") 2323, .str (S "/claim/cut.py") 2324, .int 135 0, .int 1 0, .int 0 0, .int 0 0, .int 3 0, .ref 161, .bool true, .int 181 0, .ref 162, .none, .ref 163, .ref 164, .ref 165, .int 2328 0, .int 135 0, .str (S "/claim/cut.py") 2329], #[]⟩
noncomputable def o167_21 (P : Params) : Obj := ⟨.type "function", none, .func (fnO 20 3 (.str (S "law_wa0043_01") 2270) (.ref 166) 0), #[]⟩
noncomputable def o168_21 (P : Params) : Obj := ⟨.type "tuple", none, .seq #[] 0, #[]⟩
noncomputable def o169_21 (P : Params) : Obj := ⟨.none, none, .fields #[], #[]⟩
noncomputable def o170_21 (P : Params) : Obj := ⟨.none, none, .func (fnO 21 0 (.none) (.none) 0), #[]⟩
noncomputable def o171_21 (P : Params) : Obj := ⟨.type "code", none, .fields #[.str (S "law") 2331, .str (S "law") 2332, .str (S "/claim/cut.py") 2333, .int 143 0, .int 1 0, .int 0 0, .int 0 0, .int 3 0, .ref 168, .bool true, .int 181 0, .ref 169, .none, .none, .none, .ref 170, .int 2334 0, .int 143 0, .str (S "/claim/cut.py") 2335], #[]⟩
noncomputable def o172_21 (P : Params) : Obj := ⟨.type "function", none, .func (fnO 21 3 (.str (S "law_wa0043_01") 2270) (.ref 171) 0), #[]⟩
noncomputable def t_21 (P : Params) : BT := (N (boot_o_0 P) (N (boot_o_1 P) (N (o3_21 P) (N (boot_o_7 P) (N (o15_1 P) (N (o31_2 P) (N (o63_3 P) (N (o127_21 P) E E) E) (N (o95_12 P) (N (o159_21 P) E E) E)) (N (o47_3 P) (N (o79_12 P) (N (o143_21 P) E E) E) (N (o111_12 P) E E))) (N (o23_1 P) (N (o39_3 P) (N (o71_3 P) (N (o135_21 P) E E) E) (N (o103_12 P) (N (o167_21 P) E E) E)) (N (o55_3 P) (N (o87_12 P) (N (o151_21 P) E E) E) (N (o119_12 P) E E)))) (N (o11_a P) (N (o19_1 P) (N (o35_3 P) (N (o67_3 P) (N (o131_21 P) E E) E) (N (o99_12 P) (N (o163_21 P) E E) E)) (N (o51_3 P) (N (o83_12 P) (N (o147_21 P) E E) E) (N (o115_12 P) E E))) (N (o27_2 P) (N (o43_3 P) (N (o75_12 P) (N (o139_21 P) E E) E) (N (o107_12 P) (N (o171_21 P) E E) E)) (N (o59_3 P) (N (o91_12 P) (N (o155_21 P) E E) E) (N (o123_21 P) E E))))) (N (boot_o_5 P) (N (boot_o_9 P) (N (o17_1 P) (N (o33_3 P) (N (o65_3 P) (N (o129_21 P) E E) E) (N (o97_12 P) (N (o161_21 P) E E) E)) (N (o49_3 P) (N (o81_12 P) (N (o145_21 P) E E) E) (N (o113_12 P) E E))) (N (o25_1 P) (N (o41_3 P) (N (o73_12 P) (N (o137_21 P) E E) E) (N (o105_12 P) (N (o169_21 P) E E) E)) (N (o57_3 P) (N (o89_12 P) (N (o153_21 P) E E) E) (N (o121_21 P) E E)))) (N (o13_a P) (N (o21_1 P) (N (o37_3 P) (N (o69_3 P) (N (o133_21 P) E E) E) (N (o101_12 P) (N (o165_21 P) E E) E)) (N (o53_3 P) (N (o85_12 P) (N (o149_21 P) E E) E) (N (o117_12 P) E E))) (N (o29_2 P) (N (o45_3 P) (N (o77_12 P) (N (o141_21 P) E E) E) (N (o109_12 P) E E)) (N (o61_3 P) (N (o93_12 P) (N (o157_21 P) E E) E) (N (o125_21 P) E E)))))) (N (boot_o_2 P) (N (boot_o_4 P) (N (boot_o_8 P) (N (o16_1 P) (N (o32_2 P) (N (o64_3 P) (N (o128_21 P) E E) E) (N (o96_12 P) (N (o160_21 P) E E) E)) (N (o48_3 P) (N (o80_12 P) (N (o144_21 P) E E) E) (N (o112_12 P) E E))) (N (o24_1 P) (N (o40_3 P) (N (o72_12 P) (N (o136_21 P) E E) E) (N (o104_12 P) (N (o168_21 P) E E) E)) (N (o56_3 P) (N (o88_12 P) (N (o152_21 P) E E) E) (N (o120_12 P) E E)))) (N (o12_21 P) (N (o20_1 P) (N (o36_3 P) (N (o68_3 P) (N (o132_21 P) E E) E) (N (o100_12 P) (N (o164_21 P) E E) E)) (N (o52_3 P) (N (o84_12 P) (N (o148_21 P) E E) E) (N (o116_12 P) E E))) (N (o28_2 P) (N (o44_3 P) (N (o76_12 P) (N (o140_21 P) E E) E) (N (o108_12 P) (N (o172_21 P) E E) E)) (N (o60_3 P) (N (o92_12 P) (N (o156_21 P) E E) E) (N (o124_21 P) E E))))) (N (boot_o_6 P) (N (boot_o_10 P) (N (o18_1 P) (N (o34_3 P) (N (o66_3 P) (N (o130_21 P) E E) E) (N (o98_12 P) (N (o162_21 P) E E) E)) (N (o50_3 P) (N (o82_12 P) (N (o146_21 P) E E) E) (N (o114_12 P) E E))) (N (o26_2 P) (N (o42_3 P) (N (o74_12 P) (N (o138_21 P) E E) E) (N (o106_12 P) (N (o170_21 P) E E) E)) (N (o58_3 P) (N (o90_12 P) (N (o154_21 P) E E) E) (N (o122_21 P) E E)))) (N (o14_a P) (N (o22_1 P) (N (o38_3 P) (N (o70_3 P) (N (o134_21 P) E E) E) (N (o102_12 P) (N (o166_21 P) E E) E)) (N (o54_3 P) (N (o86_12 P) (N (o150_21 P) E E) E) (N (o118_12 P) E E))) (N (o30_2 P) (N (o46_3 P) (N (o78_12 P) (N (o142_21 P) E E) E) (N (o110_12 P) E E)) (N (o62_3 P) (N (o94_12 P) (N (o158_21 P) E E) E) (N (o126_21 P) E E)))))))
-- 21: n 173 toks 2337

def benv : Env := { scope := P0.main.scope, locals := mainNs, globals := mainNs, cells := [], code := .ref 13, frame := some 14 }
def bcode : Code := .body (behindTheImports P0) benv
abbrev stT (t : BT) (n toks : Nat) (os : OsState) : SharedT := ⟨t, n, {}, #[], {}, toks, os⟩
abbrev segT (w : World) (n : Nat) (s : SharedT) (t : Thread) := segRunT treeTable P0 w 11 (some (.ref 6)) 1 n s t
/-- the heap that the big display is laid upon, and the one it leaves -/
theorem heap_dict (P : Params) : (afterS 33 37 (kvs.drop 17) ((absHeap (t_2 P) 33 {}).push (dO (ent3 256 (kvs.take 17)) (ent3 256 (kvs.take 17)).length)) 307 (ent3 256 (kvs.take 17))).1 = absHeap ((t_3 P).set 3 fun _ => o3_2 P) 72 {} := by
  kernel_rfl
theorem toks_dict (h : Heap) : (afterS 33 37 (kvs.drop 17) h 307 (ent3 256 (kvs.take 17))).2.1 = 2206 := by
  kernel_rfl
end LW
end
section
open PySem PySem.W PyProof.Rows
set_option linter.all false
set_option maxRecDepth 100000
namespace LW
def vw : Program := { P0 with main := { P0.main with body := [st 1, st 2, st 3, st 4, st 6, st 8, st 9, st 10, st 11, st 12, st 13, st 15, st 16, st 17, st 18, st 19, st 20, st 21] } }
def lo : List Str := [S "b1_set", S "b3_exceptions"]
noncomputable def KK : Params → Frag := fun P => (nat_lit 2, boot_o_2 P) :: (nat_lit 3, o3_21 P) :: (nat_lit 22, o22_1 P) :: (nat_lit 31, o31_2 P) :: (nat_lit 32, o32_2 P) :: (nat_lit 33, o33_3 P) :: (nat_lit 77, o77_12 P) :: (nat_lit 78, o78_12 P) :: (nat_lit 84, o84_12 P) :: (nat_lit 85, o85_12 P) :: (nat_lit 91, o91_12 P) :: (nat_lit 92, o92_12 P) :: (nat_lit 98, o98_12 P) :: (nat_lit 99, o99_12 P) :: (nat_lit 105, o105_12 P) :: (nat_lit 106, o106_12 P) :: (nat_lit 112, o112_12 P) :: (nat_lit 113, o113_12 P) :: (nat_lit 119, o119_12 P) :: (nat_lit 120, o120_12 P) :: (nat_lit 126, o126_21 P) :: (nat_lit 127, o127_21 P) :: (nat_lit 133, o133_21 P) :: (nat_lit 134, o134_21 P) :: (nat_lit 140, o140_21 P) :: (nat_lit 141, o141_21 P) :: (nat_lit 145, o145_21 P) :: (nat_lit 146, o146_21 P) :: (nat_lit 152, o152_21 P) :: (nat_lit 153, o153_21 P) :: (nat_lit 159, o159_21 P) :: (nat_lit 160, o160_21 P) :: (nat_lit 166, o166_21 P) :: (nat_lit 167, o167_21 P) :: (nat_lit 171, o171_21 P) :: (nat_lit 172, o172_21 P) :: []
def KA : List Addr := [2, 3, 22, 31, 32, 33, 77, 78, 84, 85, 91, 92, 98, 99, 105, 106, 112, 113, 119, 120, 126, 127, 133, 134, 140, 141, 145, 146, 152, 153, 159, 160, 166, 167, 171, 172]
theorem KA_is (P : Params) : KA = (KK P).map (·.1) := by kernel_rfl
end LW
end
section
open PySem PySem.W PyProof.Rows
set_option linter.all false
set_option maxRecDepth 100000
set_option maxHeartbeats 0
namespace LW
abbrev ww (w : World) (b c : Bool) : World := (w.withFollow "special-get-raises" c).withFollow "set-order" b
theorem p1_tt (w : World) (os : OsState) (pos : Pos) : segT (ww w true true) 1050 (stT (t_a (ww w true true).params) 15 187 os) (piecesOf [st 0, st 1, st 2] benv bcode pos B0) = some (.next, stT (t_2 (ww w true true).params) 33 256 os, bcode, ⟨3, 0, 4, 30⟩) := by
  delta segT piecesOf
  rw [Fast.te10110043849684766642, Fast.te14364793385576792824, Fast.te12563942051412417395]
  kernel_rfl
theorem p1_tf (w : World) (os : OsState) (pos : Pos) : segT (ww w true false) 1050 (stT (t_a (ww w true false).params) 15 187 os) (piecesOf [st 0, st 1, st 2] benv bcode pos B0) = some (.next, stT (t_2 (ww w true false).params) 33 256 os, bcode, ⟨3, 0, 4, 30⟩) := by
  delta segT piecesOf
  rw [Fast.te10110043849684766642, Fast.te14364793385576792824, Fast.te12563942051412417395]
  kernel_rfl
theorem p1_ft (w : World) (os : OsState) (pos : Pos) : segT (ww w false true) 1050 (stT (t_a (ww w false true).params) 15 187 os) (piecesOf [st 0, st 1, st 2] benv bcode pos B0) = some (.next, stT (t_2 (ww w false true).params) 33 256 os, bcode, ⟨3, 0, 4, 30⟩) := by
  delta segT piecesOf
  rw [Fast.te10110043849684766642, Fast.te14364793385576792824, Fast.te12563942051412417395]
  kernel_rfl
theorem p1_ff (w : World) (os : OsState) (pos : Pos) : segT (ww w false false) 1050 (stT (t_a (ww w false false).params) 15 187 os) (piecesOf [st 0, st 1, st 2] benv bcode pos B0) = some (.next, stT (t_2 (ww w false false).params) 33 256 os, bcode, ⟨3, 0, 4, 30⟩) := by
  delta segT piecesOf
  rw [Fast.te10110043849684766642, Fast.te14364793385576792824, Fast.te12563942051412417395]
  kernel_rfl
theorem p1 (w : World) (os : OsState) (pos : Pos) : segT w 1050 (stT (t_a w.params) 15 187 os) (piecesOf [st 0, st 1, st 2] benv bcode pos B0) = some (.next, stT (t_2 w.params) 33 256 os, bcode, ⟨3, 0, 4, 30⟩) := by
  have key : ∀ (w : World) (c b : Bool), segT (ww w b c) 1050 (stT (t_a (ww w b c).params) 15 187 os) (piecesOf [st 0, st 1, st 2] benv bcode pos B0) = some (.next, stT (t_2 (ww w b c).params) 33 256 os, bcode, ⟨3, 0, 4, 30⟩) := fun w c b => by
    cases b <;> cases c
    · exact p1_ff w os pos
    · exact p1_ft w os pos
    · exact p1_tf w os pos
    · exact p1_tt w os pos
  refine byFollow "special-get-raises" (P := fun w => segT w 1050 (stT (t_a w.params) 15 187 os) (piecesOf [st 0, st 1, st 2] benv bcode pos B0) = some (.next, stT (t_2 w.params) 33 256 os, bcode, ⟨3, 0, 4, 30⟩)) (fun w c => ?_) w
  have e := World.withFollow_self (w.withFollow "special-get-raises" c) "set-order"
  have := key w c ((w.withFollow "special-get-raises" c).params.followText "set-order")
  unfold ww at this
  rw [e] at this
  exact this
theorem p3a (w : World) (os : OsState) (pos : Pos) : segT w 300 (stT (t_3 w.params) 72 2207 os) (piecesOf [st 4, st 5, st 6, st 7, st 8, st 9, st 10, st 11, st 12] benv bcode pos B0) = some (.next, stT (t_12 w.params) 121 2263 os, bcode, ⟨64, 0, 76, 40⟩) := by
  kernel_rfl
theorem p3b (w : World) (os : OsState) (pos : Pos) : segT w 400 (stT (t_12 w.params) 121 2263 os) (piecesOf [st 13, st 14, st 15, st 16, st 17, st 18, st 19, st 20, st 21] benv bcode pos B0) = some (.next, stT (t_21 w.params) 173 2337 os, bcode, ⟨143, 0, 173, 40⟩) := by
  kernel_rfl
theorem p0 (w : World) (os : OsState) : topGo treeTable P0 w 11 (some (.ref 6)) 12 ⟨boot_heap w.params, Array.mk [], boot_drawn, boot_toks, os⟩ (topStub P0) = some ((stT (t_a w.params) 15 187 os).abs, ⟨denote treeTable bcode, bcode, z0, B0⟩) := by
  kernel_rfl
theorem pB (w : World) (os : OsState) : segRun treeTable P0 w 11 (some (.ref 6)) 1 1 (stT (t_a w.params) 15 187 os).abs (blockOf (behindTheImports P0) benv bcode z0 B0) = some (.next, (stT (t_a w.params) 15 187 os).abs, bcode, z0) := by
  kernel_rfl
theorem pFin (w : World) (os : OsState) (pos : Pos) : topRun treeTable P0 w 11 (some (.ref 6)) 2 (stT (t_21 w.params) 173 2337 os).abs ⟨doneF .next, bcode, pos, B0⟩ = some (stT (t_21 w.params) 173 2337 os).abs := by
  kernel_rfl
end LW
end
section
open PySem PySem.W PyProof.Rows
set_option linter.all false
set_option maxRecDepth 100000
set_option maxHeartbeats 0
namespace LW
def asc : Int → List Int → Bool
  | _, [] => true
  | a, b :: r => decide (a < b) && asc b r
theorem asc_lt : ∀ {l : List Int} {a : Int}, asc a l = true → ∀ x ∈ l, a < x
  | [], _, _, _, h => nomatch h
  | b :: r, a, e, x, h => by
    obtain ⟨h1, h2⟩ := Bool.and_eq_true_iff.mp e
    have h1 := of_decide_eq_true h1
    rcases List.mem_cons.mp h with rfl | h
    · exact h1
    · exact Int.lt_trans h1 (asc_lt h2 x h)
theorem asc_pw : ∀ {l : List Int} {a : Int}, asc a l = true → l.Pairwise (· ≠ ·)
  | [], _, _ => .nil
  | b :: r, a, e => by
    obtain ⟨h1, h2⟩ := Bool.and_eq_true_iff.mp e
    exact .cons (fun x hx => Int.ne_of_lt (asc_lt h2 x hx)) (asc_pw h2)
theorem pw_map {es : List DictEntry} (h : (es.map (·.hash)).Pairwise (· ≠ ·)) : PW es := List.pairwise_map.mp h
theorem pw_main : PW (ent3 256 (kvs.take 17) ++ allE 37 (kvs.drop 17) 307) := pw_map (asc_pw (a := 0) (by kernel_rfl))

theorem st3_is : ∃ n pn p p', st 3 = .Assign [.Name n pn] (.Dict (dKV (st 3)).1 (dKV (st 3)).2 p) p' := ⟨_, _, _, _, rfl⟩
theorem items_is (q : Pos) : (evalEachOpt (dKV (st 3)).1 benv).zip ((evalEach (dKV (st 3)).2 benv).map fun v => (do let x ← v; standAt q; pure x : Sem Value)) = kvs.map (itm q) := by
  kernel_rfl
theorem kvs_len : kvs.length = 650 := by kernel_rfl
theorem go_dictAny {w : World} {q : Pos} {l : List (Int × Str)} {s : Shared} {h' : Heap} (hs : s.heap.objs.size = 33) (ht : s.toks = 256) (h17 : l.length = 650) (hp : PW (ent3 256 (l.take 17) ++ allE 37 (l.drop 17) 307))
    (e1 : (afterS 33 37 (l.drop 17) (s.heap.push (dO (ent3 256 (l.take 17)) (ent3 256 (l.take 17)).length)) 307 (ent3 256 (l.take 17))).1 = h') (e2 : ∀ h, (afterS 33 37 (l.drop 17) h 307 (ent3 256 (l.take 17))).2.1 = 2206) :
    ∃ b, b ≤ 17000 ∧ Go w (dictDisplay (l.map (itm q))) s (.ref 33) { s with heap := h', toks := 2206 } b := by
  obtain ⟨b, hb, g⟩ := go_dictDisplay (w := w) (q := q) (n := 37) (l := l) (s := s) (by rw [List.length_drop, h17]; decide) (by rw [List.length_drop, h17]; decide) (by rw [h17]; decide) (by rw [hs]; decide) (by rw [h17]; decide)
    (by rw [ht]; exact hp)
  rw [hs, ht, show 256 + 51 = 307 from rfl, e1, e2] at g
  rw [h17] at hb
  exact ⟨b, by omega, g⟩
theorem go_dict (w : World) (os : OsState) (q : Pos) : ∃ b, b ≤ 17000 ∧ Go w (dictDisplay (kvs.map (itm q))) (stT (t_2 w.params) 33 256 os).abs (.ref 33) ⟨absHeap ((t_3 w.params).set 3 fun _ => o3_2 w.params) 72 {}, #[], {}, 2206, os⟩ b :=
  go_dictAny (absHeap_size _ _ _) rfl kvs_len pw_main (heap_dict w.params) toks_dict
end LW
end
section
open PySem PySem.W PyProof.Rows
set_option linter.all false
set_option maxRecDepth 100000
set_option maxHeartbeats 0
namespace LW
theorem sem_assoc {α β γ : Type} (m : Sem α) (f : α → Sem β) (g : β → Sem γ) : (m >>= f) >>= g = m >>= fun a => f a >>= g := by
  rw [Sem.bind_eq_wrap', Sem.bind_eq_wrap', Sem.bind_eq_wrap', Sem.wrap_wrap]
  refine Sem.wrap_congr _ _ _ (fun a => ?_) fun e => rfl
  rw [Sem.bind_eq_wrap']
/-- behind the display: the store -/
theorem tail_dict (w : World) (os : OsState) (c : Code) (p : Pos) (n : Str) (pn pa : Pos) (ks : List (Option Expr)) (vs : List Expr) (pd : Pos) (hn : n = S "b3_exceptions") :
    segT w 40 (stT ((t_3 w.params).set 3 fun _ => o3_2 w.params) 72 2206 os) ⟨(do let fl ← (do assignStores benv (Value.ref 33) (← swappedStores [.Name n pn] (.Dict ks vs pd) benv) ((assignEach [.Name n pn] benv).map (·.2)) : Sem Flow); (match fl with | .next => execs [] benv | f => pure f) : Sem Flow).wrap doneF deadEnd id id, bcode, p, B0⟩ =
      some (.next, stT (t_3 w.params) 72 2207 os, bcode, pn) := by
  subst hn
  delta segT
  rw [Fast.te10110043849684766642, Fast.te14364793385576792824]
  kernel_rfl
theorem piece_dict (w : World) (os : OsState) (pos : Pos) : ∃ n, n ≤ 18000 ∧ ∃ p', segRun treeTable P0 w 11 (some (.ref 6)) 1 n (stT (t_2 w.params) 33 256 os).abs (piecesOf [st 3] benv bcode pos B0) = some (.next, (stT (t_3 w.params) 72 2207 os).abs, bcode, p') := by
  obtain ⟨n, pn, p, p', hst⟩ := st3_is
  have hn : n = S "b3_exceptions" := by
    have : (match st 3 with | .Assign [.Name n _] _ _ => n | _ => S "") = S "b3_exceptions" := by kernel_rfl
    rw [hst] at this
    exact this
  obtain ⟨b, hb, g⟩ := go_dict w os p
  rw [← items_is] at g
  generalize (dKV (st 3)).1 = ks at *
  generalize (dKV (st 3)).2 = vs at *
  have G : Go w (do standAt p'; standAt p; dictDisplay ((evalEachOpt ks benv).zip ((evalEach vs benv).map fun v => (do let x ← v; standAt p; pure x : Sem Value)))) (stT (t_2 w.params) 33 256 os).abs (.ref 33) ⟨absHeap ((t_3 w.params).set 3 fun _ => o3_2 w.params) 72 {}, #[], {}, 2206, os⟩ (1 + (1 + b)) :=
    go_bind (x := 1) go_at (go_bind (x := 1) go_at g)
  obtain ⟨m, hm, G⟩ := G
  obtain ⟨p1, G⟩ := G (fun v => (do let fl ← (do assignStores benv v (← swappedStores [.Name n pn] (.Dict ks vs p) benv) ((assignEach [.Name n pn] benv).map (·.2)) : Sem Flow); (match fl with | .next => execs [] benv | f => pure f) : Sem Flow).wrap doneF deadEnd id id) deadEnd id id bcode pos
  refine ⟨40 + m, by omega, pn, ?_⟩
  have T := segRun_of (tail_dict w os bcode p1 n pn p' ks vs p hn)
  have G := G 40
  have E : (piecesOf [st 3] benv bcode pos B0) = ⟨((do standAt p'; standAt p; dictDisplay ((evalEachOpt ks benv).zip ((evalEach vs benv).map fun v => (do let x ← v; standAt p; pure x : Sem Value))) : Sem Value)).wrap (fun v => (do let fl ← (do assignStores benv v (← swappedStores [.Name n pn] (.Dict ks vs p) benv) ((assignEach [.Name n pn] benv).map (·.2)) : Sem Flow); (match fl with | .next => execs [] benv | f => pure f) : Sem Flow).wrap doneF deadEnd id id) deadEnd id id, bcode, pos, B0⟩ := by
    rw [hst]
    have : execs [Stmt.Assign [.Name n pn] (.Dict ks vs p) p'] benv = (do standAt p'; standAt p; dictDisplay ((evalEachOpt ks benv).zip ((evalEach vs benv).map fun v => (do let x ← v; standAt p; pure x : Sem Value))) : Sem Value) >>= fun v => (do let fl ← (do assignStores benv v (← swappedStores [.Name n pn] (.Dict ks vs p) benv) ((assignEach [.Name n pn] benv).map (·.2)) : Sem Flow); (match fl with | .next => execs [] benv | f => pure f) : Sem Flow) := by
      have e1 : exec (Stmt.Assign [.Name n pn] (.Dict ks vs p) p') benv = (do standAt p'; standAt p; dictDisplay ((evalEachOpt ks benv).zip ((evalEach vs benv).map fun v => (do let x ← v; standAt p; pure x : Sem Value))) : Sem Value) >>= fun v => (do assignStores benv v (← swappedStores [.Name n pn] (.Dict ks vs p) benv) ((assignEach [.Name n pn] benv).map (·.2)) : Sem Flow) := by
        rfl
      show (exec (Stmt.Assign [.Name n pn] (.Dict ks vs p) p') benv >>= fun f => match f with | .next => execs [] benv | f => pure f) = _
      rw [e1, sem_assoc]
    show (⟨(execs [Stmt.Assign [.Name n pn] (.Dict ks vs p) p'] benv).wrap doneF deadEnd id id, bcode, pos, B0⟩ : Thread) = _
    rw [this, Sem.bind_eq_wrap', Sem.wrap_wrap]
    rfl
  rw [E]
  exact G.trans T
end LW
end
section
open PySem PySem.W PyProof.Rows
set_option linter.all false
set_option maxRecDepth 100000
set_option maxHeartbeats 0
namespace LW
theorem body_split : behindTheImports P0 = [st 0, st 1, st 2] ++ ([st 3] ++ ([st 4, st 5, st 6, st 7, st 8, st 9, st 10, st 11, st 12] ++ ([st 13, st 14, st 15, st 16, st 17, st 18, st 19, st 20, st 21] ++ []))) := by kernel_rfl
theorem rest_run (w : World) (os : OsState) : ∃ M, M ≤ 24000 ∧ topRun treeTable P0 w 11 (some (.ref 6)) M (stT (t_a w.params) 15 187 os).abs (restOf (behindTheImports P0) benv bcode z0 B0) = some (stT (t_21 w.params) 173 2337 os).abs := by
  obtain ⟨n, hn, p', hd⟩ := piece_dict w os ⟨3, 0, 4, 30⟩
  rw [body_split]
  exact ⟨_, by omega, piece_app (n := 1050) (segRun_of (p1 w os z0)) (piece_app hd (piece_app (n := 300) (segRun_of (p3a w os p')) (piece_app (n := 400) (segRun_of (p3b w os _)) (piece_nil (N := 2) (pFin w os _)))))⟩
theorem top_run (w : World) (os : OsState) : topRun treeTable P0 w 11 (some (.ref 6)) 25000 ⟨boot_heap w.params, Array.mk [], boot_drawn, boot_toks, os⟩ (topStub P0) = some ⟨absHeap (t_21 w.params) 173 {}, #[], {}, 2337, os⟩ := by
  obtain ⟨M, hM, h⟩ := rest_run w os
  have r := go_top (p0 w os) (piece_block (pB w os) h)
  have r := topRun_mono (25000 - (12 + (1 + M))) _ _ _ _ r
  rw [show 12 + (1 + M) + (25000 - (12 + (1 + M))) = 25000 by omega] at r
  exact r
theorem opened : ∀ w : World, (fencedOpening treeTable P0 w 30000).map (fun s => (s.heap, s.gens, s.drawn, s.toks)) = some (boot_heap w.params, Array.mk [], boot_drawn, boot_toks) :=
  boot_open (by kernel_rfl) (by kernel_rfl) (fun s => by kernel_rfl)
theorem sized : ∀ w : World, ((boot_heap w.params).isNs mainGlobals && (Array.mk [] : Array GenState).size == 0, (boot_heap w.params).objs.size, (boot_heap w.params).nsMap mainGlobals "__annotations__") = (true, 11, some (.ref 6)) := fun w => by kernel_rfl
end LW
end
section
open PySem PySem.W PyProof.Rows
set_option linter.all false
set_option maxRecDepth 100000
set_option maxHeartbeats 0
namespace LW
noncomputable abbrev HK : Hook := kHook KK KA KA_is
noncomputable abbrev H1 (P : Params) : Heap := absHeap (t_21 P) 173 {}
abbrev rowW : RowW := PySem.Challenge.rw_wa0043_01.row.toRowW
abbrev XT : Shared → Bool := fun s => xlAt vw [] s && recOk (RowW.records rowW) s
theorem look1 (w : World) (os : OsState) : (staticsOk (importedModules P0.main.body) (boot_heap w.params) (H1 w.params) && namesBound P0 (H1 w.params) && gensDone ⟨H1 w.params, #[], {}, 2337, os⟩ && laidKept (boot_heap w.params) (H1 w.params)) = true := by
  kernel_rfl
theorem look3 (w : World) (os : OsState) : HK.obs ⟨H1 w.params, #[], {}, 2337, os⟩ = HK.val w := by
  kernel_rfl
theorem look2 (w : World) (os : OsState) : openSeen vw lo (importedModules P0.main.body) XT true ⟨H1 w.params, #[], {}, 2337, os⟩ = openGood vw lo := by
  rw [Fast.te4187177175401517315, Fast.te5923862056798008813]
  kernel_rfl
end LW
end
section
open PySem PySem.W PyProof.Rows
set_option linter.all false
set_option maxRecDepth 100000
set_option maxHeartbeats 0
namespace LW
theorem left : LeftO P0 vw lo XT HK.obs HK.val 30000 true :=
  LeftO.of_pieces (g0 := true) (M := 25000) opened sized top_run (by kernel_rfl) (fun w => funext fun os => by rw [look1 w os, look2 w os, look3 w os])
set_option maxHeartbeats 8000000 in
theorem holds_of (d : DefRec) (kwd : List (Str × Expr)) (hdef : defOf vw PySem.Challenge.rw_wa0043_01.row.name = some (d, kwd)) (hp : PySem.Challenge.rw_wa0043_01.row.prog.theDef PySem.Challenge.rw_wa0043_01.row.name = some (d.params, d.body, d.scope)) (hk : kwWritten? d.params.kwonlyargs d.params.kw_defaults = some kwd)
    (call : WalkO vw lo (XL vw []) HK.says rowW d kwd fun f vs => PySem.call f vs) : PySem.Challenge.rw_wa0043_01.Holds := by
  w_on
  o_law
  refine holds_open (q := vw) (loose := lo) (Xt := XT) (XP := XL vw []) (Yf := HK.obs) (Ya := HK.val) (YP := HK.says) (N := 30000) left HK.of HK.keeps (fun s e => xl_of s (Bool.and_eq_true_iff.mp e).1) XL.keeps hdef hp hk (fun s e => recFacts_of (Bool.and_eq_true_iff.mp e).2) (by rfl) (by first | assumption | decide +kernel) (by decide +kernel) ⟨rfl, rfl, rfl, rfl, rfl, by decide +kernel⟩ ?hw call
  case hw => w_witness2
end LW
end
section
open PySem PySem.W PyProof.Rows PySem.Calls PySem.Spec
set_option linter.all false
set_option maxRecDepth 100000
set_option maxHeartbeats 4000000
namespace LW
/-- every object stands as it stood -/
abbrev Kp (h h' : Heap) : Prop := ∀ b o, h.get? b = some o → h'.get? b = some o
/-- where a call of the text's own defs is made: the frames, the written part, the room -/
structure Cx (w : World) (mean : ExcName → Option Value) (mg mb : Str → Option Value) (A : Around) (base : Heap) (outer : List Env) (h : Heap) (n : Nat) : Prop where
  B : Below A base outer h
  X : (KK w.params).In h
  T : Top vw (looseW vw lo) mean mg mb h
  hh : A.handled = none
  hd : A.depth + n < recursionLimit
  hu : A.units + 10 * n < cLine
section
variable {w : World} {mean : ExcName → Option Value} {mg mb : Str → Option Value} {A : Around} {base : Heap} {outer : List Env} {h h' : Heap} {n : Nat}
theorem Cx.keeps (c : Cx w mean mg mb A base outer h n) (k : Kp h h') : Cx w mean mg mb A base outer h' n :=
  ⟨⟨c.B.stack, fun b o e => k b o (c.B.stays b o e), c.B.frames.of_keeps fun b o e _ => ⟨o, k b o e, rfl⟩⟩, c.X.keeps k, c.T.keeps k, c.hh, c.hd, c.hu⟩
theorem Cx.deeper (c : Cx w mean mg mb A base outer h (n + 1)) {L a : Addr} {m : Str → Option Value} {name : Str} {scope : Scope} {cd : Value} (F : Fr h L h' m) (hk : scope.kind = .function := by rfl) :
    Cx w mean mg mb (A.deeper (envOf name scope L a cd)) base (envOf name scope L a cd :: outer) h' n :=
  ⟨c.B.push F hk, c.X.keeps F.keep, c.T.keeps F.keep, c.hh, by have := c.hd; show A.depth + 1 + n < _; omega, by have := c.hu; show A.units + 3 + 10 * n < _; omega⟩
theorem Cx.less (c : Cx w mean mg mb A base outer h n) {k : Nat} (hk : k ≤ n) : Cx w mean mg mb A base outer h k :=
  ⟨c.B, c.X, c.T, c.hh, by have := c.hd; omega, by have := c.hu; omega⟩
theorem enter {s : Shared} {Q E : Value → Shared → Prop} {f : Addr} {name qual : Str} {params : Arguments} {body : List Stmt} {scope : Scope} {pm cdv oc : Value} {od : Option Addr} {osl : Array (Option Value)} {args : List Value} {binds : List (Str × Value)}
    (c : Cx w mean mg mb A base outer s.heap (n + 1))
    (ho : (KK w.params).lookup f = some ⟨oc, od, .func (fnOf name qual params body scope .none .none .none pm none cdv .none), osl⟩) (hcd : codeIn (KK w.params) cdv qual = true)
    (hbind : bindArgs (fnOf name qual params body scope .none .none .none pm none cdv .none) ⟨args, []⟩ = pure binds) (hloc : ∀ y ∈ binds, scope.names.lookup y.1 = some .local)
    (h : ∀ h₁ L, Fr s.heap L h₁ (fun y => binds.reverse.lookup y) → wpAny (model P0 w) (A.deeper (envOf qual scope L f cdv)) (execs body (envOf qual scope L f cdv))
        (fun fl s' => Q (match fl with | .ret v => v | _ => .none) s') (fun _ _ => False) { s with heap := h₁, toks := s.toks + binds.length })
    (hco : scope.isCoroutine = false := by rfl) (hgen : scope.isGenerator = false := by rfl) (hk : scope.kind = .function := by rfl)
    (hcell : ∀ x ∈ scope.names, x.2 ≠ .cell := by decide) : wpAny (model P0 w) A (call (.ref f) args) Q E s := by
  refine wpAny_call (codeAny_call_def (fd := fnOf name qual params body scope .none .none .none pm none cdv .none) (body := body) (binds := binds) (by have := c.hd; omega) (c.X _ _ ho) rfl c.T.nolimit (codeRec_of c.X hcd) rfl (BindsTo.of_eq hbind) hcell hloc (fun h₁ hns hk₁ => ?_) hco hgen hk)
  exact wpAny_mono (h h₁ _ ⟨hns, hk₁, Nat.le_refl _⟩) (fun _ _ x => x) fun _ _ x => x.elim
end
end LW
end
section
open PySem PySem.W PyProof.Rows PySem.Calls PySem.Spec
set_option linter.all false
set_option maxRecDepth 100000
set_option maxHeartbeats 4000000
namespace LW
/-- the ints of table B.1 -/
def b1L : List Int := [65024, 65025, 65026, 65027, 65028, 65029, 6150, 65030, 65031, 65032, 65033, 6155, 6156, 6157, 8203, 8204, 8205, 65034, 65035, 65036, 65037, 65038, 65039, 173, 847, 8288, 65279]
def b1S (k : Int) : Bool := b1L.contains k
section
variable {w : World} {mean : ExcName → Option Value} {mg mb : Str → Option Value} {A : Around} {base : Heap} {outer : List Env} {h : Heap} {n : Nat}
theorem K_at {a : Addr} {o : Obj} (X : (KK w.params).In h) (e : (KK w.params).lookup a = some o) : h.get? a = some o := X a o e
theorem set_at (X : (KK w.params).In h) : ∃ es ep t, h.get? 22 = some ⟨.type "set", none, .set es ep t, #[]⟩ ∧ es.toList.map (·.1) = b1L ∧ (es.toList.all fun e => match e.2 with | .int k _ => e.1 == hashInt k && k == e.1 | _ => false) = true ∧ t.fits es.size = true ∧ es.size = 27 :=
  ⟨_, _, _, X 22 (o22_1 w.params) (by kernel_rfl), by kernel_rfl, by kernel_rfl, by kernel_rfl, by kernel_rfl⟩
theorem set_of (X : (KK w.params).In h) : h.SetOf (intKind P0 w) 22 b1S 27 := by
  obtain ⟨es, ep, t, ho, hl, ha, hf, hs⟩ := set_at X
  have key : ∀ e ∈ es.toList, ∃ k u, e = (k, .int k u) ∧ k = hashInt k := fun e he => by
    have := List.all_eq_true.mp ha e he
    obtain ⟨i, v⟩ := e
    match v, this with
    | .int k u, this =>
      obtain ⟨h1, h2⟩ := Bool.and_eq_true_iff.mp this
      have h1 : i = hashInt k := beq_iff_eq.mp h1
      have h2 : k = i := beq_iff_eq.mp h2
      exact ⟨k, u, by rw [h2], h2.trans h1⟩
  refine ⟨_, es, ep, t, ho, ⟨rfl, rfl, rfl⟩, rfl, fun e he => ?_, fun k => ?_, by rw [hs]; decide, hf, hs⟩
  · obtain ⟨k, u, rfl, hk⟩ := key e he
    exact ⟨⟨k, by simp [intKind, Value.isInt], hk⟩, rfl⟩
  · unfold b1S
    rw [List.contains_iff_mem, ← hl, List.mem_map]
    constructor
    · rintro ⟨e, he, rfl⟩
      obtain ⟨k, u, rfl, _⟩ := key e he
      exact ⟨_, he, by simp [intKind, Value.isInt]⟩
    · rintro ⟨e, he, hk⟩
      obtain ⟨k', u, rfl, _⟩ := key e he
      refine ⟨_, he, ?_⟩
      simpa [intKind, Value.isInt] using hk

theorem b1_call {s : Shared} {Q E : Value → Shared → Prop} {c : Nat} {t : Tok}
    (cx : Cx w mean mg mb A base outer s.heap 1) (hQ : ∀ h' tk, Kp s.heap h' → Q (.bool (b1S (c : Int))) { s with heap := h', toks := tk }) : wpAny (model P0 w) A (call (.ref 32) [.str ⟨#[c]⟩ t]) Q E s := by
  have hkf : (KK w.params).In s.heap ∧ PySem.Challenge.rw_wa0043_01 = PySem.Challenge.rw_wa0043_01 := by
    k_fill
    exact ⟨cx.X, rfl⟩
  clear hkf
  refine enter cx (binds := [(S "code", .str ⟨#[c]⟩ t)]) (by k_is) (by k_is) rfl (locs rfl) ?_
  intro h₁ L F
  have X := cx.X
  have T := cx.T
  have B := cx.B
  have N : News s.heap L h₁ [] := News.nil
  with_reducible show wpAny _ _ _ _ _ _
  (try dsimp only)
  k_fold
  k_steps
  refine wpAny_inSet_of (knd := intKind P0 w) (k := (c : Int)) (by simp [intKind, Value.isInt]) rfl (set_of (X.keeps F.keep)) ?_
  exact hQ _ _ F.keep
end
end LW
end
section
open PySem PySem.W PyProof.Rows PySem.Calls PySem.Spec
set_option linter.all false
set_option maxRecDepth 100000
set_option maxHeartbeats 4000000
namespace LW
/-- a text from its signs' numbers -/
abbrev mk (l : List Nat) : Str := ⟨l.toArray⟩
theorem mk_len (l : List Nat) : (mk l).length = l.length := by simp [mk, Str.length]
/-- each sign c gives way to z -/
def sub (c : Nat) (z : List Nat) (l : List Nat) : List Nat := l.flatMap fun k => if k = c then z else [k]
theorem sub_append (c : Nat) (z a b : List Nat) : sub c z (a ++ b) = sub c z a ++ sub c z b := by simp [sub]
theorem sub_free (c : Nat) (z : List Nat) : ∀ l : List Nat, c ∉ l → sub c z l = l
  | [], _ => rfl
  | k :: r, h => by
    have h1 : ¬ k = c := fun e => h (e ▸ List.mem_cons_self ..)
    have h2 : c ∉ r := fun m => h (List.mem_cons_of_mem _ m)
    have ih := sub_free c z r h2
    unfold sub at ih ⊢
    rw [List.flatMap_cons, ih, if_neg h1]; rfl
theorem sub_join (c : Nat) (z : List Nat) : ∀ parts : List Str, (∀ p ∈ parts, c ∉ p.cps.toList) → sub c z (Str.join ⟨#[c]⟩ parts).cps.toList = (Str.join (mk z) parts).cps.toList
  | [], _ => rfl
  | [p], h => sub_free c z _ (h p (List.mem_singleton.mpr rfl))
  | p :: q :: r, h => by
    have ih := sub_join c z (q :: r) fun a ha => h a (List.mem_cons_of_mem _ ha)
    show sub c z (p ++ ⟨#[c]⟩ ++ Str.join ⟨#[c]⟩ (q :: r)).cps.toList = (p ++ mk z ++ Str.join (mk z) (q :: r)).cps.toList
    simp only [Str.cps_append, Array.toList_append]
    rw [sub_append, sub_append, ih, sub_free c z _ (h p (List.mem_cons_self ..))]
    have : sub c z [c] = z := by simp [sub]
    show p.cps.toList ++ sub c z [c] ++ _ = _
    rw [this]
theorem replace_sub (l : List Nat) (c : Nat) (z : List Nat) : Txt.replace (mk l) ⟨#[c]⟩ (mk z) = mk (sub c z l) := by
  have h : (Txt.replace (mk l) ⟨#[c]⟩ (mk z)).cps.toList = sub c z l := by
    rw [StrLaws.replace_one, ← sub_join c z _ (StrLaws.split_free _ c), StrLaws.join_split]
  have : (Txt.replace (mk l) ⟨#[c]⟩ (mk z)).cps = (sub c z l).toArray := by rw [← h]
  exact congrArg Str.mk this
theorem sub_len (c : Nat) (z : List Nat) (b : Nat) (hb : 1 ≤ b) (hz : z.length ≤ b) : ∀ l : List Nat, (sub c z l).length ≤ b * l.length
  | [] => by simp [sub]
  | k :: r => by
    have ih := sub_len c z b hb hz r
    unfold sub at ih ⊢
    rw [List.flatMap_cons, List.length_append, List.length_cons, Nat.mul_succ]
    have : (if k = c then z else [k]).length ≤ b := by
      split
      · exact hz
      · simpa using hb
    omega
theorem sub_len' (c : Nat) (z : List Nat) (l : List Nat) (hz : z.length ≤ 6 := by decide) : (sub c z l).length ≤ 6 * l.length := sub_len c z 6 (by decide) hz l
section
variable {w : World} {mean : ExcName → Option Value} {mg mb : Str → Option Value} {A : Around} {base : Heap} {outer : List Env} {h : Heap} {n : Nat}
theorem if_rep {s : Shared} {name : Str} {scope : Scope} {L f : Addr} {cd : Value} {h₀ : Heap} {m : Str → Option Value} {E : Value → Shared → Prop} {Q : Flow → Shared → Prop}
    {y z tx rp : Str} {k1 k2 k3 : Nat} {p1 p2 p3 p4 p5 p6 p7 p8 p9 p10 : Pos} {l : List Nat} {t : Tok} {c : Nat} {zl : List Nat}
    (F : Fr h₀ L s.heap m) (hm : m (S "text") = some (.str (mk l) t)) (hk : scope.kind = .function )
    (hl : (envOf name scope L f cd).kindOf (S "text") = some .local )
    (hy : y = ⟨#[c]⟩ ) (hz : z = mk zl ) (hyz : (y == z) = false) (hln : l.length ≤ 2390000) (hzn : zl.length ≤ 6)
    (htx : tx = S "text" ) (hrp : rp = S "replace" ) {pl : Sem Bool}
    (he : eval (.Call (.Attribute (.Name tx p5) rp p6) [.Constant (.str y) k2 p7, .Constant (.str z) k3 p8] [] p9) (envOf name scope L f cd) = (do
      let ov ← eval (.Name tx p5) (envOf name scope L f cd)
      standAt p6.atName
      let (f₁, first) ← holding [ov] (getMethod ov rp pl)
      callWith p9 f₁ first (backTo p9 (starEach [.Constant (.str y) k2 p7, .Constant (.str z) k3 p8] (envOf name scope L f cd))) []) )
    (h : ∀ h' t' tk, Fr h₀ L h' (fun y => if y = S "text" then some (.str (mk (sub c zl l)) t') else m y) → Q .next { s with heap := h', toks := tk }) :
    wpAny (model P0 w) A (exec (.If (.Compare (.Constant (.str y) k1 p1) [.In] [.Name tx p2] p3) [.Assign [.Name tx p4] (.Call (.Attribute (.Name tx p5) rp p6) [.Constant (.str y) k2 p7, .Constant (.str z) k3 p8] [] p9) p10] [] pos) (envOf name scope L f cd)) Q E s := by
  subst htx hrp
  refine wpAny_If (wpAny_isTrue_Compare1 ?_)
  refine Calls.Constant_str ?_
  refine ld (by exact F) hm ?_ hk hl
  refine PyProof.Rows.in_str ?_
  refine wpAny_truthy_bool ?_
  subst hy
  rw [StrLaws.found_one]
  by_cases hc : c ∈ l
  · have : decide (c ∈ (mk l).cps.toList) = true := by simpa [mk] using hc
    rw [this]
    rw [if_pos rfl]
    refine wpAny_execs_cons (wpAny_Assign_Name ?_)
    refine MethodCall_ (pl := pl) ?_ he
    refine ld (by exact F) hm ?_ hk hl
    refine GM.replace ?_
    refine callWith_method1 ?_
    refine spliced_more ?_
    refine Calls.Constant_str ?_
    refine spliced_more ?_
    refine Calls.Constant_str ?_
    refine spliced_none ?_
    refine SC.replace (by simp) (by simp) (by simp) hyz (by
      rw [hz, mk_len, mk_len]
      have : (l.length + 1) * zl.length ≤ (l.length + 1) * 6 := Nat.mul_le_mul_left _ hzn
      omega) ?_
    intro t' tk
    refine PyProof.Rows.st (by exact F) ?_ hk hl
    intro h' F'
    refine wpAny_execs_nil ?_
    rw [hz, replace_sub] at F'
    exact h _ _ _ F'
  · have : decide (c ∈ (mk l).cps.toList) = false := by simpa [mk] using hc
    rw [this]
    rw [if_neg (by decide)]
    refine wpAny_execs_nil ?_
    refine h _ t _ ?_
    rw [sub_free c zl l hc]
    have e : (fun y => if y = S "text" then some (Value.str (mk l) t) else m y) = m := by
      funext y
      by_cases hy : y = S "text"
      · rw [if_pos hy, hy, hm]
      · rw [if_neg hy]
    rw [e]
    exact F
def esc0 (l : List Nat) : List Nat := (sub 62 [38, 103, 116, 59] (sub 60 [38, 108, 116, 59] (sub 38 [38, 97, 109, 112, 59] l)))
theorem esc0_call {s : Shared} {Q E : Value → Shared → Prop} {l : List Nat} {t : Tok} (hx : l.length ≤ 50)
    (cx : Cx w mean mg mb A base outer s.heap 1) (hQ : ∀ t' h' tk, Kp s.heap h' → Q (.str (mk (esc0 l)) t') { s with heap := h', toks := tk }) : wpAny (model P0 w) A (call (.ref 99) [.str (mk l) t]) Q E s := by
  have hkf : (KK w.params).In s.heap ∧ PySem.Challenge.rw_wa0043_01 = PySem.Challenge.rw_wa0043_01 := by
    k_fill
    exact ⟨cx.X, rfl⟩
  clear hkf
  have l0 := sub_len' 38 [38, 97, 109, 112, 59] l
  have l1 := sub_len' 60 [38, 108, 116, 59] (sub 38 [38, 97, 109, 112, 59] l)
  have l2 := sub_len' 62 [38, 103, 116, 59] (sub 60 [38, 108, 116, 59] (sub 38 [38, 97, 109, 112, 59] l))
  refine enter cx (binds := [(S "text", .str (mk l) t)]) (by k_is) (by k_is) rfl (locs rfl) ?_
  intro h₁ L F0
  with_reducible show wpAny _ _ _ _ _ _
  (try dsimp only)
  k_fold
  refine wpAny_execs_cons ?_
  refine wpAny_Try_except ?_
  refine wpAny_execs_cons ?_
  refine' if_rep (c := 38) (zl := [38, 97, 109, 112, 59]) ?F ?m ?k ?l ?y ?z ?u ?n ?e ?t ?r ?p ?_; (case F => exact F0); (case m => rfl); (case k => rfl); (case l => rfl); (case y => rfl); (case z => rfl); (case u => decide); (case n => omega); (case e => decide); (case t => rfl); (case r => rfl); (case p => rfl)
  intro _ _ _ F1
  refine wpAny_execs_cons ?_
  refine' if_rep (c := 60) (zl := [38, 108, 116, 59]) ?F ?m ?k ?l ?y ?z ?u ?n ?e ?t ?r ?p ?_; (case F => exact F1); (case m => rfl); (case k => rfl); (case l => rfl); (case y => rfl); (case z => rfl); (case u => decide); (case n => omega); (case e => decide); (case t => rfl); (case r => rfl); (case p => rfl)
  intro _ _ _ F2
  refine wpAny_execs_cons ?_
  refine' if_rep (c := 62) (zl := [38, 103, 116, 59]) ?F ?m ?k ?l ?y ?z ?u ?n ?e ?t ?r ?p ?_; (case F => exact F2); (case m => rfl); (case k => rfl); (case l => rfl); (case y => rfl); (case z => rfl); (case u => decide); (case n => omega); (case e => decide); (case t => rfl); (case r => rfl); (case p => rfl)
  intro _ _ _ F3
  refine wpAny_execs_cons ?_
  refine wpAny_Return_some ?_
  refine ld (by exact F3) (by rfl) ?_
  exact hQ _ _ _ F3.keep
def esc1 (l : List Nat) : List Nat := (sub 9 [38, 35, 48, 57, 59] (sub 10 [38, 35, 49, 48, 59] (sub 13 [38, 35, 49, 51, 59] (sub 34 [38, 113, 117, 111, 116, 59] (sub 62 [38, 103, 116, 59] (sub 60 [38, 108, 116, 59] (sub 38 [38, 97, 109, 112, 59] l)))))))
theorem esc1_call {s : Shared} {Q E : Value → Shared → Prop} {l : List Nat} {t : Tok} (hx : l.length ≤ 50)
    (cx : Cx w mean mg mb A base outer s.heap 1) (hQ : ∀ t' h' tk, Kp s.heap h' → Q (.str (mk (esc1 l)) t') { s with heap := h', toks := tk }) : wpAny (model P0 w) A (call (.ref 106) [.str (mk l) t]) Q E s := by
  have hkf : (KK w.params).In s.heap ∧ PySem.Challenge.rw_wa0043_01 = PySem.Challenge.rw_wa0043_01 := by
    k_fill
    exact ⟨cx.X, rfl⟩
  clear hkf
  have l0 := sub_len' 38 [38, 97, 109, 112, 59] l
  have l1 := sub_len' 60 [38, 108, 116, 59] (sub 38 [38, 97, 109, 112, 59] l)
  have l2 := sub_len' 62 [38, 103, 116, 59] (sub 60 [38, 108, 116, 59] (sub 38 [38, 97, 109, 112, 59] l))
  have l3 := sub_len' 34 [38, 113, 117, 111, 116, 59] (sub 62 [38, 103, 116, 59] (sub 60 [38, 108, 116, 59] (sub 38 [38, 97, 109, 112, 59] l)))
  have l4 := sub_len' 13 [38, 35, 49, 51, 59] (sub 34 [38, 113, 117, 111, 116, 59] (sub 62 [38, 103, 116, 59] (sub 60 [38, 108, 116, 59] (sub 38 [38, 97, 109, 112, 59] l))))
  have l5 := sub_len' 10 [38, 35, 49, 48, 59] (sub 13 [38, 35, 49, 51, 59] (sub 34 [38, 113, 117, 111, 116, 59] (sub 62 [38, 103, 116, 59] (sub 60 [38, 108, 116, 59] (sub 38 [38, 97, 109, 112, 59] l)))))
  have l6 := sub_len' 9 [38, 35, 48, 57, 59] (sub 10 [38, 35, 49, 48, 59] (sub 13 [38, 35, 49, 51, 59] (sub 34 [38, 113, 117, 111, 116, 59] (sub 62 [38, 103, 116, 59] (sub 60 [38, 108, 116, 59] (sub 38 [38, 97, 109, 112, 59] l))))))
  refine enter cx (binds := [(S "text", .str (mk l) t)]) (by k_is) (by k_is) rfl (locs rfl) ?_
  intro h₁ L F0
  with_reducible show wpAny _ _ _ _ _ _
  (try dsimp only)
  k_fold
  refine wpAny_execs_cons ?_
  refine wpAny_Try_except ?_
  refine wpAny_execs_cons ?_
  refine' if_rep (c := 38) (zl := [38, 97, 109, 112, 59]) ?F ?m ?k ?l ?y ?z ?u ?n ?e ?t ?r ?p ?_; (case F => exact F0); (case m => rfl); (case k => rfl); (case l => rfl); (case y => rfl); (case z => rfl); (case u => decide); (case n => omega); (case e => decide); (case t => rfl); (case r => rfl); (case p => rfl)
  intro _ _ _ F1
  refine wpAny_execs_cons ?_
  refine' if_rep (c := 60) (zl := [38, 108, 116, 59]) ?F ?m ?k ?l ?y ?z ?u ?n ?e ?t ?r ?p ?_; (case F => exact F1); (case m => rfl); (case k => rfl); (case l => rfl); (case y => rfl); (case z => rfl); (case u => decide); (case n => omega); (case e => decide); (case t => rfl); (case r => rfl); (case p => rfl)
  intro _ _ _ F2
  refine wpAny_execs_cons ?_
  refine' if_rep (c := 62) (zl := [38, 103, 116, 59]) ?F ?m ?k ?l ?y ?z ?u ?n ?e ?t ?r ?p ?_; (case F => exact F2); (case m => rfl); (case k => rfl); (case l => rfl); (case y => rfl); (case z => rfl); (case u => decide); (case n => omega); (case e => decide); (case t => rfl); (case r => rfl); (case p => rfl)
  intro _ _ _ F3
  refine wpAny_execs_cons ?_
  refine' if_rep (c := 34) (zl := [38, 113, 117, 111, 116, 59]) ?F ?m ?k ?l ?y ?z ?u ?n ?e ?t ?r ?p ?_; (case F => exact F3); (case m => rfl); (case k => rfl); (case l => rfl); (case y => rfl); (case z => rfl); (case u => decide); (case n => omega); (case e => decide); (case t => rfl); (case r => rfl); (case p => rfl)
  intro _ _ _ F4
  refine wpAny_execs_cons ?_
  refine' if_rep (c := 13) (zl := [38, 35, 49, 51, 59]) ?F ?m ?k ?l ?y ?z ?u ?n ?e ?t ?r ?p ?_; (case F => exact F4); (case m => rfl); (case k => rfl); (case l => rfl); (case y => rfl); (case z => rfl); (case u => decide); (case n => omega); (case e => decide); (case t => rfl); (case r => rfl); (case p => rfl)
  intro _ _ _ F5
  refine wpAny_execs_cons ?_
  refine' if_rep (c := 10) (zl := [38, 35, 49, 48, 59]) ?F ?m ?k ?l ?y ?z ?u ?n ?e ?t ?r ?p ?_; (case F => exact F5); (case m => rfl); (case k => rfl); (case l => rfl); (case y => rfl); (case z => rfl); (case u => decide); (case n => omega); (case e => decide); (case t => rfl); (case r => rfl); (case p => rfl)
  intro _ _ _ F6
  refine wpAny_execs_cons ?_
  refine' if_rep (c := 9) (zl := [38, 35, 48, 57, 59]) ?F ?m ?k ?l ?y ?z ?u ?n ?e ?t ?r ?p ?_; (case F => exact F6); (case m => rfl); (case k => rfl); (case l => rfl); (case y => rfl); (case z => rfl); (case u => decide); (case n => omega); (case e => decide); (case t => rfl); (case r => rfl); (case p => rfl)
  intro _ _ _ F7
  refine wpAny_execs_cons ?_
  refine wpAny_Return_some ?_
  refine ld (by exact F7) (by rfl) ?_
  exact hQ _ _ _ F7.keep
def esc2 (l : List Nat) : List Nat := (sub 34 [38, 113, 117, 111, 116, 59] (sub 62 [38, 103, 116, 59] (sub 38 [38, 97, 109, 112, 59] l)))
theorem esc2_call {s : Shared} {Q E : Value → Shared → Prop} {l : List Nat} {t : Tok} (hx : l.length ≤ 50)
    (cx : Cx w mean mg mb A base outer s.heap 1) (hQ : ∀ t' h' tk, Kp s.heap h' → Q (.str (mk (esc2 l)) t') { s with heap := h', toks := tk }) : wpAny (model P0 w) A (call (.ref 113) [.str (mk l) t]) Q E s := by
  have hkf : (KK w.params).In s.heap ∧ PySem.Challenge.rw_wa0043_01 = PySem.Challenge.rw_wa0043_01 := by
    k_fill
    exact ⟨cx.X, rfl⟩
  clear hkf
  have l0 := sub_len' 38 [38, 97, 109, 112, 59] l
  have l1 := sub_len' 62 [38, 103, 116, 59] (sub 38 [38, 97, 109, 112, 59] l)
  have l2 := sub_len' 34 [38, 113, 117, 111, 116, 59] (sub 62 [38, 103, 116, 59] (sub 38 [38, 97, 109, 112, 59] l))
  refine enter cx (binds := [(S "text", .str (mk l) t)]) (by k_is) (by k_is) rfl (locs rfl) ?_
  intro h₁ L F0
  with_reducible show wpAny _ _ _ _ _ _
  (try dsimp only)
  k_fold
  refine wpAny_execs_cons ?_
  refine wpAny_Try_except ?_
  refine wpAny_execs_cons ?_
  refine' if_rep (c := 38) (zl := [38, 97, 109, 112, 59]) ?F ?m ?k ?l ?y ?z ?u ?n ?e ?t ?r ?p ?_; (case F => exact F0); (case m => rfl); (case k => rfl); (case l => rfl); (case y => rfl); (case z => rfl); (case u => decide); (case n => omega); (case e => decide); (case t => rfl); (case r => rfl); (case p => rfl)
  intro _ _ _ F1
  refine wpAny_execs_cons ?_
  refine' if_rep (c := 62) (zl := [38, 103, 116, 59]) ?F ?m ?k ?l ?y ?z ?u ?n ?e ?t ?r ?p ?_; (case F => exact F1); (case m => rfl); (case k => rfl); (case l => rfl); (case y => rfl); (case z => rfl); (case u => decide); (case n => omega); (case e => decide); (case t => rfl); (case r => rfl); (case p => rfl)
  intro _ _ _ F2
  refine wpAny_execs_cons ?_
  refine' if_rep (c := 34) (zl := [38, 113, 117, 111, 116, 59]) ?F ?m ?k ?l ?y ?z ?u ?n ?e ?t ?r ?p ?_; (case F => exact F2); (case m => rfl); (case k => rfl); (case l => rfl); (case y => rfl); (case z => rfl); (case u => decide); (case n => omega); (case e => decide); (case t => rfl); (case r => rfl); (case p => rfl)
  intro _ _ _ F3
  refine wpAny_execs_cons ?_
  refine wpAny_Return_some ?_
  refine ld (by exact F3) (by rfl) ?_
  exact hQ _ _ _ F3.keep
def esc3 (l : List Nat) : List Nat := (sub 13 [38, 35, 120, 68, 59] (sub 62 [38, 103, 116, 59] (sub 60 [38, 108, 116, 59] (sub 38 [38, 97, 109, 112, 59] l))))
theorem esc3_call {s : Shared} {Q E : Value → Shared → Prop} {l : List Nat} {t : Tok} (hx : l.length ≤ 50)
    (cx : Cx w mean mg mb A base outer s.heap 1) (hQ : ∀ t' h' tk, Kp s.heap h' → Q (.str (mk (esc3 l)) t') { s with heap := h', toks := tk }) : wpAny (model P0 w) A (call (.ref 120) [.str (mk l) t]) Q E s := by
  have hkf : (KK w.params).In s.heap ∧ PySem.Challenge.rw_wa0043_01 = PySem.Challenge.rw_wa0043_01 := by
    k_fill
    exact ⟨cx.X, rfl⟩
  clear hkf
  have l0 := sub_len' 38 [38, 97, 109, 112, 59] l
  have l1 := sub_len' 60 [38, 108, 116, 59] (sub 38 [38, 97, 109, 112, 59] l)
  have l2 := sub_len' 62 [38, 103, 116, 59] (sub 60 [38, 108, 116, 59] (sub 38 [38, 97, 109, 112, 59] l))
  have l3 := sub_len' 13 [38, 35, 120, 68, 59] (sub 62 [38, 103, 116, 59] (sub 60 [38, 108, 116, 59] (sub 38 [38, 97, 109, 112, 59] l)))
  refine enter cx (binds := [(S "text", .str (mk l) t)]) (by k_is) (by k_is) rfl (locs rfl) ?_
  intro h₁ L F0
  with_reducible show wpAny _ _ _ _ _ _
  (try dsimp only)
  k_fold
  refine wpAny_execs_cons ?_
  refine wpAny_Try_except ?_
  refine wpAny_execs_cons ?_
  refine' if_rep (c := 38) (zl := [38, 97, 109, 112, 59]) ?F ?m ?k ?l ?y ?z ?u ?n ?e ?t ?r ?p ?_; (case F => exact F0); (case m => rfl); (case k => rfl); (case l => rfl); (case y => rfl); (case z => rfl); (case u => decide); (case n => omega); (case e => decide); (case t => rfl); (case r => rfl); (case p => rfl)
  intro _ _ _ F1
  refine wpAny_execs_cons ?_
  refine' if_rep (c := 60) (zl := [38, 108, 116, 59]) ?F ?m ?k ?l ?y ?z ?u ?n ?e ?t ?r ?p ?_; (case F => exact F1); (case m => rfl); (case k => rfl); (case l => rfl); (case y => rfl); (case z => rfl); (case u => decide); (case n => omega); (case e => decide); (case t => rfl); (case r => rfl); (case p => rfl)
  intro _ _ _ F2
  refine wpAny_execs_cons ?_
  refine' if_rep (c := 62) (zl := [38, 103, 116, 59]) ?F ?m ?k ?l ?y ?z ?u ?n ?e ?t ?r ?p ?_; (case F => exact F2); (case m => rfl); (case k => rfl); (case l => rfl); (case y => rfl); (case z => rfl); (case u => decide); (case n => omega); (case e => decide); (case t => rfl); (case r => rfl); (case p => rfl)
  intro _ _ _ F3
  refine wpAny_execs_cons ?_
  refine' if_rep (c := 13) (zl := [38, 35, 120, 68, 59]) ?F ?m ?k ?l ?y ?z ?u ?n ?e ?t ?r ?p ?_; (case F => exact F3); (case m => rfl); (case k => rfl); (case l => rfl); (case y => rfl); (case z => rfl); (case u => decide); (case n => omega); (case e => decide); (case t => rfl); (case r => rfl); (case p => rfl)
  intro _ _ _ F4
  refine wpAny_execs_cons ?_
  refine wpAny_Return_some ?_
  refine ld (by exact F4) (by rfl) ?_
  exact hQ _ _ _ F4.keep
def esc4 (l : List Nat) : List Nat := (sub 13 [38, 35, 120, 68, 59] (sub 10 [38, 35, 120, 65, 59] (sub 9 [38, 35, 120, 57, 59] (sub 34 [38, 113, 117, 111, 116, 59] (sub 60 [38, 108, 116, 59] (sub 38 [38, 97, 109, 112, 59] l))))))
theorem esc4_call {s : Shared} {Q E : Value → Shared → Prop} {l : List Nat} {t : Tok} (hx : l.length ≤ 50)
    (cx : Cx w mean mg mb A base outer s.heap 1) (hQ : ∀ t' h' tk, Kp s.heap h' → Q (.str (mk (esc4 l)) t') { s with heap := h', toks := tk }) : wpAny (model P0 w) A (call (.ref 127) [.str (mk l) t]) Q E s := by
  have hkf : (KK w.params).In s.heap ∧ PySem.Challenge.rw_wa0043_01 = PySem.Challenge.rw_wa0043_01 := by
    k_fill
    exact ⟨cx.X, rfl⟩
  clear hkf
  have l0 := sub_len' 38 [38, 97, 109, 112, 59] l
  have l1 := sub_len' 60 [38, 108, 116, 59] (sub 38 [38, 97, 109, 112, 59] l)
  have l2 := sub_len' 34 [38, 113, 117, 111, 116, 59] (sub 60 [38, 108, 116, 59] (sub 38 [38, 97, 109, 112, 59] l))
  have l3 := sub_len' 9 [38, 35, 120, 57, 59] (sub 34 [38, 113, 117, 111, 116, 59] (sub 60 [38, 108, 116, 59] (sub 38 [38, 97, 109, 112, 59] l)))
  have l4 := sub_len' 10 [38, 35, 120, 65, 59] (sub 9 [38, 35, 120, 57, 59] (sub 34 [38, 113, 117, 111, 116, 59] (sub 60 [38, 108, 116, 59] (sub 38 [38, 97, 109, 112, 59] l))))
  have l5 := sub_len' 13 [38, 35, 120, 68, 59] (sub 10 [38, 35, 120, 65, 59] (sub 9 [38, 35, 120, 57, 59] (sub 34 [38, 113, 117, 111, 116, 59] (sub 60 [38, 108, 116, 59] (sub 38 [38, 97, 109, 112, 59] l)))))
  refine enter cx (binds := [(S "text", .str (mk l) t)]) (by k_is) (by k_is) rfl (locs rfl) ?_
  intro h₁ L F0
  with_reducible show wpAny _ _ _ _ _ _
  (try dsimp only)
  k_fold
  refine wpAny_execs_cons ?_
  refine wpAny_Try_except ?_
  refine wpAny_execs_cons ?_
  refine' if_rep (c := 38) (zl := [38, 97, 109, 112, 59]) ?F ?m ?k ?l ?y ?z ?u ?n ?e ?t ?r ?p ?_; (case F => exact F0); (case m => rfl); (case k => rfl); (case l => rfl); (case y => rfl); (case z => rfl); (case u => decide); (case n => omega); (case e => decide); (case t => rfl); (case r => rfl); (case p => rfl)
  intro _ _ _ F1
  refine wpAny_execs_cons ?_
  refine' if_rep (c := 60) (zl := [38, 108, 116, 59]) ?F ?m ?k ?l ?y ?z ?u ?n ?e ?t ?r ?p ?_; (case F => exact F1); (case m => rfl); (case k => rfl); (case l => rfl); (case y => rfl); (case z => rfl); (case u => decide); (case n => omega); (case e => decide); (case t => rfl); (case r => rfl); (case p => rfl)
  intro _ _ _ F2
  refine wpAny_execs_cons ?_
  refine' if_rep (c := 34) (zl := [38, 113, 117, 111, 116, 59]) ?F ?m ?k ?l ?y ?z ?u ?n ?e ?t ?r ?p ?_; (case F => exact F2); (case m => rfl); (case k => rfl); (case l => rfl); (case y => rfl); (case z => rfl); (case u => decide); (case n => omega); (case e => decide); (case t => rfl); (case r => rfl); (case p => rfl)
  intro _ _ _ F3
  refine wpAny_execs_cons ?_
  refine' if_rep (c := 9) (zl := [38, 35, 120, 57, 59]) ?F ?m ?k ?l ?y ?z ?u ?n ?e ?t ?r ?p ?_; (case F => exact F3); (case m => rfl); (case k => rfl); (case l => rfl); (case y => rfl); (case z => rfl); (case u => decide); (case n => omega); (case e => decide); (case t => rfl); (case r => rfl); (case p => rfl)
  intro _ _ _ F4
  refine wpAny_execs_cons ?_
  refine' if_rep (c := 10) (zl := [38, 35, 120, 65, 59]) ?F ?m ?k ?l ?y ?z ?u ?n ?e ?t ?r ?p ?_; (case F => exact F4); (case m => rfl); (case k => rfl); (case l => rfl); (case y => rfl); (case z => rfl); (case u => decide); (case n => omega); (case e => decide); (case t => rfl); (case r => rfl); (case p => rfl)
  intro _ _ _ F5
  refine wpAny_execs_cons ?_
  refine' if_rep (c := 13) (zl := [38, 35, 120, 68, 59]) ?F ?m ?k ?l ?y ?z ?u ?n ?e ?t ?r ?p ?_; (case F => exact F5); (case m => rfl); (case k => rfl); (case l => rfl); (case y => rfl); (case z => rfl); (case u => decide); (case n => omega); (case e => decide); (case t => rfl); (case r => rfl); (case p => rfl)
  intro _ _ _ F6
  refine wpAny_execs_cons ?_
  refine wpAny_Return_some ?_
  refine ld (by exact F6) (by rfl) ?_
  exact hQ _ _ _ F6.keep
end
end LW
end
section
open PySem PySem.W PyProof.Rows PySem.Calls PySem.Spec
set_option linter.all false
set_option maxRecDepth 100000
set_option maxHeartbeats 4000000
namespace LW
def fget (c : Nat) : Option Value := (mainE.find? fun e => Value.isInt (c : Int) e.key).map (·.val)
def menuK : List Nat := [38, 60, 62, 34, 13, 10, 9, 97, 65, 90, 223, 304, 962, 8064, 13254, 64259, 119808, 172, 174, 6154, 6158, 8202, 8206, 65023, 65040]
def fold (c : Nat) : List Nat := if c = 65 then [97] else if c = 90 then [122] else if c = 223 then [115, 115] else if c = 304 then [105, 775] else if c = 962 then [963] else if c = 8064 then [7936, 953] else if c = 13254 then [99, 8725, 107, 103] else if c = 64259 then [102, 102, 105] else if c = 119808 then [97] else [c]
theorem fold_len : (menuK.all fun c => decide (PySem.Builtin.Str.tooLong (fold c).length = false)) = true := by decide +kernel
def okv (c : Nat) : Bool := match fget c with | some (.str s _) => s == mk (fold c) | none => Txt.lower (mk [c]) == mk (fold c) | _ => false
theorem okv_menu : (menuK.all fun c => okv c) = true := by decide +kernel
section
variable {w : World} {mean : ExcName → Option Value} {mg mb : Str → Option Value} {A : Around} {base : Heap} {outer : List Env} {h : Heap} {n : Nat}
theorem ent3_key : ∀ (l : List (Int × Str)) (t : Nat), ∀ e ∈ ent3 t l, ∃ k u, e.key = .int k u ∧ e.hash = hashInt k
  | [], _ => fun e he => nomatch he
  | (k, v) :: r, t => fun e he => by
    rcases List.mem_cons.mp he with rfl | he
    · exact ⟨_, _, rfl, rfl⟩
    · exact ent3_key r _ e he
theorem ent2_key : ∀ (l : List (Int × Str)) (t : Nat), ∀ e ∈ ent2 t l, ∃ k u, e.key = .int k u ∧ e.hash = hashInt k
  | [], _ => fun e he => nomatch he
  | (k, v) :: r, t => fun e he => by
    rcases List.mem_cons.mp he with rfl | he
    · exact ⟨_, _, rfl, rfl⟩
    · exact ent2_key r _ e he
theorem allE_key : ∀ (n : Nat) (l : List (Int × Str)) (t : Nat), ∀ e ∈ allE n l t, ∃ k u, e.key = .int k u ∧ e.hash = hashInt k
  | 0, l, t => ent2_key l t
  | n + 1, l, t => fun e he => by
    rcases List.mem_append.mp he with he | he
    · exact ent3_key _ _ e he
    · exact allE_key n _ _ e he
theorem mainE_key : ∀ e ∈ mainE, ∃ k u, e.key = .int k u ∧ e.hash = hashInt k := fun e he => by
  rcases List.mem_append.mp he with he | he
  · exact ent3_key _ _ e he
  · exact allE_key _ _ _ e he
theorem map_at (X : (KK w.params).In h) : ∃ o, h.get? 33 = some o ∧ o = dO mainE mainE.length := ⟨_, X 33 (o33_3 w.params) (by kernel_rfl), rfl⟩
theorem dO_data (es : List DictEntry) (n : Nat) : (dO es n).ExactDict ∧ ∃ ep, (dO es n).data = .dict es.toArray ep := ⟨⟨rfl, rfl, rfl⟩, _, rfl⟩
theorem map_of (X : (KK w.params).In h) : ∃ f : Int → Option Value, h.MapOf (intKind P0 w) 33 f ∧ ∀ c : Nat, f (c : Int) = fget c := by
  obtain ⟨o, ho, rfl⟩ := map_at X
  obtain ⟨hx, ep, hd⟩ := dO_data mainE mainE.length
  refine ⟨fun k => findBy Value.isInt mainE.toArray k, ⟨_, _, ep, ho, hx, hd, fun e he => ?_, fun k => rfl⟩, fun c => ?_⟩
  · obtain ⟨k, u, hk, hh⟩ := mainE_key e (by simpa using he)
    refine ⟨k, ?_, hh⟩
    rw [hk]
    simp [intKind, Value.isInt]
  · unfold findBy fget
    simp only [List.find?_toArray]
theorem okv_cases {c : Nat} (hc : c ∈ menuK) : (∃ u, fget c = some (.str (mk (fold c)) u)) ∨ (fget c = none ∧ Txt.lower (mk [c]) = mk (fold c)) := by
  have hok := List.all_eq_true.mp okv_menu c hc
  unfold okv at hok
  cases hg : fget c with
  | none => rw [hg] at hok; exact Or.inr ⟨rfl, eq_of_beq hok⟩
  | some v =>
    rw [hg] at hok
    cases v with
    | str x u => exact Or.inl ⟨u, by rw [eq_of_beq hok]⟩
    | _ => exact absurd hok (fun h => Bool.noConfusion h)
theorem b3_call {s : Shared} {Q E : Value → Shared → Prop} {c : Nat} {t : Tok} (hc : c ∈ menuK)
    (cx : Cx w mean mg mb A base outer s.heap 1) (hQ : ∀ t' h' tk, Kp s.heap h' → Q (.str (mk (fold c)) t') { s with heap := h', toks := tk }) : wpAny (model P0 w) A (call (.ref 78) [.str (mk [c]) t]) Q E s := by
  have hkf : (KK w.params).In s.heap ∧ PySem.Challenge.rw_wa0043_01 = PySem.Challenge.rw_wa0043_01 := by
    k_fill
    exact ⟨cx.X, rfl⟩
  clear hkf
  refine enter cx (binds := [(S "code", .str (mk [c]) t)]) (by k_is) (by k_is) rfl (locs rfl) ?_
  intro h₁ L F
  have X := cx.X
  have T := cx.T
  have B := cx.B
  have N : News s.heap L h₁ [] := News.nil
  with_reducible show wpAny _ _ _ _ _ _
  (try dsimp only)
  k_fold
  k_steps
  obtain ⟨f, hm, hf⟩ := map_of (X.keeps F.keep)
  refine getMethod_builtin hm.typeIs PySem.F.plainAttrs_dict PySem.F.slot_dict_get PySem.F.type_dict_get hm.noDict ?_
  k_steps
  refine call_meetsIn PySem.F.slot_dict_get hm.typeIs PySem.F.entry_dict_get (PySem.F.args_dict_get_2 _ _) (meets_dict_get (intKind P0 w) 33 (k := (c : Int)) (by simp [intKind, Value.isInt]) (by decide)) ⟨f, hm, ?_⟩
  rw [hf c]
  rcases okv_cases hc with ⟨u, hg⟩ | ⟨hg, hl⟩
  · rw [hg]
    dsimp only [Option.getD]
    k_steps
    rename Fr _ _ _ _ => F9
    exact hQ _ _ _ F9.keep
  · rw [hg]
    dsimp only [Option.getD]
    k_steps
    rename Fr _ _ _ _ => F9
    refine SC.lower (by rw [hl, mk_len]; exact of_decide_eq_true (List.all_eq_true.mp fold_len c hc)) ?_
    rw [hl]
    exact hQ _ _ _ F9.keep
end
end LW
end
section
open PySem PySem.W PyProof.Rows PySem.Calls PySem.Spec
set_option linter.all false
set_option maxRecDepth 100000
set_option maxHeartbeats 4000000
namespace LW
section
variable {w : World} {mean : ExcName → Option Value} {mg mb : Str → Option Value} {A : Around} {base : Heap} {outer : List Env} {h : Heap} {n : Nat}
def menuT : List Nat := [38, 60, 62, 34, 13, 10, 9, 97, 65, 90, 223, 304, 962, 8064, 13254, 64259, 119808, 172, 173, 174, 847, 6154, 6155, 6157, 6158, 8202, 8203, 8205, 8206, 8288, 65023, 65024, 65039, 65040, 65279]
theorem fr_know {h₀ h : Heap} {L : Addr} {m : Str → Option Value} (F : Fr h₀ L h m) {x : Str} {v : Value} (e : m x = some v) : Fr h₀ L h (fun z => if z = x then some v else m z) := by
  have : (fun z => if z = x then some v else m z) = m := by
    funext z
    by_cases hz : z = x
    · rw [if_pos hz, hz, e]
    · rw [if_neg hz]
  rw [this]; exact F
theorem mk_append (a b : List Nat) : mk a ++ mk b = mk (a ++ b) := by
  show (⟨a.toArray ++ b.toArray⟩ : Str) = _
  simp [mk]
theorem menu_app {l : List Nat} {c : Nat} (h : ∀ x ∈ l, x ∈ menuT) (hc : c ∈ menuT) : ∀ x ∈ l ++ [c], x ∈ menuT := fun x hx => by
  rcases List.mem_append.mp hx with hx | hx
  · exact h x hx
  · exact List.mem_singleton.mp hx ▸ hc
theorem chr_le {c : Nat} (hc : c ∈ menuT) : (c : Int) ≤ 1114111 := by
  have : (menuT.all fun c => decide ((c : Int) ≤ 1114111)) = true := by decide
  exact of_decide_eq_true (List.all_eq_true.mp this c hc)
theorem item_menu (j : Int) (h0 : 0 ≤ j) (h1 : j < 8) : ∃ c ∈ menuT, Txt.item (Str.ofString "&<>\"\r\n\ta") j = mk [c] := by
  rcases (by omega : j = 0 ∨ j = 1 ∨ j = 2 ∨ j = 3 ∨ j = 4 ∨ j = 5 ∨ j = 6 ∨ j = 7) with rfl | rfl | rfl | rfl | rfl | rfl | rfl | rfl
  · exact ⟨38, by decide, by decide +kernel⟩
  · exact ⟨60, by decide, by decide +kernel⟩
  · exact ⟨62, by decide, by decide +kernel⟩
  · exact ⟨34, by decide, by decide +kernel⟩
  · exact ⟨13, by decide, by decide +kernel⟩
  · exact ⟨10, by decide, by decide +kernel⟩
  · exact ⟨9, by decide, by decide +kernel⟩
  · exact ⟨97, by decide, by decide +kernel⟩
theorem getD_menu (L : List Int) (M : List Nat) (hL : L = M.map fun (c : Nat) => (c : Int)) (hM : (M.all fun c => menuT.contains c) = true) (j : Int) (h0 : 0 ≤ j) (h1 : j < M.length) : ∃ c ∈ menuT, L.getD j.toNat 0 = (c : Int) := by
  subst hL
  have hj : j.toNat < M.length := by omega
  refine ⟨M[j.toNat], ?_, ?_⟩
  · have := List.all_eq_true.mp hM M[j.toNat] (List.getElem_mem hj)
    simpa using this
  · simp [List.getD, hj]
theorem chr_menu1 (j : Int) (h0 : 0 ≤ j) (h1 : j < 10) : ∃ c ∈ menuT, ([65, 90, 223, 304, 962, 8064, 13254, 64259, 119808, 97] : List Int).getD j.toNat 0 = (c : Int) :=
  getD_menu _ [65, 90, 223, 304, 962, 8064, 13254, 64259, 119808, 97] (by decide) (by decide) j h0 h1
theorem chr_menu2 (j : Int) (h0 : 0 ≤ j) (h1 : j < 18) : ∃ c ∈ menuT, ([172, 173, 174, 847, 6154, 6155, 6157, 6158, 8202, 8203, 8205, 8206, 8288, 65023, 65024, 65039, 65040, 65279] : List Int).getD j.toNat 0 = (c : Int) :=
  getD_menu _ [172, 173, 174, 847, 6154, 6155, 6157, 6158, 8202, 8203, 8205, 8206, 8288, 65023, 65024, 65039, 65040, 65279] (by decide) (by decide) j h0 h1
theorem text_call {s : Shared} {Q E : Value → Shared → Prop} {c : Int} {t : Tok}
    (cx : Cx w mean mg mb A base outer s.heap 1) (hQ : ∀ l t' h' tk, (∀ k ∈ l, k ∈ menuT) → l.length ≤ 2 → Kp s.heap h' → Q (.str (mk l) t') { s with heap := h', toks := tk }) : wpAny (model P0 w) A (call (.ref 141) [.int c t]) Q E s := by
  have hkf : (KK w.params).In s.heap ∧ PySem.Challenge.rw_wa0043_01 = PySem.Challenge.rw_wa0043_01 := by
    k_fill
    exact ⟨cx.X, rfl⟩
  clear hkf
  refine enter cx (binds := [(S "cell", .int c t)]) (by k_is) (by k_is) rfl (locs rfl) ?_
  intro h₁ L F
  have X := cx.X
  have T := cx.T
  have B := cx.B
  have N : News s.heap L h₁ [] := News.nil
  with_reducible show wpAny _ _ _ _ _ _
  (try dsimp only)
  k_fold
  k_steps
  have c1 := Int.fmod_nonneg_of_pos c (b := 2) (by decide)
  have c2 := Int.fmod_lt_of_pos c (b := 2) (by decide)
  rename Fr _ _ _ _ => F5
  rename News _ _ _ _ => N5
  rename IsRange _ _ _ _ _ _ _ _ => R5
  refine kpr_invN (n := (1 + c.fmod 2).toNat) (fun i m nx => nx = [] ∧ ∃ l t k tk, m (S "text") = some (.str (mk l) t) ∧ m (S "left") = some (.int k tk) ∧ (∀ x ∈ l, x ∈ menuT) ∧ l.length = i) cx.hh R5 (small_one (by omega) (by omega) (by omega) (by omega)) (by rw [rangeSize_nat]; omega) F5 N5 ⟨rfl, [], _, _, _, rfl, rfl, by simp, rfl⟩ ?_ ?_
  · rintro i k t m₁ nx h tk own hk hoff ⟨rfl, l, t1, k1, tk1, e1, e2, hl, hn⟩ F6 N6
    clear F5 N5 R5
    have hi : i < 2 := by
      have := (List.getElem?_eq_some_iff.mp hk).1
      rw [rangeKs_length] at this
      omega
    have F7 := fr_know (fr_know F6 (x := S "text") (v := .str (mk l) t1) e1) (x := S "left") (v := .int k1 tk1) e2
    clear F6
    k_steps
    · obtain ⟨ch, hch, hit⟩ := item_menu (((k1.fmod 1080).fdiv 3).fmod 8) (Int.fmod_nonneg_of_pos _ (by decide)) (Int.fmod_lt_of_pos _ (by decide))
      rw [hit]
      refine iadd_str ?_ (by rw [mk_len, mk_len, hn]; show i + 1 ≤ _; rw [sizeLine_eq]; omega)
      intro t' tk'
      rw [mk_append]
      k_steps
      rename Fr _ _ _ _ => F9
      rename News _ _ _ _ => N9
      exact InvEndN.intro F9 N9 ⟨rfl, l ++ [ch], _, _, _, rfl, rfl, menu_app hl hch, by simp [hn]⟩ rfl (by simp) (by intro p hp; simp [hp])
    · obtain ⟨ch, hch, hit⟩ := chr_menu1 (((k1.fmod 1080).fdiv 3).fmod 10) (Int.fmod_nonneg_of_pos _ (by decide)) (Int.fmod_lt_of_pos _ (by decide))
      rw [hit]
      refine chr_of_range (by omega) (chr_le hch) ?_
      rw [Int.toNat_natCast]
      refine iadd_str ?_ (by rw [mk_len, mk_len, hn]; show i + 1 ≤ _; rw [sizeLine_eq]; omega)
      intro t' tk'
      rw [mk_append]
      k_steps
      rename Fr _ _ _ _ => F9
      rename News _ _ _ _ => N9
      exact InvEndN.intro F9 N9 ⟨rfl, l ++ [ch], _, _, _, rfl, rfl, menu_app hl hch, by simp [hn]⟩ rfl (by simp) (by intro p hp; simp [hp])
    · obtain ⟨ch, hch, hit⟩ := chr_menu2 (((k1.fmod 1080).fdiv 3).fmod 18) (Int.fmod_nonneg_of_pos _ (by decide)) (Int.fmod_lt_of_pos _ (by decide))
      rw [hit]
      refine chr_of_range (by omega) (chr_le hch) ?_
      rw [Int.toNat_natCast]
      refine iadd_str ?_ (by rw [mk_len, mk_len, hn]; show i + 1 ≤ _; rw [sizeLine_eq]; omega)
      intro t' tk'
      rw [mk_append]
      k_steps
      rename Fr _ _ _ _ => F9
      rename News _ _ _ _ => N9
      exact InvEndN.intro F9 N9 ⟨rfl, l ++ [ch], _, _, _, rfl, rfl, menu_app hl hch, by simp [hn]⟩ rfl (by simp) (by intro p hp; simp [hp])
  · rintro m₁ nx h tk ⟨rfl, l, t1, k1, tk1, e1, e2, hl, hn⟩ F6 N6
    clear F5 N5 R5
    have F7 := fr_know (fr_know F6 (x := S "text") (v := .str (mk l) t1) e1) (x := S "left") (v := .int k1 tk1) e2
    clear F6
    rw [rangeKs_length] at hn
    k_steps
    exact hQ _ _ _ _ hl (by omega) F7.keep
end
end LW
end
section
open PySem PySem.W PyProof.Rows PySem.Calls PySem.Spec
set_option linter.all false
set_option maxRecDepth 100000
set_option maxHeartbeats 4000000
namespace LW
section
variable {w : World} {A : Around} {E : Value → Shared → Prop} {s : Shared} {env : Env} {h₀ : Heap} {x : Str} {body : List Stmt} {Q : Flow → Shared → Prop}
theorem iter_strN {l : List Nat} {tx : Tok} {m₀ : Str → Option Value} {news : List (Addr × Obj)} (J : List Nat → (Str → Option Value) → List (Addr × Obj) → Prop)
    (hh : A.handled = none) (F : Fr h₀ env.locals s.heap m₀) (N : News h₀ env.locals s.heap news) (hj : J [] m₀ news)
    (turn : ∀ pre c post t m₁ nx h tk own, l = pre ++ c :: post → nx.map (·.1) = news.map (·.1) → OwnOff own (news.map (·.1)) → J pre m₁ nx → Fr h₀ env.locals h (fun y => if y = x then some (.str ⟨#[c]⟩ t) else m₁ y) → News h₀ env.locals h (nx ++ own) →
      wpAny (model P0 w) A (execs body env) (InvPostN h₀ env.locals (J (pre ++ [c])) own (news.map (·.1)) { s with heap := h, toks := tk } Q) E { s with heap := h, toks := tk })
    (done : ∀ m₁ nx h tk, J l m₁ nx → Fr h₀ env.locals h m₁ → News h₀ env.locals h nx → Q .next { s with heap := h, toks := tk }) :
    wpAny (model P0 w) A (pyIter (.str (mk l) tx)) (fun it s₂ => LoopAtV P0 w A h₀ env x body Q E it s₂) E s := by
  refine wpAny_pyIter_str fun o St hW hst => ?_
  have W := hW A hh
  refine loop_invN (fun i m nx => J (l.take i) m nx) W ?_ ?_ ?_ ?_ hst (F.push _) (fun p hp => ⟨Heap.get?_push_of_some _ (N p hp).1, (N p hp).2⟩) (by simpa using hj) ?_ ?_
  · intro hm
    exact absurd F.ns.lt ((List.mem_singleton.mp hm) ▸ Nat.lt_irrefl _)
  · intro b' hb
    rw [List.mem_singleton.mp hb]
    exact next_is_new F
  · intro p hp hI
    exact absurd (Heap.lt_size (N p hp).1) ((List.mem_singleton.mp hI) ▸ Nat.lt_irrefl _)
  · intro p hp hI
    exact absurd (Heap.lt_size (N p hp).1) ((List.mem_singleton.mp hI) ▸ Nat.lt_irrefl _)
  · rintro i v m₁ nx h tk own hi ⟨n, u, hn, rfl⟩ had hoff hJ F₁ N₁
    have hn' : l[i]? = some n := by simpa [mk] using hn
    have hs : l.take (i + 1) = l.take i ++ [n] := by simp [List.take_add_one, hn']
    have e : l = l.take i ++ n :: l.drop (i + 1) := by
      have ht := List.take_append_drop (i + 1) l
      rw [hs, List.append_assoc] at ht
      exact ht.symm
    rw [hs]
    exact turn _ n _ u m₁ nx h tk own e had hoff hJ F₁ N₁
  · intro m₁ nx h tk hJ F₁ N₁
    have hl : (mk l).cps.size = l.length := by simp [mk]
    rw [hl, List.take_length] at hJ
    exact done m₁ nx h tk hJ F₁ N₁
end
section
variable {w : World} {mean : ExcName → Option Value} {mg mb : Str → Option Value} {A : Around} {base : Heap} {outer : List Env} {h : Heap} {n : Nat}
def prep (l : List Nat) : List Nat := l.flatMap fun (c : Nat) => if b1S (c : Int) then [] else fold c
def D0 : List (PyData × PyData) := [(.int 65, .str (mk [97])), (.int 90, .str (mk [122])), (.int 223, .str (mk [115, 115])), (.int 304, .str (mk [105, 775])), (.int 962, .str (mk [963])), (.int 8064, .str (mk [7936, 953])), (.int 13254, .str (mk [99, 8725, 107, 103])), (.int 64259, .str (mk [102, 102, 105])), (.int 119808, .str (mk [97]))]
theorem D0_get (c : Nat) : (Spec.lookup (.int (c : Int)) D0).getD (.str (mk [c])) = .str (mk (fold c)) := by
  have e : ∀ a : Nat, Spec.same (.int (a : Int)) (.int (c : Int)) = decide (c = a) := fun a => by
    rw [PyProof.V.same_int]
    apply decide_eq_decide.mpr
    omega
  unfold D0 fold
  simp only [Spec.lookup]
  have e1 := e 65; have e2 := e 90; have e3 := e 223; have e4 := e 304; have e5 := e 962; have e6 := e 8064; have e7 := e 13254; have e8 := e 64259; have e9 := e 119808
  have e1 : Spec.same (.int 65) (.int (c : Int)) = decide (c = 65) := e1
  erw [e1, e2, e3, e4, e5, e6, e7, e8, e9]
  simp only [decide_eq_true_eq]
  repeat' split
  all_goals rfl
theorem drop_of {c : Nat} (hc : c ∈ menuT) : b1S (c : Int) = true ↔ (c = 173 ∨ c = 847 ∨ c = 8288 ∨ c = 65279 ∨ (6155 ≤ c ∧ c ≤ 6157) ∨ (8203 ≤ c ∧ c ≤ 8205) ∨ (65024 ≤ c ∧ c ≤ 65039)) := by
  have h : (menuT.all fun (c : Nat) => decide (b1S (c : Int) = true ↔ (c = 173 ∨ c = 847 ∨ c = 8288 ∨ c = 65279 ∨ (6155 ≤ c ∧ c ≤ 6157) ∨ (8203 ≤ c ∧ c ≤ 8205) ∨ (65024 ≤ c ∧ c ≤ 65039)))) = true := by decide +kernel
  exact of_decide_eq_true (List.all_eq_true.mp h c hc)
theorem prep_snoc (l : List Nat) (c : Nat) : prep (l ++ [c]) = prep l ++ (if b1S (c : Int) then [] else fold c) := by simp [prep]
theorem fold_le (c : Nat) : (fold c).length ≤ 4 := by unfold fold; repeat' split
                                                      all_goals simp
theorem prep_le : ∀ l : List Nat, (prep l).length ≤ 4 * l.length
  | [] => by simp [prep]
  | c :: r => by
    have ih := prep_le r
    have h1 := fold_le c
    unfold prep at ih ⊢
    rw [List.flatMap_cons, List.length_append, List.length_cons]
    have h2 : (if b1S (c : Int) then [] else fold c).length ≤ 4 := by
      split
      · exact Nat.zero_le _
      · exact h1
    omega
/-- holds a goal back from the walker -/
def Held (P : Prop) : Prop := P
theorem held {P : Prop} (h : Held P) : P := h
abbrev pEnv (L : Addr) : Env := envOf (fName (st 18)) (fScope (st 18)) L 153 (.ref 152)
def pIf : Stmt := match (fBody (st 18)).getD 2 (.Pass default) with | .For _ _ b _ _ => b.getD 1 (.Pass default) | x => x
def ifTest : Stmt → PySem.Expr | .If t _ _ _ => t | _ => .Name (S "") default
theorem prep_forget {h₀ h : Heap} {L : Addr} {m : Str → Option Value} {x : Str} {v : Value} (F : Fr h₀ L h (fun z => if z = x then some v else m z)) (e : m x = some v) : Fr h₀ L h m := by
  have : (fun z => if z = x then some v else m z) = m := by
    funext z
    by_cases hz : z = x
    · rw [if_pos hz, hz, e]
    · rw [if_neg hz]
  rw [this] at F; exact F
theorem test_prep {s : Shared} {h₀ : Heap} {L : Addr} {m : Str → Option Value} {news : List (Addr × Obj)} {Q : Bool → Shared → Prop} {E : Value → Shared → Prop} {c : Nat} {t : Tok} (cx : Cx w mean mg mb A base outer h₀ 1) (F : Fr h₀ L s.heap m) (N : News h₀ L s.heap news) (hm : m (S "code") = some (.int (c : Int) t))
    (h : ∀ (b : Bool) h' tk, Fr h₀ L h' m → News h₀ L h' news → (b = true ↔ (c = 173 ∨ c = 847 ∨ c = 8288 ∨ c = 65279 ∨ (6155 ≤ c ∧ c ≤ 6157) ∨ (8203 ≤ c ∧ c ≤ 8205) ∨ (65024 ≤ c ∧ c ≤ 65039))) → Q b { s with heap := h', toks := tk }) :
    wpAny (model P0 w) (A.deeper (pEnv L)) (isTrue (ifTest pIf) (pEnv L) (eval (ifTest pIf) (pEnv L))) Q E s := by
  have hkf : (KK w.params).In h₀ ∧ PySem.Challenge.rw_wa0043_01 = PySem.Challenge.rw_wa0043_01 := by
    k_fill
    exact ⟨cx.X, rfl⟩
  clear hkf
  have X := cx.X
  have T := cx.T
  have B := cx.B
  have F7 := fr_know F (x := S "code") (v := .int (c : Int) t) hm
  clear F
  conv in (occs := *) (ifTest pIf) => all_goals whnf
  k_steps
  all_goals (rename (List.any [173, 847, 8288, 65279] _) = _ => hany)
  all_goals (simp only [List.any_cons, List.any_nil, Bool.or_eq_true, Bool.or_eq_false_iff, Bool.or_false, beq_iff_eq, beq_eq_false_iff_ne] at hany)
  all_goals (rename Fr _ _ _ _ => F9)
  all_goals (rename News _ _ _ _ => N9)
  all_goals refine h _ _ _ (prep_forget F9 hm) (fun p hp => N9 p (.tail _ hp)) ?_
  all_goals first
    | (refine ⟨fun _ => ?_, fun _ => rfl⟩; omega)
    | (refine ⟨fun e => absurd e Bool.false_ne_true, fun e => ?_⟩; exfalso; omega)
local macro_rules | `(tactic| walk_at "exec If") => `(tactic| refine LW.held ?_)
theorem prep_call {s : Shared} {Q E : Value → Shared → Prop} {l : List Nat} {t : Tok} (hl : ∀ k ∈ l, k ∈ menuT) (hn : l.length ≤ 50)
    (cx : Cx w mean mg mb A base outer s.heap 1) (hQ : ∀ t' h' tk, Kp s.heap h' → Q (.str (mk (prep l)) t') { s with heap := h', toks := tk }) : wpAny (model P0 w) A (call (.ref 153) [.str (mk l) t]) Q E s := by
  have hkf : (KK w.params).In s.heap ∧ PySem.Challenge.rw_wa0043_01 = PySem.Challenge.rw_wa0043_01 := by
    k_fill
    exact ⟨cx.X, rfl⟩
  clear hkf
  refine enter cx (binds := [(S "text", .str (mk l) t)]) (by k_is) (by k_is) rfl (locs rfl) ?_
  intro h₁ L F
  have X := cx.X
  have T := cx.T
  have B := cx.B
  have N : News s.heap L h₁ [] := News.nil
  with_reducible show wpAny _ _ _ _ _ _
  (try dsimp only)
  k_fold
  k_steps
  rename Obj => o5
  have HT : ∀ h : Heap, h.get? h₁.objs.size = some o5 → IntTab P0 w h h₁.objs.size D0 := fun h e => TabAt.ofObj (by assumption) e (by assumption) (by assumption)
  rename PyProof.V.FlatPairs _ _ _ => hf5
  rename Obj.IsDictOf _ _ _ => hd5
  clear hf5 hd5
  rename Fr _ _ _ _ => F5
  rename News _ _ _ _ => N5
  obtain ⟨t5, F5⟩ : ∃ t5, Fr s.heap L _ (fun y => if y = S "kept" then some (.str (mk []) t5) else if y = S "folds" then some (.ref h₁.objs.size) else List.lookup y [(S "text", Value.str (mk l) t)].reverse) := ⟨_, F5⟩
  refine For_invV s.heap (by rfl) (by rfl) ?_
  k_steps
  refine iter_strN (fun pre m nx => nx = [(h₁.objs.size, o5)] ∧ m (S "folds") = some (.ref h₁.objs.size) ∧ ∃ t, m (S "kept") = some (.str (mk (prep pre)) t)) cx.hh F5 N5 ⟨rfl, rfl, _, rfl⟩ ?_ ?_
  · rintro pre c post t6 m₁ nx h tk own hpre hnx hoff ⟨rfl, e1, t7, e2⟩ F6 N6
    clear F5 N5
    have hc : c ∈ menuT := hl c (by rw [hpre]; simp)
    have hlp : pre.length ≤ 49 := by have := congrArg List.length hpre; simp at this; omega
    have hpl := prep_le pre
    have F7 := fr_know (fr_know F6 (x := S "folds") (v := .ref h₁.objs.size) e1) (x := S "kept") (v := .str (mk (prep pre)) t7) e2
    have T6 := HT h (N6 (h₁.objs.size, o5) (by simp)).1
    clear F6
    k_steps
    unfold Held
    rename Fr _ _ _ _ => F8
    rename News _ _ _ _ => N8
    refine wpAny_If ?_
    refine test_prep (c := c) cx F8 N8 rfl ?_
    intro b h' tk' F9 N9 hbt
    clear F8 N8
    cases b with
    | true =>
      have hb : b1S (c : Int) = true := (drop_of hc).mpr (hbt.mp rfl)
      rw [if_pos rfl]
      k_steps
      exact InvEndN.intro F9 N9 ⟨rfl, rfl, _, by rw [prep_snoc, hb, if_pos rfl, List.append_nil]; rfl⟩ rfl (by simp) (by intro p hp; simp [hp])
    | false =>
      have hb : b1S (c : Int) = false := Bool.eq_false_iff.mpr fun h => absurd (hbt.mpr ((drop_of hc).mp h)) Bool.false_ne_true
      rw [if_neg Bool.false_ne_true]
      k_steps
      rename News _ _ _ _ => N9
      have T9 := HT _ (N9 (h₁.objs.size, o5) (by simp)).1
      refine getMethod_intTab_get T9 ?_
      k_steps
      rename PyProof.V.Flat _ _ => hv
      rw [show (⟨#[c]⟩ : Str) = mk [c] from rfl, D0_get] at hv
      obtain ⟨tv, rfl⟩ := hv.str_inv
      refine iadd_str ?_ (by have := fold_le c; rw [mk_len, mk_len, sizeLine_eq]; omega)
      intro t8 tk8
      rw [mk_append]
      k_steps
      rename Fr _ _ _ _ => F9
      rename News _ _ _ _ => N9
      exact InvEndN.intro F9 N9 ⟨rfl, rfl, _, by rw [prep_snoc, hb, if_neg Bool.false_ne_true]; rfl⟩ rfl (by simp) (by intro p hp; simp [hp])
  · rintro m₁ nx h tk ⟨rfl, e1, t7, e2⟩ F6 N6
    have F7 := fr_know F6 (x := S "kept") (v := .str (mk (prep l)) t7) e2
    clear F5 F6
    k_steps
    exact hQ _ _ _ F7.keep
end
end LW
end
section
open PySem PySem.W PyProof.Rows PySem.Calls PySem.Spec
set_option linter.all false
set_option maxRecDepth 100000
set_option maxHeartbeats 4000000
namespace LW
section
variable {w : World} {mean : ExcName → Option Value} {mg mb : Str → Option Value} {A : Around} {base : Heap} {outer : List Env} {h : Heap} {n : Nat}
local macro_rules | `(tactic| walk_at "exec While") => `(tactic| refine LW.held ?_)
local macro_rules | `(tactic| walk_at "Exists") => `(tactic| refine LW.held ?_)
local macro_rules | `(tactic| walk_at "exec While Compare") => `(tactic| refine LW.held ?_)
def lead (mark : Int) (q : Nat) : List Int := if q < 64 then [] else lead mark (q / 64) ++ [(q / 64 % 64 : Nat) + 64 + mark]
termination_by q
decreasing_by omega
def vintI (mark : Int) (c : Nat) : List Int := lead mark c ++ [(c % 64 : Nat) + mark]
def encI (mark : Int) (l : List Nat) : List Int := l.flatMap (vintI mark)
theorem lead_lt (mark : Int) (q : Nat) (h : q < 64) : lead mark q = [] := by rw [lead, if_pos h]
theorem lead_ge (mark : Int) (q : Nat) (h : ¬ q < 64) : lead mark q = lead mark (q / 64) ++ [(q / 64 % 64 : Nat) + 64 + mark] := by rw [lead, if_neg h]
theorem lead_len (mark : Int) : ∀ (k q : Nat), q < 64 ^ (k + 1) → (lead mark q).length ≤ k
  | 0, q, h => by rw [lead_lt mark q (by simpa using h)]; exact Nat.le_refl _
  | k + 1, q, h => by
    by_cases hq : q < 64
    · rw [lead_lt mark q hq]; exact Nat.zero_le _
    · rw [lead_ge mark q hq, List.length_append]
      have : q / 64 < 64 ^ (k + 1) := by
        rw [Nat.div_lt_iff_lt_mul (by decide)]
        rw [Nat.pow_succ] at h
        exact h
      have := lead_len mark k _ this
      simp only [List.length_cons, List.length_nil]
      omega
theorem vintI_len (mark : Int) (c : Nat) (h : c < 1114112) : (vintI mark c).length ≤ 4 := by
  have := lead_len mark 3 c (by omega)
  unfold vintI
  rw [List.length_append]
  simp only [List.length_cons, List.length_nil]
  omega
theorem encI_len (mark : Int) : ∀ l : List Nat, (∀ k ∈ l, k < 1114112) → (encI mark l).length ≤ 4 * l.length
  | [], _ => Nat.le_refl _
  | c :: r, h => by
    have ih := encI_len mark r fun k hk => h k (List.mem_cons_of_mem _ hk)
    have h1 := vintI_len mark c (h c (List.mem_cons_self ..))
    unfold encI at ih ⊢
    rw [List.flatMap_cons, List.length_append, List.length_cons]
    omega
theorem encI_snoc (mark : Int) (l : List Nat) (c : Nat) : encI mark (l ++ [c]) = encI mark l ++ vintI mark c := by simp [encI]
theorem lead_in {mark : Int} (hm : mark = 0 ∨ mark = 128) (q : Nat) : ∀ k ∈ lead mark q, 0 ≤ k ∧ k < 256 := by
  induction q using Nat.strongRecOn with
  | _ q ih =>
    intro k hk
    by_cases hq : q < 64
    · rw [lead_lt mark q hq] at hk; exact absurd hk (List.not_mem_nil)
    · rw [lead_ge mark q hq] at hk
      rcases List.mem_append.mp hk with hk | hk
      · exact ih (q / 64) (by omega) k hk
      · rw [List.mem_singleton.mp hk]; omega
theorem encI_in {mark : Int} (hm : mark = 0 ∨ mark = 128) (l : List Nat) : ∀ k ∈ encI mark l, 0 ≤ k ∧ k < 256 := by
  intro k hk
  obtain ⟨c, _, hk⟩ := List.mem_flatMap.mp hk
  rcases List.mem_append.mp hk with hk | hk
  · exact lead_in hm c k hk
  · rw [List.mem_singleton.mp hk]; omega
theorem fdiv_nat (q : Nat) : (q : Int).fdiv 64 = ((q / 64 : Nat) : Int) := by rw [Int.fdiv_eq_ediv_of_nonneg _ (by decide)]; rfl
theorem fmod_nat (q : Nat) : (q : Int).fmod 64 = ((q % 64 : Nat) : Int) := by rw [Int.fmod_eq_emod_of_nonneg _ (by decide)]; rfl
theorem news_drop2 {h₀ h : Heap} {L : Addr} {a b c : Addr × Obj} {r : List (Addr × Obj)} (N : News h₀ L h (a :: b :: c :: r)) : News h₀ L h (a :: r) := fun p hp => by
  rcases List.mem_cons.mp hp with rfl | hp
  · exact N _ (.head _)
  · exact N p (.tail _ (.tail _ (.tail _ hp)))
theorem oct_call {s : Shared} {Q E : Value → Shared → Prop} {l : List Nat} {t : Tok} {mark : Int} {tm : Tok} (hl : ∀ k ∈ l, k < 1114112) (hn : l.length ≤ 300) (hm : mark = 0 ∨ mark = 128)
    (cx : Cx w mean mg mb A base outer s.heap 1) (hQ : ∀ t' h' tk, Kp s.heap h' → Q (.bytes (byteArr (encI mark l)) t') { s with heap := h', toks := tk }) : wpAny (model P0 w) A (call (.ref 160) [.str (mk l) t, .int mark tm]) Q E s := by
  have hkf : (KK w.params).In s.heap ∧ PySem.Challenge.rw_wa0043_01 = PySem.Challenge.rw_wa0043_01 := by
    k_fill
    exact ⟨cx.X, rfl⟩
  clear hkf
  refine enter cx (binds := [(S "page", .str (mk l) t), (S "mark", .int mark tm)]) (by k_is) (by k_is) rfl (locs rfl) ?_
  intro h₁ L F
  have X := cx.X
  have T := cx.T
  have B := cx.B
  have N : News s.heap L h₁ [] := News.nil
  with_reducible show wpAny _ _ _ _ _ _
  (try dsimp only)
  k_fold
  k_steps
  rename Fr _ _ _ _ => F5
  rename News _ _ _ _ => N5
  obtain ⟨l5, F5, N5⟩ : ∃ l5, Fr s.heap L _ (fun y => if y = S "row" then some (.ref l5) else List.lookup y [(S "page", Value.str (mk l) t), (S "mark", Value.int mark tm)].reverse) ∧ News s.heap L _ [(l5, W.listOf #[] 0)] := ⟨_, F5, N5⟩
  refine For_invV s.heap (by rfl) (by rfl) ?_
  k_steps
  refine iter_strN (fun pre m nx => ∃ items nn, nx = [(l5, W.listOf items.toArray nn)] ∧ m (S "mark") = some (.int mark tm) ∧ m (S "row") = some (.ref l5) ∧ IntsAre items (encI mark pre)) cx.hh F5 N5 ⟨[], _, rfl, rfl, rfl, .nil⟩ ?_ ?_
  · rintro pre c post t6 m₁ nx h tk own hpre hnx hoff ⟨items, nn, rfl, e1, e2, hi⟩ F6 N6
    have F7 := fr_know (fr_know F6 (x := S "mark") (v := .int mark tm) e1) (x := S "row") (v := .ref l5) e2
    clear F5 N5
    clear F6
    k_steps
    unfold Held
    rename Fr _ _ _ _ => F8
    rename News _ _ _ _ => N8
    refine wpAny_While ?_
    rename (∀ p ∈ [(l5, W.listOf items.toArray nn)] ++ own, p.1 < _) => hlt
    have hl5 := hlt (l5, W.listOf items.toArray nn) (by simp)
    have hc : c < 1114112 := hl c (by rw [hpre]; simp)
    have hvl := vintI_len mark c hc
    have hlp : pre.length ≤ 300 := by have := congrArg List.length hpre; simp at this; omega
    have hil := hi.length
    have hel := encI_len mark pre fun k hk => hl k (by rw [hpre]; simp [hk])
    refine codeAny_whileLoop (fun n s' => ∃ (h : Heap) (tk : Nat) (m : Str → Option Value) (d : Addr) (its : List Value) (n1 : Nat) (tq : Tok) (ds : List Int), s' = { s with heap := h, toks := tk } ∧ Fr s.heap L h m ∧ News s.heap L h ((d, W.listOf its.toArray n1) :: ([(l5, W.listOf items.toArray nn)] ++ own)) ∧
      m (S "code") = some (.int (n : Int) tq) ∧ m (S "digits") = some (.ref d) ∧ m (S "mark") = some (.int mark tm) ∧ m (S "row") = some (.ref l5) ∧ IntsAre its ds ∧ lead mark n ++ ds = vintI mark c ∧ l5 < d) ?_ c ⟨_, _, _, _, [_], _, _, _, rfl, F8, N8, rfl, rfl, rfl, rfl, .cons _ _ .nil, by rw [fmod_nat]; rfl, hl5⟩
    clear F7 F8 N6 N8 e1 e2 hlt hl5
    rintro q s' ⟨h2, tk2, m2, d2, its2, n2, tq2, ds2, rfl, F2, N2, a1, a2, a3, a4, hi2, hd2, hl5⟩
    have hdl : ds2.length ≤ 4 := by have := congrArg List.length hd2; rw [List.length_append] at this; omega
    have hil2 := hi2.length
    have F9 := fr_know (fr_know (fr_know (fr_know F2 (x := S "row") (v := .ref l5) a4) (x := S "mark") (v := .int mark tm) a3) (x := S "digits") (v := .ref d2) a2) (x := S "code") (v := .int (q : Int) tq2) a1
    clear F2
    k_steps
    · have hq : 63 < (q : Int) := by assumption
      rename IntsAre _ _ => hi4
      rename Fr _ _ _ _ => F3
      rename News _ _ _ _ => N3
      rename (_ < _ ∧ _ < _ ∧ AllLt _ _) => hlt4
      have hl5' := Nat.lt_trans hl5 hlt4.2.1
      rw [fdiv_nat] at F3
      rw [fdiv_nat, fmod_nat] at hi4
      exact ⟨q / 64, by omega, _, _, _, _, _, _, _, _, rfl, F3, news_drop2 N3, rfl, rfl, rfl, rfl, hi4, by rw [← hd2, lead_ge mark q (by omega), List.append_assoc], hl5'⟩
    · have hq : ¬ 63 < (q : Int) := by assumption
      have hq' : q < 64 := by omega
      rw [lead_lt mark q hq', List.nil_append] at hd2
      subst hd2
      refine kl_extend F9 N2 (.head _) rfl ?_ (.tail (Nat.ne_of_gt hl5) (.head fun p hp => hoff p hp l5 (by simp))) ?_ ?_ ?_ ?_
      · show its2.length ≠ 0; rw [hil2]; unfold vintI; simp
      · simp only [List.size_toArray, Builtin.List.listTooLong, sizeLine_eq, Bool.and_eq_true, decide_eq_true_eq, not_and]; intro _; omega
      · show items.length ≤ _; rw [sizeLine_eq]; omega
      · simp only [List.size_toArray, sizeLine_eq]; omega
      · intro h4 F4 N4
        k_steps
        refine InvEndN.intro F4 N4 ⟨items ++ its2, nn + 1, rfl, rfl, rfl, ?_⟩ rfl (by simp) (by intro p hp; simp [hp])
        rw [encI_snoc]
        exact hi.append hi2
  · rintro m₁ nx h tk ⟨items, nn, rfl, e1, e2, hi⟩ F6 N6
    have F7 := fr_know F6 (x := S "row") (v := .ref l5) e2
    clear F5 F6 N5
    k_steps
    have hil := hi.length
    have hel := encI_len mark l hl
    refine KBa.make_K F7 N6 cx.hh (News.isList N6 (.head _)) hi (encI_in hm l) (by omega) ?_
    intro h9 t9 k9 F9 N9 _
    exact hQ _ _ _ F9.keep
end
end LW
end
section
open PySem PySem.W PyProof.Rows PySem.Calls PySem.Spec
set_option linter.all false
set_option maxRecDepth 100000
set_option maxHeartbeats 4000000
namespace LW
section
variable {w : World} {A : Around} {E : Value → Shared → Prop} {s : Shared} {b : Array UInt8} {t : Tok} {it : Addr} {i : Nat}
/-- one step of a bytes iterator by its slot -/
theorem step_item {c : UInt8} {Q : Option Value → Shared → Prop} (hit : KBw.IsBytesIter s.heap it b t i) (hx : b[i]? = some c)
    (hQ : ∀ h', KBw.IsBytesIter h' it b t (i + 1) → Heap.SameBut it s.heap h' → Q (some (.int (c.toNat : Int) s.toks)) { s with heap := h', toks := s.toks + 1 }) :
    wpAny (model P0 w) A (callSpecial? (.ref it) (Str.ofString "__next__")) Q E s := by
  obtain ⟨o, ho, hc, hd⟩ := id hit
  refine wpAny_callSpecial?_slot (name := PySem.Str.ofString "__next__") (KBw.iter_typeIs hit) KBw.slot_next
    (wpAny_call_entry KBw.slot_next (KBw.iter_typeIs hit) KBw.entry_next ?_ (KBw.args_next _))
  show wpAny _ _ (field (.ref it) 0 >>= _) _ _ s
  refine wpAny_bind (wpAny_field ho hd (x := .bytes b t) rfl ?_)
  show wpAny _ _ (if (Value.bytes b t == Value.none) = true then _ else _) _ _ s
  rw [if_neg (show ¬ ((Value.bytes b t == Value.none) = true) from Bool.false_ne_true)]
  show wpAny _ _ (field (.ref it) 1 >>= _) _ _ s
  refine wpAny_bind (wpAny_field ho hd (x := .int i 0) rfl ?_)
  refine wpAny_bind (wpAny_of_eq (a := b) rfl ?_)
  simp only [Int.toNat_natCast, hx]
  refine wpAny_bind (wpAny_setField ho hd (by simp) (wpAny_bind (wpAny_mkInt (wpAny_pure ⟨_, rfl, hQ _ ?_ (Heap.SameBut.update ..)⟩))))
  exact ⟨_, Heap.get?_update_self _ ho (Obj.isFreed_of_fields (Obj.data_mapFields hd _)), (Obj.cls_mapFields ..).trans hc, by
    rw [Obj.data_mapFields hd]; simp [rawInt]⟩
/-- its end: StopIteration is raised -/
theorem step_end {Q : Option Value → Shared → Prop} (hh : A.handled = none) (hit : KBw.IsBytesIter s.heap it b t i) (hx : b[i]? = none)
    (hE : ∀ h' h'' e, Heap.SameBut it s.heap h' → (∃ o, h'.get? it = some o) → Heap.MadeExcOf h' h'' e (.type "StopIteration") [] → E (.ref e) { s with heap := h'' }) :
    wpAny (model P0 w) A (callSpecial? (.ref it) (Str.ofString "__next__")) Q E s := by
  obtain ⟨o, ho, hc, hd⟩ := id hit
  refine wpAny_callSpecial?_slot (name := PySem.Str.ofString "__next__") (KBw.iter_typeIs hit) KBw.slot_next
    (wpAny_call_entry KBw.slot_next (KBw.iter_typeIs hit) KBw.entry_next ?_ (KBw.args_next _))
  show wpAny _ _ (field (.ref it) 0 >>= _) _ _ s
  refine wpAny_bind (wpAny_field ho hd (x := .bytes b t) rfl ?_)
  show wpAny _ _ (if (Value.bytes b t == Value.none) = true then _ else _) _ _ s
  rw [if_neg (show ¬ ((Value.bytes b t == Value.none) = true) from Bool.false_ne_true)]
  show wpAny _ _ (field (.ref it) 1 >>= _) _ _ s
  refine wpAny_bind (wpAny_field ho hd (x := .int i 0) rfl ?_)
  refine wpAny_bind (wpAny_of_eq (a := b) rfl ?_)
  simp only [Int.toNat_natCast, hx]
  refine wpAny_bind (wpAny_rule (wpAny_bind (wpAny_setField ho hd (by simp) ?_)))
  show wpAny _ _ (newExc (.type "StopIteration") [] >>= _) _ _ _
  refine wpAny_bind ?_
  simp only [newExc, newTuple]
  refine wpAny_bind (wpAny_newObj_type ?_ (by size_fits))
  refine wpAny_bind (m := firstArgMember _ _) (wpAny_of_eq (a := Value.none) (by first | rfl | (simp only [firstArgMember]; rfl)) ?_)
  refine wpAny_newObj_type ?_ (by size_fits)
  simp only [raiseNew]
  refine wpAny_bind (wpAny_handled ?_)
  first | rw [show A.in1.handled = none from hh] | rw [hh]
  refine wpAny_bind (wpAny_pure (wpAny_throw ?_))
  refine hE _ _ _ (Heap.SameBut.update ..) ⟨_, Heap.get?_update_self _ ho (Obj.isFreed_of_fields (Obj.data_mapFields hd _))⟩ ⟨fun b' o' e => Heap.get?_push_of_some _ (Heap.get?_push_of_some _ e), ?_, ⟨_, Heap.get?_push_size _ rfl, ?_, ?_⟩⟩
  · exact Heap.get?_none_of_le (by simp [Heap.push])
  · exact Heap.get?_none_of_le (Nat.le_refl _)
  · exact Heap.get?_push_of_some _ (Heap.get?_push_size _ rfl)
/-- an object that is a bytes iterator at place i -/
def IterO (o : Obj) (b : Array UInt8) (t : Tok) (i : Nat) : Prop := o.cls = .type "bytes_iterator" ∧ o.data = .fields #[.bytes b t, .int i 0]
variable {h₀ : Heap} {L : Addr} {m : Str → Option Value} {io : Obj}
theorem next_itemK {c : UInt8} {Q : Value → Shared → Prop} (F : Fr h₀ L s.heap m) (N : News h₀ L s.heap [(it, io)]) (hio : IterO io b t i) (hx : b[i]? = some c)
    (h : ∀ h' io', Fr h₀ L h' m → News h₀ L h' [(it, io')] → IterO io' b t (i + 1) → Q (.int (c.toNat : Int) s.toks) { s with heap := h', toks := s.toks + 1 }) :
    wpAny (model P0 w) A (call (.builtin "next") [.ref it]) Q E s := by
  have hm := N (it, io) (.head _)
  have hit : KBw.IsBytesIter s.heap it b t i := ⟨io, hm.1, hio⟩
  refine call_function_entry (by decide +kernel) (by decide +kernel) kdk_entry_next (kdk_args_next _) ?_
  unfold Builtin.«next»
  refine wpAny_bind (m := someArgs "next" 1 2 _) (wpAny_of_eq (a := [Value.ref it]) (by first | rfl | kernel_rfl!) ?_)
  dsimp only
  refine wpAny_bind (wpAny_specialOf (name := Str.ofString "__next__") (KBw.iter_typeIs hit) KBw.slot_next.lookup ?_)
  refine wpAny_ite_split (fun hab => absurd hab (by decide)) (fun _ => ?_)
  refine wpAny_bind (step_item hit hx fun h' hit' hs => ?_)
  obtain ⟨o', ho', hc', hd'⟩ := id hit'
  exact wpAny_pure ⟨_, rfl, h h' o' (F.change hs hm.2.1 hm.2.2) (fun p hp => by rw [List.mem_singleton.mp hp]; exact ⟨ho', hm.2⟩) ⟨hc', hd'⟩⟩
theorem next_endK {Q : Value → Shared → Prop} (hh : A.handled = none) (F : Fr h₀ L s.heap m) (N : News h₀ L s.heap [(it, io)]) (hio : IterO io b t i) (hx : b[i]? = none)
    (hE : ∀ h' h'' e, Fr h₀ L h' m → Heap.MadeExcOf h' h'' e (.type "StopIteration") [] → E (.ref e) { s with heap := h'' }) :
    wpAny (model P0 w) A (call (.builtin "next") [.ref it]) Q E s := by
  have hm := N (it, io) (.head _)
  have hit : KBw.IsBytesIter s.heap it b t i := ⟨io, hm.1, hio⟩
  refine call_function_entry (by decide +kernel) (by decide +kernel) kdk_entry_next (kdk_args_next _) ?_
  unfold Builtin.«next»
  refine wpAny_bind (m := someArgs "next" 1 2 _) (wpAny_of_eq (a := [Value.ref it]) (by first | rfl | kernel_rfl!) ?_)
  dsimp only
  refine wpAny_bind (wpAny_specialOf (name := Str.ofString "__next__") (KBw.iter_typeIs hit) KBw.slot_next.lookup ?_)
  refine wpAny_ite_split (fun hab => absurd hab (by decide)) (fun _ => ?_)
  exact wpAny_bind (step_end hh hit hx fun h' h'' e hs _ hx' => hE h' h'' e (F.change hs hm.2.1 hm.2.2) hx')
end
end LW
end
section
open PySem PySem.W PyProof.Rows PySem.Calls PySem.Spec
set_option linter.all false
set_option maxRecDepth 100000
set_option maxHeartbeats 4000000
namespace LW
def tl (mark : Int) (c : Nat) : Nat → List Int
  | 0 => []
  | r + 1 => (((c / 64 ^ r % 64 : Nat) : Int) + (if r = 0 then 0 else 64) + mark) :: tl mark c r
theorem tl_len (mark : Int) (c : Nat) : ∀ r, (tl mark c r).length = r
  | 0 => rfl
  | r + 1 => by simp [tl, tl_len mark c r]
theorem vint_lead (mark : Int) (c : Nat) : ∀ r, (∀ j, j < r → 64 ≤ c / 64 ^ j) → vintI mark c = lead mark (c / 64 ^ r) ++ tl mark c (r + 1)
  | 0, _ => by simp [vintI, tl]
  | r + 1, h => by
    have hr := h r (Nat.lt_succ_self r)
    have ih := vint_lead mark c r fun j hj => h j (Nat.lt_succ_of_lt hj)
    have e : c / 64 ^ r / 64 = c / 64 ^ (r + 1) := by rw [Nat.div_div_eq_div_mul, Nat.pow_succ]
    rw [ih, lead_ge mark _ (by omega), e, List.append_assoc]
    show _ = _ ++ (_ :: tl mark c (r + 1))
    simp
theorem vint_tl (mark : Int) (c : Nat) (hc : c < 1114112) : ∃ r, c / 64 ^ r < 64 ∧ vintI mark c = tl mark c (r + 1) := by
  have go : ∀ r, (∀ j, j < r → 64 ≤ c / 64 ^ j) → c / 64 ^ r < 64 → ∃ r, c / 64 ^ r < 64 ∧ vintI mark c = tl mark c (r + 1) := fun r h h' =>
    ⟨r, h', by rw [vint_lead mark c r h, lead_lt mark _ h', List.nil_append]⟩
  by_cases h0 : c / 64 ^ 0 < 64
  · exact go 0 (fun j hj => absurd hj (Nat.not_lt_zero j)) h0
  by_cases h1 : c / 64 ^ 1 < 64
  · exact go 1 (fun j hj => by have : j = 0 := by omega
                               subst this; omega) h1
  by_cases h2 : c / 64 ^ 2 < 64
  · exact go 2 (fun j hj => by rcases (by omega : j = 0 ∨ j = 1) with rfl | rfl <;> omega) h2
  · exact go 3 (fun j hj => by rcases (by omega : j = 0 ∨ j = 1 ∨ j = 2) with rfl | rfl | rfl <;> omega) (by omega)
theorem bytes_at {b : Array UInt8} {pre post : List Int} {d : Int} (h : KBw.bInts b = pre ++ d :: post) : ∃ u, b[pre.length]? = some u ∧ (u.toNat : Int) = d := by
  have : (KBw.bInts b)[pre.length]? = some d := by rw [h]; simp
  unfold KBw.bInts at this
  rw [List.getElem?_map] at this
  obtain ⟨u, hu, e⟩ := Option.map_eq_some_iff.mp this
  exact ⟨u, by rw [← Array.getElem?_toList]; exact hu, e⟩
theorem bit_facts : ∀ n : Fin 256, Builtin.bitAnd ((n.val : Nat) : Int) 63 = ((n.val % 64 : Nat) : Int) ∧ Builtin.bitAnd ((n.val : Nat) : Int) 64 = ((n.val / 64 % 2 * 64 : Nat) : Int) := by decide +kernel
theorem and63 {n : Nat} (h : n < 256) : Builtin.bitAnd (n : Int) 63 = ((n % 64 : Nat) : Int) := (bit_facts ⟨n, h⟩).1
theorem and64 {n : Nat} (h : n < 256) : Builtin.bitAnd (n : Int) 64 = ((n / 64 % 2 * 64 : Nat) : Int) := (bit_facts ⟨n, h⟩).2
theorem and_zero (a d : Nat) (h : d < 64) : (a <<< 6) &&& d = 0 := by
  apply Nat.eq_of_testBit_eq
  intro i
  rw [Nat.testBit_and, Nat.testBit_shiftLeft, Nat.zero_testBit]
  by_cases hi : 6 ≤ i
  · have : d.testBit i = false := Nat.testBit_lt_two_pow (Nat.lt_of_lt_of_le h (Nat.pow_le_pow_right (n := 2) (by decide) hi))
    simp [this]
  · simp [hi]
theorem or_nat (a d : Nat) (h : d < 64) : Builtin.bitOr ((64 * a : Nat) : Int) (d : Int) = ((64 * a + d : Nat) : Int) := by
  have e : 64 * a = a <<< 6 := by rw [Nat.shiftLeft_eq]; omega
  have z : Builtin.bitAnd ((64 * a : Nat) : Int) (d : Int) = 0 := by
    have h1 : decide ((0 : Int) ≤ ((64 * a : Nat) : Int)) = true := decide_eq_true (Int.natCast_nonneg _)
    have h2 : decide ((0 : Int) ≤ (d : Int)) = true := decide_eq_true (Int.natCast_nonneg _)
    unfold Builtin.bitAnd
    rw [h1, h2]
    show (((64 * a : Nat) : Int).toNat &&& (d : Int).toNat : Nat) = (0 : Int)
    rw [Int.toNat_natCast, Int.toNat_natCast, e, and_zero a d h]; rfl
  rw [bitOr_and, z]
  omega
section
variable {w : World} {mean : ExcName → Option Value} {mg mb : Str → Option Value} {A : Around} {base G : Heap} {outer : List Env} {n : Nat}
theorem enterG {s : Shared} {Q E : Value → Shared → Prop} {f : Addr} {name qual : Str} {params : Arguments} {body : List Stmt} {scope : Scope} {pm cdv oc : Value} {od : Option Addr} {osl : Array (Option Value)} {args : List Value} {binds : List (Str × Value)}
    (c : Cx w mean mg mb A base outer G (n + 1)) (kG : Kp G s.heap) (hsz : G.objs.size = s.heap.objs.size)
    (ho : (KK w.params).lookup f = some ⟨oc, od, .func (fnOf name qual params body scope .none .none .none pm none cdv .none), osl⟩) (hcd : codeIn (KK w.params) cdv qual = true)
    (hbind : bindArgs (fnOf name qual params body scope .none .none .none pm none cdv .none) ⟨args, []⟩ = pure binds) (hloc : ∀ y ∈ binds, scope.names.lookup y.1 = some .local)
    (h : ∀ h₁ L, Fr G L h₁ (fun y => binds.reverse.lookup y) → Kp s.heap h₁ → s.heap.get? L = none → wpAny (model P0 w) (A.deeper (envOf qual scope L f cdv)) (execs body (envOf qual scope L f cdv))
        (fun fl s' => Q (match fl with | .ret v => v | _ => .none) s')
        (fun e s' => wpAny (model P0 w) (A.deeper (envOf qual scope L f cdv)) (leaving (envOf qual scope L f cdv) e) (fun _ s'' => E e s'') (fun e' s'' => E e' s'') s') { s with heap := h₁, toks := s.toks + binds.length })
    (hco : scope.isCoroutine = false := by rfl) (hgen : scope.isGenerator = false := by rfl) (hk : scope.kind = .function := by rfl)
    (hcell : ∀ x ∈ scope.names, x.2 ≠ .cell := by decide) : wpAny (model P0 w) A (call (.ref f) args) Q E s := by
  have X := c.X.keeps kG
  refine wpAny_call (codeAny_call_def (fd := fnOf name qual params body scope .none .none .none pm none cdv .none) (body := body) (binds := binds) (by have := c.hd; omega) (X _ _ ho) rfl (c.T.keeps kG).nolimit (codeRec_of X hcd) rfl (BindsTo.of_eq hbind) hcell hloc (fun h₁ hns hk₁ => ?_) hco hgen hk)
  exact wpAny_mono (h h₁ _ ⟨hns, fun b o e => hk₁ b o (kG b o e), Nat.le_of_eq hsz⟩ hk₁ (Heap.get?_none_of_le (Nat.le_refl _))) (fun _ _ x => x) fun _ _ x => x
theorem dig_facts {mark : Int} (hm : mark = 0 ∨ mark = 128) {x u r : Nat} (hx : x < 64) (h : (u : Int) = (x : Int) + (if r = 0 then 0 else 64) + mark) : u % 64 = x ∧ u / 64 % 2 * 64 = (if r = 0 then 0 else 64) ∧ u < 256 := by
  by_cases hr : r = 0
  · rw [if_pos hr] at h ⊢
    rcases hm with rfl | rfl <;> omega
  · rw [if_neg hr] at h ⊢
    rcases hm with rfl | rfl <;> omega
local macro_rules | `(tactic| walk_at "exec While") => `(tactic| refine LW.held ?_)
local macro_rules | `(tactic| walk_at "Exists") => `(tactic| refine LW.held ?_)
theorem parse_call {s : Shared} {Q E : Value → Shared → Prop} {it : Addr} {b : Array UInt8} {t : Tok} {pre post : List Int} {mark : Int} {c : Nat} (hm : mark = 0 ∨ mark = 128) (hc : c < 1114112)
    (hb : KBw.bInts b = pre ++ vintI mark c ++ post) (cx : Cx w mean mg mb A base outer G 1) (kG : Kp G s.heap) (hsz : G.objs.size = s.heap.objs.size)
    {io : Obj} (hi0 : s.heap.get? it = some io) (hio : IterO io b t pre.length) (hG : G.get? it = none)
    (hQ : ∀ t' h' tk io', Kp G h' → h'.get? it = some io' → IterO io' b t (pre ++ vintI mark c).length → Q (.int (c : Int) t') { s with heap := h', toks := tk }) : wpAny (model P0 w) A (call (.ref 85) [.ref it]) Q E s := by
  have hkf : (KK w.params).In G ∧ PySem.Challenge.rw_wa0043_01 = PySem.Challenge.rw_wa0043_01 := by
    k_fill
    exact ⟨cx.X, rfl⟩
  clear hkf
  obtain ⟨r, hr, hv⟩ := vint_tl mark c hc
  rw [hv] at hb hQ
  refine enterG cx kG hsz (binds := [(S "iterator", .ref it)]) (by k_is) (by k_is) rfl (locs rfl) ?_
  intro h₁ L F k1 hL
  have X := cx.X
  have T := cx.T
  have B := cx.B
  have N : News G L h₁ [(it, io)] := fun p hp => by
    rw [List.mem_singleton.mp hp]
    exact ⟨k1 _ _ hi0, (fun e => by rw [← e, hi0] at hL; cases hL), hG⟩
  with_reducible show wpAny _ _ _ _ _ _
  (try dsimp only)
  k_fold
  k_steps
  obtain ⟨u, hu, hud⟩ := bytes_at (pre := pre) (post := tl mark c r ++ post) (d := ((c / 64 ^ r % 64 : Nat) : Int) + (if r = 0 then 0 else 64) + mark) (by rw [hb]; simp only [tl, List.append_assoc, List.cons_append])
  obtain ⟨d1, d2, d3⟩ := dig_facts hm (Nat.mod_lt _ (by decide)) hud
  refine next_itemK (by exact F) (by exact N) hio hu ?_
  intro h2 io2 F2 N2 hio2
  clear N F
  k_steps
  unfold Held
  rename Fr _ _ _ _ => F3
  rw [and63 d3, d1, Nat.mod_eq_of_lt hr] at F3
  rename News _ _ _ _ => N3
  refine wpAny_While ?_
  refine codeAny_whileLoop (fun r s' => ∃ (h : Heap) (tk : Nat) (m : Str → Option Value) (io : Obj) (u : Nat) (t1 t2 : Tok) (pre' : List Int), s' = { s with heap := h, toks := tk } ∧ Fr G L h m ∧ News G L h [(it, io)] ∧ IterO io b t pre'.length ∧
      KBw.bInts b = pre' ++ tl mark c r ++ post ∧ pre' ++ tl mark c r = pre ++ vintI mark c ∧ u / 64 % 2 * 64 = (if r = 0 then 0 else 64) ∧ u < 256 ∧ m (S "iterator") = some (.ref it) ∧ m (S "b") = some (.int (u : Int) t1) ∧ m (S "val") = some (.int ((c / 64 ^ r : Nat) : Int) t2)) ?_ r
    ⟨_, _, _, _, _, _, _, pre ++ [((c / 64 ^ r % 64 : Nat) : Int) + (if r = 0 then 0 else 64) + mark], rfl, F3, N3, by simpa using hio2, by rw [hb]; simp [tl], by rw [hv]; simp [tl], d2, d3, rfl, rfl, rfl⟩
  rintro r s' ⟨h4, tk4, m4, io4, u4, t41, t42, pre4, rfl, F4, N4, hio4, hb4, hp4, du4, hu4, e1, e2, e3⟩
  have F9 := fr_know (fr_know (fr_know F4 (x := S "iterator") (v := .ref it) e1) (x := S "b") (v := .int (u4 : Int) t41) e2) (x := S "val") (v := .int ((c / 64 ^ r : Nat) : Int) t42) e3
  clear F4 F3 N3
  k_steps
  · have hne : Builtin.bitAnd (u4 : Int) 64 ≠ 0 := by assumption
    rw [and64 hu4, du4] at hne
    obtain ⟨r', rfl⟩ : ∃ r', r = r' + 1 := by
      cases r with
      | zero => exact absurd rfl hne
      | succ r' => exact ⟨r', rfl⟩
    have hle : c / 64 ^ (r' + 1) ≤ c := Nat.div_le_self _ _
    refine ilshift_int_small (by decide) (by decide) (by rw [Int.natAbs_natCast]; omega) ?_
    have hsh : ((c / 64 ^ (r' + 1) : Nat) : Int) * 2 ^ (6 : Int).toNat = ((64 * (c / 64 ^ (r' + 1)) : Nat) : Int) := by
      show ((c / 64 ^ (r' + 1) : Nat) : Int) * 64 = _
      omega
    rw [hsh]
    k_steps
    obtain ⟨u5, hu5, hud5⟩ := bytes_at (pre := pre4) (post := tl mark c r' ++ post) (d := ((c / 64 ^ r' % 64 : Nat) : Int) + (if r' = 0 then 0 else 64) + mark) (by rw [hb4]; simp only [tl, List.append_assoc, List.cons_append])
    obtain ⟨f1, f2, f3⟩ := dig_facts hm (Nat.mod_lt _ (by decide)) hud5
    rename Fr _ _ _ _ => F5
    rename News _ _ _ _ => N5
    refine next_itemK (by exact F5) (by exact N5) hio4 hu5 ?_
    intro h6 io6 F6 N6 hio6
    clear F5
    k_steps
    unfold Held
    rename Fr _ _ _ _ => F7
    rename News _ _ _ _ => N7
    rw [and63 f3, f1, or_nat _ _ (Nat.mod_lt _ (by decide)), show 64 * (c / 64 ^ (r' + 1)) + c / 64 ^ r' % 64 = c / 64 ^ r' by rw [Nat.pow_succ, ← Nat.div_div_eq_div_mul]; omega] at F7
    exact ⟨r', Nat.lt_succ_self _, _, _, _, _, _, _, _, pre4 ++ [((c / 64 ^ r' % 64 : Nat) : Int) + (if r' = 0 then 0 else 64) + mark], rfl, F7, N7, by simpa using hio6, by rw [hb4]; simp [tl], by rw [← hp4]; simp [tl], f2, f3, rfl, rfl, rfl⟩
  · have hz : Builtin.bitAnd (u4 : Int) 64 = 0 := by assumption
    rw [and64 hu4, du4] at hz
    have hr0 : r = 0 := by
      cases r with
      | zero => rfl
      | succ r' => rw [if_neg (Nat.succ_ne_zero r')] at hz; exact absurd hz (by decide)
    subst hr0
    rw [show c / 64 ^ 0 = c by simp]
    have hlen : pre4.length = (pre ++ vintI mark c).length := by rw [← hp4]; simp [tl]
    rw [hlen, hv] at hio4
    exact hQ _ _ _ _ F9.keep (N4 (it, io4) (.head _)).1 hio4
end
end LW
end
section
open PySem PySem.W PyProof.Rows PySem.Calls PySem.Spec
set_option linter.all false
set_option maxRecDepth 100000
set_option maxHeartbeats 4000000
namespace LW
section
variable {w : World} {mean : ExcName → Option Value} {mg mb : Str → Option Value} {A : Around} {base G : Heap} {outer : List Env} {n : Nat}
theorem parse_stop {s : Shared} {Q E : Value → Shared → Prop} {it : Addr} {b : Array UInt8} {t : Tok} {i : Nat} {io : Obj} (hx : b[i]? = none)
    (cx : Cx w mean mg mb A base outer G 1) (kG : Kp G s.heap) (hsz : G.objs.size = s.heap.objs.size)
    (hi0 : s.heap.get? it = some io) (hio : IterO io b t i) (hG : G.get? it = none)
    (hE : ∀ h' e tt tk, RaisedS base G outer e (.type "StopIteration") tt [] [] h' → G.UpToSlots h' → E (.ref e) { s with heap := h', toks := tk }) : wpAny (model P0 w) A (call (.ref 85) [.ref it]) Q E s := by
  have hkf : (KK w.params).In G ∧ PySem.Challenge.rw_wa0043_01 = PySem.Challenge.rw_wa0043_01 := by
    k_fill
    exact ⟨cx.X, rfl⟩
  clear hkf
  refine enterG cx kG hsz (binds := [(S "iterator", .ref it)]) (by k_is) (by k_is) rfl (locs rfl) ?_
  intro h₁ L F k1 hL
  have X := cx.X
  have T := cx.T
  have B := cx.B
  have N : News G L h₁ [(it, io)] := fun p hp => by
    rw [List.mem_singleton.mp hp]
    exact ⟨k1 _ _ hi0, (fun e => by rw [← e, hi0] at hL; cases hL), hG⟩
  with_reducible show wpAny _ _ _ _ _ _
  (try dsimp only)
  k_fold
  k_steps
  refine next_endK cx.hh (by exact F) (by exact N) hio hx ?_
  intro h2 h3 e F2 hx2
  exact leave_raiseS B hx2 F2 (News.nil) fun h4 tt r _ u => hE h4 e tt _ r u
theorem sti_isExc : isSubtype (.type "StopIteration") (.type "BaseException") = pure true := by rw [isSubtype_type]; kernel_rfl
theorem sti_sub : isSubtype (.type "StopIteration") (.type "StopIteration") = pure true := by rw [isSubtype_type]; kernel_rfl
theorem sti_notTuple : isSubtype (.type ((Manifest.find? "StopIteration").elim "type" fun x => x.metatype)) (.type "tuple") = pure false := by
  rw [isSubtype_type]; kernel_rfl
theorem raised_hide {l : List Env} {e tt nl : Addr} {cls : Value} {vs : List Value} {h : Heap} {o : Obj} (R : RaisedS base G l e cls tt vs [] h) (ho : G.get? nl = some o) (hf : nl ∉ l.filterMap (·.frame)) (hb : base.get? nl = none) : RaisedS base (hideAll G [nl]) l e cls tt vs [(nl, o)] h := by
  obtain ⟨⟨B, hB, hBG, _, hfl, hnew⟩, htup⟩ := R
  exact ⟨⟨B, hB, fun b o' e' => hBG b o' (of_hideAll _ e'), fun q hq => by
    rw [List.mem_singleton.mp hq]
    exact ⟨hBG nl o ho hf, hideAll_none _ (.head _), hb⟩, hfl, hnew⟩, htup⟩
theorem iter_bytesK {s : Shared} {E : Value → Shared → Prop} {b : Array UInt8} {t : Tok} {h₀ : Heap} {L : Addr} {m : Str → Option Value} {Q : Value → Shared → Prop} (F : Fr h₀ L s.heap m)
    (h : ∀ h' it io, Fr h₀ L h' m → News h₀ L h' [(it, io)] → IterO io b t 0 → Q (.ref it) { s with heap := h' }) :
    wpAny (model P0 w) A (call (.builtin "iter") [.bytes b t]) Q E s := by
  refine call_function_entry (by decide +kernel) (by decide +kernel) kdk_entry_iter (kdk_args_iter _) ?_
  unfold Builtin.«iter»
  refine wpAny_bind (m := someArgs "iter" 1 2 _) (wpAny_of_eq (a := [Value.bytes b t]) (by first | rfl | kernel_rfl!) ?_)
  show wpAny _ _ (pyIter (.bytes b t) >>= _) _ _ _
  refine wpAny_bind (KBw.pyIter_bytes ?_)
  exact wpAny_pure ⟨_, rfl, h _ _ _ (F.push _) (News.push F News.nil _ rfl) ⟨rfl, rfl⟩⟩
local macro_rules | `(tactic| walk_at "exec While") => `(tactic| refine LW.held ?_)
local macro_rules | `(tactic| walk_at "Exists") => `(tactic| refine LW.held ?_)
local macro_rules | `(tactic| walk_at "call ref") => `(tactic| refine LW.held ?_)
theorem read_call {s : Shared} {Q E : Value → Shared → Prop} {l : List Nat} {mark : Int} {t : Tok} (hm : mark = 0 ∨ mark = 128) (hl : ∀ k ∈ l, k < 1114112) (hn : l.length ≤ 300)
    (cx : Cx w mean mg mb A base outer s.heap 2) (XB : (KK w.params).In base) (TB : Top vw (looseW vw lo) mean mg mb base) (D : KtsDicts (outer.filterMap (·.frame)) s.heap)
    (hQ : ∀ nl its k h' tk g', KtsTurn (outer.filterMap (·.frame)) s.heap g' → Kp g' h' → h'.get? nl = some (listOf its.toArray k) → s.heap.get? nl = none → IntsAre its (l.map fun (c : Nat) => (c : Int)) → Q (.ref nl) { s with heap := h', toks := tk }) :
    wpAny (model P0 w) A (call (.ref 167) [.bytes (byteArr (encI mark l)) t]) Q E s := by
  have hkf : (KK w.params).In s.heap ∧ PySem.Challenge.rw_wa0043_01 = PySem.Challenge.rw_wa0043_01 := by
    k_fill
    exact ⟨cx.X, rfl⟩
  clear hkf
  refine enter cx (binds := [(S "octets", .bytes (byteArr (encI mark l)) t)]) (by k_is) (by k_is) rfl (locs rfl) ?_
  intro h₁ L F
  have X := cx.X
  have T := cx.T
  have B := cx.B
  have N : News s.heap L h₁ [] := News.nil
  with_reducible show wpAny _ _ _ _ _ _
  (try dsimp only)
  k_fold
  k_steps
  refine iter_bytesK (by exact F) ?_
  intro h2 it io F2 N2 hio
  clear F N
  k_steps
  unfold Held
  have hE := KBa.ints_make (encI_in hm l)
  have hd2 : (A.deeper (envOf (fName (LW.st 20)) (fScope (LW.st 20)) L 167 (.ref 166))).depth + 1 < recursionLimit := by have := cx.hd; show A.depth + 1 + 1 < _; omega
  have hu2 : (A.deeper (envOf (fName (LW.st 20)) (fScope (LW.st 20)) L 167 (.ref 166))).units + 10 * 1 < cLine := by have := cx.hu; show A.units + 3 + 10 * 1 < _; omega
  rename Fr _ _ _ _ => F3
  rename News _ _ _ _ => N3
  rename (it < _) => hlt
  refine wpAny_While ?_
  refine codeAny_whileLoop (fun n s' => ∃ (h : Heap) (tk : Nat) (m : Str → Option Value) (io : Obj) (nl : Addr) (its : List Value) (k : Nat) (dn rs : List Nat), s' = { s with heap := h, toks := tk } ∧ Fr s.heap L h m ∧ News s.heap L h [(nl, listOf its.toArray k), (it, io)] ∧ IterO io (byteArr (encI mark l)) t (encI mark dn).length ∧
      l = dn ++ rs ∧ rs.length = n ∧ IntsAre its (dn.map fun (c : Nat) => (c : Int)) ∧ m (S "flow") = some (.ref it) ∧ m (S "numbers") = some (.ref nl) ∧ it < nl) ?_ l.length
    ⟨_, _, _, _, _, [], _, [], l, rfl, F3, N3, hio, rfl, rfl, .nil, rfl, rfl, hlt⟩
  clear F3 N3 hlt hio
  rintro n s' ⟨h4, tk4, m4, io4, nl, its, k4, dn, rs, rfl, F4, N4, hio4, hdn, hrs, hi4, e1, e2, hlt⟩
  have F9 := fr_know (fr_know F4 (x := S "flow") (v := .ref it) e1) (x := S "numbers") (v := .ref nl) e2
  clear F4
  k_steps
  unfold Held
  have Nit : News s.heap L h4 [(it, io4)] := fun p hp => N4 p (by rw [List.mem_singleton.mp hp]; simp)
  have n1 := N4 (nl, listOf its.toArray k4) (by simp)
  have n2 := N4 (it, io4) (by simp)
  obtain ⟨oL, es, ep, hLg, hLd, hN, hNs, st, B₂⟩ := kts_enter (s := { s with heap := h4 }) (A := A.deeper (envOf (fName (LW.st 20)) (fScope (LW.st 20)) L 167 (.ref 166))) (cn := fName (st 20)) (cs := fScope (st 20)) (a := 167) (ccd := .ref 166) B F9 Nit (Around.frames_deeper B.stack) rfl
  have cxG : Cx w mean mg mb (A.deeper (envOf (fName (LW.st 20)) (fScope (LW.st 20)) L 167 (.ref 166))) base (envOf (fName (LW.st 20)) (fScope (LW.st 20)) L 167 (.ref 166) :: outer) (hideAll h4 [it]) 1 :=
    ⟨B₂, X.keeps st, T.keeps st, cx.hh, hd2, hu2⟩
  have nlG : (hideAll h4 [it]).get? nl = some (listOf its.toArray k4) := hideAll_get _ n1.1 (by simp; exact Nat.ne_of_gt hlt)
  cases rs with
  | cons c rs' =>
    have hb : KBw.bInts (byteArr (encI mark l)) = encI mark dn ++ vintI mark c ++ encI mark rs' := by
      rw [hE, hdn]; simp [encI]
    refine parse_call hm (hl c (by rw [hdn]; simp)) hb cxG (fun b o e => of_hideAll _ e) (hideAll_size _ _) n2.1 hio4 (hideAll_none _ (.head _)) ?_
    intro t5 h5 tk5 io5 hk5 hit5 hio5
    have F5 : Fr s.heap L h5 _ := ⟨hN h5 (hk5 L oL hLg), fun b o e => hk5 b o (st b o e), F9.above⟩
    have N5 : News s.heap L h5 [(nl, listOf its.toArray k4), (it, io5)] := fun p hp => by
      rcases List.mem_cons.mp hp with rfl | hp
      · exact ⟨hk5 _ _ nlG, n1.2⟩
      · rw [List.mem_singleton.mp hp]; exact ⟨hit5, n2.2⟩
    have hne : it ≠ nl := Nat.ne_of_lt hlt
    have hl4 := hi4.length
    have hld := congrArg List.length hdn
    rw [List.length_append] at hld
    clear F9 N4 cxG
    refine spliced_none ?_
    refine append_K (its := its.toArray) (n := k4) (D := nl) F5 N5 (.head fun p hp => by rw [List.mem_singleton.mp hp]; exact hne) ?_ ?_
    · intro h6 F6 N6
      refine wpAny_execs_nil ?_
      refine wpAny_execs_nil ?_
      refine wpAny_execs_nil ?_
      exact ⟨rs'.length, by rw [← hrs]; exact Nat.lt_succ_self _, _, _, _, _, nl, its ++ [.int (c : Int) t5], _, dn ++ [c], rs', rfl, F6, by rw [List.push_toArray] at N6; exact N6, by rw [show encI mark (dn ++ [c]) = encI mark dn ++ vintI mark c from encI_snoc mark dn c]; exact hio5, by rw [hdn]; simp, rfl, by rw [List.map_append]; exact hi4.append (.cons _ _ .nil), rfl, rfl, hlt⟩
    · rw [List.size_toArray, hl4, List.length_map, sizeLine_eq]; omega
  | nil =>
    have hend : (byteArr (encI mark l))[(encI mark dn).length]? = none := by
      rw [hdn, List.append_nil]; simp [byteArr]
    refine parse_stop hend cxG (fun b o e => of_hideAll _ e) (hideAll_size _ _) n2.1 hio4 (hideAll_none _ (.head _)) ?_
    intro h5 e tt tk5 R5 U5
    have hf : nl ∉ (envOf (fName (LW.st 20)) (fScope (LW.st 20)) L 167 (.ref 166) :: outer).filterMap (·.frame) := fun hm => by
      rcases kts_mem hm with z | z
      · exact n1.2.1 z
      · obtain ⟨_, o, ho, _⟩ := B.frames.mem z
        rw [n1.2.2] at ho; cases ho
    have R6 := raised_hide R5 nlG hf (fresh_of_stays B.stays n1.2.2)
    have F6 : Fr s.heap L (hideAll (hideAll h4 [it]) [nl]) _ := ⟨hN _ (hideAll_get _ hLg (by simp; exact fun e => n1.2.1 e.symm)), fun b o e => hideAll_get _ (st b o e) (by simp; rintro rfl; rw [n1.2.2] at e; cases e), F9.above⟩
    refine caught_S0 (T' := "StopIteration") (KF := KK w.params) (g₀ := s.heap) R6 F6 B (fun b o e hn => U5 b o (of_hideAll _ e) hn) XB TB D KtsTurn.refl (by kernel_rfl) PyProof.Rows.Boot.«StopIteration» (by decide) sti_isExc sti_notTuple sti_sub ?_
    intro h6 g6 news6 T6 F7 _ _ N7 B7 X7 T7 D7
    refine wpAny_execs_cons ?_
    refine wpAny_Return_some ?_
    refine ld (by exact F7) (by rfl) ?_
    refine hQ nl its k4 h6 _ g6 T6 F7.keep (N7 (nl, _) (.head _)).1 n1.2.2 ?_
    rw [hdn, List.append_nil]; exact hi4
end
end LW
end
section
open PySem PySem.W PyProof.Rows PySem.Calls PySem.Spec
set_option linter.all false
set_option maxRecDepth 100000
set_option maxHeartbeats 4000000
namespace LW
section
variable {w : World} {mean : ExcName → Option Value} {mg mb : Str → Option Value} {A : Around} {base : Heap} {outer : List Env} {h : Heap} {n : Nat}
theorem four_of_len : ∀ {l : List Int}, l.length = 4 → ∃ a b c d, l = [a, b, c, d]
  | [a, b, c, d], _ => ⟨a, b, c, d, rfl⟩
local macro_rules | `(tactic| walk_at "exec For") => `(tactic| refine LW.held ?_)
local macro_rules | `(tactic| walk_at "call type:enumerate") => `(tactic| refine LW.held ?_)
theorem cells_call {s : Shared} {Q E : Value → Shared → Prop} {a : Addr} {vs : List Value} {ns : List Int} (hl : s.heap.IsList a vs.toArray) (hi : IntsAre vs ns) (hn : ns.length ≤ 100000)
    (cx : Cx w mean mg mb A base outer s.heap 1) (hQ : ∀ nl its k h' tk, Kp s.heap h' → h'.get? nl = some (listOf its k) → s.heap.get? nl = none → (∃ c0 c1 c2 c3 : Int, IntsAre its.toList [c0, c1, c2, c3]) → Q (.ref nl) { s with heap := h', toks := tk }) : wpAny (model P0 w) A (call (.ref 134) [.ref a]) Q E s := by
  have hkf : (KK w.params).In s.heap ∧ PySem.Challenge.rw_wa0043_01 = PySem.Challenge.rw_wa0043_01 := by
    k_fill
    exact ⟨cx.X, rfl⟩
  clear hkf
  refine enter cx (binds := [(S "script", .ref a)]) (by k_is) (by k_is) rfl (locs rfl) ?_
  intro h₁ L F
  have X := cx.X
  have T := cx.T
  have B := cx.B
  have N : News s.heap L h₁ [] := News.nil
  with_reducible show wpAny _ _ _ _ _ _
  (try dsimp only)
  k_fold
  k_steps
  unfold Held
  rename Fr _ _ _ _ => F3
  rename News _ _ _ _ => N3
  refine For_pair3 s.heap cx.hh (by rfl) (by rfl) (by rfl) ?_ (by intro _; rfl)
  k_steps
  unfold Held
  rename_i l5 _ _ _ D5 ws hc F5 N5 hi5 _ _ hlt5
  have hD := News.isList N5 (.head _)
  refine call_enumerate_list hD fun h6 hE hI hsz hk => ?_
  refine wpAny_pyIter_enum hE ?_
  have F6 := F5.keeps hk
  have N6 := News.grown N5 hk
  have hDlt := Heap.lt_size (N5 (D5, _) (.head _)).1
  have hllt := Heap.lt_size (N5 (l5, _) (.tail _ (.head _))).1
  have hLlt := F5.ns.lt
  have WK := WalksT.enumerate (prog := P0) (w := w) (A := A.deeper (envOf (fName (LW.st 15)) (fScope (LW.st 15)) L 134 (.ref 133))) cx.hh (hc.objs.size + 1) hc.objs.size D5 (Nat.succ_ne_self _) (Nat.ne_of_lt (Nat.lt_succ_of_lt hDlt)) (Nat.ne_of_lt hDlt) ws.toArray
  refine ⟨hc.objs.size + 1, [hc.objs.size + 1, hc.objs.size, D5], [hc.objs.size + 1, hc.objs.size], ws.toArray.size, _, _, _, fun i v0 v1 => ∃ t x, v0 = .int (i : Int) t ∧ x ∈ List.take 20 ns ∧ ∃ t', v1 = .int x t', _, _,
    fun i m nx => ∃ its k, nx = [(D5, W.listOf (List.toArray ws) 0), (l5, W.listOf (List.toArray its) k)] ∧ m (S "cells") = some (.ref l5) ∧ ∃ c0 c1 c2 c3, IntsAre its [c0, c1, c2, c3], rfl,
    WK, ?_, ?_, ?_, ?_, ⟨⟨_, hE⟩, hI, hD.at fun o e => hk _ o e⟩, F6, N6, ⟨[_, _, _, _], _, rfl, rfl, _, _, _, _, .cons _ _ (.cons _ _ (.cons _ _ (.cons _ _ .nil)))⟩, ?_, ?_⟩
  · rintro i vals ⟨t, x, hx, rfl⟩
    obtain ⟨n5, t5, hn5, e5⟩ : ∃ n t, (List.take 20 ns)[i]? = some n ∧ x = .int n t := by
      have hx' : ws[i]? = some x := by simpa using hx
      have hlt : i < (List.take 20 ns).length := by rw [← hi5.length]; exact (List.getElem?_eq_some_iff.mp hx').1
      obtain ⟨t5, h5⟩ := hi5.get i _ (List.getElem?_eq_getElem hlt)
      exact ⟨_, t5, List.getElem?_eq_getElem hlt, by rw [hx'] at h5; exact Option.some.inj h5⟩
    exact ⟨_, _, rfl, t, n5, rfl, List.mem_of_getElem? hn5, t5, e5⟩
  · intro hm
    have hLl := hLlt
    rcases List.mem_cons.mp hm with e | hm
    · exact absurd e (Nat.ne_of_lt (Nat.lt_succ_of_lt hLl))
    · rcases List.mem_cons.mp hm with e | hm
      · exact absurd e (Nat.ne_of_lt hLl)
      · exact (N5 (D5, _) (.head _)).2.1 (List.mem_singleton.mp hm).symm
  · intro b hb
    rcases List.mem_cons.mp hb with rfl | hb
    · exact Heap.get?_none_of_le (Nat.le_succ_of_le (Nat.le_of_lt (Nat.lt_of_le_of_lt F5.above hLlt)))
    · rw [List.mem_singleton.mp hb]; exact next_is_new F5
  · intro p hp hm
    have hp' := Heap.lt_size (N5 p hp).1
    rcases List.mem_cons.mp hm with e | hm
    · exact absurd e (Nat.ne_of_lt (Nat.lt_succ_of_lt hp'))
    · exact absurd (List.mem_singleton.mp hm) (Nat.ne_of_lt hp')
  · rintro i v0 v1 m₁ nx s₁ own ⟨h7, tk7, rfl⟩ hin ⟨t0, x0, rfl, hx0, t1, rfl⟩ ⟨its, k7, rfl, e1, c0, c1, c2, c3, hi7⟩ hnx hown F7 N7
    have F8 := fr_know F7 (x := S "cells") (v := .ref l5) e1
    clear F5 N5 F6 N6 F7
    have hne : ∀ p ∈ own, p.1 ≠ l5 := fun p hp e => by
      have := hown p hp
      rw [e] at this
      rcases List.mem_cons.mp this with h | h
      · exact absurd h (Nat.ne_of_lt (Nat.lt_succ_of_lt hllt))
      · rcases List.mem_cons.mp h with h | h
        · exact absurd h (Nat.ne_of_lt hllt)
        · exact absurd (List.mem_singleton.mp h) (Nat.ne_of_lt hlt5)
    have hlen7 := hi7.length
    have q0 := Int.fmod_nonneg_of_pos (i : Int) (b := 4) (by decide)
    have q1 := Int.fmod_lt_of_pos (i : Int) (b := 4) (by decide)
    k_steps
    have N8 : News s.heap L h7 ((l5, W.listOf its.toArray k7) :: (D5, W.listOf ws.toArray 0) :: own) := fun p hp => by
      refine N7 p ?_
      rcases List.mem_cons.mp hp with rfl | hp
      · simp
      · rcases List.mem_cons.mp hp with rfl | hp
        · simp
        · simp [hp]
    refine ksa_set (vs := its) (ns := [c0, c1, c2, c3]) (D := l5) (n := k7) F8 N8 (.head fun p hp => by
      rcases List.mem_cons.mp hp with rfl | hp
      · exact Nat.ne_of_gt hlt5
      · exact hne p hp) hi7 q0 (by simp; omega) (by omega) ?_
    intro h8 F9 N9 hi9 hl9 _
    refine wpAny_execs_nil ?_
    obtain ⟨b0, b1, b2, b3, hb⟩ := four_of_len hl9
    rw [hb] at hi9
    obtain ⟨its9, N9, hi9⟩ : ∃ its9 : List Value, News s.heap L h8 ((l5, W.listOf its9.toArray k7) :: (D5, W.listOf ws.toArray 0) :: own) ∧ IntsAre its9 [b0, b1, b2, b3] := ⟨_, N9, hi9⟩
    refine LoopStep2.intro (news₂ := [(D5, W.listOf ws.toArray 0), (l5, W.listOf its9.toArray k7)]) F9 (fun p hp => N9 p ?_) rfl ⟨its9, k7, rfl, rfl, b0, b1, b2, b3, hi9⟩
    rcases List.mem_append.mp hp with hp | hp
    · exact .tail _ (.tail _ hp)
    · rcases List.mem_cons.mp hp with rfl | hp
      · exact .tail _ (.head _)
      · rw [List.mem_singleton.mp hp]; exact .head _
  · rintro h7 tk7 m7 nx7 F7 N7 hnx ⟨its, k7, rfl, e1, c0, c1, c2, c3, hi7⟩
    have F8 := fr_know F7 (x := S "cells") (v := .ref l5) e1
    clear F5 N5 F6 N6 F7
    k_steps
    exact hQ l5 _ k7 _ _ F8.keep (N7 (l5, _) (.tail _ (.head _))).1 (N7 (l5, _) (.tail _ (.head _))).2.2 ⟨c0, c1, c2, c3, by simpa using hi7⟩
end
end LW
end
section
open PySem PySem.W PyProof.Rows PySem.Calls PySem.Spec
set_option linter.all false
set_option maxRecDepth 100000
set_option maxHeartbeats 4000000
namespace LW
section
variable {w : World} {mean : ExcName → Option Value} {mg mb : Str → Option Value} {A : Around} {E : Value → Shared → Prop} {s : Shared} {env : Env}
theorem nm_glob {x : Str} {pos : Pos} {v : Value} {Q : Value → Shared → Prop} (X : (KK w.params).In s.heap) (T : Top vw (looseW vw lo) mean mg mb s.heap) (e : nsIn (KK w.params) mainGlobals x = some (some v))
    (hg : env.globals = mainGlobals) (hk : env.scope.kind = .function) (hx : env.kindOf x = some .globalImplicit) (h : Q v s) (hd : (x == ("__debug__" : Str)) = false := by decide) :
    wpAny (model P0 w) A (eval (.Name x pos) env) Q E s :=
  Name_function_global hk hx (loadGlobal_global (mg := mg) (by rw [hg]; exact T.g) (mg_of X T.g e) h) hd
theorem nm_boot {x : Str} {pos : Pos} {v : Value} {Q : Value → Shared → Prop} (X : (KK w.params).In s.heap) (T : Top vw (looseW vw lo) mean mg mb s.heap) (e : nsIn (KK w.params) mainGlobals x = some none) (hv : bootBuiltins x = some v)
    (hg : env.globals = mainGlobals) (hb : env.builtins = builtinsNs) (hk : env.scope.kind = .function) (hx : env.kindOf x = some .globalImplicit) (h : Q v s) (hn : x ≠ "__name__" := by decide) (hd : (x == ("__debug__" : Str)) = false := by decide) :
    wpAny (model P0 w) A (eval (.Name x pos) env) Q E s :=
  Name_function_global hk hx (loadGlobal_builtin (mg := mg) (mb := mb) (by rw [hg]; exact T.g) (mg_none_of X T.g e) (by rw [hb]; exact T.b) ((T.builtins x hn).trans hv) h) hd
theorem nm_loc {x : Str} {pos : Pos} {m : Str → Option Value} {v : Value} {Q : Value → Shared → Prop} (hn : s.heap.Ns env.locals m) (hv : m x = some v)
    (hk : env.scope.kind = .function) (hx : env.kindOf x = some .local) (h : Q v s) (hd : (x == ("__debug__" : Str)) = false := by decide) :
    wpAny (model P0 w) A (eval (.Name x pos) env) Q E s := wpAny_Name (wpAny_loadName_local hk hx hn hv h) hd
theorem nm_cell {x : Str} {pos : Pos} {c : Addr} {v : Value} {Q : Value → Shared → Prop} (hc : env.cells.lookup x = some c) (hv : s.heap.IsCell c (some v))
    (hk : env.scope.kind = .function) (hx : env.kindOf x = some .cell) (h : Q v s) (hd : (x == ("__debug__" : Str)) = false := by decide) :
    wpAny (model P0 w) A (eval (.Name x pos) env) Q E s := wpAny_Name (wpAny_loadName_cell hk hx hc hv h) hd
theorem gcall1 {x : Str} {p pos : Pos} {e : PySem.Expr} {f : Addr} {Q : Value → Shared → Prop} (X : (KK w.params).In s.heap) (T : Top vw (looseW vw lo) mean mg mb s.heap) (en : nsIn (KK w.params) mainGlobals x = some (some (.ref f)))
    (hf : keepIn (KK w.params) (.ref f) = true) (hg : env.globals = mainGlobals) (hk : env.scope.kind = .function) (hx : env.kindOf x = some .globalImplicit)
    (h : wpAny (model P0 w) A (eval e env) (fun v s₁ => (KK w.params).In s₁.heap ∧ wpAny (model P0 w) A (call (.ref f) [v]) Q E s₁) E s) (hd : (x == ("__debug__" : Str)) = false := by decide)
    (he : starEach [e] env = (false, eval e env) :: starEach [] env := by rfl) :
    wpAny (model P0 w) A (eval (.Call (.Name x p) [e] [] pos) env) Q E s := by
  refine wpAny_Call_NameR (nm_glob X T en hg hk hx ?_ hd)
  refine callWith_K (K := KK w.params) X hf ?_ he
  refine spliced_more ?_ he
  exact wpAny_mono h (fun v s₁ h₁ => spliced_none h₁) fun _ _ y => y
theorem gcall2 {x : Str} {p pos : Pos} {e e' : PySem.Expr} {f : Addr} {Q : Value → Shared → Prop} (X : (KK w.params).In s.heap) (T : Top vw (looseW vw lo) mean mg mb s.heap) (en : nsIn (KK w.params) mainGlobals x = some (some (.ref f)))
    (hf : keepIn (KK w.params) (.ref f) = true) (hg : env.globals = mainGlobals) (hk : env.scope.kind = .function) (hx : env.kindOf x = some .globalImplicit)
    (h : wpAny (model P0 w) A (eval e env) (fun v s₁ => wpAny (model P0 w) A (eval e' env) (fun v' s₂ => (KK w.params).In s₂.heap ∧ wpAny (model P0 w) A (call (.ref f) [v, v']) Q E s₂) E s₁) E s) (hd : (x == ("__debug__" : Str)) = false := by decide)
    (he : starEach [e, e'] env = (false, eval e env) :: starEach [e'] env := by rfl) (he' : starEach [e'] env = (false, eval e' env) :: starEach [] env := by rfl) :
    wpAny (model P0 w) A (eval (.Call (.Name x p) [e, e'] [] pos) env) Q E s := by
  refine wpAny_Call_NameR (nm_glob X T en hg hk hx ?_ hd)
  refine callWith_K (K := KK w.params) X hf ?_ he (by rw [he']; rfl)
  refine spliced_more ?_ he
  refine wpAny_mono h (fun v s₁ h₁ => ?_) fun _ _ y => y
  refine spliced_more ?_ he'
  exact wpAny_mono h₁ (fun v s₁ h₁ => spliced_none h₁) fun _ _ y => y
end
end LW
end
section
open PySem PySem.W PyProof.Rows PySem.Calls PySem.Spec
set_option linter.all false
set_option maxRecDepth 100000
set_option maxHeartbeats 4000000
namespace LW
theorem Paired.of_idx {α β : Type} {R : α → β → Prop} : ∀ {l : List α} {vs : List β}, vs.length = l.length → (∀ (j : Nat) v, vs[j]? = some v → ∃ c, l[j]? = some c ∧ R c v) → Paired R l vs
  | [], [], _, _ => .nil
  | [], _ :: _, h, _ => by simp at h
  | _ :: _, [], h, _ => by simp at h
  | a :: l, v :: vs, h, k => by
    obtain ⟨c, hc, hr⟩ := k 0 v rfl
    have : c = a := by simpa using hc.symm
    subst this
    exact .cons hr (Paired.of_idx (by simpa using h) fun j v hj => k (j + 1) v (by simpa using hj))
theorem Paired.mono_mem {α β : Type} {F G : α → β → Prop} : ∀ {l₁ : List α} {l₂ : List β}, Paired F l₁ l₂ → (∀ a ∈ l₁, ∀ b, F a b → G a b) → Paired G l₁ l₂
  | _, _, .nil, _ => .nil
  | _, _, .cons h t, k => .cons (k _ (.head _) _ h) (Paired.mono_mem t fun a ha => k a (.tail _ ha))
theorem Paired.comp {α β γ : Type} {R : α → β → Prop} {F : β → γ → Prop} : ∀ {l : List α} {vs : List β} {ys : List γ}, Paired R l vs → Paired F vs ys → Paired (fun a y => ∃ v, R a v ∧ F v y) l ys
  | _, _, _, .nil, .nil => .nil
  | _, _, _, .cons h t, .cons h' t' => .cons ⟨_, h, h'⟩ (Paired.comp t t')
theorem Paired.filt {α β : Type} {R : α → β → Prop} {p : α → Bool} {q : β → Bool} : ∀ {l : List α} {vs : List β}, Paired R l vs → (∀ a b, R a b → q b = p a) → Paired R (l.filter p) (vs.filter q)
  | _, _, .nil, _ => .nil
  | a :: l, b :: vs, .cons h t, k => by
    have e := k a b h
    have ih := Paired.filt t k
    rw [List.filter_cons, List.filter_cons, e]
    split
    · exact .cons h ih
    · exact ih
/-- a list of values that are those texts -/
abbrev Txts (L : List (List Nat)) (ys : List Value) : Prop := Paired (fun l y => ∃ t, y = Value.str (mk l) t) L ys
theorem Txts.values : ∀ {L : List (List Nat)} {ys : List Value}, Txts L ys → ∃ l : List (Str × Tok), ys = strValues l ∧ l.map (·.1) = L.map mk
  | _, _, .nil => ⟨[], rfl, rfl⟩
  | _, _, .cons ⟨t, e⟩ r => by
    obtain ⟨l, h1, h2⟩ := Txts.values r
    exact ⟨(_, t) :: l, by rw [e, h1]; rfl, by simp [h2]⟩
theorem Txts.map {α : Type} {f : α → List Nat} : ∀ {l : List α} {ys : List Value}, Paired (fun c y => ∃ t, y = Value.str (mk (f c)) t) l ys → Txts (l.map f) ys
  | _, _, .nil => .nil
  | _, _, .cons h t => .cons h (Txts.map t)
theorem join_mk' : ∀ L : List (List Nat), Str.join (⟨#[]⟩ : Str) (L.map mk) = mk L.flatten
  | [] => rfl
  | [a] => by simp [Str.join, mk]
  | a :: b :: r => by
    have ih : Str.join ⟨#[]⟩ (mk b :: r.map mk) = mk (b :: r).flatten := join_mk' (b :: r)
    show mk a ++ ⟨#[]⟩ ++ Str.join ⟨#[]⟩ (mk b :: r.map mk) = _
    rw [ih]
    show (⟨(a.toArray ++ #[]) ++ ((b :: r).flatten).toArray⟩ : Str) = _
    simp [mk]
theorem join_mk (L : List (List Nat)) : Txt.join (⟨#[]⟩ : Str) (L.map mk) = mk L.flatten := (StrLaws.glued_eq_join _ _).trans (join_mk' L)
section
variable {w : World} {A : Around} {E : Value → Shared → Prop} {s : Shared} {env : Env}
theorem join_call {D : Addr} {ys : Array Value} {L : List (List Nat)} {x : Str} {t : Tok} {Q : Value → Shared → Prop} (hl : s.heap.IsList D ys) (h : Txts L ys.toList) (hx : x = ⟨#[]⟩) (hn : L.flatten.length ≤ 1000000)
    (hq : ∀ t' k, Q (.str (mk L.flatten) t') { s with toks := k }) : wpAny (model P0 w) A (call (.builtin "str.join") [.str x t, .ref D]) Q E s := by
  subst hx
  obtain ⟨l, e, hm⟩ := Txts.values h
  refine SC.join (l := l) (texts := L.map mk) (by rw [← e]; simpa using hl) hm ?_ ?_
  · refine joinOk_of ?_
    show ((L.map mk).map (·.length)).sum + (L.map mk).length * 0 ≤ _
    have : ((L.map mk).map (·.length)).sum = L.flatten.length := by
      clear hn hm h e hq
      induction L with
      | nil => rfl
      | cons a r ih => rw [List.map_cons, List.map_cons, List.sum_cons, ih, mk_len, List.flatten_cons, List.length_append]
    omega
  · intro t' k
    rw [join_mk]
    exact hq t' k
/-- a comprehension without a test -/
theorem comp_map {elt iter : PySem.Expr} {x : Str} {px : Pos} {scope : Scope} {cl : List (Str × Addr)} {pos : Pos} {Q : Value → Shared → Prop} (F : Value → Value → Prop)
    (hclos : closureFor scope env = pure cl) (hcell : ∀ y ∈ scope.names, y.2 ≠ .cell) (hkind : scope.kind = .function)
    (hnames : ∀ y ∈ scope.names, y.2 = .local → scope.names.lookup y.1 = some .local) (hx : scope.names.lookup x = some .local)
    (h : wpAny (model P0 w) A (eval iter env) (fun xv s₁ => wpAny (model P0 w) A (pyIter xv) (fun it s₂ => ∃ I fp wr n P St, it = .ref I ∧ Walks P0 w A I fp wr n P St ∧ n ≤ sizeLine ∧ St 0 s₂.heap ∧ (∀ b ∈ fp, b < s₂.heap.objs.size) ∧
      (∀ C i v s₃ m₃ E', s₂.heap.objs.size ≤ C → P i v → s₃.heap.Ns C m₃ → m₃ x = some v → (∀ b o, b ∉ wr → s₂.heap.get? b = some o → s₃.heap.get? b = some o) →
        wpAny (model P0 w) A (eval elt (compEnvC scope cl C env)) (fun y s₄ => F v y ∧ Keeps s₃ s₄) E' s₃) ∧
      (∀ D h' tk ys (vs : List Value), s₂.heap.get? D = none → h'.PlainList D ys → vs.length = n → (∀ j v, vs[j]? = some v → P j v) → Paired F vs ys.toList →
        (∀ b o, b ∉ wr → s₂.heap.get? b = some o → h'.get? b = some o) → Q (.ref D) { s₂ with heap := h', toks := tk })) E s₁) E s)
    (hs : ∀ x, foldedSetIterable iter env x = pure x := by intro _; rfl) :
    wpAny (model P0 w) A (eval (.ListComp elt [⟨.Name x px, iter, [], 0⟩] scope pos) env) Q E s := by
  refine wpAny_ListComp_free (fun _ => true) F hclos hcell hkind hnames hx (wpAny_mono h (fun xv s₁ h₁ => wpAny_mono h₁ (fun it s₂ h₂ => ?_) fun _ _ e => e) fun _ _ e => e) hs
  obtain ⟨I, fp, wr, n, P, St, e, W, hsz, hst, hfp, hel, hQ⟩ := h₂
  refine ⟨I, fp, wr, n, P, St, e, W, hsz, hst, hfp, ⟨fun C i v s₃ m₃ E' _ _ _ _ _ _ => wpAny_tests_nil ⟨rfl, s₃.heap, s₃.toks, rfl, fun _ _ e => e⟩, fun C i v s₃ m₃ E' hC hP _ hn hm hk _ => hel C i v s₃ m₃ E' hC hP hn hm hk⟩, ?_⟩
  intro D h' tk ys vs hD _ hpl hlen hP hF hk
  rw [List.filter_eq_self.mpr (fun _ _ => rfl)] at hF
  exact hQ D h' tk ys vs hD hpl hlen hP hF hk
theorem sizeFits : ∀ n : Nat, n ≤ 1000000 → n ≤ sizeLine := fun n h => by rw [sizeLine_eq]; omega
/-- over the signs of a text -/
theorem comp_str {elt iter : PySem.Expr} {x : Str} {px : Pos} {scope : Scope} {cl : List (Str × Addr)} {pos : Pos} {Q : Value → Shared → Prop} {l : List Nat} (F : Nat → Value → Prop) (hn : l.length ≤ 1000000) (hh : A.handled = none)
    (hclos : closureFor scope env = pure cl) (hcell : ∀ y ∈ scope.names, y.2 ≠ .cell) (hkind : scope.kind = .function)
    (hnames : ∀ y ∈ scope.names, y.2 = .local → scope.names.lookup y.1 = some .local) (hx : scope.names.lookup x = some .local)
    (h : wpAny (model P0 w) A (eval iter env) (fun xv s₁ => ∃ t, xv = .str (mk l) t ∧
      (∀ C c u s₃ m₃ E', s₁.heap.objs.size ≤ C → c ∈ l → s₃.heap.Ns C m₃ → m₃ x = some (.str ⟨#[c]⟩ u) → Kp s₁.heap s₃.heap →
        wpAny (model P0 w) A (eval elt (compEnvC scope cl C env)) (fun y s₄ => F c y ∧ Keeps s₃ s₄) E' s₃) ∧
      (∀ D h' tk ys, s₁.heap.get? D = none → h'.PlainList D ys → Paired F l ys.toList → Kp s₁.heap h' → Q (.ref D) { s₁ with heap := h', toks := tk })) E s)
    (hs : ∀ x, foldedSetIterable iter env x = pure x := by intro _; rfl) :
    wpAny (model P0 w) A (eval (.ListComp elt [⟨.Name x px, iter, [], 0⟩] scope pos) env) Q E s := by
  refine comp_map (fun v y => ∀ c u, v = .str ⟨#[c]⟩ u → F c y) hclos hcell hkind hnames hx (wpAny_mono h (fun xv s₁ h₁ => ?_) fun _ _ e => e) hs
  obtain ⟨t, rfl, hel, hQ⟩ := h₁
  refine wpAny_pyIter_str fun o St hW hst => ?_
  have hfresh : ∀ b o', s₁.heap.get? b = some o' → b ∉ [s₁.heap.objs.size] := fun b o' e hm => by
    rw [List.mem_singleton.mp hm] at e
    exact absurd (Heap.lt_size e) (Nat.lt_irrefl _)
  have hup : Kp s₁.heap (s₁.heap.push o) := fun b o' e => Heap.get?_push_of_some _ e
  refine ⟨_, _, _, _, _, St, rfl, hW A hh, ?_, hst, ?_, ?_, ?_⟩
  · show (mk l).cps.size ≤ _
    simp only [List.size_toArray]
    exact sizeFits _ hn
  · intro b hb
    rw [List.mem_singleton.mp hb]
    show _ < (s₁.heap.push o).objs.size
    rw [Heap.size_push]; exact Nat.lt_succ_self _
  · rintro C i v s₃ m₃ E' hC ⟨c, u, hc, rfl⟩ hn₃ hm hk
    have hc' : l[i]? = some c := by simpa [mk] using hc
    refine wpAny_mono (hel C c u s₃ m₃ E' (Nat.le_trans (by show _ ≤ (s₁.heap.push o).objs.size; rw [Heap.size_push]; exact Nat.le_succ _) hC) (List.mem_of_getElem? hc') hn₃ hm fun b o' e => hk b o' (hfresh b o' e) (hup b o' e)) (fun y s₄ h₄ => ⟨?_, h₄.2⟩) fun _ _ e => e
    intro c' u' e
    have e1 : (⟨#[c]⟩ : Str) = ⟨#[c']⟩ := (Value.str.inj e).1
    have : c = c' := by simpa using e1
    subst this
    exact h₄.1
  · intro D h' tk ys vs hD hpl hlen hP hF hk
    have hD' : s₁.heap.get? D = none := by
      cases e : s₁.heap.get? D with
      | none => rfl
      | some o' => rw [hup D o' e] at hD; cases hD
    refine hQ D h' tk ys hD' hpl ?_ fun b o' e => hk b o' (hfresh b o' e) (hup b o' e)
    have hR : Paired (fun (c : Nat) v => ∃ u, v = Value.str ⟨#[c]⟩ u) l vs := Paired.of_idx (by rw [hlen]; simp [mk]) fun j v hj => by
      obtain ⟨c, u, hc, rfl⟩ := hP j v hj
      exact ⟨c, by simpa [mk] using hc, u, rfl⟩
    exact (Paired.comp hR hF).mono fun c y ⟨v, ⟨u, e⟩, hF⟩ => hF c u e
end
end LW
end
section
open PySem PySem.W PyProof.Rows PySem.Calls PySem.Spec
set_option linter.all false
set_option maxRecDepth 100000
set_option maxHeartbeats 4000000
namespace LW
section
variable {w : World} {A : Around} {E : Value → Shared → Prop} {s : Shared} {env : Env}
theorem fresh_not {h : Heap} {b : Addr} {o : Obj} (e : h.get? b = some o) : b ∉ [h.objs.size] := fun hm => by
  rw [List.mem_singleton.mp hm] at e
  exact absurd (Heap.lt_size e) (Nat.lt_irrefl _)
theorem none_back {h h' : Heap} {D : Addr} (k : Kp h h') (e : h'.get? D = none) : h.get? D = none := by
  cases q : h.get? D with
  | none => rfl
  | some o => rw [k D o q] at e; cases e
/-- over the items of a list -/
theorem comp_list {elt iter : PySem.Expr} {x : Str} {px : Pos} {scope : Scope} {cl : List (Str × Addr)} {pos : Pos} {Q : Value → Shared → Prop} (F : Value → Value → Prop) (hh : A.handled = none)
    (hclos : closureFor scope env = pure cl) (hcell : ∀ y ∈ scope.names, y.2 ≠ .cell) (hkind : scope.kind = .function)
    (hnames : ∀ y ∈ scope.names, y.2 = .local → scope.names.lookup y.1 = some .local) (hx : scope.names.lookup x = some .local)
    (h : wpAny (model P0 w) A (eval iter env) (fun xv s₁ => ∃ a items, xv = .ref a ∧ s₁.heap.IsList a items ∧ items.size ≤ 1000000 ∧
      (∀ C v s₃ m₃ E', s₁.heap.objs.size ≤ C → v ∈ items.toList → s₃.heap.Ns C m₃ → m₃ x = some v → Kp s₁.heap s₃.heap →
        wpAny (model P0 w) A (eval elt (compEnvC scope cl C env)) (fun y s₄ => F v y ∧ Keeps s₃ s₄) E' s₃) ∧
      (∀ D h' tk ys, s₁.heap.get? D = none → h'.PlainList D ys → Paired F items.toList ys.toList → Kp s₁.heap h' → Q (.ref D) { s₁ with heap := h', toks := tk })) E s)
    (hs : ∀ x, foldedSetIterable iter env x = pure x := by intro _; rfl) :
    wpAny (model P0 w) A (eval (.ListComp elt [⟨.Name x px, iter, [], 0⟩] scope pos) env) Q E s := by
  refine comp_map F hclos hcell hkind hnames hx (wpAny_mono h (fun xv s₁ h₁ => ?_) fun _ _ e => e) hs
  obtain ⟨a, items, rfl, hl, hsz, hel, hQ⟩ := h₁
  refine wpAny_pyIter_list hl ?_
  have hup : Kp s₁.heap (s₁.heap.push { cls := .type "list_iterator", data := .fields #[.ref a, .int 0 0] }) := fun b o' e => Heap.get?_push_of_some _ e
  have hal : a < s₁.heap.objs.size := by obtain ⟨o, ho, _⟩ := hl; exact Heap.lt_size ho
  refine ⟨_, _, _, _, _, _, rfl, Walks.list hh s₁.heap.objs.size a (Nat.ne_of_lt hal) items, sizeFits _ hsz, ⟨⟨_, Heap.get?_push_size _ rfl, rfl, rfl⟩, hl.at fun o e => hup a o e⟩, ?_, ?_, ?_⟩
  · intro b hb
    show _ < (s₁.heap.push _).objs.size
    rw [Heap.size_push]
    rcases List.mem_cons.mp hb with rfl | hb
    · exact Nat.lt_succ_self _
    · rw [List.mem_singleton.mp hb]; exact Nat.lt_succ_of_lt hal
  · intro C i v s₃ m₃ E' hC hi hn₃ hm hk
    have hv : v ∈ items.toList := by
      have : items.toList[i]? = some v := by simpa using hi
      exact List.mem_of_getElem? this
    exact hel C v s₃ m₃ E' (Nat.le_trans (by show _ ≤ (s₁.heap.push _).objs.size; rw [Heap.size_push]; exact Nat.le_succ _) hC) hv hn₃ hm fun b o' e => hk b o' (fresh_not e) (hup b o' e)
  · intro D h' tk ys vs hD hpl hlen hP hF hk
    have hvs : vs = items.toList := by
      apply List.ext_getElem?
      intro j
      cases e : vs[j]? with
      | some v =>
        have := hP j v e
        simpa using this.symm
      | none =>
        have : items.toList.length ≤ j := by have := List.getElem?_eq_none_iff.mp e; simpa [hlen] using this
        exact (List.getElem?_eq_none this).symm
    subst hvs
    exact hQ D h' tk ys (none_back hup hD) hpl hF fun b o' e => hk b o' (fresh_not e) (hup b o' e)
/-- the same, bound to a local name -/
theorem comp_listA {elt iter : PySem.Expr} {x y : Str} {px py : Pos} {scope : Scope} {cl : List (Str × Addr)} {pos spos : Pos} {Q : Flow → Shared → Prop} (F : Value → Value → Prop) (hh : A.handled = none)
    (hsw : swapsWith (.ListComp elt [⟨.Name x px, iter, [], 0⟩] scope pos) (some (.Name y py)) spos.line env = pure true)
    (hclos : closureFor scope env = pure cl) (hcell : ∀ y ∈ scope.names, y.2 ≠ .cell) (hkind : scope.kind = .function)
    (hnames : ∀ y ∈ scope.names, y.2 = .local → scope.names.lookup y.1 = some .local) (hx : scope.names.lookup x = some .local)
    (hy : env.kindOf y = some .local) (hp : (env.scope.kind == .class || (env.scope.kind == .module && env.locals != env.globals)) = false)
    (h : wpAny (model P0 w) A (eval iter env) (fun xv s₁ => ∃ a items m, xv = .ref a ∧ s₁.heap.IsList a items ∧ items.size ≤ 1000000 ∧ s₁.heap.Ns env.locals m ∧
      (∀ C v s₃ m₃ E', s₁.heap.objs.size ≤ C → v ∈ items.toList → s₃.heap.Ns C m₃ → m₃ x = some v → Kp s₁.heap s₃.heap →
        wpAny (model P0 w) A (eval elt (compEnvC scope cl C env)) (fun y s₄ => F v y ∧ Keeps s₃ s₄) E' s₃) ∧
      (∀ D h' tk ys, s₁.heap.get? D = none → h'.PlainList D ys → Paired F items.toList ys.toList → h'.Ns env.locals (fun z => if z = y then some (.ref D) else m z) →
        (∀ b o, b ≠ env.locals → s₁.heap.get? b = some o → h'.get? b = some o) → Q .next { s₁ with heap := h', toks := tk })) E s)
    (hs : ∀ x, foldedSetIterable iter env x = pure x := by intro _; rfl) :
    wpAny (model P0 w) A (exec (.Assign [.Name y py] (.ListComp elt [⟨.Name x px, iter, [], 0⟩] scope pos) spos) env) Q E s := by
  refine wpAny_Assign_ListComp_free (fun _ => true) F hsw hclos hcell hkind hnames hx hy hp (wpAny_mono h (fun xv s₁ h₁ => ?_) fun _ _ e => e) hs
  obtain ⟨a, items, m, rfl, hl, hsz, hns, hel, hQ⟩ := h₁
  refine wpAny_pyIter_list hl ?_
  have hup : Kp s₁.heap (s₁.heap.push { cls := .type "list_iterator", data := .fields #[.ref a, .int 0 0] }) := fun b o' e => Heap.get?_push_of_some _ e
  have hal : a < s₁.heap.objs.size := by obtain ⟨o, ho, _⟩ := hl; exact Heap.lt_size ho
  have hns' := hns.at' fun o e => hup _ o e
  refine ⟨_, _, _, _, _, _, m, rfl, Walks.list hh s₁.heap.objs.size a (Nat.ne_of_lt hal) items, sizeFits _ hsz, ⟨⟨_, Heap.get?_push_size _ rfl, rfl, rfl⟩, hl.at fun o e => hup a o e⟩, ?_, ?_, hns', ⟨fun C i v s₃ m₃ E' _ _ _ _ _ _ => wpAny_tests_nil ⟨rfl, s₃.heap, s₃.toks, rfl, fun _ _ e => e⟩, ?_⟩, ?_⟩
  · intro b hb
    show _ < (s₁.heap.push _).objs.size
    rw [Heap.size_push]
    rcases List.mem_cons.mp hb with rfl | hb
    · exact Nat.lt_succ_self _
    · rw [List.mem_singleton.mp hb]; exact Nat.lt_succ_of_lt hal
  · intro hm
    obtain ⟨o, _, _, ho, _⟩ := hns
    exact fresh_not ho hm
  · intro C i v s₃ m₃ E' hC hi _ hn₃ hm hk _
    have hv : v ∈ items.toList := by
      have : items.toList[i]? = some v := by simpa using hi
      exact List.mem_of_getElem? this
    exact hel C v s₃ m₃ E' (Nat.le_trans (by show _ ≤ (s₁.heap.push _).objs.size; rw [Heap.size_push]; exact Nat.le_succ _) hC) hv hn₃ hm fun b o' e => hk b o' (fresh_not e) (hup b o' e)
  · intro D h' tk ys vs hD _ hpl hlen hP hF hn' hk
    rw [List.filter_eq_self.mpr (fun _ _ => rfl)] at hF
    have hvs : vs = items.toList := by
      apply List.ext_getElem?
      intro j
      cases e : vs[j]? with
      | some v =>
        have := hP j v e
        simpa using this.symm
      | none =>
        have : items.toList.length ≤ j := by have := List.getElem?_eq_none_iff.mp e; simpa [hlen] using this
        exact (List.getElem?_eq_none this).symm
    subst hvs
    exact hQ D h' tk ys (none_back hup hD) hpl hF hn' fun b o' hb e => hk b o' hb (fresh_not e) (hup b o' e)
/-- over the signs of a text, with a test -/
theorem comp_strT {elt iter : PySem.Expr} {x : Str} {px : Pos} {ifs : List PySem.Expr} {scope : Scope} {cl : List (Str × Addr)} {pos : Pos} {Q : Value → Shared → Prop} {l : List Nat} (p : Nat → Bool) (F : Nat → Value → Prop) (hn : l.length ≤ 1000000) (hh : A.handled = none)
    (hclos : closureFor scope env = pure cl) (hcell : ∀ y ∈ scope.names, y.2 ≠ .cell) (hkind : scope.kind = .function)
    (hnames : ∀ y ∈ scope.names, y.2 = .local → scope.names.lookup y.1 = some .local) (hx : scope.names.lookup x = some .local)
    (h : wpAny (model P0 w) A (eval iter env) (fun xv s₁ => ∃ t, xv = .str (mk l) t ∧
      (∀ C c u s₃ m₃ E', s₁.heap.objs.size ≤ C → c ∈ l → s₃.heap.Ns C m₃ → m₃ x = some (.str ⟨#[c]⟩ u) → Kp s₁.heap s₃.heap →
        wpAny (model P0 w) A (forIn ifs true fun c r => if r = true then do let ok ← isTrue c (compEnvC scope cl C env) (eval c (compEnvC scope cl C env)); pure (ForInStep.yield ok) else pure (ForInStep.yield r))
          (fun ok s₄ => ok = p c ∧ Keeps s₃ s₄) E' s₃) ∧
      (∀ C c u s₃ m₃ E', s₁.heap.objs.size ≤ C → c ∈ l → p c = true → s₃.heap.Ns C m₃ → m₃ x = some (.str ⟨#[c]⟩ u) → Kp s₁.heap s₃.heap →
        wpAny (model P0 w) A (eval elt (compEnvC scope cl C env)) (fun y s₄ => F c y ∧ Keeps s₃ s₄) E' s₃) ∧
      (∀ D h' tk ys, s₁.heap.get? D = none → h'.PlainList D ys → Paired F (l.filter p) ys.toList → Kp s₁.heap h' → Q (.ref D) { s₁ with heap := h', toks := tk })) E s)
    (hs : ∀ x, foldedSetIterable iter env x = pure x := by intro _; rfl) :
    wpAny (model P0 w) A (eval (.ListComp elt [⟨.Name x px, iter, ifs, 0⟩] scope pos) env) Q E s := by
  have hq : ∀ c u, (fun v : Value => match v with | .str y _ => p (y.cps[0]?.getD 0) | _ => false) (.str ⟨#[c]⟩ u) = p c := fun c u => by simp
  generalize (fun v : Value => match v with | .str y _ => p (y.cps[0]?.getD 0) | _ => false) = q at hq
  refine wpAny_ListComp_free q (fun v y => ∀ c u, v = .str ⟨#[c]⟩ u → F c y) hclos hcell hkind hnames hx (wpAny_mono h (fun xv s₁ h₁ => ?_) fun _ _ e => e) hs
  obtain ⟨t, rfl, htst, hel, hQ⟩ := h₁
  refine wpAny_pyIter_str fun o St hW hst => ?_
  have hup : Kp s₁.heap (s₁.heap.push o) := fun b o' e => Heap.get?_push_of_some _ e
  refine ⟨_, _, _, _, _, St, rfl, hW A hh, ?_, hst, ?_, ⟨?_, ?_⟩, ?_⟩
  · show (mk l).cps.size ≤ _
    simp only [List.size_toArray]
    exact sizeFits _ hn
  · intro b hb
    rw [List.mem_singleton.mp hb]
    show _ < (s₁.heap.push o).objs.size
    rw [Heap.size_push]; exact Nat.lt_succ_self _
  · rintro C i v s₃ m₃ E' hC ⟨c, u, hc, rfl⟩ hn₃ hm hk _
    have hc' : l[i]? = some c := by simpa [mk] using hc
    refine wpAny_mono (htst C c u s₃ m₃ E' (Nat.le_trans (by show _ ≤ (s₁.heap.push o).objs.size; rw [Heap.size_push]; exact Nat.le_succ _) hC) (List.mem_of_getElem? hc') hn₃ hm fun b o' e => hk b o' (fresh_not e) (hup b o' e)) (fun y s₄ h₄ => ⟨?_, h₄.2⟩) fun _ _ e => e
    rw [h₄.1, hq]
  · rintro C i v s₃ m₃ E' hC ⟨c, u, hc, rfl⟩ hpv hn₃ hm hk _
    have hc' : l[i]? = some c := by simpa [mk] using hc
    rw [hq] at hpv
    refine wpAny_mono (hel C c u s₃ m₃ E' (Nat.le_trans (by show _ ≤ (s₁.heap.push o).objs.size; rw [Heap.size_push]; exact Nat.le_succ _) hC) (List.mem_of_getElem? hc') hpv hn₃ hm fun b o' e => hk b o' (fresh_not e) (hup b o' e)) (fun y s₄ h₄ => ⟨?_, h₄.2⟩) fun _ _ e => e
    intro c' u' e
    have e1 : (⟨#[c]⟩ : Str) = ⟨#[c']⟩ := (Value.str.inj e).1
    have : c = c' := by simpa using e1
    subst this
    exact h₄.1
  · intro D h' tk ys vs hD _ hpl hlen hP hF hk
    refine hQ D h' tk ys (none_back hup hD) hpl ?_ fun b o' e => hk b o' (fresh_not e) (hup b o' e)
    have hR : Paired (fun (c : Nat) v => ∃ u, v = Value.str ⟨#[c]⟩ u) l vs := Paired.of_idx (by rw [hlen]; simp [mk]) fun j v hj => by
      obtain ⟨c, u, hc, rfl⟩ := hP j v hj
      exact ⟨c, by simpa [mk] using hc, u, rfl⟩
    exact (Paired.comp (Paired.filt (p := p) (q := q) hR (by rintro a _ ⟨u, rfl⟩; exact hq a u)) hF).mono fun c y ⟨v, ⟨u, e⟩, hF⟩ => hF c u e
end
end LW
end
section
open PySem PySem.W PyProof.Rows PySem.Calls PySem.Spec
set_option linter.all false
set_option maxRecDepth 100000
set_option maxHeartbeats 4000000
namespace LW
section
variable {w : World} {A : Around} {E : Value → Shared → Prop} {s : Shared} {env : Env} {R : Result → Shared → Prop}
theorem compTurn2_1 (elt t1 i1 t2 i2 : PySem.Expr) (scope : Scope) (pos : Pos) (it acc : Value) (env : Env) :
    compTurn (.ListComp elt [⟨t1, i1, [], 0⟩, ⟨t2, i2, [], 0⟩] scope pos) 1 it acc env = (standAt i2.pos >>= fun _ => pyNext it >>= fun r => match r with
      | none => pure (.done .next)
      | some v => letOwnedTupleGo t2 it v >>= fun _ => assign t2 env v >>= fun _ =>
        (eval elt env >>= fun x => call (.builtin "list.append") [acc, x] >>= fun _ => pure ()) >>= fun _ =>
          again (.compLoop (.ListComp elt [⟨t1, i1, [], 0⟩, ⟨t2, i2, [], 0⟩] scope pos) 1 it acc env)) := by rfl
theorem compTurn2_0 (elt t1 i1 t2 i2 : PySem.Expr) (scope : Scope) (pos : Pos) (it acc : Value) (env : Env) :
    compTurn (.ListComp elt [⟨t1, i1, [], 0⟩, ⟨t2, i2, [], 0⟩] scope pos) 0 it acc env = (standAt i1.pos >>= fun _ => pyNext it >>= fun r => match r with
      | none => pure (.done .next)
      | some v => letOwnedTupleGo t1 it v >>= fun _ => assign t1 env v >>= fun _ =>
        (eval i2 env >>= fun x => standAt i2.pos >>= fun _ => foldedSetIterable i2 env x >>= fun x => holding [x] (pyIter x) >>= fun it' =>
          runOwn (.compStart (.ListComp elt [⟨t1, i1, [], 0⟩, ⟨t2, i2, [], 0⟩] scope pos) 1 it' acc env) env >>= fun _ =>
          again (.compLoop (.ListComp elt [⟨t1, i1, [], 0⟩, ⟨t2, i2, [], 0⟩] scope pos) 0 it acc env))) := by rfl
theorem compStart2_1 {elt t1 i1 t2 i2 : PySem.Expr} {scope : Scope} {pos : Pos} {it acc : Value}
    (h0 : codeAny (model P0 w) A (.compLoop (.ListComp elt [⟨t1, i1, [], 0⟩, ⟨t2, i2, [], 0⟩] scope pos) 1 it acc env) R s)
    (h : wpAny (model P0 w) A (pyIter it) (fun it' s' => codeAny (model P0 w) A (.compLoop (.ListComp elt [⟨t1, i1, [], 0⟩, ⟨t2, i2, [], 0⟩] scope pos) 1 it' acc env) R s')
      (notedBy (model P0 w) A env fun x s' => R (.error x) s') s) :
    codeAny (model P0 w) A (.compStart (.ListComp elt [⟨t1, i1, [], 0⟩, ⟨t2, i2, [], 0⟩] scope pos) 1 it acc env) R s := by
  refine codeAny_of_tree ?_
  show wpAny _ _ ((compStart (.ListComp elt [⟨t1, i1, [], 0⟩, ⟨t2, i2, [], 0⟩] scope pos) 1 it acc env).onRaise (fun x => do noteFrame x env; standAt theWindowsPlace)) _ _ s
  refine wpAny_notedAt ?_
  unfold compStart
  show wpAny _ _ (ask >>= _) _ _ s
  refine wpAny_bind (wpAny_askSetting (wpAny_ite ?_))
  split
  · first
      | exact wpAny_bind (wpAny_pure (wpAny_pure (And.intro rfl h0)))
      | exact wpAny_pure (And.intro rfl h0)
  · first
      | exact wpAny_bind (wpAny_rule (wpAny_bind (wpAny_standAt (wpAny_bind (wpAny_mono h (fun it' s' h' => wpAny_pure (And.intro rfl h')) fun _ _ x => x)))))
      | (refine wpAny_bind (wpAny_rule ?_); show wpAny _ _ (standAt i2.pos >>= _) _ _ s; exact wpAny_bind (wpAny_standAt (wpAny_bind (wpAny_mono h (fun it' s' h' => wpAny_pure (And.intro rfl h')) fun _ _ x => x))))
theorem push_toList {α : Type} (a : Array α) (x : α) : (a.push x).toList = a.toList ++ [x] := by simp
theorem comp2_inner {t1 i1 i2 : PySem.Expr} {y : Str} {py py' : Pos} {scope : Scope} {pos : Pos} {I T D : Addr} {its : Array Value} {ys : Array Value} {m : Str → Option Value} (hh : A.handled = none)
    (hI : s.heap.IsListIter I T 0) (hT : s.heap.IsList T its) (hD : s.heap.PlainList D ys) (hn : s.heap.Ns env.locals m) (hTI : T ≠ I) (hDI : D ≠ I) (hDT : D ≠ T) (hCI : env.locals ≠ I) (hCT : env.locals ≠ T) (hCD : D ≠ env.locals)
    (hk : env.scope.kind = .function) (hy : env.kindOf y = some .local) (hsz : ys.size + its.size ≤ sizeLine)
    (hR : ∀ h' tk m' ys', h'.Ns env.locals m' → h'.PlainList D ys' → ys'.toList = ys.toList ++ its.toList → (∀ b o, b ≠ env.locals → b ≠ I → b ≠ D → s.heap.get? b = some o → h'.get? b = some o) → R (.ok .next) { s with heap := h', toks := tk })
    (hd : (y == ("__debug__" : Str)) = false := by decide) :
    codeAny (model P0 w) A (.compLoop (.ListComp (.Name y py') [⟨t1, i1, [], 0⟩, ⟨.Name y py, i2, [], 0⟩] scope pos) 1 (.ref I) (.ref D) env) R s := by
  have hp : (env.scope.kind == .class || (env.scope.kind == .module && env.locals != env.globals)) = false := by rw [hk]; rfl
  refine codeAny_loop rfl (fun k s' => ∃ h' tk m' ys' j, s' = { s with heap := h', toks := tk } ∧ j ≤ its.size ∧ k = its.size - j ∧ h'.IsListIter I T j ∧ h'.IsList T its ∧ h'.PlainList D ys' ∧ h'.Ns env.locals m' ∧
      ys'.toList = ys.toList ++ its.toList.take j ∧ (∀ b o, b ≠ env.locals → b ≠ I → b ≠ D → s.heap.get? b = some o → h'.get? b = some o)) (fun k s' hJ => ?_) its.size
    ⟨s.heap, s.toks, m, ys, 0, rfl, Nat.zero_le _, rfl, hI, hT, hD, hn, by simp, fun _ _ _ _ _ e => e⟩
  obtain ⟨h', tk, m', ys', j, rfl, hj, rfl, hI', hT', hD', hn', hys, hkp⟩ := hJ
  show wpAny _ _ ((compTurn _ 1 _ _ _).onRaise (fun x => do noteFrame x env; theTreesLotGoes x)) _ _ _
  refine wpAny_noted ?_
  rw [compTurn2_1]
  have W := Walks.list (prog := P0) (w := w) (A := A) hh I T hTI its
  by_cases hlt : j < its.size
  · refine wpAny_bind (wpAny_standAt (wpAny_bind (W.item j _ _ _ hlt ⟨hI', hT'⟩ fun v h₁ tk₁ hv hst₁ hk₁ => ?_)))
    refine wpAny_bind (wpAny_of_eq (a := ()) rfl ?_)
    have nI : ∀ {b : Addr}, b ≠ I → b ∉ [I] := fun h hm => h (List.mem_singleton.mp hm)
    refine wpAny_bind (wpAny_assign_Name (wpAny_storeName_local hy (hn'.at' fun o e => hk₁ _ o (nI hCI) e) (fun h₂ hn₂ hs₂ => ?_) hp))
    have hys4 : ys'.size ≤ sizeLine := by
      have := congrArg List.length hys
      rw [List.length_append, List.length_take] at this
      simp only [Array.length_toList] at this
      omega
    refine wpAny_bind (wpAny_bind (nm_loc (v := v) hn₂ (by simp) hk hy ?_ hd))
    refine wpAny_bind ?_
    refine wpAny_list_append_plain (hsz := hys4) ((hD'.at fun o e => hk₁ _ o (nI hDI) e).at fun o e => hs₂.extBut _ o hCD e) fun h₃ hl₃ hs₃ => ?_
    refine wpAny_pure (wpAny_pure ⟨rfl, its.size - (j + 1), by omega, h₃, _, _, ys'.push v, j + 1, rfl, hlt, rfl, ?_, ?_, hl₃, hn₂.sameBut hs₃ (Ne.symm hCD), ?_, ?_⟩)
    · exact (hst₁.1.at fun o e => hs₂.extBut _ o (Ne.symm hCI) e).at fun o e => hs₃.extBut _ o (Ne.symm hDI) e
    · exact (hst₁.2.at fun o e => hs₂.extBut _ o (Ne.symm hCT) e).at fun o e => hs₃.extBut _ o (Ne.symm hDT) e
    · rw [push_toList, hys, List.append_assoc]
      congr 1
      have hv' : its.toList[j]? = some v := by simpa using hv
      rw [List.take_add_one, hv']
      rfl
    · exact fun b o hbC hbI hbD e => hs₃.extBut b o hbD (hs₂.extBut b o hbC (hk₁ b o (nI hbI) (hkp b o hbC hbI hbD e)))
  · have hje : j = its.size := by omega
    subst hje
    refine wpAny_bind (wpAny_standAt (wpAny_bind (W.done _ _ _ ⟨hI', hT'⟩ fun h₁ tk₁ hk₁ => ?_)))
    have nI : ∀ {b : Addr}, b ≠ I → b ∉ [I] := fun h hm => h (List.mem_singleton.mp hm)
    refine wpAny_pure (hR h₁ tk₁ m' ys' (hn'.at' fun o e => hk₁ _ o (nI hCI) e) (hD'.at fun o e => hk₁ _ o (nI hDI) e) ?_ fun b o hbC hbI hbD e => hk₁ b o (nI hbI) (hkp b o hbC hbI hbD e))
    rw [hys, ← Array.length_toList, List.take_length]
theorem comp2_outer {i1 i2 : PySem.Expr} {x y : Str} {px py py' : Pos} {scope : Scope} {pos : Pos} {I a D : Addr} {items : Array Value} {m : Str → Option Value} (hh : A.handled = none) (G : Value → Array Value → Prop)
    (hI : s.heap.IsListIter I a 0) (ha : s.heap.IsList a items) (hD : s.heap.PlainList D #[]) (hn : s.heap.Ns env.locals m) (haI : a ≠ I) (hDI : D ≠ I) (hDa : D ≠ a) (hCI : env.locals ≠ I) (hCa : env.locals ≠ a) (hCD : D ≠ env.locals)
    (hk : env.scope.kind = .function) (hx : env.kindOf x = some .local) (hy : env.kindOf y = some .local) (hs4 : items.size ≤ 1000) (hG : ∀ v its, G v its → its.size ≤ 1000)
    (hel : ∀ v s₂ m₂ E', v ∈ items.toList → s₂.heap.Ns env.locals m₂ → m₂ x = some v → (∀ b o, b ≠ env.locals → b ≠ I → b ≠ D → s.heap.get? b = some o → s₂.heap.get? b = some o) →
      wpAny (model P0 w) A (eval i2 env) (fun xv s₃ => ∃ T its, xv = .ref T ∧ s₃.heap.IsList T its ∧ T ≠ D ∧ G v its ∧ Keeps s₂ s₃) E' s₂)
    (hR : ∀ h' tk m' ys pieces, h'.Ns env.locals m' → h'.PlainList D ys → Paired G items.toList pieces → ys.toList = (pieces.map Array.toList).flatten → (∀ b o, b ≠ env.locals → b ≠ I → b ≠ D → s.heap.get? b = some o → h'.get? b = some o) → R (.ok .next) { s with heap := h', toks := tk })
    (hf : ∀ v, foldedSetIterable i2 env v = pure v) (hd : (y == ("__debug__" : Str)) = false := by decide) :
    codeAny (model P0 w) A (.compLoop (.ListComp (.Name y py') [⟨.Name x px, i1, [], 0⟩, ⟨.Name y py, i2, [], 0⟩] scope pos) 0 (.ref I) (.ref D) env) R s := by
  have hp : (env.scope.kind == .class || (env.scope.kind == .module && env.locals != env.globals)) = false := by rw [hk]; rfl
  refine codeAny_loop rfl (fun k s' => ∃ h' tk m' ys j pieces, s' = { s with heap := h', toks := tk } ∧ j ≤ items.size ∧ k = items.size - j ∧ h'.IsListIter I a j ∧ h'.IsList a items ∧ h'.PlainList D ys ∧ h'.Ns env.locals m' ∧
      Paired G (items.toList.take j) pieces ∧ ys.toList = (pieces.map Array.toList).flatten ∧ ys.size ≤ j * 1000 ∧ (∀ b o, b ≠ env.locals → b ≠ I → b ≠ D → s.heap.get? b = some o → h'.get? b = some o)) (fun k s' hJ => ?_) items.size
    ⟨s.heap, s.toks, m, #[], 0, [], rfl, Nat.zero_le _, rfl, hI, ha, hD, hn, by simpa using Paired.nil, by simp, by simp, fun _ _ _ _ _ e => e⟩
  obtain ⟨h', tk, m', ys, j, pieces, rfl, hj, rfl, hI', ha', hD', hn', hP, hys, hyl, hkp⟩ := hJ
  show wpAny _ _ ((compTurn _ 0 _ _ _).onRaise (fun x => do noteFrame x env; theTreesLotGoes x)) _ _ _
  refine wpAny_noted ?_
  rw [compTurn2_0]
  have W := Walks.list (prog := P0) (w := w) (A := A) hh I a haI items
  have nI : ∀ {b : Addr}, b ≠ I → b ∉ [I] := fun h hm => h (List.mem_singleton.mp hm)
  by_cases hlt : j < items.size
  · refine wpAny_bind (wpAny_standAt (wpAny_bind (W.item j _ _ _ hlt ⟨hI', ha'⟩ fun v h₁ tk₁ hv hst₁ hk₁ => ?_)))
    refine wpAny_bind (wpAny_of_eq (a := ()) rfl ?_)
    have hv' : items.toList[j]? = some v := by simpa using hv
    refine wpAny_bind (wpAny_assign_Name (wpAny_storeName_local hx (hn'.at' fun o e => hk₁ _ o (nI hCI) e) (fun h₂ hn₂ hs₂ => ?_) hp))
    refine wpAny_bind (wpAny_mono (hel v _ _ _ (List.mem_of_getElem? hv') hn₂ (by simp) fun b o hbC hbI hbD e => hs₂.extBut b o hbC (hk₁ b o (nI hbI) (hkp b o hbC hbI hbD e))) (fun xv s₃ h₃ => ?_) fun _ _ e => e)
    obtain ⟨T, its, rfl, hT, hTD, hGv, H₃, tk₃, rfl, hk₃⟩ := h₃
    refine wpAny_bind (wpAny_standAt (wpAny_bind (wpAny_of_eq (hf _) ?_)))
    refine wpAny_bind (wpAny_holding (wpAny_pyIter_list hT ?_))
    have up : ∀ {b o}, b ≠ env.locals → b ≠ I → h'.get? b = some o → H₃.get? b = some o := fun hbC hbI e => hk₃ _ _ (hs₂.extBut _ _ hbC (hk₁ _ _ (nI hbI) e))
    have hD₃ : H₃.PlainList D ys := hD'.at fun o e => up hCD hDI e
    have hn₃ : H₃.Ns env.locals _ := hn₂.keeps hk₃
    have push_up : ∀ {b o}, H₃.get? b = some o → (H₃.push { cls := .type "list_iterator", data := .fields #[.ref T, .int 0 0] }).get? b = some o := fun e => Heap.get?_push_of_some _ e
    have ltD : D < H₃.objs.size := by obtain ⟨n, ho⟩ := hD₃; exact Heap.lt_size ho
    have ltT : T < H₃.objs.size := by obtain ⟨o, ho, _⟩ := hT; exact Heap.lt_size ho
    have ltC : env.locals < H₃.objs.size := hn₃.lt
    have hIit : (H₃.push { cls := .type "list_iterator", data := .fields #[.ref T, .int 0 0] }).IsListIter H₃.objs.size T 0 := ⟨_, Heap.get?_push_size _ rfl, rfl, rfl⟩
    have ltI : I < H₃.objs.size := by
      obtain ⟨o, ho, _⟩ := hst₁.1
      exact Heap.lt_size (hk₃ _ _ (hs₂.extBut _ _ (Ne.symm hCI) ho))
    have lta : a < H₃.objs.size := by
      obtain ⟨o, ho, _⟩ := hst₁.2
      exact Heap.lt_size (hk₃ _ _ (hs₂.extBut _ _ (Ne.symm hCa) ho))
    have hTC : env.locals ≠ T := by
      rintro rfl
      obtain ⟨o, es, ep, ho, hd', _⟩ := hn₃
      obtain ⟨o', ho', _, n, hd''⟩ := hT
      have ho2 : H₃.get? env.locals = some o' := ho'
      rw [ho] at ho2
      cases ho2
      rw [hd'] at hd''
      cases hd''
    refine wpAny_bind (wpAny_runOwn ?_)
    rw [Around.mark_none]
    have key : ∀ s₄ : Shared, s₄ = { s with heap := H₃.push { cls := .type "list_iterator", data := .fields #[.ref T, .int 0 0] }, toks := tk₃ } →
        codeAny (model P0 w) A (.compLoop (.ListComp (.Name y py') [⟨.Name x px, i1, [], 0⟩, ⟨.Name y py, i2, [], 0⟩] scope pos) 1 (.ref H₃.objs.size) (.ref D) env)
          (fun r s' => match r with
            | .ok f => wpAny (model P0 w) A (again (.compLoop (.ListComp (.Name y py') [⟨.Name x px, i1, [], 0⟩, ⟨.Name y py, i2, [], 0⟩] scope pos) 0 (.ref I) (.ref D) env))
                (fun fin s' => match fin with
                  | .done f => R (.ok f) s'
                  | .again c' => c' = .compLoop (.ListComp (.Name y py') [⟨.Name x px, i1, [], 0⟩, ⟨.Name y py, i2, [], 0⟩] scope pos) 0 (.ref I) (.ref D) env ∧ ∃ m, m < items.size - j ∧
                    ∃ h' tk m' ys j pieces, s' = { s with heap := h', toks := tk } ∧ j ≤ items.size ∧ m = items.size - j ∧ h'.IsListIter I a j ∧ h'.IsList a items ∧ h'.PlainList D ys ∧ h'.Ns env.locals m' ∧
                      Paired G (items.toList.take j) pieces ∧ ys.toList = (pieces.map Array.toList).flatten ∧ ys.size ≤ j * 1000 ∧ (∀ b o, b ≠ env.locals → b ≠ I → b ≠ D → s.heap.get? b = some o → h'.get? b = some o)) (notedBy (model P0 w) A env fun e s' => R (.error e) s') s'
            | .error e => cameBackBy (model P0 w) A env (notedBy (model P0 w) A env fun e s' => R (.error e) s') e s') s₄ := by
      rintro s₄ rfl
      refine comp2_inner hh hIit (hT.at fun o e => push_up e) (hD₃.at fun o e => push_up e) (hn₃.at' fun o e => push_up e) (Nat.ne_of_lt ltT) (Nat.ne_of_lt ltD) (Ne.symm hTD) (Nat.ne_of_lt ltC) hTC hCD hk hy ?_ ?_ hd
      · have := hG _ _ hGv
        have h1 : j * 1000 ≤ 999 * 1000 := Nat.mul_le_mul_right _ (by omega)
        rw [sizeLine_eq]; omega
      · intro h₅ tk₅ m₅ ys₅ hn₅ hD₅ hy₅ hk₅
        have stay : ∀ {b o}, b ≠ env.locals → b ≠ D → b < H₃.objs.size → H₃.get? b = some o → h₅.get? b = some o := fun hbC hbD hlt e => hk₅ _ _ hbC (Nat.ne_of_lt hlt) hbD (push_up e)
        refine wpAny_pure ⟨rfl, items.size - (j + 1), by omega, h₅, tk₅, m₅, ys₅, j + 1, pieces ++ [its], rfl, hlt, rfl, ?_, ?_, hD₅, hn₅, ?_, ?_, ?_, ?_⟩
        · exact ((hst₁.1.at fun o e => hs₂.extBut _ o (Ne.symm hCI) e).at fun o e => hk₃ _ o e).at fun o e => stay (Ne.symm hCI) (Ne.symm hDI) ltI e
        · exact ((hst₁.2.at fun o e => hs₂.extBut _ o (Ne.symm hCa) e).at fun o e => hk₃ _ o e).at fun o e => stay (Ne.symm hCa) (Ne.symm hDa) lta e
        · rw [List.take_add_one, hv']
          exact Paired.snoc hP hGv
        · rw [hy₅, hys, List.map_append, List.flatten_append]; simp
        · have e5 := congrArg List.length hy₅
          rw [List.length_append] at e5
          simp only [Array.length_toList] at e5
          have := hG _ _ hGv
          omega
        · exact fun b o hbC hbI hbD e => by
            have e' := up hbC hbI (hkp b o hbC hbI hbD e)
            exact stay hbC hbD (Heap.lt_size e') e'
    exact compStart2_1 (key _ rfl) (wpAny_pyIter_listiter hIit (key _ rfl))
  · have hje : j = items.size := by omega
    subst hje
    refine wpAny_bind (wpAny_standAt (wpAny_bind (W.done _ _ _ ⟨hI', ha'⟩ fun h₁ tk₁ hk₁ => ?_)))
    refine wpAny_pure (hR h₁ tk₁ m' ys pieces (hn'.at' fun o e => hk₁ _ o (nI hCI) e) (hD'.at fun o e => hk₁ _ o (nI hDI) e) ?_ hys fun b o hbC hbI hbD e => hk₁ b o (nI hbI) (hkp b o hbC hbI hbD e))
    rw [← Array.length_toList, List.take_length] at hP
    exact hP
end
end LW
end
section
open PySem PySem.W PyProof.Rows PySem.Calls PySem.Spec
set_option linter.all false
set_option maxRecDepth 100000
set_option maxHeartbeats 4000000
namespace LW
section
variable {w : World} {A : Around} {E : Value → Shared → Prop} {s : Shared} {env : Env} {R : Result → Shared → Prop}
/-- two clauses over lists -/
theorem comp2_list {i1 i2 : PySem.Expr} {x y : Str} {px py py' : Pos} {scope : Scope} {cl : List (Str × Addr)} {pos : Pos} {Q : Value → Shared → Prop} (G : Value → Array Value → Prop) (hh : A.handled = none)
    (hclos : closureFor scope env = pure cl) (hcell : ∀ y ∈ scope.names, y.2 ≠ .cell) (hkind : scope.kind = .function)
    (hnames : ∀ y ∈ scope.names, y.2 = .local → scope.names.lookup y.1 = some .local) (hx : scope.names.lookup x = some .local) (hy : scope.names.lookup y = some .local) (hG : ∀ v its, G v its → its.size ≤ 1000)
    (h : wpAny (model P0 w) A (eval i1 env) (fun xv s₁ => ∃ a items, xv = .ref a ∧ s₁.heap.IsList a items ∧ items.size ≤ 1000 ∧
      (∀ C v s₃ m₃ E', s₁.heap.objs.size ≤ C → v ∈ items.toList → s₃.heap.Ns C m₃ → m₃ x = some v → Kp s₁.heap s₃.heap →
        wpAny (model P0 w) A (eval i2 (compEnvC scope cl C env)) (fun xv s₄ => ∃ T its, xv = .ref T ∧ s₄.heap.IsList T its ∧ T < s₁.heap.objs.size ∧ G v its ∧ Keeps s₃ s₄) E' s₃) ∧
      (∀ D h' tk ys pieces, s₁.heap.get? D = none → h'.PlainList D ys → Paired G items.toList pieces → ys.toList = (pieces.map Array.toList).flatten → Kp s₁.heap h' → Q (.ref D) { s₁ with heap := h', toks := tk })) E s)
    (hs : ∀ x, foldedSetIterable i1 env x = pure x := by intro _; rfl) (hf : ∀ C v, foldedSetIterable i2 (compEnvC scope cl C env) v = pure v := by intro _ _; rfl) (hd : (y == ("__debug__" : Str)) = false := by decide) :
    wpAny (model P0 w) A (eval (.ListComp (.Name y py') [⟨.Name x px, i1, [], 0⟩, ⟨.Name y py, i2, [], 0⟩] scope pos) env) Q E s := by
  rw [eval_ListComp]
  refine wpAny_comprehension_free (use := none) rfl hs hclos hkind hnames (wpAny_mono h (fun xv s₁ h₁ => ?_) fun _ _ e => e)
  obtain ⟨a, items, rfl, ha, hsz, hel, hQ⟩ := h₁
  refine wpAny_pyIter_list ha ?_
  have hal : a < s₁.heap.objs.size := by obtain ⟨o, ho, _⟩ := ha; exact Heap.lt_size ho
  have hup : Kp s₁.heap (s₁.heap.push { cls := .type "list_iterator", data := .fields #[.ref a, .int 0 0] }) := fun b o' e => Heap.get?_push_of_some _ e
  generalize hH1 : s₁.heap.push { cls := .type "list_iterator", data := .fields #[.ref a, .int 0 0] } = H1 at hup ⊢
  have sz1 : H1.objs.size = s₁.heap.objs.size + 1 := by rw [← hH1, Heap.size_push]
  have hI1 : H1.IsListIter s₁.heap.objs.size a 0 := by rw [← hH1]; exact ⟨_, Heap.get?_push_size _ rfl, rfl, rfl⟩
  refine wpAny_newObj_type (wpAny_newFunctionEnv hcell (by intro y hy; simp at hy) (fun h₁ hns₁ hsb₁ => ?_) hkind)
  dsimp only at hns₁ hsb₁ ⊢
  generalize hH2 : H1.push { cls := .type "list", dict := none, data := .seq ([] : List Value).toArray } = H2 at hns₁ hsb₁ ⊢
  have sz2 : H2.objs.size = H1.objs.size + 1 := by rw [← hH2, Heap.size_push]
  have up2 : ∀ {b o}, b < H1.objs.size → H1.get? b = some o → h₁.get? b = some o := fun {b o} hb e => hsb₁.extBut b o (by rw [sz2]; exact Nat.ne_of_lt (Nat.lt_succ_of_lt hb)) (Heap.get?_push_of_some _ (hH2 ▸ Heap.get?_push_of_some _ e))
  have hDC : H1.objs.size ≠ H2.objs.size := by rw [sz2]; exact Nat.ne_of_lt (Nat.lt_succ_self _)
  have hacc : h₁.PlainList H1.objs.size #[] := ⟨_, hsb₁.extBut _ _ hDC (Heap.get?_push_of_some _ (hH2 ▸ Heap.get?_push_size _ rfl))⟩
  have up : Kp s₁.heap h₁ := fun b o e => up2 (Heap.lt_size (hup b o e)) (hup b o e)
  have hI2 : h₁.IsListIter s₁.heap.objs.size a 0 := hI1.at fun o e => up2 (Heap.lt_size e) e
  have below : ∀ {b}, b < s₁.heap.objs.size → b ≠ H2.objs.size ∧ b ≠ H1.objs.size ∧ b ≠ s₁.heap.objs.size := fun {b} hb => ⟨by rw [sz2, sz1]; omega, by rw [sz1]; omega, Nat.ne_of_lt hb⟩
  have loop : ∀ s₃ : Shared, s₃ = { s₁ with heap := h₁, toks := s₁.toks + ([] : List (Str × Value)).length } →
      codeAny (model P0 w) A (.compLoop (.ListComp (.Name y py') [⟨.Name x px, i1, [], 0⟩, ⟨.Name y py, i2, [], 0⟩] scope pos) 0 (.ref s₁.heap.objs.size) (.ref H1.objs.size) (compEnvC scope cl H2.objs.size env))
        (compPost (model P0 w) A E none Q (.ref H1.objs.size) H2.objs.size) s₃ := by
    rintro s₃ rfl
    refine comp2_outer (env := compEnvC scope cl H2.objs.size env) hh G hI2 (ha.at fun o e => up a o e) hacc hns₁ (Nat.ne_of_lt hal) (Nat.ne_of_gt (by rw [sz1]; exact Nat.lt_succ_self _)) (Nat.ne_of_gt (by rw [sz1]; exact Nat.lt_succ_of_lt hal)) (Nat.ne_of_gt (by show _ < H2.objs.size; rw [sz2, sz1]; exact Nat.lt_succ_of_lt (Nat.lt_succ_self _))) (Nat.ne_of_gt (by show _ < H2.objs.size; rw [sz2, sz1]; exact Nat.lt_succ_of_lt (Nat.lt_succ_of_lt hal))) hDC
      hkind (lookup_relabel_local hx) (lookup_relabel_local hy) hsz hG ?_ ?_ (hf _) hd
    · intro v s₂ m₂ E' hv hn₂ hm₂ hk₂
      refine wpAny_mono (hel H2.objs.size v s₂ m₂ E' (by rw [sz2, sz1]; omega) hv hn₂ hm₂ fun b o e => ?_) (fun xv s₃ h₃ => ?_) fun _ _ e => e
      · have hb := below (Heap.lt_size e)
        exact hk₂ b o hb.1 hb.2.2 hb.2.1 (up b o e)
      · obtain ⟨T, its, rfl, hT, hlt, hGv, hkp⟩ := h₃
        exact ⟨T, its, rfl, hT, Nat.ne_of_lt (by rw [sz1]; exact Nat.lt_succ_of_lt hlt), hGv, hkp⟩
    · intro h' tk m' ys pieces hn' hD' hP hys hk'
      refine ⟨m', hn', fun h'' hs'' => hQ H1.objs.size h'' tk ys pieces ?_ (hD'.at fun o e => hs''.extBut _ o hDC e) hP hys fun b o e => ?_⟩
      · exact Heap.get?_none_of_le (by rw [sz1]; exact Nat.le_succ _)
      · have hb := below (Heap.lt_size e)
        exact hs''.extBut b o hb.1 (hk' b o hb.1 hb.2.2 hb.2.1 (up b o e))
  exact codeAny_compStart_list (loop _ rfl) (wpAny_pyIter_listiter hI2 (loop _ rfl))
/-- lists from the items of a list -/
theorem comp_listO {elt iter : PySem.Expr} {x : Str} {px : Pos} {scope : Scope} {cl : List (Str × Addr)} {pos : Pos} {Q : Value → Shared → Prop} (G : Value → Array Value → Prop) (hh : A.handled = none)
    (hclos : closureFor scope env = pure cl) (hcell : ∀ y ∈ scope.names, y.2 ≠ .cell) (hkind : scope.kind = .function)
    (hnames : ∀ y ∈ scope.names, y.2 = .local → scope.names.lookup y.1 = some .local) (hx : scope.names.lookup x = some .local)
    (h : wpAny (model P0 w) A (eval iter env) (fun xv s₁ => ∃ a items, xv = .ref a ∧ s₁.heap.IsList a items ∧ items.size ≤ 1000000 ∧
      (∀ C v s₃ m₃ E', s₁.heap.objs.size ≤ C → v ∈ items.toList → s₃.heap.Ns C m₃ → m₃ x = some v → Kp s₁.heap s₃.heap →
        wpAny (model P0 w) A (eval elt (compEnvC scope cl C env)) (fun y s₄ => (∃ T its, y = .ref T ∧ s₃.heap.get? T = none ∧ s₄.heap.IsList T its ∧ G v its) ∧ Keeps s₃ s₄) E' s₃) ∧
      (∀ D h' tk ys, s₁.heap.get? D = none → h'.PlainList D ys → Paired (LstIs s₁.heap G h') items.toList ys.toList → (∀ y ∈ ys.toList, y ≠ .ref D) → Kp s₁.heap h' → Q (.ref D) { s₁ with heap := h', toks := tk })) E s)
    (hs : ∀ x, foldedSetIterable iter env x = pure x := by intro _; rfl) :
    wpAny (model P0 w) A (eval (.ListComp elt [⟨.Name x px, iter, [], 0⟩] scope pos) env) Q E s := by
  refine wpAny_ListComp_freeO (fun _ => true) G hclos hcell hkind hnames hx (wpAny_mono h (fun xv s₁ h₁ => ?_) fun _ _ e => e) hs
  obtain ⟨a, items, rfl, hl, hsz, hel, hQ⟩ := h₁
  refine wpAny_pyIter_list hl ?_
  have hup : Kp s₁.heap (s₁.heap.push { cls := .type "list_iterator", data := .fields #[.ref a, .int 0 0] }) := fun b o' e => Heap.get?_push_of_some _ e
  have hal : a < s₁.heap.objs.size := by obtain ⟨o, ho, _⟩ := hl; exact Heap.lt_size ho
  refine ⟨_, _, _, _, _, _, rfl, Walks.list hh s₁.heap.objs.size a (Nat.ne_of_lt hal) items, sizeFits _ hsz, ?_, ⟨⟨_, Heap.get?_push_size _ rfl, rfl, rfl⟩, hl.at fun o e => hup a o e⟩, ?_, ⟨fun C i v s₃ m₃ E' _ _ _ _ _ _ => wpAny_tests_nil ⟨rfl, s₃.heap, s₃.toks, rfl, fun _ _ e => e⟩, ?_⟩, ?_⟩
  · rintro i h ⟨⟨o, ho, _⟩, _⟩ b hb
    rw [List.mem_singleton.mp hb]; exact ⟨o, ho⟩
  · intro b hb
    show _ < (s₁.heap.push _).objs.size
    rw [Heap.size_push]
    rcases List.mem_cons.mp hb with rfl | hb
    · exact Nat.lt_succ_self _
    · rw [List.mem_singleton.mp hb]; exact Nat.lt_succ_of_lt hal
  · intro C i v s₃ m₃ E' hC hi _ hn₃ hm hk _
    have hv : v ∈ items.toList := by
      have : items.toList[i]? = some v := by simpa using hi
      exact List.mem_of_getElem? this
    exact hel C v s₃ m₃ E' (Nat.le_trans (by show _ ≤ (s₁.heap.push _).objs.size; rw [Heap.size_push]; exact Nat.le_succ _) hC) hv hn₃ hm fun b o' e => hk b o' (fresh_not e) (hup b o' e)
  · intro D h' tk ys vs hD _ hpl hlen hP hF _ hDy hk
    rw [List.filter_eq_self.mpr (fun _ _ => rfl)] at hF
    have hvs : vs = items.toList := by
      apply List.ext_getElem?
      intro j
      cases e : vs[j]? with
      | some v =>
        have := hP j v e
        simpa using this.symm
      | none =>
        have : items.toList.length ≤ j := by have := List.getElem?_eq_none_iff.mp e; simpa [hlen] using this
        exact (List.getElem?_eq_none this).symm
    subst hvs
    refine hQ D h' tk ys (none_back hup hD) hpl (hF.mono fun v y h => ?_) hDy fun b o' e => hk b o' (fresh_not e) (hup b o' e)
    obtain ⟨T, its, e, h1, h2, h3⟩ := h
    exact ⟨T, its, e, none_back hup h1, h2, h3⟩
end
end LW
end
section
open PySem PySem.W PyProof.Rows PySem.Calls PySem.Spec
set_option linter.all false
set_option maxRecDepth 100000
set_option maxHeartbeats 4000000
namespace LW
section
variable {w : World} {A : Around} {E : Value → Shared → Prop} {s : Shared} {env : Env}
theorem sum_call {l : Addr} {items : Array Value} {ns : List Int} {Q : Value → Shared → Prop} (hh : A.handled = none) (hl : s.heap.IsList l items) (hi : IntsAre items.toList ns)
    (h : ∀ h' tk t', Kp s.heap h' → Q (.int ns.sum t') { s with heap := h', toks := tk }) : wpAny (model P0 w) A (call (.builtin "sum") [.ref l]) Q E s := by
  refine call_sum_walkG ?_
  refine wpAny_pyIter_list hl ?_
  have hup : Kp s.heap (s.heap.push { cls := .type "list_iterator", data := .fields #[.ref l, .int 0 0] }) := fun b o' e => Heap.get?_push_of_some _ e
  have hal : l < s.heap.objs.size := by obtain ⟨o, ho, _⟩ := hl; exact Heap.lt_size ho
  have hlen := hi.length
  refine ⟨_, _, _, _, _, _, fun i => ns.getD i 0, rfl, Walks.list (A := A.in1) hh s.heap.objs.size l (Nat.ne_of_lt hal) items, ⟨⟨_, Heap.get?_push_size _ rfl, rfl, rfl⟩, hl.at fun o e => hup l o e⟩, ?_, ?_, ?_⟩
  · intro b hb
    show _ < (s.heap.push _).objs.size
    rw [Heap.size_push]
    rcases List.mem_cons.mp hb with rfl | hb
    · exact Nat.lt_succ_self _
    · rw [List.mem_singleton.mp hb]; exact Nat.lt_succ_of_lt hal
  · intro i v hv
    have hv' : items.toList[i]? = some v := by simpa using hv
    have hlt : i < ns.length := by rw [← hlen]; exact (List.getElem?_eq_some_iff.mp hv').1
    obtain ⟨t, ht⟩ := hi.get i _ (List.getElem?_eq_getElem hlt)
    rw [hv'] at ht
    exact ⟨t, by rw [Option.some.inj ht]; simp [List.getD, hlt]⟩
  · intro h' tk t' hk
    have e : preSum (fun i => ns.getD i 0) items.size = ns.sum := by
      rw [preSum_getD]
      have : items.size = ns.length := by rw [← hlen]; simp
      rw [this, List.take_length]
    rw [e]
    exact h h' tk t' fun b o' e => hk b o' (fresh_not e) (hup b o' e)
end
end LW
end
section
open PySem PySem.W PyProof.Rows PySem.Calls PySem.Spec
set_option linter.all false
set_option maxRecDepth 100000
set_option maxHeartbeats 4000000
namespace LW
/-- the five tables of _law_written -/
def tabL : Nat → List (Nat × List Nat)
  | 0 => [(38, [38, 97, 109, 112, 59]), (60, [38, 108, 116, 59]), (62, [38, 103, 116, 59])]
  | 1 => [(38, [38, 97, 109, 112, 59]), (60, [38, 108, 116, 59]), (62, [38, 103, 116, 59]), (34, [38, 113, 117, 111, 116, 59]), (13, [38, 35, 49, 51, 59]), (10, [38, 35, 49, 48, 59]), (9, [38, 35, 48, 57, 59])]
  | 2 => [(38, [38, 97, 109, 112, 59]), (62, [38, 103, 116, 59]), (34, [38, 113, 117, 111, 116, 59])]
  | 3 => [(38, [38, 97, 109, 112, 59]), (60, [38, 108, 116, 59]), (62, [38, 103, 116, 59]), (13, [38, 35, 120, 68, 59])]
  | _ => [(38, [38, 97, 109, 112, 59]), (60, [38, 108, 116, 59]), (34, [38, 113, 117, 111, 116, 59]), (13, [38, 35, 120, 68, 59]), (10, [38, 35, 120, 65, 59]), (9, [38, 35, 120, 57, 59])]
def look : List (Nat × List Nat) → Nat → List Nat
  | [], c => [c]
  | (a, z) :: r, c => if c = a then z else look r c
def esc (k : Nat) (l : List Nat) : List Nat := l.flatMap (look (tabL k))
def datL (T : List (Nat × List Nat)) : List (PyData × PyData) := T.map fun p => (.str (mk [p.1]), .str (mk p.2))
theorem look_dat (c : Nat) : ∀ T : List (Nat × List Nat), (Spec.lookup (.str (mk [c])) (datL T)).getD (.str (mk [c])) = .str (mk (look T c))
  | [] => rfl
  | (a, z) :: r => by
    have ih := look_dat c r
    have e : Spec.same (.str (mk [a])) (.str (mk [c])) = decide (c = a) := by
      rw [PyProof.V.same_str]
      apply decide_eq_decide.mpr
      constructor
      · intro h
        have : [a].toArray = [c].toArray := congrArg Str.cps h
        have : [a] = [c] := by simpa using this
        exact (List.cons.inj this).1.symm
      · rintro rfl; rfl
    show (Spec.lookup (.str (mk [c])) ((.str (mk [a]), .str (mk z)) :: datL r)).getD _ = _
    unfold Spec.lookup look
    rw [e]
    by_cases h : c = a
    · simp [h]
    · simp only [h, decide_false, if_false]
      exact ih
section
variable {w : World} {A : Around} {E : Value → Shared → Prop} {s : Shared} {env : Env}
theorem written_comp {p1 p2 p3 p4 p5 p6 p7 pos : Pos} {scope : Scope} {d c0 : Addr} {T : List (Nat × List Nat)} {l : List Nat} {t : Tok} {m : Str → Option Value} {Q : Value → Shared → Prop} (hn : l.length ≤ 1000000) (hh : A.handled = none)
    (hns : s.heap.Ns env.locals m) (hm : m (S "text") = some (.str (mk l) t)) (hc : s.heap.IsCell c0 (some (.ref d))) (HT : TabAt (PySem.strKind P0 w) PyData.str s.heap d (datL T))
    (hk : env.scope.kind = .function) (hl : env.kindOf (S "text") = some .local)
    (hclos : closureFor scope env = pure [(S "table", c0)]) (hcell : ∀ y ∈ scope.names, y.2 ≠ .cell) (hkind : scope.kind = .function)
    (hnames : ∀ y ∈ scope.names, y.2 = .local → scope.names.lookup y.1 = some .local) (hx : scope.names.lookup (S "sign") = some .local)
    (hkt : ∀ C, (compEnvC scope [(S "table", c0)] C env).kindOf (S "table") = some .cell)
    {pl : Addr → Sem Bool} (he : ∀ C, eval (.Call (.Attribute (.Name (S "table") p1) (S "get") p2) [.Name (S "sign") p3, .Name (S "sign") p4] [] p5) (compEnvC scope [(S "table", c0)] C env) = (do
      let ov ← eval (.Name (S "table") p1) (compEnvC scope [(S "table", c0)] C env)
      standAt p2.atName
      let (f, first) ← holding [ov] (getMethod ov (S "get") (pl C))
      callWith p5 f first (backTo p5 (starEach [.Name (S "sign") p3, .Name (S "sign") p4] (compEnvC scope [(S "table", c0)] C env))) []))
    (hQ : ∀ D h' tk ys, s.heap.get? D = none → h'.PlainList D ys → Txts (l.map (look T)) ys.toList → Kp s.heap h' → Q (.ref D) { s with heap := h', toks := tk })
    (hs : ∀ x, foldedSetIterable (.Name (S "text") p7) env x = pure x := by intro _; rfl) :
    wpAny (model P0 w) A (eval (.ListComp (.Call (.Attribute (.Name (S "table") p1) (S "get") p2) [.Name (S "sign") p3, .Name (S "sign") p4] [] p5) [⟨.Name (S "sign") p6, .Name (S "text") p7, [], 0⟩] scope pos) env) Q E s := by
  refine comp_str (l := l) (fun c y => ∃ t, y = .str (mk (look T c)) t) hn hh hclos hcell hkind hnames hx ?_ hs
  refine nm_loc hns hm hk hl ?_
  refine ⟨t, rfl, ?_, fun D h' tk ys hD hp hF hk => hQ D h' tk ys hD hp (Txts.map hF) hk⟩
  intro C c u s₃ m₃ E' hC hcl hn₃ hm₃ hkp
  have hke : (compEnvC scope [(S "table", c0)] C env).scope.kind = .function := hkind
  have hsg : (compEnvC scope [(S "table", c0)] C env).kindOf (S "sign") = some .local := lookup_relabel_local hx
  have T3 : StrTab P0 w s₃.heap d (datL T) := by
    obtain ⟨h1, kvs, h2, h3⟩ := HT
    exact ⟨h1, kvs, h2.at (hkp d), h3⟩
  refine MethodCall_ (pl := pl C) ?_ (he C)
  refine nm_cell (c := c0) (v := .ref d) rfl ?_ hke (hkt C) ?_
  · obtain ⟨o, ho, hd⟩ := hc
    exact ⟨o, hkp _ _ ho, hd⟩
  refine getMethod_strTab_get T3 ?_
  refine callWith_method1 ?_
  refine spliced_more ?_
  refine nm_loc hn₃ hm₃ hke hsg ?_
  refine spliced_more ?_
  refine nm_loc hn₃ hm₃ hke hsg ?_
  refine spliced_none ?_
  refine call_get2_strTab T3 (dd := .str (mk [c])) (PyProof.V.Flat.str _ _) ?_
  intro v hv
  rw [show (⟨#[c]⟩ : Str) = mk [c] from rfl, look_dat] at hv
  obtain ⟨tv, rfl⟩ := hv.str_inv
  exact ⟨⟨_, rfl⟩, _, _, rfl, fun _ _ e => e⟩
end
end LW
end
section
open PySem PySem.W PyProof.Rows PySem.Calls PySem.Spec
set_option linter.all false
set_option maxRecDepth 100000
set_option maxHeartbeats 4000000
namespace LW
section
variable {w : World} {mean : ExcName → Option Value} {mg mb : Str → Option Value} {A : Around} {base : Heap} {outer : List Env} {n : Nat}
theorem enterC {s : Shared} {Q E : Value → Shared → Prop} {f : Addr} {name qual : Str} {params : Arguments} {body : List Stmt} {scope : Scope} {pm cdv oc : Value} {od : Option Addr} {osl : Array (Option Value)} {args : List Value} {binds : List (Str × Value)}
    (c : Cx w mean mg mb A base outer s.heap (n + 1))
    (ho : (KK w.params).lookup f = some ⟨oc, od, .func (fnOf name qual params body scope .none .none .none pm none cdv .none), osl⟩) (hcd : codeIn (KK w.params) cdv qual = true)
    (hbind : bindArgs (fnOf name qual params body scope .none .none .none pm none cdv .none) ⟨args, []⟩ = pure binds)
    (hkind : (binds.all fun y => scope.names.lookup y.1 == some .local || scope.names.lookup y.1 == some .cell) = true)
    (hnd : ((cellsFrom 0 scope.names []).map (·.1)).Nodup)
    (h : ∀ h₁ L tk cells, Fr s.heap L h₁ (bindL (envOfC qual scope L f cdv).kindOf binds fun _ => none) → News s.heap L h₁ cells →
      CellsAre (bindC (envOfC qual scope L f cdv).kindOf binds fun _ => none) (cellsFrom (L + 1) scope.names []) cells →
      wpAny (model P0 w) (A.deeper (envOfC qual scope L f cdv)) (execs body (envOfC qual scope L f cdv))
        (fun fl s' => Q (match fl with | .ret v => v | _ => .none) s') (fun _ _ => False) { s with heap := h₁, toks := tk })
    (hco : scope.isCoroutine = false := by rfl) (hgen : scope.isGenerator = false := by rfl) (hk : scope.kind = .function := by rfl) : wpAny (model P0 w) A (call (.ref f) args) Q E s := by
  refine wpAny_call ?_
  refine codeAny_call_function (fd := fnOf name qual params body scope .none .none .none pm none cdv .none) (by have := c.hd; omega) (c.X _ _ ho) rfl hco hgen rfl (codeRec_of c.X hcd) ((BindsTo.of_eq hbind) _ _ _ _ ?_)
  refine wpAny_newFunctionEnv_cells hk (kindsX hkind _) fun env' he s' x => ?_
  subst he
  refine ⟨c.T.nolimit.keeps x.toInCall.keep, codeAny_func ?_⟩
  obtain ⟨h₁, tk, rfl, _⟩ := x.done
  have hk₁ := x.toInCall.keep
  obtain ⟨cells, NC, Y⟩ := Cl.news (h₀ := s.heap) (Nat.le_refl _) fun n c hm => ⟨x.cell n c (lookup_of_mem_nodup (cellsFrom_names scope.names 0 (s.heap.objs.size + 1) [] [] rfl ▸ hnd) hm), x.above n c hm⟩
  exact wpAny_mono (h h₁ s.heap.objs.size tk cells ⟨x.toInCall.ns, hk₁, Nat.le_refl _⟩ NC Y) (fun _ _ y => y) fun _ _ y => y.elim
local macro_rules | `(tactic| walk_at "subscriptTail") => `(tactic| refine LW.held ?_)
/-- the text that _law_written makes -/
theorem esc_len_le (k : Nat) (c : Nat) : (look (tabL k) c).length ≤ 6 := by
  have go : ∀ T : List (Nat × List Nat), (∀ p ∈ T, p.2.length ≤ 6) → (look T c).length ≤ 6 := by
    intro T
    induction T with
    | nil => intro _; simp [look]
    | cons p r ih =>
      intro h
      obtain ⟨a, z⟩ := p
      unfold look
      split
      · exact h _ (.head _)
      · exact ih fun q hq => h q (.tail _ hq)
  apply go
  match k with
  | 0 => decide
  | 1 => decide
  | 2 => decide
  | 3 => decide
  | n + 4 => exact (show ∀ p ∈ tabL 4, p.2.length ≤ 6 by decide)
theorem esc_le (k : Nat) : ∀ l : List Nat, (esc k l).length ≤ 6 * l.length
  | [] => by simp [esc]
  | c :: r => by
    have ih := esc_le k r
    have h := esc_len_le k c
    unfold esc at ih ⊢
    rw [List.flatMap_cons, List.length_append, List.length_cons]
    omega
theorem flatten_map (f : Nat → List Nat) (l : List Nat) : (l.map f).flatten = l.flatMap f := rfl
theorem mkHT {h₀ h : Heap} {L d : Addr} {news : List (Addr × Obj)} {o oc : Obj} {kvs : List (Str × Value)} {D : List (PyData × PyData)} {T : List (Nat × List Nat)} (N : News h₀ L h news) (dC : oc.data = Data.cell (some (Value.ref d)))
    (hm : (d, o) ∈ news) (lo : (d == sysModules) = false) (hd : Obj.IsDictOf (PySem.strKind P0 w) o kvs) (hf : PyProof.V.FlatPairs PyData.str kvs D) (e : D = datL T) : TabAt (PySem.strKind P0 w) PyData.str h d (datL T) := by
  subst e
  exact TabAt.ofObj lo (N _ hm).1 hd hf
theorem item5 {A : Around} {E : Value → Shared → Prop} {s : Shared} {Q : Value → Shared → Prop} {value slice : PySem.Expr} {D : Addr} {u : Tok} {kn : Nat} {v0 v1 v2 v3 v4 : Value} (ht : IsTup s.heap D [v0, v1, v2, v3, v4].toArray) (hk : kn < 5)
    (h : ∀ v, (kn = 0 ∧ v = v0) ∨ (kn = 1 ∧ v = v1) ∨ (kn = 2 ∧ v = v2) ∨ (kn = 3 ∧ v = v3) ∨ (kn = 4 ∧ v = v4) → Q v s)
    (hs : ∀ kn : Nat, subscripted slice false (.ref D) (.int (kn : Int) u) = operate [.ref D, .int (kn : Int) u] (getItem (.ref D) (.int (kn : Int) u)) := by intro _; with_unfolding_all rfl) :
    wpAny (model P0 w) A (subscriptTail value slice (.ref D) (.int (kn : Int) u)) Q E s := by
  rcases (by omega : kn = 0 ∨ kn = 1 ∨ kn = 2 ∨ kn = 3 ∨ kn = 4) with rfl | rfl | rfl | rfl | rfl
  · exact item_tupleT ht (by decide) (by decide) (j := 0) (by rfl) (by rfl) (h _ (.inl ⟨rfl, rfl⟩)) (hs _)
  · exact item_tupleT ht (by decide) (by decide) (j := 1) (by rfl) (by rfl) (h _ (.inr (.inl ⟨rfl, rfl⟩))) (hs _)
  · exact item_tupleT ht (by decide) (by decide) (j := 2) (by rfl) (by rfl) (h _ (.inr (.inr (.inl ⟨rfl, rfl⟩)))) (hs _)
  · exact item_tupleT ht (by decide) (by decide) (j := 3) (by rfl) (by rfl) (h _ (.inr (.inr (.inr (.inl ⟨rfl, rfl⟩))))) (hs _)
  · exact item_tupleT ht (by decide) (by decide) (j := 4) (by rfl) (by rfl) (h _ (.inr (.inr (.inr (.inr ⟨rfl, rfl⟩))))) (hs _)
abbrev wEnv (L : Addr) : Env := envOfC (fName (st 17)) (fScope (st 17)) L 146 (.ref 145)
def wst1 : Stmt := (fBody (st 17)).getD 1 (.Pass default)
theorem written_fin {s : Shared} {h₀ : Heap} {L d : Addr} {m : Str → Option Value} {Q : Flow → Shared → Prop} {E : Value → Shared → Prop} {l : List Nat} {t : Tok} {k : Nat} {o oC : Obj} {v0 : Option Value} {kvs : List (Str × Value)} {D : List (PyData × PyData)} (hh : A.handled = none)
    (F : Fr h₀ L s.heap m) (N : News h₀ L s.heap [(d, o), (L + 1, oC)]) (hm : m (S "text") = some (.str (mk l) t)) (dC : oC.data = .cell v0) (hn : l.length ≤ 100000) (ne : @Ne Nat d (L + 1)) (lo : (d == sysModules) = false) (hd : Obj.IsDictOf (PySem.strKind P0 w) o kvs) (hf : PyProof.V.FlatPairs PyData.str kvs D) (e : D = datL (tabL k))
    (cont : ∀ h' tk t', Kp h₀ h' → Q (.ret (.str (mk (esc k l)) t')) { s with heap := h', toks := tk }) :
    wpAny (model P0 w) A (storeName (wEnv L) (S "table") (.ref d)) (fun _ s' => wpAny (model P0 w) A (execs [wst1] (wEnv L)) Q E s') E s := by
  refine storeX_C (cl := cellsFrom (L + 1) (fScope (st 17)).names []) (c := L + 1) F N (by rfl) (.tail ne (.head (by k_all))) dC ?_
  intro h2 oC2 F2 N2 dC2
  have hle := esc_le k l
  have HT := mkHT (T := tabL k) N2 dC2 (.head _) lo hd hf e
  refine wpAny_execs_cons ?_
  conv in wst1 => whnf
  refine wpAny_Return_some ?_
  refine MethodCall_ ?_ (by rfl)
  refine Calls.Constant_str ?_
  refine GM.join ?_
  refine callWith_method1 ?_
  refine spliced_more ?_
  refine written_comp (T := tabL k) (l := l) (by omega) hh F2.ns hm ⟨_, (N2 (L + 1, _) (by k_mem)).1, dC2⟩ HT rfl rfl (by with_unfolding_all rfl) (by decide) rfl (by decide) rfl (fun C => rfl) (fun C => rfl) ?_
  intro D' h' tk ys hD hp hF hkp
  refine spliced_none ?_
  refine join_call (L := l.map (look (tabL k))) hp.isList hF (by decide) (by rw [flatten_map]; show (esc k l).length ≤ _; omega) ?_
  intro t' k'
  rw [flatten_map]
  exact cont _ _ _ fun b o e => hkp b o (F2.keep b o e)
theorem written_call {s : Shared} {Q E : Value → Shared → Prop} {l : List Nat} {t : Tok} {k : Nat} {tk0 : Tok} (h5 : k < 5) (hn : l.length ≤ 100000)
    (cx : Cx w mean mg mb A base outer s.heap 2) (hQ : ∀ t' h' tk, Kp s.heap h' → Q (.str (mk (esc k l)) t') { s with heap := h', toks := tk }) : wpAny (model P0 w) A (call (.ref 146) [.int (k : Int) tk0, .str (mk l) t]) Q E s := by
  have hkf : (KK w.params).In s.heap ∧ PySem.Challenge.rw_wa0043_01 = PySem.Challenge.rw_wa0043_01 := by
    k_fill
    exact ⟨cx.X, rfl⟩
  clear hkf
  refine enterC cx (binds := [(S "way", .int (k : Int) tk0), (S "text", .str (mk l) t)]) (by k_is) (by k_is) rfl (by rfl) (by decide) ?_
  intro h₁ L tk cells F N Y
  have X := cx.X
  have T := cx.T
  have B := cx.B
  k_cells Y
  rename (_ = Data.cell _) => dC0
  rename Obj => oC0
  with_reducible show wpAny _ _ _ _ _ _
  (try dsimp only)
  k_fold
  have hbig : sysModules < s.heap.objs.size := modules_low cx.T.nolimit
  have hle := esc_le k l
  k_steps
  unfold Held
  rename Fr _ _ _ _ => F9
  rename News _ _ _ _ => N9
  rename Obj.IsDictOf _ _ (strPairs [(Value.str (Str.ofString "&") _, _), (Value.str (Str.ofString "<") _, _), (Value.str (Str.ofString ">") _, _)]) => hd0
  rename PyProof.V.FlatPairs _ (strPairs [(Value.str (Str.ofString "&") _, _), (Value.str (Str.ofString "<") _, _), (Value.str (Str.ofString ">") _, _)]) _ => hf0
  rename Obj.IsDictOf _ _ (strPairs [(Value.str (Str.ofString "&") _, _), (Value.str (Str.ofString "<") _, _), (Value.str (Str.ofString ">") _, _), (Value.str (Str.ofString "\"") _, _), (Value.str (Str.ofString "\r") _, _), (Value.str (Str.ofString "\n") _, _), (Value.str (Str.ofString "\t") _, _)]) => hd1
  rename PyProof.V.FlatPairs _ (strPairs [(Value.str (Str.ofString "&") _, _), (Value.str (Str.ofString "<") _, _), (Value.str (Str.ofString ">") _, _), (Value.str (Str.ofString "\"") _, _), (Value.str (Str.ofString "\r") _, _), (Value.str (Str.ofString "\n") _, _), (Value.str (Str.ofString "\t") _, _)]) _ => hf1
  rename Obj.IsDictOf _ _ (strPairs [(Value.str (Str.ofString "&") _, _), (Value.str (Str.ofString ">") _, _), (Value.str (Str.ofString "\"") _, _)]) => hd2
  rename PyProof.V.FlatPairs _ (strPairs [(Value.str (Str.ofString "&") _, _), (Value.str (Str.ofString ">") _, _), (Value.str (Str.ofString "\"") _, _)]) _ => hf2
  rename Obj.IsDictOf _ _ (strPairs [(Value.str (Str.ofString "&") _, _), (Value.str (Str.ofString "<") _, _), (Value.str (Str.ofString ">") _, _), (Value.str (Str.ofString "\r") _, _)]) => hd3
  rename PyProof.V.FlatPairs _ (strPairs [(Value.str (Str.ofString "&") _, _), (Value.str (Str.ofString "<") _, _), (Value.str (Str.ofString ">") _, _), (Value.str (Str.ofString "\r") _, _)]) _ => hf3
  rename Obj.IsDictOf _ _ (strPairs [(Value.str (Str.ofString "&") _, _), (Value.str (Str.ofString "<") _, _), (Value.str (Str.ofString "\"") _, _), (Value.str (Str.ofString "\r") _, _), (Value.str (Str.ofString "\n") _, _), (Value.str (Str.ofString "\t") _, _)]) => hd4
  rename PyProof.V.FlatPairs _ (strPairs [(Value.str (Str.ofString "&") _, _), (Value.str (Str.ofString "<") _, _), (Value.str (Str.ofString "\"") _, _), (Value.str (Str.ofString "\r") _, _), (Value.str (Str.ofString "\n") _, _), (Value.str (Str.ofString "\t") _, _)]) _ => hf4
  refine item5 ⟨_, (N9 _ (.head _)).1, rfl, _, rfl⟩ h5 ?_
  rintro v (⟨hk, rfl⟩ | ⟨hk, rfl⟩ | ⟨hk, rfl⟩ | ⟨hk, rfl⟩ | ⟨hk, rfl⟩)
  · refine written_fin (k := k) (l := l) cx.hh F9 (fun p hp => N9 p ?_) rfl dC0 hn ?_ (by assumption) hd0 hf0 (by rw [hk]; kernel_rfl) ?_
    · rcases List.mem_cons.mp hp with rfl | hp
      · k_mem
      · rw [List.mem_singleton.mp hp]; k_mem
    · refine neN ?_
      omega
    · intro h' tk' t' hk'
      exact hQ t' h' tk' hk'
  · refine written_fin (k := k) (l := l) cx.hh F9 (fun p hp => N9 p ?_) rfl dC0 hn ?_ (by assumption) hd1 hf1 (by rw [hk]; kernel_rfl) ?_
    · rcases List.mem_cons.mp hp with rfl | hp
      · k_mem
      · rw [List.mem_singleton.mp hp]; k_mem
    · refine neN ?_
      omega
    · intro h' tk' t' hk'
      exact hQ t' h' tk' hk'
  · refine written_fin (k := k) (l := l) cx.hh F9 (fun p hp => N9 p ?_) rfl dC0 hn ?_ (by assumption) hd2 hf2 (by rw [hk]; kernel_rfl) ?_
    · rcases List.mem_cons.mp hp with rfl | hp
      · k_mem
      · rw [List.mem_singleton.mp hp]; k_mem
    · refine neN ?_
      omega
    · intro h' tk' t' hk'
      exact hQ t' h' tk' hk'
  · refine written_fin (k := k) (l := l) cx.hh F9 (fun p hp => N9 p ?_) rfl dC0 hn ?_ (by assumption) hd3 hf3 (by rw [hk]; kernel_rfl) ?_
    · rcases List.mem_cons.mp hp with rfl | hp
      · k_mem
      · rw [List.mem_singleton.mp hp]; k_mem
    · refine neN ?_
      omega
    · intro h' tk' t' hk'
      exact hQ t' h' tk' hk'
  · refine written_fin (k := k) (l := l) cx.hh F9 (fun p hp => N9 p ?_) rfl dC0 hn ?_ (by assumption) hd4 hf4 (by rw [hk]; kernel_rfl) ?_
    · rcases List.mem_cons.mp hp with rfl | hp
      · k_mem
      · rw [List.mem_singleton.mp hp]; k_mem
    · refine neN ?_
      omega
    · intro h' tk' t' hk'
      exact hQ t' h' tk' hk'
end
end LW
end
section
open PySem PySem.W PyProof.Rows PySem.Calls PySem.Spec
set_option linter.all false
set_option maxRecDepth 100000
set_option maxHeartbeats 4000000
namespace LW
theorem sub_one (a : Nat) (z : List Nat) (c : Nat) : sub a z [c] = if c = a then z else [c] := by simp [sub]
theorem hom_flat {f : List Nat → List Nat} {g : Nat → List Nat} (h0 : f [] = []) (h : ∀ a b, f (a ++ b) = f a ++ f b) (h1 : ∀ c, f [c] = g c) : ∀ l, f l = l.flatMap g
  | [] => h0
  | c :: r => by
    have ih := hom_flat h0 h h1 r
    have := h [c] r
    rw [List.flatMap_cons, ← h1, ← ih, ← this]; rfl
theorem esc0_eq (l : List Nat) : esc0 l = esc 0 l := by
  refine hom_flat (f := esc0) rfl (fun a b => by simp only [esc0, sub_append]) (fun c => ?_) l
  rw [show look (tabL 0) c = (if c = 38 then [38, 97, 109, 112, 59] else if c = 60 then [38, 108, 116, 59] else if c = 62 then [38, 103, 116, 59] else [c]) from rfl]
  unfold esc0
  by_cases h38 : c = 38
  · subst h38; decide
  by_cases h60 : c = 60
  · subst h60; decide
  by_cases h62 : c = 62
  · subst h62; decide
  simp only [sub_one, h38, h60, h62, if_false]
theorem esc1_eq (l : List Nat) : esc1 l = esc 1 l := by
  refine hom_flat (f := esc1) rfl (fun a b => by simp only [esc1, sub_append]) (fun c => ?_) l
  rw [show look (tabL 1) c = (if c = 38 then [38, 97, 109, 112, 59] else if c = 60 then [38, 108, 116, 59] else if c = 62 then [38, 103, 116, 59] else if c = 34 then [38, 113, 117, 111, 116, 59] else if c = 13 then [38, 35, 49, 51, 59] else if c = 10 then [38, 35, 49, 48, 59] else if c = 9 then [38, 35, 48, 57, 59] else [c]) from rfl]
  unfold esc1
  by_cases h38 : c = 38
  · subst h38; decide
  by_cases h60 : c = 60
  · subst h60; decide
  by_cases h62 : c = 62
  · subst h62; decide
  by_cases h34 : c = 34
  · subst h34; decide
  by_cases h13 : c = 13
  · subst h13; decide
  by_cases h10 : c = 10
  · subst h10; decide
  by_cases h9 : c = 9
  · subst h9; decide
  simp only [sub_one, h38, h60, h62, h34, h13, h10, h9, if_false]
theorem esc2_eq (l : List Nat) : esc2 l = esc 2 l := by
  refine hom_flat (f := esc2) rfl (fun a b => by simp only [esc2, sub_append]) (fun c => ?_) l
  rw [show look (tabL 2) c = (if c = 38 then [38, 97, 109, 112, 59] else if c = 62 then [38, 103, 116, 59] else if c = 34 then [38, 113, 117, 111, 116, 59] else [c]) from rfl]
  unfold esc2
  by_cases h38 : c = 38
  · subst h38; decide
  by_cases h62 : c = 62
  · subst h62; decide
  by_cases h34 : c = 34
  · subst h34; decide
  simp only [sub_one, h38, h62, h34, if_false]
theorem esc3_eq (l : List Nat) : esc3 l = esc 3 l := by
  refine hom_flat (f := esc3) rfl (fun a b => by simp only [esc3, sub_append]) (fun c => ?_) l
  rw [show look (tabL 3) c = (if c = 38 then [38, 97, 109, 112, 59] else if c = 60 then [38, 108, 116, 59] else if c = 62 then [38, 103, 116, 59] else if c = 13 then [38, 35, 120, 68, 59] else [c]) from rfl]
  unfold esc3
  by_cases h38 : c = 38
  · subst h38; decide
  by_cases h60 : c = 60
  · subst h60; decide
  by_cases h62 : c = 62
  · subst h62; decide
  by_cases h13 : c = 13
  · subst h13; decide
  simp only [sub_one, h38, h60, h62, h13, if_false]
theorem esc4_eq (l : List Nat) : esc4 l = esc 4 l := by
  refine hom_flat (f := esc4) rfl (fun a b => by simp only [esc4, sub_append]) (fun c => ?_) l
  rw [show look (tabL 4) c = (if c = 38 then [38, 97, 109, 112, 59] else if c = 60 then [38, 108, 116, 59] else if c = 34 then [38, 113, 117, 111, 116, 59] else if c = 13 then [38, 35, 120, 68, 59] else if c = 10 then [38, 35, 120, 65, 59] else if c = 9 then [38, 35, 120, 57, 59] else [c]) from rfl]
  unfold esc4
  by_cases h38 : c = 38
  · subst h38; decide
  by_cases h60 : c = 60
  · subst h60; decide
  by_cases h34 : c = 34
  · subst h34; decide
  by_cases h13 : c = 13
  · subst h13; decide
  by_cases h10 : c = 10
  · subst h10; decide
  by_cases h9 : c = 9
  · subst h9; decide
  simp only [sub_one, h38, h60, h34, h13, h10, h9, if_false]
/-- where the five writers stand -/
def wa : Nat → Addr
  | 0 => 99
  | 1 => 106
  | 2 => 113
  | 3 => 120
  | _ => 127
section
variable {w : World} {mean : ExcName → Option Value} {mg mb : Str → Option Value} {A : Around} {base : Heap} {outer : List Env} {n : Nat}
theorem writer_call {s : Shared} {Q E : Value → Shared → Prop} {l : List Nat} {t : Tok} {k : Nat} (hk : k < 5) (hx : l.length ≤ 50)
    (cx : Cx w mean mg mb A base outer s.heap 1) (hQ : ∀ t' h' tk, Kp s.heap h' → Q (.str (mk (esc k l)) t') { s with heap := h', toks := tk }) : wpAny (model P0 w) A (call (.ref (wa k)) [.str (mk l) t]) Q E s := by
  rcases (by omega : k = 0 ∨ k = 1 ∨ k = 2 ∨ k = 3 ∨ k = 4) with rfl | rfl | rfl | rfl | rfl
  · rw [← esc0_eq] at hQ; exact esc0_call hx cx hQ
  · rw [← esc1_eq] at hQ; exact esc1_call hx cx hQ
  · rw [← esc2_eq] at hQ; exact esc2_call hx cx hQ
  · rw [← esc3_eq] at hQ; exact esc3_call hx cx hQ
  · rw [← esc4_eq] at hQ; exact esc4_call hx cx hQ
end
end LW
end
section
open PySem PySem.W PyProof.Rows PySem.Calls PySem.Spec
set_option linter.all false
set_option maxRecDepth 100000
set_option maxHeartbeats 4000000
namespace LW
abbrev lawEnv (L : Addr) : Env := envOfC (fName (st 21)) (fScope (st 21)) L 172 (.ref 171)
def stm (i : Nat) : Stmt := (fBody (st 21)).getD i (.Pass default)
theorem law_split : fBody (st 21) = [stm 0, stm 1, stm 2, stm 3, stm 4, stm 5, stm 6, stm 7, stm 8, stm 9, stm 10, stm 11, stm 12, stm 13, stm 14, stm 15, stm 16, stm 17] := by kernel_rfl
/-- the turn of the first loop -/
def forBody : Stmt → List Stmt | .For _ _ b _ _ => b | _ => []
def trn (i : Nat) : Stmt := (forBody (stm 14)).getD i (.Pass default)
theorem turn_split : forBody (stm 14) = [trn 0, trn 1, trn 2, trn 3, trn 4, trn 5, trn 6, trn 7, trn 8] := by kernel_rfl
def trm (i : Nat) : Stmt := (forBody (stm 16)).getD i (.Pass default)
theorem turm_split : forBody (stm 16) = [trm 0, trm 1] := by kernel_rfl
section
variable {w : World} {mean : ExcName → Option Value} {mg mb : Str → Option Value} {A : Around} {base : Heap} {outer : List Env} {h h' : Heap} {n : Nat}
theorem Cx.deeperC (c : Cx w mean mg mb A base outer h (n + 1)) {L a : Addr} {m : Str → Option Value} {name : Str} {scope : Scope} {cd : Value} (F : Fr h L h' m) (hk : scope.kind = .function := by rfl) :
    Cx w mean mg mb (A.deeper (envOfC name scope L a cd)) base (envOfC name scope L a cd :: outer) h' n :=
  ⟨pushX c.B F rfl hk, c.X.keeps F.keep, c.T.keeps F.keep, c.hh, by have := c.hd; show A.depth + 1 + n < _; omega, by have := c.hu; show A.units + 3 + 10 * n < _; omega⟩
end
end LW
end
section
open PySem PySem.W PyProof.Rows PySem.Calls PySem.Spec
set_option linter.all false
set_option maxRecDepth 100000
set_option maxHeartbeats 4000000
namespace LW
section
variable {w : World} {mean : ExcName → Option Value} {mg mb : Str → Option Value} {A : Around} {base h₀ : Heap} {outer : List Env} {L : Addr} {n : Nat} {s : Shared} {E : Value → Shared → Prop} {Q : Flow → Shared → Prop} {m : Str → Option Value} {news : List (Addr × Obj)}
local macro_rules | `(tactic| walk_at "call ref") => `(tactic| refine LW.held ?_)
local macro_rules | `(tactic| walk_at "eval ListComp") => `(tactic| refine LW.held ?_)
local macro_rules | `(tactic| walk_at "subscriptTail") => `(tactic| refine LW.held ?_)
local macro_rules | `(tactic| walk_at "Exists") => `(tactic| refine LW.held ?_)
theorem news_add {h h' : Heap} {nl : Addr} {o : Obj} (F : Fr h₀ L h m) (N : News h₀ L h news) (k : Kp h h') (hn : h.get? nl = none) (ho : h'.get? nl = some o) : News h₀ L h' ((nl, o) :: news) := fun p hp => by
  rcases List.mem_cons.mp hp with rfl | hp
  · refine ⟨ho, fun e => ?_, ?_⟩
    · obtain ⟨oL, _, _, hL, _⟩ := F.ns
      have e' : nl = L := e
      subst e'
      rw [hn] at hL; cases hL
    · cases q : h₀.get? nl with
      | none => rfl
      | some o => have := F.keep _ _ q; rw [hn] at this; cases this
  · exact ⟨k _ _ (N p hp).1, (N p hp).2⟩
theorem fresh_ne {h : Heap} {nl : Addr} (N : News h₀ L h news) (hn : h.get? nl = none) {b : Addr} {o : Obj} (hm : (b, o) ∈ news) : @Ne Nat nl b := fun e => by
  have := (N _ hm).1
  have e' : nl = b := e
  rw [e'] at hn
  rw [hn] at this; cases this
theorem fr_keeps {h h' : Heap} (F : Fr h₀ L h m) (k : Kp h h') : Fr h₀ L h' m := ⟨F.ns.keeps k, fun b o e => k b o (F.keep b o e), F.above⟩
theorem item_wa {A : Around} {s : Shared} {Q : Value → Shared → Prop} {value slice : PySem.Expr} {D : Addr} {u : Tok} {kn : Nat} (ht : IsTup s.heap D [Value.ref 99, Value.ref 106, Value.ref 113, Value.ref 120, Value.ref 127].toArray) (hk : kn < 5) (h : Q (.ref (wa kn)) s)
    (hs : ∀ kn : Nat, subscripted slice false (.ref D) (.int (kn : Int) u) = operate [.ref D, .int (kn : Int) u] (getItem (.ref D) (.int (kn : Int) u)) := by intro _; with_unfolding_all rfl) :
    wpAny (model P0 w) A (subscriptTail value slice (.ref D) (.int (kn : Int) u)) Q E s := by
  rcases (by omega : kn = 0 ∨ kn = 1 ∨ kn = 2 ∨ kn = 3 ∨ kn = 4) with rfl | rfl | rfl | rfl | rfl
  · exact item_tupleT ht (by decide) (by decide) (j := 0) (by rfl) (by rfl) h (hs _)
  · exact item_tupleT ht (by decide) (by decide) (j := 1) (by rfl) (by rfl) h (hs _)
  · exact item_tupleT ht (by decide) (by decide) (j := 2) (by rfl) (by rfl) h (hs _)
  · exact item_tupleT ht (by decide) (by decide) (j := 3) (by rfl) (by rfl) h (hs _)
  · exact item_tupleT ht (by decide) (by decide) (j := 4) (by rfl) (by rfl) h (hs _)
theorem seg1 {rest : List Stmt} {a : Addr} {vs : List Value} {ns : List Int} {o1 o2 o3 o4 o5 o6 : Obj} (hl : h₀.IsList a vs.toArray) (hi : IntsAre vs ns) (hn : ns.length ≤ 100000) (cx : Cx w mean mg mb A base outer h₀ 3)
    (F : Fr h₀ L s.heap (bindL (lawEnv L).kindOf [(S "script", Value.ref a)] fun x => none))
    (N : News h₀ L s.heap [(L + 1 + 1 + 1 + 1 + 1 + 1, o1), (L + 1 + 1 + 1 + 1 + 1, o2), (L + 1 + 1 + 1 + 1, o3), (L + 1 + 1 + 1, o4), (L + 1 + 1, o5), (L + 1, o6)]) (hd : o6.data = .cell (bindC (lawEnv L).kindOf [(S "script", Value.ref a)] (fun x => none) (S "way")))
    (cont : ∀ (kn cnt : Nat) (mark : Int), kn < 5 → 2 ≤ cnt → cnt ≤ 4 → (mark = 0 ∨ mark = 128) → ∀ h tk m nl its n o6' c0 c1 c2 c3, Fr h₀ L h m →
      News h₀ L h [(nl, W.listOf its n), (L + 1 + 1 + 1 + 1 + 1 + 1, o1), (L + 1 + 1 + 1 + 1 + 1, o2), (L + 1 + 1 + 1 + 1, o3), (L + 1 + 1 + 1, o4), (L + 1 + 1, o5), (L + 1, o6')] →
      (∃ t, o6'.data = .cell (some (.int (kn : Int) t))) → m (S "cells") = some (.ref nl) → (∃ t, m (S "mark") = some (.int mark t)) → (∃ t, m (S "count") = some (.int (cnt : Int) t)) → m (S "writer") = some (.ref (wa kn)) →
      IntsAre its.toList [c0, c1, c2, c3] → (∀ p ∈ [L + 1 + 1 + 1 + 1 + 1 + 1, L + 1 + 1 + 1 + 1 + 1, L + 1 + 1 + 1 + 1, L + 1 + 1 + 1, L + 1 + 1, L + 1], @Ne Nat nl p) → wpAny (model P0 w) (A.deeper (lawEnv L)) (execs rest (lawEnv L)) Q E { s with heap := h, toks := tk })
     : wpAny (model P0 w) (A.deeper (lawEnv L)) (execs (stm 0 :: stm 1 :: stm 2 :: stm 3 :: stm 4 :: stm 5 :: rest) (lawEnv L)) Q E s := by
  have hkf : (KK w.params).In h₀ ∧ PySem.Challenge.rw_wa0043_01 = PySem.Challenge.rw_wa0043_01 := by
    k_fill
    exact ⟨cx.X, rfl⟩
  clear hkf
  have X := cx.X
  have T := cx.T
  have B := cx.B
  refine wpAny_execs_cons ?_
  conv in (stm 0) => whnf
  (try dsimp only)
  k_fold
  k_steps
  unfold Held
  refine cells_call (hl.at fun o e => F.keep _ _ e) hi hn ((cx.deeperC F).less (by decide)) ?_
  intro nl its kk h2 tk2 hk2 hnl hnone ⟨c0, c1, c2, c3, hints⟩
  have F2 := fr_keeps F hk2
  have N2 := news_add F N hk2 hnone hnl
  have q1 := fresh_ne N hnone (b := L + 1) (o := o6) (by k_mem)
  have q2 := fresh_ne N hnone (b := L + 1 + 1) (o := o5) (by k_mem)
  have q3 := fresh_ne N hnone (b := L + 1 + 1 + 1) (o := o4) (by k_mem)
  have q4 := fresh_ne N hnone (b := L + 1 + 1 + 1 + 1) (o := o3) (by k_mem)
  have q5 := fresh_ne N hnone (b := L + 1 + 1 + 1 + 1 + 1) (o := o2) (by k_mem)
  have q6 := fresh_ne N hnone (b := L + 1 + 1 + 1 + 1 + 1 + 1) (o := o1) (by k_mem)
  clear F N hk2 hnl hnone
  have hsum := hints.length
  k_steps
  conv in (stm 1) => whnf
  k_steps
  rename Fr _ _ _ _ => F3
  rename News _ _ _ _ => N3
  refine sum_call cx.hh (News.isList N3 (.head _)) hints ?_
  intro h4 tk4 t4 hk4
  have F4 := fr_keeps F3 hk4
  have N4 := News.grown N3 hk4
  clear F3 N3 hk4
  generalize [c0, c1, c2, c3].sum = tot
  k_steps
  conv in (stm 2) => whnf
  k_steps
  conv in (stm 3) => whnf
  k_steps
  conv in (stm 4) => whnf
  k_steps
  conv in (stm 5) => whnf
  k_steps
  unfold Held
  obtain ⟨kn, hkn⟩ := Int.eq_ofNat_of_zero_le (Int.fmod_nonneg_of_pos tot (b := 5) (by decide))
  have hk5 := Int.fmod_lt_of_pos tot (b := 5) (by decide)
  have c1' := Int.fmod_nonneg_of_pos (tot.fdiv 10) (b := 3) (by decide)
  have c2' := Int.fmod_lt_of_pos (tot.fdiv 10) (b := 3) (by decide)
  have d1' := Int.fmod_nonneg_of_pos (tot.fdiv 5) (b := 2) (by decide)
  have d2' := Int.fmod_lt_of_pos (tot.fdiv 5) (b := 2) (by decide)
  rename Fr _ _ _ _ => F9
  rename News _ _ _ _ => N9
  rename (_ = Data.cell (some (Value.int _ _))) => hd9
  rw [hkn] at hk5 hd9 ⊢
  refine item_wa ⟨_, (N9 _ (.head _)).1, rfl, _, rfl⟩ (by omega) ?_
  k_steps
  rename Fr _ _ _ _ => F10
  rename News _ _ _ _ => N10
  obtain ⟨cnt, hcnt⟩ := Int.eq_ofNat_of_zero_le (a := 2 + (tot.fdiv 10).fmod 3) (by omega)
  refine cont kn cnt ((tot.fdiv 5).fmod 2 * 128) (by omega) (by omega) (by omega) (by omega) _ _ _ nl its kk _ c0 c1 c2 c3 F10 (fun p hp => N10 p (.tail _ hp)) ⟨_, hd9⟩ rfl ⟨_, rfl⟩ ?_ rfl hints ?_
  · rw [← hcnt]; exact ⟨_, rfl⟩
  · intro p hp
    simp only [List.mem_cons, List.not_mem_nil, or_false] at hp
    rcases hp with rfl | rfl | rfl | rfl | rfl | rfl <;> assumption
end
end LW
end
section
open PySem PySem.W PyProof.Rows PySem.Calls PySem.Spec
set_option linter.all false
set_option maxRecDepth 100000
set_option maxHeartbeats 4000000
namespace LW
section
variable {w : World} {mean : ExcName → Option Value} {mg mb : Str → Option Value} {A : Around} {base h₀ : Heap} {outer : List Env} {L : Addr} {n : Nat} {s : Shared} {E : Value → Shared → Prop} {Q : Flow → Shared → Prop} {m : Str → Option Value} {news : List (Addr × Obj)}
theorem fr_forget {h : Heap} {x : Str} {v : Value} (F : Fr h₀ L h (fun z => if z = x then some v else m z)) (e : m x = some v) : Fr h₀ L h m := by
  have : (fun z => if z = x then some v else m z) = m := by
    funext z
    by_cases hz : z = x
    · rw [if_pos hz, hz, e]
    · rw [if_neg hz]
  rw [this] at F; exact F
theorem ints_mem : ∀ {vs : List Value} {ns : List Int}, IntsAre vs ns → ∀ v ∈ vs, ∃ c t, v = .int c t
  | _, _, .nil, _, h => nomatch h
  | _, _, .cons n t r, v, h => by
    rcases List.mem_cons.mp h with rfl | h
    · exact ⟨_, _, rfl⟩
    · exact ints_mem r v h
theorem paired_choose {β : Type} {P : List Nat → Prop} {R : β → Prop} : ∀ {vs : List β} {ys : List Value}, Paired (fun _ y => ∃ l t, y = Value.str (mk l) t ∧ P l) vs ys → ∃ tx : List (List Nat), tx.length = vs.length ∧ (∀ l ∈ tx, P l) ∧ Txts tx ys
  | _, _, .nil => ⟨[], rfl, by simp, .nil⟩
  | _, _, .cons ⟨l, t, e, h⟩ r => by
    obtain ⟨tx, h1, h2, h3⟩ := paired_choose (R := R) r
    exact ⟨l :: tx, by simp [h1], fun x hx => (List.mem_cons.mp hx).elim (fun e => e ▸ h) (h2 x), .cons ⟨t, e⟩ h3⟩
/-- the six cells' places -/
abbrev cellsAt (L : Addr) : List Addr := [L + 1 + 1 + 1 + 1 + 1 + 1, L + 1 + 1 + 1 + 1 + 1, L + 1 + 1 + 1 + 1, L + 1 + 1 + 1, L + 1 + 1, L + 1]
theorem off_cells {h : Heap} {nl : Addr} {o1 o2 o3 o4 o5 o6 : Obj} (N : News h₀ L h news) (hs : ∀ p ∈ [(L + 1 + 1 + 1 + 1 + 1 + 1, o1), (L + 1 + 1 + 1 + 1 + 1, o2), (L + 1 + 1 + 1 + 1, o3), (L + 1 + 1 + 1, o4), (L + 1 + 1, o5), (L + 1, o6)], p ∈ news) (hn : h.get? nl = none) : ∀ p ∈ cellsAt L, @Ne Nat nl p := by
  intro p hp
  simp only [List.mem_cons, List.not_mem_nil, or_false] at hp
  rcases hp with rfl | rfl | rfl | rfl | rfl | rfl
  · exact fresh_ne N hn (hs (_, o1) (by simp))
  · exact fresh_ne N hn (hs (_, o2) (by simp))
  · exact fresh_ne N hn (hs (_, o3) (by simp))
  · exact fresh_ne N hn (hs (_, o4) (by simp))
  · exact fresh_ne N hn (hs (_, o5) (by simp))
  · exact fresh_ne N hn (hs (_, o6) (by simp))
local macro_rules | `(tactic| walk_at "call ref") => `(tactic| refine LW.held ?_)
local macro_rules | `(tactic| walk_at "eval ListComp") => `(tactic| refine LW.held ?_)
local macro_rules | `(tactic| walk_at "Exists") => `(tactic| refine LW.held ?_)
theorem st6 {nl : Addr} {its : Array Value} {nk : Nat} {c0 c1 c2 c3 : Int} {cnt : Nat} {tc : Tok} {o1 o2 o3 o4 o5 o6 : Obj} {v5 : Option Value} (cx : Cx w mean mg mb A base outer h₀ 3) (F : Fr h₀ L s.heap m)
    (N : News h₀ L s.heap [(nl, W.listOf its nk), (L + 1 + 1 + 1 + 1 + 1 + 1, o1), (L + 1 + 1 + 1 + 1 + 1, o2), (L + 1 + 1 + 1 + 1, o3), (L + 1 + 1 + 1, o4), (L + 1 + 1, o5), (L + 1, o6)]) (ne : ∀ p ∈ cellsAt L, @Ne Nat nl p) (hd : o5.data = .cell v5)
    (hm : m (S "cells") = some (.ref nl)) (hc : m (S "count") = some (.int (cnt : Int) tc)) (h2 : 2 ≤ cnt) (h4 : cnt ≤ 4) (hi : IntsAre its.toList [c0, c1, c2, c3])
    (cont : ∀ h' tk tx D ys nD o5', tx.length = cnt → (∀ l ∈ tx, l.length ≤ 2 ∧ ∀ c ∈ l, c ∈ menuT) → Fr h₀ L h' m → News h₀ L h' [(D, W.listOf ys nD), (L + 1 + 1 + 1 + 1 + 1 + 1, o1), (L + 1 + 1 + 1 + 1 + 1, o2), (L + 1 + 1 + 1 + 1, o3), (L + 1 + 1 + 1, o4), (L + 1 + 1, o5'), (L + 1, o6)] →
      o5'.data = .cell (some (.ref D)) → Txts tx ys.toList → (∀ p ∈ cellsAt L, @Ne Nat D p) → Q .next { s with heap := h', toks := tk }) :
    wpAny (model P0 w) (A.deeper (lawEnv L)) (exec (stm 6) (lawEnv L)) Q E s := by
  have hkf : (KK w.params).In h₀ ∧ PySem.Challenge.rw_wa0043_01 = PySem.Challenge.rw_wa0043_01 := by
    k_fill
    exact ⟨cx.X, rfl⟩
  clear hkf
  have X := cx.X
  have T := cx.T
  have B := cx.B
  conv in (stm 6) => whnf
  refine wpAny_Assign_Name ?_
  refine comp_list (fun v y => ∃ l t, y = .str (mk l) t ∧ l.length ≤ 2 ∧ ∀ c ∈ l, c ∈ menuT) cx.hh (by with_unfolding_all rfl) (by decide) (by rfl) (by decide) (by rfl) ?_
  have F2 := fr_know (fr_know F (x := S "cells") (v := .ref nl) hm) (x := S "count") (v := .int (cnt : Int) tc) hc
  clear F
  k_steps
  unfold Held
  rename Fr _ _ _ _ => F3
  rename News _ _ _ _ => N3
  rename IntsAre _ (List.take _ _) => hi3
  have F4 := fr_forget (fr_forget F3 hc) hm
  clear F3
  have hlen := hi3.length
  have hlen2 := hlen.trans (show (List.take ((cnt : Int)).toNat [c0, c1, c2, c3]).length = cnt by rw [List.length_take, Int.toNat_natCast]; show min cnt 4 = cnt; omega)
  refine ⟨_, _, rfl, News.isList N3 (.head _), ?_, ?_, ?_⟩
  · rw [List.size_toArray, hlen, List.length_take]; simp; omega
  · intro C v s₃ m₃ E' hC hv hn₃ hm₃ hk₃
    obtain ⟨c, t, rfl⟩ := ints_mem hi3 v (by simpa using hv)
    have c3 := (cx.deeperC F4 (name := fName (st 21)) (scope := fScope (st 21)) (a := 172) (cd := .ref 171)).keeps hk₃
    refine gcall1 c3.X c3.T (f := 141) (by kernel_rfl) (by kernel_rfl) rfl rfl (by rfl) ?_
    refine nm_loc hn₃ hm₃ rfl (by rfl) ?_
    refine ⟨c3.X, ?_⟩
    refine text_call (c3.less (by decide)) ?_
    intro l t' h' tk' hl hle hk'
    exact ⟨⟨l, t', rfl, hle, hl⟩, h', tk', rfl, hk'⟩
  · intro D h' tk ys hD hpl hP hk
    obtain ⟨nD, hpl⟩ := hpl
    have F5 := fr_keeps F4 hk
    have N5 := news_add F4 N3 hk hD hpl
    have q := off_cells N3 (nl := D) (o1 := o1) (o2 := o2) (o3 := o3) (o4 := o4) (o5 := o5) (o6 := o6) (by intro p hp; exact .tail _ (.tail _ hp)) hD
    have q2 := q (L + 1 + 1) (by simp)
    have q3 := ne (L + 1 + 1) (by simp)
    obtain ⟨tx, h1, h2', h3⟩ := paired_choose (R := fun _ => True) (P := fun l => l.length ≤ 2 ∧ ∀ c ∈ l, c ∈ menuT) hP
    clear F4 N3 hi3
    k_steps
    rename Fr _ _ _ _ => F6
    rename News _ _ _ _ => N6
    rename (_ = Data.cell (some (Value.ref D))) => hd6
    refine cont _ _ tx D ys nD _ ?_ h2' F6 (fun p hp => N6 p ?_) hd6 h3 q
    · exact h1.trans (by simpa using hlen2)
    · rcases List.mem_cons.mp hp with rfl | hp
      · exact .head _
      · exact .tail _ (.tail _ (.tail _ hp))
end
end LW
end
section
open PySem PySem.W PyProof.Rows PySem.Calls PySem.Spec
set_option linter.all false
set_option maxRecDepth 100000
set_option maxHeartbeats 4000000
namespace LW
section
variable {w : World} {mean : ExcName → Option Value} {mg mb : Str → Option Value} {A : Around} {base h₀ : Heap} {outer : List Env} {L : Addr} {n : Nat} {s : Shared} {E : Value → Shared → Prop} {Q : Flow → Shared → Prop} {m : Str → Option Value} {news : List (Addr × Obj)}
theorem mk_inj {a b : List Nat} (h : mk a = mk b) : a = b := by
  have : a.toArray = b.toArray := congrArg Str.cps h
  simpa using this
theorem Txts.mem : ∀ {tx : List (List Nat)} {ys : List Value}, Txts tx ys → ∀ v ∈ ys, ∃ l ∈ tx, ∃ t, v = .str (mk l) t
  | _, _, .nil, _, h => nomatch h
  | _, _, .cons ⟨t, e⟩ r, v, h => by
    rcases List.mem_cons.mp h with rfl | h
    · exact ⟨_, .head _, t, e⟩
    · obtain ⟨l, hl, t, e⟩ := Txts.mem r v h
      exact ⟨l, .tail _ hl, t, e⟩
theorem Txts.image {f : List Nat → List Nat} {tx : List (List Nat)} {vs ys : List Value} (hT : Txts tx vs) (hP : Paired (fun v y => ∀ l t, v = Value.str (mk l) t → ∃ t', y = Value.str (mk (f l)) t') vs ys) : Txts (tx.map f) ys := by
  have := Paired.comp hT hP
  exact Txts.map (f := f) (this.mono fun l y ⟨v, ⟨t, e⟩, h⟩ => h l t e)
theorem Txts.size {tx : List (List Nat)} {ys : Array Value} (h : Txts tx ys.toList) : ys.size = tx.length := by
  have := Paired.length h
  simpa using this.symm
abbrev six (L : Addr) (o1 o2 o3 o4 o5 o6 : Obj) : List (Addr × Obj) := [(L + 1 + 1 + 1 + 1 + 1 + 1, o1), (L + 1 + 1 + 1 + 1 + 1, o2), (L + 1 + 1 + 1 + 1, o3), (L + 1 + 1 + 1, o4), (L + 1 + 1, o5), (L + 1, o6)]
theorem st7 {aT : Addr} {ysT : Array Value} {nT : Nat} {kn : Nat} {tw : Tok} {tx : List (List Nat)} {o1 o2 o3 o4 o5 o6 : Obj} {v4 : Option Value} (cx : Cx w mean mg mb A base outer h₀ 3) (F : Fr h₀ L s.heap m)
    (N : News h₀ L s.heap ((aT, W.listOf ysT nT) :: six L o1 o2 o3 o4 o5 o6)) (ne : ∀ p ∈ cellsAt L, @Ne Nat aT p) (hk : kn < 5) (d6 : o6.data = .cell (some (.int (kn : Int) tw))) (d5 : o5.data = .cell (some (.ref aT))) (d4 : o4.data = .cell v4)
    (hT : Txts tx ysT.toList) (hb : ∀ l ∈ tx, l.length ≤ 50) (h4 : tx.length ≤ 4)
    (cont : ∀ h' tk D ys nD o4', Fr h₀ L h' m → News h₀ L h' ((D, W.listOf ys nD) :: (aT, W.listOf ysT nT) :: six L o1 o2 o3 o4' o5 o6) →
      o4'.data = .cell (some (.ref D)) → Txts (tx.map (esc kn)) ys.toList → (∀ p ∈ cellsAt L, @Ne Nat D p) → @Ne Nat D aT → Q .next { s with heap := h', toks := tk }) :
    wpAny (model P0 w) (A.deeper (lawEnv L)) (exec (stm 7) (lawEnv L)) Q E s := by
  have hkf : (KK w.params).In h₀ ∧ PySem.Challenge.rw_wa0043_01 = PySem.Challenge.rw_wa0043_01 := by
    k_fill
    exact ⟨cx.X, rfl⟩
  clear hkf
  conv in (stm 7) => whnf
  refine wpAny_Assign_Name ?_
  refine comp_list (cl := [(S "way", L + 1)]) (fun v y => ∀ l t, v = .str (mk l) t → ∃ t', y = .str (mk (esc kn l)) t') cx.hh (by with_unfolding_all rfl) (by decide) (by rfl) (by decide) (by rfl) ?_
  refine nm_cell (c := L + 1 + 1) (v := .ref aT) (by rfl) ⟨o5, (N (_, _) (by k_mem)).1, d5⟩ rfl (by rfl) ?_
  refine ⟨_, _, rfl, News.isList N (.head _), ?_, ?_, ?_⟩
  · have := hT.size
    omega
  · intro C v s₃ m₃ E' hC hv hn₃ hm₃ hk₃
    obtain ⟨l, hl, t, rfl⟩ := Txts.mem hT v (by simpa using hv)
    have c3 := (cx.deeperC F (name := fName (st 21)) (scope := fScope (st 21)) (a := 172) (cd := .ref 171)).keeps hk₃
    refine gcall2 c3.X c3.T (f := 146) (by kernel_rfl) (by kernel_rfl) rfl rfl (by rfl) ?_ (by decide) rfl rfl
    refine nm_cell (c := L + 1) (v := .int (kn : Int) tw) (by rfl) ⟨o6, hk₃ _ _ (N (L + 1, o6) (by k_mem)).1, d6⟩ rfl (by rfl) ?_
    refine nm_loc hn₃ hm₃ rfl (by rfl) ?_
    refine ⟨c3.X, ?_⟩
    refine written_call hk (Nat.le_trans (hb l hl) (by decide)) c3 ?_
    intro t' h' tk' hk'
    refine ⟨fun l' t'' e => ?_, h', tk', rfl, hk'⟩
    rw [← mk_inj (Value.str.inj e).1]
    exact ⟨t', rfl⟩
  · intro D h' tk ys hD hpl hP hk
    obtain ⟨nD, hpl⟩ := hpl
    have F5 := fr_keeps F hk
    have N5 := news_add F N hk hD hpl
    have q := off_cells N (nl := D) (o1 := o1) (o2 := o2) (o3 := o3) (o4 := o4) (o5 := o5) (o6 := o6) (by intro p hp; exact .tail _ hp) hD
    have q1 := fresh_ne N hD (b := aT) (.head _)
    have hP' := Txts.image hT (by simpa using hP)
    clear F N hP
    refine storeX_C (cl := cellsFrom (L + 1) (fScope (st 21)).names []) (c := L + 1 + 1 + 1) F5 N5 (by rfl) (.tail (q (L + 1 + 1 + 1) (by simp)) (.tail (ne (L + 1 + 1 + 1) (by simp)) (.tail (by k_ne) (.tail (by k_ne) (.tail (by k_ne) (.head (by k_all))))))) d4 ?_
    intro h6 o' F6 N6 d'
    exact cont _ _ D ys nD _ F6 N6 d' hP' q q1
end
end LW
end
section
open PySem PySem.W PyProof.Rows PySem.Calls PySem.Spec
set_option linter.all false
set_option maxRecDepth 100000
set_option maxHeartbeats 4000000
namespace LW
section
variable {w : World} {mean : ExcName → Option Value} {mg mb : Str → Option Value} {A : Around} {base h₀ : Heap} {outer : List Env} {L : Addr} {n : Nat} {s : Shared} {E : Value → Shared → Prop} {Q : Flow → Shared → Prop} {m : Str → Option Value} {news : List (Addr × Obj)}
/-- all but the frame's own object stands -/
abbrev KL (L : Addr) (h h' : Heap) : Prop := ∀ b o, b ≠ L → h.get? b = some o → h'.get? b = some o
theorem News.keepL {h h' : Heap} (N : News h₀ L h news) (k : KL L h h') : News h₀ L h' news := fun p hp => ⟨k _ _ (N p hp).2.1 (N p hp).1, (N p hp).2⟩
theorem Fr.keepL {h h' : Heap} {m' : Str → Option Value} (F : Fr h₀ L h m) (k : KL L h h') (hn : h'.Ns L m') : Fr h₀ L h' m' := ⟨hn, fun b o e => k b o (Nat.ne_of_lt (Nat.lt_of_lt_of_le (Heap.lt_size e) F.above)) (F.keep b o e), F.above⟩
theorem News.addL {h h' : Heap} {nl : Addr} {o : Obj} (F : Fr h₀ L h m) (N : News h₀ L h news) (k : KL L h h') (hn : h.get? nl = none) (ho : h'.get? nl = some o) : News h₀ L h' ((nl, o) :: news) := fun p hp => by
  rcases List.mem_cons.mp hp with rfl | hp
  · refine ⟨ho, fun e => ?_, ?_⟩
    · obtain ⟨oL, _, _, hL, _⟩ := F.ns
      have e' : nl = L := e
      subst e'
      rw [hn] at hL; cases hL
    · cases q : h₀.get? nl with
      | none => rfl
      | some o => have := F.keep _ _ q; rw [hn] at this; cases this
  · exact News.keepL N k p hp
theorem news_keeps {h h' : Heap} (N : News h₀ L h news) (k : Kp h h') : News h₀ L h' news := fun p hp => ⟨k _ _ (N p hp).1, (N p hp).2⟩
theorem st8 {aP : Addr} {ysP : Array Value} {nP : Nat} {kn : Nat} {tw : Tok} {tx : List (List Nat)} {o4 o6 : Obj} (cx : Cx w mean mg mb A base outer h₀ 3) (F : Fr h₀ L s.heap m)
    (N : News h₀ L s.heap news) (mP : (aP, W.listOf ysP nP) ∈ news) (m6 : (L + 1, o6) ∈ news) (m4 : (L + 1 + 1 + 1, o4) ∈ news) (hk : kn < 5) (d6 : o6.data = .cell (some (.int (kn : Int) tw))) (d4 : o4.data = .cell (some (.ref aP)))
    (hT : Txts tx ysP.toList) (hb : ∀ l ∈ tx, l.length ≤ 50) (h4 : tx.length ≤ 4)
    (cont : ∀ h' tk D ys nD, Fr h₀ L h' (fun z => if z = S "twice" then some (.ref D) else m z) → News h₀ L h' ((D, W.listOf ys nD) :: news) → Txts (tx.map (esc kn)) ys.toList → s.heap.get? D = none → Q .next { s with heap := h', toks := tk }) :
    wpAny (model P0 w) (A.deeper (lawEnv L)) (exec (stm 8) (lawEnv L)) Q E s := by
  have hkf : (KK w.params).In h₀ ∧ PySem.Challenge.rw_wa0043_01 = PySem.Challenge.rw_wa0043_01 := by
    k_fill
    exact ⟨cx.X, rfl⟩
  clear hkf
  conv in (stm 8) => whnf
  refine comp_listA (cl := [(S "way", L + 1)]) (fun v y => ∀ l t, v = .str (mk l) t → ∃ t', y = .str (mk (esc kn l)) t') cx.hh (by rfl) (by with_unfolding_all rfl) (by decide) (by rfl) (by decide) (by rfl) (by rfl) (by rfl) ?_
  refine nm_cell (c := L + 1 + 1 + 1) (v := .ref aP) (by rfl) ⟨o4, (N (_, _) m4).1, d4⟩ rfl (by rfl) ?_
  refine ⟨_, _, m, rfl, News.isList N mP, ?_, F.ns, ?_, ?_⟩
  · have := hT.size
    omega
  · intro C v s₃ m₃ E' hC hv hn₃ hm₃ hk₃
    obtain ⟨l, hl, t, rfl⟩ := Txts.mem hT v (by simpa using hv)
    have c3 := (cx.deeperC F (name := fName (st 21)) (scope := fScope (st 21)) (a := 172) (cd := .ref 171)).keeps hk₃
    refine gcall2 c3.X c3.T (f := 146) (by kernel_rfl) (by kernel_rfl) rfl rfl (by rfl) ?_ (by decide) rfl rfl
    refine nm_cell (c := L + 1) (v := .int (kn : Int) tw) (by rfl) ⟨o6, hk₃ _ _ (N (L + 1, o6) m6).1, d6⟩ rfl (by rfl) ?_
    refine nm_loc hn₃ hm₃ rfl (by rfl) ?_
    refine ⟨c3.X, ?_⟩
    refine written_call hk (Nat.le_trans (hb l hl) (by decide)) c3 ?_
    intro t' h' tk' hk'
    refine ⟨fun l' t'' e => ?_, h', tk', rfl, hk'⟩
    rw [← mk_inj (Value.str.inj e).1]
    exact ⟨t', rfl⟩
  · intro D h' tk ys hD hpl hP hn' hk
    obtain ⟨nD, hpl⟩ := hpl
    exact cont h' tk D ys nD (Fr.keepL F hk hn') (News.addL F N hk hD hpl) (Txts.image hT (by simpa using hP)) hD
theorem st9 {aT : Addr} {ysT : Array Value} {nT : Nat} {tx : List (List Nat)} {o5 o3 : Obj} {v3 : Option Value} {g : Obj → List (Addr × Obj)} (cx : Cx w mean mg mb A base outer h₀ 3) (F : Fr h₀ L s.heap m)
    (N : News h₀ L s.heap news) (mT : (aT, W.listOf ysT nT) ∈ news) (m5 : (L + 1 + 1, o5) ∈ news) (d5 : o5.data = .cell (some (.ref aT))) (d3 : o3.data = .cell v3) (m3 : (L + 1 + 1 + 1 + 1, o3) ∈ news) (U : UpdF (L + 1 + 1 + 1 + 1) o3 news g)
    (hT : Txts tx ysT.toList) (hb : ∀ l ∈ tx, l.length ≤ 50 ∧ ∀ c ∈ l, c ∈ menuT) (h4 : tx.length ≤ 4)
    (cont : ∀ h' tk D ys nD o3', Fr h₀ L h' m → News h₀ L h' ((D, W.listOf ys nD) :: g o3') → o3'.data = .cell (some (.ref D)) → Txts (tx.map prep) ys.toList → s.heap.get? D = none → Q .next { s with heap := h', toks := tk }) :
    wpAny (model P0 w) (A.deeper (lawEnv L)) (exec (stm 9) (lawEnv L)) Q E s := by
  have hkf : (KK w.params).In h₀ ∧ PySem.Challenge.rw_wa0043_01 = PySem.Challenge.rw_wa0043_01 := by
    k_fill
    exact ⟨cx.X, rfl⟩
  clear hkf
  conv in (stm 9) => whnf
  refine wpAny_Assign_Name ?_
  refine comp_list (cl := []) (fun v y => ∀ l t, v = .str (mk l) t → ∃ t', y = .str (mk (prep l)) t') cx.hh (by with_unfolding_all rfl) (by decide) (by rfl) (by decide) (by rfl) ?_
  refine nm_cell (c := L + 1 + 1) (v := .ref aT) (by rfl) ⟨o5, (N (_, _) m5).1, d5⟩ rfl (by rfl) ?_
  refine ⟨_, _, rfl, News.isList N mT, ?_, ?_, ?_⟩
  · have := hT.size
    omega
  · intro C v s₃ m₃ E' hC hv hn₃ hm₃ hk₃
    obtain ⟨l, hl, t, rfl⟩ := Txts.mem hT v (by simpa using hv)
    have c3 := (cx.deeperC F (name := fName (st 21)) (scope := fScope (st 21)) (a := 172) (cd := .ref 171)).keeps hk₃
    refine gcall1 c3.X c3.T (f := 153) (by kernel_rfl) (by kernel_rfl) rfl rfl (by rfl) ?_
    refine nm_loc hn₃ hm₃ rfl (by rfl) ?_
    refine ⟨c3.X, ?_⟩
    refine prep_call (hb l hl).2 (hb l hl).1 (c3.less (by decide)) ?_
    intro t' h' tk' hk'
    refine ⟨fun l' t'' e => ?_, h', tk', rfl, hk'⟩
    rw [← mk_inj (Value.str.inj e).1]
    exact ⟨t', rfl⟩
  · intro D h' tk ys hD hpl hP hk
    obtain ⟨nD, hpl⟩ := hpl
    have F5 := fr_keeps F hk
    have N5 := news_add F N hk hD hpl
    have hP' := Txts.image hT (by simpa using hP)
    refine storeX_C (cl := cellsFrom (L + 1) (fScope (st 21)).names []) (c := L + 1 + 1 + 1 + 1) F5 N5 (by rfl) (.tail (fresh_ne N hD m3) U) d3 ?_
    intro h6 o' F6 N6 d'
    exact cont _ _ D ys nD _ F6 N6 d' hP' hD
/-- the codes of a text -/
abbrev codesOf (l : List Nat) : List Int := l.map fun (c : Nat) => (c : Int)
theorem Paired.ints {l : List Nat} {ys : List Value} (h : Paired (fun (c : Nat) y => ∃ t, y = Value.int (c : Int) t) l ys) : IntsAre ys (codesOf l) := by
  induction h with
  | nil => exact .nil
  | cons h _ ih => obtain ⟨t, rfl⟩ := h; exact .cons _ _ ih
theorem st10 {aN : Addr} {ysN : Array Value} {nN : Nat} {kn : Nat} {tw : Tok} {tx : List (List Nat)} {o3 o2 o6 : Obj} {v2 : Option Value} {g : Obj → List (Addr × Obj)} (cx : Cx w mean mg mb A base outer h₀ 3) (F : Fr h₀ L s.heap m)
    (N : News h₀ L s.heap news) (mN : (aN, W.listOf ysN nN) ∈ news) (m3 : (L + 1 + 1 + 1 + 1, o3) ∈ news) (d3 : o3.data = .cell (some (.ref aN))) (m6 : (L + 1, o6) ∈ news) (hk : kn < 5) (d6 : o6.data = .cell (some (.int (kn : Int) tw)))
    (d2 : o2.data = .cell v2) (m2 : (L + 1 + 1 + 1 + 1 + 1, o2) ∈ news) (U : UpdF (L + 1 + 1 + 1 + 1 + 1) o2 news g)
    (hT : Txts tx ysN.toList) (hb : ∀ l ∈ tx, l.length ≤ 50) (h4 : tx.length ≤ 4)
    (cont : ∀ h' tk D ys nD o2', Fr h₀ L h' m → News h₀ L h' ((D, W.listOf ys nD) :: g o2') → o2'.data = .cell (some (.ref D)) →
      Paired (fun l y => ∃ T its, y = .ref T ∧ s.heap.get? T = none ∧ h'.IsList T its ∧ IntsAre its.toList (codesOf (esc kn l))) tx ys.toList → s.heap.get? D = none → (∀ y ∈ ys.toList, y ≠ .ref D) → Q .next { s with heap := h', toks := tk }) :
    wpAny (model P0 w) (A.deeper (lawEnv L)) (exec (stm 10) (lawEnv L)) Q E s := by
  have hkf : (KK w.params).In h₀ ∧ PySem.Challenge.rw_wa0043_01 = PySem.Challenge.rw_wa0043_01 := by
    k_fill
    exact ⟨cx.X, rfl⟩
  clear hkf
  conv in (stm 10) => whnf
  refine wpAny_Assign_Name ?_
  refine comp_listO (cl := [(S "way", L + 1)]) (fun v its => ∀ l t, v = .str (mk l) t → IntsAre its.toList (codesOf (esc kn l))) cx.hh (by with_unfolding_all rfl) (by decide) (by rfl) (by decide) (by rfl) ?_
  refine nm_cell (c := L + 1 + 1 + 1 + 1) (v := .ref aN) (by rfl) ⟨o3, (N (_, _) m3).1, d3⟩ rfl (by rfl) ?_
  refine ⟨_, _, rfl, News.isList N mN, ?_, ?_, ?_⟩
  · have := hT.size
    omega
  · intro C v s₃ m₃ E' hC hv hn₃ hm₃ hk₃
    obtain ⟨l, hl, t, rfl⟩ := Txts.mem hT v (by simpa using hv)
    have c3 := (cx.deeperC F (name := fName (st 21)) (scope := fScope (st 21)) (a := 172) (cd := .ref 171)).keeps hk₃
    have hle := esc_le kn l
    have hb' := hb l hl
    refine comp_str (l := esc kn l) (cl := []) (fun c y => ∃ t, y = .int (c : Int) t) (by omega) cx.hh (by with_unfolding_all rfl) (by decide) (by rfl) (by decide) (by rfl) ?_
    refine gcall2 c3.X c3.T (f := 146) (by kernel_rfl) (by kernel_rfl) rfl rfl (by rfl) ?_ (by decide) rfl rfl
    refine nm_cell (c := L + 1) (v := .int (kn : Int) tw) (by rfl) ⟨o6, hk₃ _ _ (N (L + 1, o6) m6).1, d6⟩ rfl (by rfl) ?_
    refine nm_loc hn₃ hm₃ rfl (by rfl) ?_
    refine ⟨c3.X, ?_⟩
    refine written_call hk (Nat.le_trans (hb l hl) (by decide)) c3 ?_
    intro t' h' tk' hk'
    refine ⟨t', rfl, ?_, ?_⟩
    · intro C' c u s₅ m₅ E5 _ _ hn₅ hm₅ hk₅
      have c5 := (c3.keeps hk').keeps hk₅
      refine wpAny_Call_NameR (nm_boot c5.X c5.T (by kernel_rfl) boot_ord rfl rfl rfl (by rfl) ?_)
      refine PyProof.Rows.callWith_builtin1 ?_
      refine spliced_more ?_
      refine nm_loc hn₅ hm₅ rfl (by rfl) ?_
      refine spliced_none ?_
      exact P.ord_of_char ⟨⟨_, rfl⟩, _, _, rfl, fun _ _ e => e⟩
    · intro D h'' tk'' ys hD hpl hP hk''
      refine ⟨⟨D, ys, rfl, none_back hk' hD, hpl.isList, fun l' t'' e => ?_⟩, h'', tk'', rfl, fun b o e => hk'' b o (hk' b o e)⟩
      rw [← mk_inj (Value.str.inj e).1]
      exact Paired.ints hP
  · intro D h' tk ys hD hpl hP hDy hk
    obtain ⟨nD, hpl⟩ := hpl
    have F5 := fr_keeps F hk
    have N5 := news_add F N hk hD hpl
    obtain ⟨own, rest, e1, e2, _, _⟩ := id U.split
    have hold : s.heap.get? (L + 1 + 1 + 1 + 1 + 1) = some o2 := (N _ m2).1
    refine wpAny_storeName_cell rfl (by rfl) (c := L + 1 + 1 + 1 + 1 + 1) (by rfl) ⟨o2, hk _ _ hold, d2⟩ fun h6 hv hs => ?_
    obtain ⟨o', ho', d'⟩ := hv
    have nC : @Ne Nat D (L + 1 + 1 + 1 + 1 + 1) := fresh_ne N hD m2
    have hmem := N5 (_, o2) (.tail _ m2)
    have F6 : Fr h₀ L h6 m := ⟨F5.ns.sameBut hs (Ne.symm hmem.2.1), fun b ob e => (hs.2 b (fun q => by rw [q, hmem.2.2] at e; cases e)).trans (F5.keep b ob e), F5.above⟩
    have N6 : News h₀ L h6 ((D, W.listOf ys nD) :: g o') := by
      obtain ⟨own, rest, e1, e2, h1, h2⟩ := (UpdF.tail (p := (D, W.listOf ys nD)) nC U).split
      rw [e1] at N5
      rw [e2 o']
      exact News.setAt N5 h1 h2 hs ho'
    refine cont _ _ D ys nD o' F6 N6 d' ?_ hD hDy
    refine (Paired.comp hT (by simpa using hP)).mono ?_
    rintro l y ⟨v, ⟨t, rfl⟩, T, its, rfl, hTn, hTl, hG⟩
    refine ⟨T, its, rfl, hTn, hTl.extBut hs.extBut (fun e => ?_), hG l t rfl⟩
    have e' : T = L + 1 + 1 + 1 + 1 + 1 := e
    rw [e', hold] at hTn
    cases hTn
end
end LW
end
section
open PySem PySem.W PyProof.Rows PySem.Calls PySem.Spec
set_option linter.all false
set_option maxRecDepth 100000
set_option maxHeartbeats 4000000
namespace LW
section
variable {w : World} {mean : ExcName → Option Value} {mg mb : Str → Option Value} {A : Around} {base h₀ : Heap} {outer : List Env} {L : Addr} {n : Nat} {s : Shared} {E : Value → Shared → Prop} {Q : Flow → Shared → Prop} {m : Str → Option Value} {news : List (Addr × Obj)} {env : Env}
/-- range(e) as a source -/
theorem range_go {K : Value → Shared → Prop} {e : PySem.Expr} {p pos : Pos} {n : Nat} (X : (KK w.params).In s.heap) (T : Top vw (looseW vw lo) mean mg mb s.heap) (hn : n ≤ 1000000)
    (hg : env.globals = mainGlobals) (hb : env.builtins = builtinsNs) (hk : env.scope.kind = .function) (hx : env.kindOf (S "range") = some .globalImplicit)
    (h : wpAny (model P0 w) A (eval e env) (fun v s₁ => ∃ t, v = .int (n : Int) t ∧ ∀ h₂ tk I, Kp s₁.heap h₂ → s₁.heap.get? I = none → IsRangeIter h₂ I 0 (n : Int) 1 → I < h₂.objs.size → K (.ref I) { s₁ with heap := h₂, toks := tk }) E s)
    (he : starEach [e] env = (false, eval e env) :: starEach [] env := by rfl) :
    wpAny (model P0 w) A (eval (.Call (.Name (S "range") p) [e] [] pos) env) (fun xv s₁ => wpAny (model P0 w) A (pyIter xv) K E s₁) E s := by
  refine wpAny_Call_NameR (nm_boot X T (by kernel_rfl) (v := .type "range") (by decide +kernel) hg hb hk hx ?_)
  refine PyProof.Rows.callWith_type1 ?_ he
  refine spliced_more ?_ he
  refine wpAny_mono h (fun v s₁ h₁ => spliced_none ?_) fun _ _ y => y
  obtain ⟨t, rfl, hK⟩ := h₁
  refine call_range_1 ?_
  refine wpAny_pyIter_range (Heap.get?_push_size _ rfl) (small_one (by decide) (by decide) (by omega) (by omega)) ?_
  refine hK _ _ _ (fun b o e => Heap.get?_push_of_some _ (Heap.get?_push_of_some _ e)) (Heap.get?_none_of_le (by show s₁.heap.objs.size ≤ (s₁.heap.push _).objs.size; rw [Heap.size_push]; exact Nat.le_succ _)) ?_ ?_
  · have : Builtin.Range.rangeSize 0 (n : Int) 1 = (n : Int) := by rw [rangeSize_nat]; omega
    have e := Heap.get?_push_size (s₁.heap.push { cls := .type "range", data := .fields #[.int 0 s₁.toks, .int (n : Int) t, .int 1 (s₁.toks + 1)] }) (o := { cls := .type "range_iterator", data := .fields #[rawInt 0, rawInt (Builtin.Range.rangeSize 0 (n : Int) 1), rawInt 1] }) rfl
    rw [this] at e ⊢
    exact e
  · exact Nat.lt_of_lt_of_le (Nat.lt_succ_self _) (Nat.le_of_eq (Heap.size_push ..).symm)
/-- whether place j belongs to choice i -/
def bitB (i j : Nat) : Bool := Builtin.bitAnd ((i : Int).fdiv (2 ^ j)) 1 != 0
def chosenOf (cnt i : Nat) : List Nat := (List.range cnt).filter (bitB i)
theorem paired_range {P : Nat → Value → Prop} {vs : List Value} {n : Nat} (hlen : vs.length = n) (hP : ∀ j v, vs[j]? = some v → P j v) : Paired P (List.range n) vs :=
  Paired.of_idx (by simp [hlen]) fun j v hj => ⟨j, by
    have : j < n := by rw [← hlen]; exact (List.getElem?_eq_some_iff.mp hj).1
    simp [this], hP j v hj⟩
theorem tr0 {choice cnt : Nat} {tc ti : Tok} {oc : Obj} (cx : Cx w mean mg mb A base outer h₀ 3) (F : Fr h₀ L s.heap m) (N : News h₀ L s.heap news)
    (mc : (L + 1 + 1 + 1 + 1 + 1 + 1, oc) ∈ news) (dc : oc.data = .cell (some (.int (choice : Int) ti))) (hc : m (S "count") = some (.int (cnt : Int) tc)) (h4 : cnt ≤ 4)
    (cont : ∀ h' tk D ys nD, Fr h₀ L h' (fun z => if z = S "chosen" then some (.ref D) else m z) → News h₀ L h' ((D, W.listOf ys nD) :: news) → IntsAre ys.toList ((chosenOf cnt choice).map fun (j : Nat) => (j : Int)) → s.heap.get? D = none → Q .next { s with heap := h', toks := tk }) :
    wpAny (model P0 w) (A.deeper (lawEnv L)) (exec (trn 0) (lawEnv L)) Q E s := by
  conv in (trn 0) => whnf
  have cL := cx.deeperC F (name := fName (st 21)) (scope := fScope (st 21)) (a := 172) (cd := .ref 171)
  have hp : ∀ (j : Nat) t, (fun v : Value => match v with | .int j _ => bitB choice j.toNat | _ => false) (.int (j : Int) t) = bitB choice j := fun j t => by simp
  generalize (fun v : Value => match v with | .int j _ => bitB choice j.toNat | _ => false) = p at hp
  refine wpAny_Assign_ListComp_free (cl := [(S "choice", L + 1 + 1 + 1 + 1 + 1 + 1)]) p (fun v y => y = v) (by rfl) (by with_unfolding_all rfl) (by decide) (by rfl) (by decide) (by rfl) (by rfl) (by rfl) ?_
  refine range_go (n := cnt) cL.X cL.T (by omega) rfl rfl rfl (by rfl) ?_
  refine nm_loc F.ns hc rfl (by rfl) ?_
  refine ⟨tc, rfl, ?_⟩
  intro h₂ tk₂ I hk₂ hI hit hIlt
  have nI : ∀ {b o}, s.heap.get? b = some o → b ∉ [I] := fun {b o} e hm => by rw [List.mem_singleton.mp hm, hI] at e; cases e
  refine ⟨I, [I], [I], cnt, _, _, m, rfl, Walks.range (A := A.deeper (lawEnv L)) cx.hh I 0 1 cnt, sizeFits _ (by omega), by simpa using hit, ?_, ?_, F.ns.keeps hk₂, ⟨?_, ?_⟩, ?_⟩
  · intro b hb; rw [List.mem_singleton.mp hb]; exact hIlt
  · obtain ⟨o, _, _, ho, _⟩ := F.ns
    exact nI ho
  · rintro C i v s₃ m₃ E' hC ⟨t, rfl⟩ hn₃ hm₃ hk₃ _
    refine wpAny_tests_one ?_
    refine isTrue_plain ?_
    refine wpAny_BinOp ?_
    refine wpAny_BinOp ?_
    refine nm_cell (c := L + 1 + 1 + 1 + 1 + 1 + 1) (v := .int (choice : Int) ti) (by rfl) ⟨oc, hk₃ _ _ (nI (N _ mc).1) (hk₂ _ _ (N _ mc).1), dc⟩ rfl (by rfl) ?_
    refine nm_loc hn₃ hm₃ rfl (by rfl) ?_
    refine rshift_int (by omega) ?_
    refine wpAny_Constant_int ?_
    refine and_int ?_
    refine PyProof.Rows.truthy_int ?_
    refine ⟨?_, _, _, rfl, fun _ _ e => e⟩
    have e : (0 : Int) + (i : Int) * 1 = (i : Int) := by omega
    rw [e, hp, Int.toNat_natCast]; rfl
  · rintro C i v s₃ m₃ E' hC hv _ hn₃ hm₃ hk₃ _
    refine nm_loc hn₃ hm₃ rfl (by rfl) ?_
    exact ⟨rfl, _, _, rfl, fun _ _ e => e⟩
  · intro D h' tk ys vs hD _ hpl hlen hP hF hn' hk
    obtain ⟨nD, hpl⟩ := hpl
    have hKL : KL L s.heap h' := fun b o hb e => hk b o hb (nI e) (hk₂ b o e)
    refine cont h' tk D ys nD (Fr.keepL F hKL hn') (News.addL F N hKL (none_back hk₂ hD) hpl) ?_ (none_back hk₂ hD)
    have hR := paired_range (P := fun (j : Nat) v => ∃ t, v = Value.int (j : Int) t) hlen fun j v hj => by
      obtain ⟨t, rfl⟩ := hP j v hj
      exact ⟨t, by rw [show (0 : Int) + (j : Int) * 1 = (j : Int) by omega]⟩
    have hR2 := Paired.comp (Paired.filt (p := bitB choice) (q := p) hR (by rintro a _ ⟨t, rfl⟩; exact hp a t)) hF
    have : Paired (fun (c : Nat) y => ∃ t, y = Value.int (c : Int) t) (chosenOf cnt choice) ys.toList := hR2.mono fun c y ⟨v, ⟨t, e⟩, e'⟩ => ⟨t, e'.trans e⟩
    exact Paired.ints this
end
end LW
end
section
open PySem PySem.W PyProof.Rows PySem.Calls PySem.Spec
set_option linter.all false
set_option maxRecDepth 100000
set_option maxHeartbeats 4000000
namespace LW
section
variable {w : World} {mean : ExcName → Option Value} {mg mb : Str → Option Value} {A : Around} {base h₀ : Heap} {outer : List Env} {L : Addr} {n : Nat} {s : Shared} {E : Value → Shared → Prop} {m : Str → Option Value} {news : List (Addr × Obj)} {env : Env}
theorem Txts.get : ∀ {tx : List (List Nat)} {ys : List Value}, Txts tx ys → ∀ j, j < tx.length → ∃ t, ys[j]? = some (.str (mk (tx.getD j [])) t)
  | _, _, .nil, j, h => by simp at h
  | _, _, .cons ⟨t, e⟩ r, 0, _ => ⟨t, by rw [e]; rfl⟩
  | _, _, .cons ⟨t, e⟩ r, j + 1, h => by
    obtain ⟨t', h'⟩ := Txts.get r j (by simpa using h)
    exact ⟨t', by simpa using h'⟩
theorem nats_mem {S : List Nat} {vs : List Value} (h : IntsAre vs (S.map fun (j : Nat) => (j : Int))) : ∀ v ∈ vs, ∃ j ∈ S, ∃ t, v = .int (j : Int) t := by
  generalize hn : S.map (fun (j : Nat) => (j : Int)) = ns at h
  induction h generalizing S with
  | nil => intro v hv; nomatch hv
  | cons n t r ih =>
    cases S with
    | nil => simp at hn
    | cons j S =>
      simp only [List.map_cons, List.cons.injEq] at hn
      obtain ⟨rfl, hn⟩ := hn
      intro v hv
      rcases List.mem_cons.mp hv with rfl | hv
      · exact ⟨j, .head _, t, rfl⟩
      · obtain ⟨j', hj, t', e⟩ := ih hn v hv
        exact ⟨j', .tail _ hj, t', e⟩
theorem nats_paired {S : List Nat} {vs : List Value} (h : IntsAre vs (S.map fun (j : Nat) => (j : Int))) : Paired (fun (j : Nat) v => ∃ t, v = Value.int (j : Int) t) S vs := by
  generalize hn : S.map (fun (j : Nat) => (j : Int)) = ns at h
  induction h generalizing S with
  | nil =>
    cases S with
    | nil => exact .nil
    | cons j S => simp at hn
  | cons n t r ih =>
    cases S with
    | nil => simp at hn
    | cons j S =>
      simp only [List.map_cons, List.cons.injEq] at hn
      obtain ⟨rfl, hn⟩ := hn
      exact .cons ⟨t, rfl⟩ (ih hn)
/-- the texts of a choice, one behind the other -/
def pick (tx : List (List Nat)) (S : List Nat) : List Nat := (S.map fun j => tx.getD j []).flatten
theorem pick_le {tx : List (List Nat)} {b : Nat} (h : ∀ l ∈ tx, l.length ≤ b) : ∀ S : List Nat, (pick tx S).length ≤ S.length * b
  | [] => by simp [pick]
  | j :: S => by
    have ih := pick_le h S
    unfold pick at ih ⊢
    rw [List.map_cons, List.flatten_cons, List.length_append, List.length_cons, Nat.succ_mul]
    have : (tx.getD j []).length ≤ b := by
      by_cases hj : j < tx.length
      · rw [List.getD_eq_getElem?_getD, List.getElem?_eq_getElem hj]; exact h _ (List.getElem_mem hj)
      · rw [List.getD_eq_getElem?_getD, List.getElem?_eq_none (by omega)]; exact Nat.zero_le _
    omega
theorem join_pick {X y : Str} {k0 : Nat} {p0 p1 px pi ps pt pc pos pos' : Pos} {scope : Scope} {c0 aX aC : Addr} {oX : Obj} {ysX ysC : Array Value} {tx : List (List Nat)} {S0 : List Nat} {Q : Value → Shared → Prop}
    (F : Fr h₀ L s.heap m) (hh : A.handled = none) (hC : s.heap.IsList aC ysC) (hmC : m (S "chosen") = some (.ref aC)) (hX : s.heap.get? c0 = some oX) (dX : oX.data = .cell (some (.ref aX))) (hlX : s.heap.IsList aX ysX)
    (hT : Txts tx ysX.toList) (hS : IntsAre ysC.toList (S0.map fun (j : Nat) => (j : Int))) (hlt : ∀ j ∈ S0, j < tx.length) (hn : S0.length ≤ 1000) (htx : tx.length ≤ 1000) (hb : ∀ l ∈ tx, l.length ≤ 500)
    (hclos : closureFor scope (lawEnv L) = pure [(X, c0)]) (hcell : ∀ y ∈ scope.names, y.2 ≠ .cell) (hkind : scope.kind = .function)
    (hnames : ∀ y ∈ scope.names, y.2 = .local → scope.names.lookup y.1 = some .local) (hx : scope.names.lookup (S "i") = some .local)
    (hkt : ∀ C, (compEnvC scope [(X, c0)] C (lawEnv L)).kindOf X = some .cell) (hXd : (X == ("__debug__" : Str)) = false) (hy : y = ⟨#[]⟩) {pl : Sem Bool}
    (he : eval (.Call (.Attribute (.Constant (.str y) k0 p0) (S "join") p1) [.ListComp (.Subscript (.Name X px) (.Name (S "i") pi) ps) [⟨.Name (S "i") pt, .Name (S "chosen") pc, [], 0⟩] scope pos] [] pos') (lawEnv L) = (do
      let ov ← eval (.Constant (.str y) k0 p0) (lawEnv L)
      standAt p1.atName
      let (f, first) ← holding [ov] (getMethod ov (S "join") pl)
      callWith pos' f first (backTo pos' (starEach [.ListComp (.Subscript (.Name X px) (.Name (S "i") pi) ps) [⟨.Name (S "i") pt, .Name (S "chosen") pc, [], 0⟩] scope pos] (lawEnv L))) []))
    (hQ : ∀ h' tk t', Kp s.heap h' → Q (.str (mk (pick tx S0)) t') { s with heap := h', toks := tk }) :
    wpAny (model P0 w) A (eval (.Call (.Attribute (.Constant (.str y) k0 p0) (S "join") p1) [.ListComp (.Subscript (.Name X px) (.Name (S "i") pi) ps) [⟨.Name (S "i") pt, .Name (S "chosen") pc, [], 0⟩] scope pos] [] pos') (lawEnv L)) Q E s := by
  refine MethodCall_ (pl := pl) ?_ he
  refine Calls.Constant_str ?_
  refine GM.join ?_
  refine callWith_method1 ?_
  refine spliced_more ?_
  refine comp_list (cl := [(X, c0)]) (fun v y => ∀ (j : Nat) t, v = .int (j : Int) t → ∃ t', y = .str (mk (tx.getD j [])) t') hh hclos hcell hkind hnames hx ?_
  refine nm_loc (env := lawEnv L) F.ns hmC rfl (by rfl) ?_
  refine ⟨aC, ysC, rfl, hC, ?_, ?_, ?_⟩
  · have := hS.length
    simp only [Array.length_toList, List.length_map] at this
    omega
  · intro C v s₃ m₃ E' _ hv hn₃ hm₃ hk₃
    obtain ⟨j, hj, t, rfl⟩ := nats_mem hS v hv
    obtain ⟨tj, hxj⟩ := Txts.get hT j (hlt j hj)
    have hsg : (compEnvC scope [(X, c0)] C (lawEnv L)).kindOf (S "i") = some .local := lookup_relabel_local hx
    refine Subscript_ ?_
    refine nm_cell (c := c0) (v := .ref aX) (by simp [compEnvC]) ⟨oX, hk₃ _ _ hX, dX⟩ hkind (hkt C) ?_ hXd
    refine nm_loc hn₃ hm₃ hkind hsg ?_
    have := hlt j hj
    refine item_list (hlX.at fun o e => hk₃ _ o e) (by omega) (by omega) (x := .str (mk (tx.getD j [])) tj) (by rw [Int.toNat_natCast]; simpa using hxj) ?_
    refine ⟨fun j' t' e => ?_, _, _, rfl, fun _ _ e => e⟩
    have : j = j' := by have := (Value.int.inj e).1; omega
    subst this
    exact ⟨tj, rfl⟩
  · intro D h' tk ys hD hpl hP hk
    refine spliced_none ?_
    have hP2 : Txts (S0.map fun j => tx.getD j []) ys.toList := by
      have := Paired.comp (nats_paired hS) hP
      exact Txts.map (f := fun j => tx.getD j []) (this.mono fun j y ⟨v, ⟨t, e⟩, h⟩ => h j t e)
    refine join_call (L := S0.map fun j => tx.getD j []) hpl.isList hP2 hy ?_ ?_
    · have := pick_le hb S0
      unfold pick at this
      have h2 : S0.length * 500 ≤ 1000 * 500 := Nat.mul_le_mul_right _ hn
      omega
    · intro t' k'
      exact hQ h' _ t' hk
end
end LW
end
section
open PySem PySem.W PyProof.Rows PySem.Calls PySem.Spec
set_option linter.all false
set_option maxRecDepth 100000
set_option maxHeartbeats 4000000
namespace LW
section
variable {w : World} {mean : ExcName → Option Value} {mg mb : Str → Option Value} {A : Around} {base h₀ : Heap} {outer : List Env} {L : Addr} {n : Nat} {s : Shared} {E : Value → Shared → Prop} {m : Str → Option Value} {news : List (Addr × Obj)} {env : Env}
theorem tr1 {Q : Flow → Shared → Prop} {aX aC : Addr} {oX : Obj} {ysX ysC : Array Value} {tx : List (List Nat)} {S0 : List Nat} (cx : Cx w mean mg mb A base outer h₀ 3) (F : Fr h₀ L s.heap m) (N : News h₀ L s.heap news)
    (hC : s.heap.IsList aC ysC) (hmC : m (S "chosen") = some (.ref aC)) (hX : s.heap.get? (L + 1 + 1) = some oX) (dX : oX.data = .cell (some (.ref aX))) (hlX : s.heap.IsList aX ysX)
    (hT : Txts tx ysX.toList) (hS : IntsAre ysC.toList (S0.map fun (j : Nat) => (j : Int))) (hlt : ∀ j ∈ S0, j < tx.length) (hn : S0.length ≤ 1000) (htx : tx.length ≤ 1000) (hb : ∀ l ∈ tx, l.length ≤ 500)
    (cont : ∀ h' tk t', Fr h₀ L h' (fun z => if z = S "joined" then some (.str (mk (pick tx S0)) t') else m z) → News h₀ L h' news → Q .next { s with heap := h', toks := tk }) :
    wpAny (model P0 w) (A.deeper (lawEnv L)) (exec (trn 1) (lawEnv L)) Q E s := by
  conv in (trn 1) => whnf
  refine wpAny_Assign_Name ?_
  refine join_pick F cx.hh hC hmC hX dX hlX hT hS hlt hn htx hb (by with_unfolding_all rfl) (by decide) (by rfl) (by decide) (by rfl) (fun C => by rfl) (by decide) (by decide) (by rfl) ?_
  intro h' tk t' hk
  refine storeX_L (cl := cellsFrom (L + 1) (fScope (st 21)).names []) (fr_keeps F hk) (news_keeps N hk) ?_
  intro h6 F6 N6
  exact cont _ _ _ F6 N6
theorem keep_wa {kn : Nat} (hk : kn < 5) : keepIn (KK w.params) (.ref (wa kn)) = true := by
  rcases (by omega : kn = 0 ∨ kn = 1 ∨ kn = 2 ∨ kn = 3 ∨ kn = 4) with rfl | rfl | rfl | rfl | rfl <;> kernel_rfl
theorem wr_eval {Q : Value → Shared → Prop} {e : PySem.Expr} {p pos : Pos} {kn : Nat} {l : List Nat} (cx : Cx w mean mg mb A base outer h₀ 3) (F : Fr h₀ L s.heap m) (hk : kn < 5) (hw : m (S "writer") = some (.ref (wa kn))) (hl : l.length ≤ 50)
    (h : wpAny (model P0 w) (A.deeper (lawEnv L)) (eval e (lawEnv L)) (fun v s₁ => ∃ t, v = .str (mk l) t ∧ Fr h₀ L s₁.heap m ∧ ∀ h' tk t', Kp s₁.heap h' → Q (.str (mk (esc kn l)) t') { s₁ with heap := h', toks := tk }) E s)
    (he : starEach [e] (lawEnv L) = (false, eval e (lawEnv L)) :: starEach [] (lawEnv L) := by rfl) :
    wpAny (model P0 w) (A.deeper (lawEnv L)) (eval (.Call (.Name (S "writer") p) [e] [] pos) (lawEnv L)) Q E s := by
  refine wpAny_Call_NameR (nm_loc (env := lawEnv L) F.ns hw rfl (by rfl) ?_)
  refine callWith_K (K := KK w.params) (cx.X.keeps F.keep) (keep_wa hk) ?_ he
  refine spliced_more ?_ he
  refine wpAny_mono h (fun v s₁ h₁ => spliced_none ?_) fun _ _ y => y
  obtain ⟨t, rfl, F1, hQ⟩ := h₁
  have c3 := cx.deeperC F1 (name := fName (st 21)) (scope := fScope (st 21)) (a := 172) (cd := .ref 171)
  exact ⟨c3.X, writer_call hk hl (c3.less (by decide)) fun t' h' tk hk' => hQ h' tk t' hk'⟩
theorem tr2 {Q : Flow → Shared → Prop} {kn : Nat} {l : List Nat} {tj : Tok} (cx : Cx w mean mg mb A base outer h₀ 3) (F : Fr h₀ L s.heap m) (N : News h₀ L s.heap news) (hk : kn < 5) (hw : m (S "writer") = some (.ref (wa kn))) (hl : l.length ≤ 50)
    (hj : m (S "joined") = some (.str (mk l) tj))
    (cont : ∀ h' tk t', Fr h₀ L h' (fun z => if z = S "page" then some (.str (mk (esc kn l)) t') else m z) → News h₀ L h' news → Q .next { s with heap := h', toks := tk }) :
    wpAny (model P0 w) (A.deeper (lawEnv L)) (exec (trn 2) (lawEnv L)) Q E s := by
  conv in (trn 2) => whnf
  refine wpAny_Assign_Name ?_
  refine wr_eval cx F hk hw hl ?_
  refine nm_loc (env := lawEnv L) F.ns hj rfl (by rfl) ?_
  refine ⟨tj, rfl, F, ?_⟩
  intro h' tk t' hk
  refine storeX_L (cl := cellsFrom (L + 1) (fScope (st 21)).names []) (fr_keeps F hk) (news_keeps N hk) ?_
  intro h6 F6 N6
  exact cont _ _ _ F6 N6
theorem prep_filter (l : List Nat) : ((l.filter fun (c : Nat) => !b1S (c : Int)).map fold).flatten = prep l := by
  induction l with
  | nil => rfl
  | cons c r ih =>
    unfold prep at ih ⊢
    rw [List.flatMap_cons, ← ih, List.filter_cons]
    cases h : b1S (c : Int) <;> simp
theorem menu_fold {c : Nat} (hc : c ∈ menuT) (hb : b1S (c : Int) = false) : c ∈ menuK := by
  have h : (menuT.all fun (c : Nat) => b1S (c : Int) || menuK.contains c) = true := by decide +kernel
  have := List.all_eq_true.mp h c hc
  rw [hb, Bool.false_or] at this
  exact List.contains_iff_mem.mp this
theorem tr3 {Q : Flow → Shared → Prop} {l : List Nat} {tj : Tok} (cx : Cx w mean mg mb A base outer h₀ 3) (F : Fr h₀ L s.heap m) (N : News h₀ L s.heap news) (hl : l.length ≤ 50) (hm : ∀ c ∈ l, c ∈ menuT)
    (hj : m (S "joined") = some (.str (mk l) tj))
    (cont : ∀ h' tk t', Fr h₀ L h' (fun z => if z = S "prepared" then some (.str (mk (prep l)) t') else m z) → News h₀ L h' news → Q .next { s with heap := h', toks := tk }) :
    wpAny (model P0 w) (A.deeper (lawEnv L)) (exec (trn 3) (lawEnv L)) Q E s := by
  conv in (trn 3) => whnf
  have cL := cx.deeperC F (name := fName (st 21)) (scope := fScope (st 21)) (a := 172) (cd := .ref 171)
  refine wpAny_Assign_Name ?_
  refine MethodCall_ ?_ (by rfl)
  refine Calls.Constant_str ?_
  refine GM.join ?_
  refine callWith_method1 ?_
  refine spliced_more ?_
  refine comp_strT (l := l) (cl := []) (fun (c : Nat) => !b1S (c : Int)) (fun c y => ∃ t, y = .str (mk (fold c)) t) (by omega) cx.hh (by with_unfolding_all rfl) (by decide) (by rfl) (by decide) (by rfl) ?_
  refine nm_loc (env := lawEnv L) F.ns hj rfl (by rfl) ?_
  refine ⟨tj, rfl, ?_, ?_, ?_⟩
  · intro C c u s₃ m₃ E' _ hc hn₃ hm₃ hk₃
    have c3 := cL.keeps hk₃
    refine wpAny_tests_one ?_
    refine isTrue_not ?_
    refine isTrue_plain ?_
    refine gcall1 c3.X c3.T (f := 32) (by kernel_rfl) (by kernel_rfl) rfl rfl (by rfl) ?_
    refine nm_loc hn₃ hm₃ rfl (by rfl) ?_
    refine ⟨c3.X, b1_call (c3.less (by decide)) ?_⟩
    intro h' tk hk'
    refine wpAny_truthy_bool ?_
    exact ⟨rfl, h', tk, rfl, hk'⟩
  · intro C c u s₃ m₃ E' _ hc hpc hn₃ hm₃ hk₃
    have c3 := cL.keeps hk₃
    have hpc' : b1S (c : Int) = false := by simpa using hpc
    refine gcall1 c3.X c3.T (f := 78) (by kernel_rfl) (by kernel_rfl) rfl rfl (by rfl) ?_
    refine nm_loc hn₃ hm₃ rfl (by rfl) ?_
    refine ⟨c3.X, b3_call (menu_fold (hm c hc) hpc') (c3.less (by decide)) ?_⟩
    intro t' h' tk hk'
    exact ⟨⟨t', rfl⟩, h', tk, rfl, hk'⟩
  · intro D h' tk ys hD hpl hP hk
    refine spliced_none ?_
    refine join_call (L := (l.filter fun (c : Nat) => !b1S (c : Int)).map fold) hpl.isList (Txts.map hP) (by decide) ?_ ?_
    · rw [prep_filter]
      have := prep_le l
      omega
    · intro t' k'
      rw [prep_filter]
      refine storeX_L (cl := cellsFrom (L + 1) (fScope (st 21)).names []) (fr_keeps F hk) (news_keeps N hk) ?_
      intro h6 F6 N6
      exact cont _ _ _ F6 N6
end
end LW
end
section
open PySem PySem.W PyProof.Rows PySem.Calls PySem.Spec
set_option linter.all false
set_option maxRecDepth 100000
set_option maxHeartbeats 4000000
namespace LW
section
variable {w : World} {mean : ExcName → Option Value} {mg mb : Str → Option Value} {A : Around} {base h₀ : Heap} {outer : List Env} {L : Addr} {n : Nat} {s : Shared} {E : Value → Shared → Prop} {m : Str → Option Value} {news : List (Addr × Obj)} {env : Env}
theorem look_small {k c : Nat} (hc : c < 1114112) : ∀ x ∈ look (tabL k) c, x < 1114112 := by
  have go : ∀ T : List (Nat × List Nat), (∀ p ∈ T, ∀ x ∈ p.2, x < 1114112) → ∀ x ∈ look T c, x < 1114112 := by
    intro T
    induction T with
    | nil => intro _ x hx; rw [List.mem_singleton.mp hx]; exact hc
    | cons p r ih =>
      intro h
      obtain ⟨a, z⟩ := p
      unfold look
      split
      · exact h _ (.head _)
      · exact ih fun q hq => h q (.tail _ hq)
  apply go
  match k with
  | 0 => decide
  | 1 => decide
  | 2 => decide
  | 3 => decide
  | n + 4 => exact (show ∀ p ∈ tabL 4, ∀ x ∈ p.2, x < 1114112 by decide)
theorem esc_small {k : Nat} {l : List Nat} (h : ∀ c ∈ l, c < 1114112) : ∀ x ∈ esc k l, x < 1114112 := fun x hx => by
  obtain ⟨c, hc, hx⟩ := List.mem_flatMap.mp hx
  exact look_small (h c hc) x hx
theorem prep_small {l : List Nat} (h : ∀ c ∈ l, c ∈ menuT) : ∀ x ∈ prep l, x < 1114112 := fun x hx => by
  obtain ⟨c, hc, hx⟩ := List.mem_flatMap.mp hx
  have h2 : (menuT.all fun c => (if b1S (c : Int) then [] else fold c).all fun x => decide (x < 1114112)) = true := by decide +kernel
  have := List.all_eq_true.mp (List.all_eq_true.mp h2 c (h c hc)) x hx
  exact of_decide_eq_true this
theorem tr4 {Q : Flow → Shared → Prop} {kn : Nat} {l : List Nat} {tp tm : Tok} {mark : Int} (cx : Cx w mean mg mb A base [] h₀ 3) (XB : (KK w.params).In base) (TB : Top vw (looseW vw lo) mean mg mb base) (F : Fr h₀ L s.heap m) (N : News h₀ L s.heap news) (hk : kn < 5)
    (hw : m (S "writer") = some (.ref (wa kn))) (hl : l.length ≤ 50) (hs : ∀ c ∈ l, c < 1114112) (hmk : mark = 0 ∨ mark = 128)
    (hp : m (S "prepared") = some (.str (mk l) tp)) (hm : m (S "mark") = some (.int mark tm))
    (cont : ∀ h' tk D its k, Fr h₀ L h' (fun z => if z = S "numbers" then some (.ref D) else m z) → News h₀ L h' ((D, W.listOf its k) :: news) → IntsAre its.toList (codesOf (esc kn l)) → s.heap.get? D = none → Q .next { s with heap := h', toks := tk }) :
    wpAny (model P0 w) (A.deeper (lawEnv L)) (exec (trn 4) (lawEnv L)) Q E s := by
  conv in (trn 4) => whnf
  have cL := cx.deeperC F (name := fName (st 21)) (scope := fScope (st 21)) (a := 172) (cd := .ref 171)
  refine wpAny_Assign_Name ?_
  refine gcall1 cL.X cL.T (f := 167) (by kernel_rfl) (by kernel_rfl) rfl rfl (by rfl) ?_
  refine gcall2 cL.X cL.T (f := 160) (by kernel_rfl) (by kernel_rfl) rfl rfl (by rfl) ?_ (by decide) rfl rfl
  refine wr_eval cx F hk hw hl ?_
  refine nm_loc (env := lawEnv L) F.ns hp rfl (by rfl) ?_
  refine ⟨tp, rfl, F, ?_⟩
  intro h1 tk1 t1 hk1
  have F1 := fr_keeps F hk1
  refine nm_loc (env := lawEnv L) F1.ns hm rfl (by rfl) ?_
  have c1 := cL.keeps hk1
  have hle := esc_le kn l
  refine ⟨c1.X, oct_call (esc_small hs) (by omega) hmk (c1.less (by decide)) ?_⟩
  intro t2 h2 tk2 hk2
  have F2 := fr_keeps F1 hk2
  have c2 := c1.keeps hk2
  refine ⟨c2.X, read_call hmk (esc_small hs) (by omega) c2 XB TB ?_ ?_⟩
  · intro b hb
    have hbL : b = L := by simpa [envOfC] using hb
    subst hbL
    obtain ⟨o, es, ep, ho, hd, _⟩ := F2.ns
    exact ⟨o, es, ep, ho, hd⟩
  · intro nl its k h3 tk3 g3 T3 hk3 hnl hnone hints
    have kL : KL L h2 h3 := fun b o hb e => hk3 b o (T3.other b o e (by simpa [envOfC] using hb))
    have hns : h3.Ns L m := by
      obtain ⟨o, es, ep, ho, hd, hkk, hf⟩ := F2.ns
      obtain ⟨sl, hsl⟩ := T3.frame L o ho (by simp [envOfC])
      exact ⟨_, es, ep, hk3 _ _ hsl, hd, hkk, hf⟩
    have F3 := Fr.keepL F2 kL hns
    have N3 := News.addL F2 (news_keeps (news_keeps N hk1) hk2) kL hnone hnl
    refine storeX_L (cl := cellsFrom (L + 1) (fScope (st 21)).names []) F3 N3 ?_
    intro h6 F6 N6
    exact cont _ _ nl its.toArray k F6 N6 (by simpa using hints) (none_back (fun b o e => hk2 b o (hk1 b o e)) hnone)
end
end LW
end
section
open PySem PySem.W PyProof.Rows PySem.Calls PySem.Spec
set_option linter.all false
set_option maxRecDepth 100000
set_option maxHeartbeats 4000000
namespace LW
section
variable {w : World} {mean : ExcName → Option Value} {mg mb : Str → Option Value} {A : Around} {base h₀ : Heap} {outer : List Env} {L : Addr} {n : Nat} {s : Shared} {E : Value → Shared → Prop} {m : Str → Option Value} {news : List (Addr × Obj)} {env : Env}
/-- a built-in function of one argument -/
theorem bcall1 {x : Str} {p pos : Pos} {e : PySem.Expr} {id : String} {Q : Value → Shared → Prop} (X : (KK w.params).In s.heap) (T : Top vw (looseW vw lo) mean mg mb s.heap) (en : nsIn (KK w.params) mainGlobals x = some none) (hv : bootBuiltins x = some (.builtin id))
    (hg : env.globals = mainGlobals) (hb : env.builtins = builtinsNs) (hk : env.scope.kind = .function) (hx : env.kindOf x = some .globalImplicit)
    (h : wpAny (model P0 w) A (eval e env) (fun v s₁ => wpAny (model P0 w) A (call (.builtin id) [v]) Q E s₁) E s) (hn : x ≠ "__name__" := by decide) (hd : (x == ("__debug__" : Str)) = false := by decide)
    (he : starEach [e] env = (false, eval e env) :: starEach [] env := by rfl) :
    wpAny (model P0 w) A (eval (.Call (.Name x p) [e] [] pos) env) Q E s := by
  refine wpAny_Call_NameR (nm_boot X T en hv hg hb hk hx ?_ hn hd)
  refine PyProof.Rows.callWith_builtin1 ?_ he
  refine spliced_more ?_ he
  exact wpAny_mono h (fun v s₁ h₁ => spliced_none h₁) fun _ _ y => y
theorem mul_ok {a b : Int} (h : a.natAbs < 2 ^ 64) : IntMulOk a b := IntMulOk.of_left (by
  exact intBits_le h)
theorem tr5 {Q : Flow → Shared → Prop} {kn : Nat} {l lp : List Nat} {t1 t2 : Tok} {aN : Addr} {its : Array Value} {nN : Nat} {ns : List Int} (cx : Cx w mean mg mb A base outer h₀ 3) (F : Fr h₀ L s.heap m) (N : News h₀ L s.heap news) (hk : kn < 5)
    (hw : m (S "writer") = some (.ref (wa kn))) (hl : l.length ≤ 50) (hlp : lp.length ≤ 50) (hp : m (S "page") = some (.str (mk l) t1)) (hpr : m (S "prepared") = some (.str (mk lp) t2)) (hnm : m (S "numbers") = some (.ref aN)) (mN : (aN, W.listOf its nN) ∈ news) (hi : IntsAre its.toList ns)
    (cont : ∀ h' tk t', Fr h₀ L h' (fun z => if z = S "product" then some (.int (((esc kn l).length : Int) * (lp.length : Int) * ns.sum) t') else m z) → News h₀ L h' news → Q .next { s with heap := h', toks := tk }) :
    wpAny (model P0 w) (A.deeper (lawEnv L)) (exec (trn 5) (lawEnv L)) Q E s := by
  conv in (trn 5) => whnf
  have cL := cx.deeperC F (name := fName (st 21)) (scope := fScope (st 21)) (a := 172) (cd := .ref 171)
  have hle := esc_le kn l
  refine wpAny_Assign_Name ?_
  refine wpAny_BinOp ?_
  refine wpAny_BinOp ?_
  refine bcall1 cL.X cL.T (by kernel_rfl) boot_len rfl rfl rfl (by rfl) ?_
  refine wr_eval cx F hk hw hl ?_
  refine nm_loc (env := lawEnv L) F.ns hp rfl (by rfl) ?_
  refine ⟨t1, rfl, F, ?_⟩
  intro h1 tk1 t3 hk1
  have F1 := fr_keeps F hk1
  have N1 := news_keeps N hk1
  have c1 := cL.keeps hk1
  refine P.len_str (by rw [mk_len]; omega) ?_
  rw [mk_len]
  refine bcall1 c1.X c1.T (by kernel_rfl) boot_len rfl rfl rfl (by rfl) ?_
  refine nm_loc (env := lawEnv L) F1.ns hpr rfl (by rfl) ?_
  refine P.len_str (by rw [mk_len]; omega) ?_
  rw [mk_len]
  refine P.mul_int ?_ (mul_ok (by omega))
  refine bcall1 c1.X c1.T (by kernel_rfl) boot_sum rfl rfl rfl (by rfl) ?_
  refine nm_loc (env := lawEnv L) F1.ns hnm rfl (by rfl) ?_
  refine sum_call cx.hh (News.isList N1 mN) hi ?_
  intro h2 tk2 t4 hk2
  refine P.mul_int ?_ (mul_ok ?_)
  · refine storeX_L (cl := cellsFrom (L + 1) (fScope (st 21)).names []) (fr_keeps F1 hk2) (news_keeps N1 hk2) ?_
    intro h6 F6 N6
    exact cont _ _ _ F6 N6
  · rw [Int.natAbs_mul, Int.natAbs_natCast, Int.natAbs_natCast]
    have : (esc kn l).length * lp.length ≤ 300 * 50 := Nat.mul_le_mul (by omega) hlp
    omega
end
end LW
end
section
open PySem PySem.W PyProof.Rows PySem.Calls PySem.Spec
set_option linter.all false
set_option maxRecDepth 100000
set_option maxHeartbeats 4000000
namespace LW
section
variable {w : World} {mean : ExcName → Option Value} {mg mb : Str → Option Value} {A : Around} {base h₀ : Heap} {outer : List Env} {L : Addr} {n : Nat} {s : Shared} {E : Value → Shared → Prop} {m : Str → Option Value} {news : List (Addr × Obj)} {env : Env}
/-- what a choice of k out of cnt adds -/
def signed (cnt k : Nat) (P : Int) : Int := if ((cnt : Int) - (k : Int)).fmod 2 == 0 then P else -P
theorem tr6 {Q : Flow → Shared → Prop} {cnt : Nat} {tc tl tp : Tok} {lf Pr : Int} {aC : Addr} {ysC : Array Value} (cx : Cx w mean mg mb A base outer h₀ 3) (F : Fr h₀ L s.heap m) (N : News h₀ L s.heap news)
    (hc : m (S "count") = some (.int (cnt : Int) tc)) (hlf : m (S "left") = some (.int lf tl)) (hP : m (S "product") = some (.int Pr tp)) (hmC : m (S "chosen") = some (.ref aC)) (hC : s.heap.IsList aC ysC) (hsz : ysC.size ≤ 1000)
    (cont : ∀ h' tk t', Fr h₀ L h' (fun z => if z = S "left" then some (.int (lf + signed cnt ysC.size Pr) t') else m z) → News h₀ L h' news → Q .next { s with heap := h', toks := tk }) :
    wpAny (model P0 w) (A.deeper (lawEnv L)) (exec (trn 6) (lawEnv L)) Q E s := by
  conv in (trn 6) => whnf
  have cL := cx.deeperC F (name := fName (st 21)) (scope := fScope (st 21)) (a := 172) (cd := .ref 171)
  refine wpAny_AugAssign_Name ?_
  refine wpAny_loadName_local rfl (by rfl) F.ns hlf ?_
  refine wpAny_IfExp ?_
  refine wpAny_isTrue_Compare1 ?_
  refine wpAny_BinOp ?_
  refine wpAny_BinOp ?_
  refine nm_loc (env := lawEnv L) F.ns hc rfl (by rfl) ?_
  refine bcall1 cL.X cL.T (by kernel_rfl) boot_len rfl rfl rfl (by rfl) ?_
  refine nm_loc (env := lawEnv L) F.ns hmC rfl (by rfl) ?_
  refine len_list hC (by omega) ?_
  refine P.sub_int ?_
  refine wpAny_Constant_int ?_
  refine mod_int' (by decide) ?_
  refine wpAny_Constant_int ?_
  refine P.eq_int ?_
  refine wpAny_truthy_bool ?_
  have key : ∀ (s' : Shared) v t, s'.heap = s.heap → s'.gens = s.gens → s'.drawn = s.drawn → s'.os = s.os → v = Value.int (signed cnt ysC.size Pr) t → wpAny (model P0 w) (A.deeper (lawEnv L)) (inplaceOp .Add (.int lf tl) v) (fun r s₃ => wpAny (model P0 w) (A.deeper (lawEnv L)) (storeName (lawEnv L) (S "left") r) (fun _ => Q .next) E s₃) E s' := by
    rintro ⟨hh, gg, dd, tt, oo⟩ v t rfl rfl rfl rfl rfl
    refine P.iadd_int ?_
    refine storeX_L (cl := cellsFrom (L + 1) (fScope (st 21)).names []) F N ?_
    intro h6 F6 N6
    exact cont _ _ _ F6 N6
  by_cases hb : (((cnt : Int) - (ysC.size : Int)).fmod 2 == 0) = true
  · rw [if_pos hb]
    refine nm_loc (env := lawEnv L) F.ns hP rfl (by rfl) ?_
    exact key _ _ tp rfl rfl rfl rfl (by unfold signed; rw [if_pos hb])
  · rw [if_neg hb]
    refine UnaryOp_ ?_
    refine nm_loc (env := lawEnv L) F.ns hP rfl (by rfl) ?_
    refine P.neg_int ?_
    exact key _ _ _ rfl rfl rfl rfl (by unfold signed; rw [if_neg hb])
/-- the three parts of a report -/
abbrev tup3 (x y z : Value) : Obj := { cls := .type "tuple", data := .seq [x, y, z].toArray }
theorem app_tup {a : Addr} {its : Array Value} {nk : Nat} {x y z : Value} {g : Obj → List (Addr × Obj)} {Q : Value → Shared → Prop} (F : Fr h₀ L s.heap m) (N : News h₀ L s.heap news) (U : UpdF a (W.listOf its nk) news g) (hm : (a, W.listOf its nk) ∈ news) (hsz : its.size ≤ 1000)
    (h : ∀ h' T, Fr h₀ L h' m → News h₀ L h' ((T, tup3 x y z) :: g (W.listOf (its.push (.ref T)) (nk + 1))) → s.heap.get? T = none → Q .none { s with heap := h' }) :
    wpAny (model P0 w) A (newTuple [x, y, z]) (fun v s₁ => wpAny (model P0 w) A (call (.builtin "list.append") [.ref a, v]) Q E s₁) E s := by
  refine newTuple_N F N ?_ (by rw [sizeLine_eq]; simp)
  intro h1 F1 N1
  have hnone : s.heap.get? s.heap.objs.size = none := Heap.get?_none_of_le (Nat.le_refl _)
  have hne := fresh_ne N hnone hm
  obtain ⟨pre, post, e1, e2, h3, h4⟩ := (UpdF.tail (p := (s.heap.objs.size, tup3 x y z)) hne U).split
  have z := N1 (a, W.listOf its nk) (.tail _ hm)
  refine append_at (hsz := by rw [sizeLine_eq]; omega) z.1 fun h' hs ho' => ?_
  refine h h' _ (F1.change hs z.2.1 z.2.2) ?_ hnone
  have N2 := N1
  rw [e1] at N2
  have := news_set N2 h3 h4 hs ho'
  rw [← e2] at this
  exact this
theorem tr7 {Q : Flow → Shared → Prop} {x y z : Value} {sh : Addr} {its : Array Value} {nk : Nat} {g : Obj → List (Addr × Obj)} (F : Fr h₀ L s.heap m) (N : News h₀ L s.heap news) (U : UpdF sh (W.listOf its nk) news g) (hmem : (sh, W.listOf its nk) ∈ news) (hsz : its.size ≤ 1000)
    (hsh : m (S "shown") = some (.ref sh)) (hp : m (S "page") = some x) (hpr : m (S "prepared") = some y) (hnm : m (S "numbers") = some z)
    (cont : ∀ h' tk T, Fr h₀ L h' m → News h₀ L h' ((T, tup3 x y z) :: g (W.listOf (its.push (.ref T)) (nk + 1))) → s.heap.get? T = none → Q .next { s with heap := h', toks := tk }) :
    wpAny (model P0 w) (A.deeper (lawEnv L)) (exec (trn 7) (lawEnv L)) Q E s := by
  conv in (trn 7) => whnf
  refine wpAny_Expr ?_
  refine MethodCall_ ?_ (by rfl)
  refine nm_loc (env := lawEnv L) F.ns hsh rfl (by rfl) ?_
  refine Calls.getMethod_list_append (N _ hmem).1 rfl rfl ?_
  refine callWith_method1 ?_
  refine spliced_more ?_
  refine Tuple_ ?_
  refine spliced_more ?_
  refine nm_loc (env := lawEnv L) F.ns hp rfl (by rfl) ?_
  refine spliced_more ?_
  refine nm_loc (env := lawEnv L) F.ns hpr rfl (by rfl) ?_
  refine spliced_more ?_
  refine nm_loc (env := lawEnv L) F.ns hnm rfl (by rfl) ?_
  refine spliced_none ?_
  refine wpAny_mono (app_tup F N U hmem hsz (Q := fun v s' => v = .none ∧ Q .next s') ?_) (fun v s₁ h₁ => spliced_none (wpAny_mono h₁ (fun v s₂ h₂ => ?_) fun _ _ e => e)) fun _ _ e => e
  · intro h' T F' N' hn
    exact ⟨rfl, cont h' _ T F' N' hn⟩
  · obtain ⟨rfl, h₂⟩ := h₂
    exact h₂
end
end LW
end
section
open PySem PySem.W PyProof.Rows PySem.Calls PySem.Spec
set_option linter.all false
set_option maxRecDepth 100000
set_option maxHeartbeats 4000000
namespace LW
section
variable {w : World} {mean : ExcName → Option Value} {mg mb : Str → Option Value} {A : Around} {base h₀ : Heap} {outer : List Env} {L : Addr} {n : Nat} {s : Shared} {E : Value → Shared → Prop} {m : Str → Option Value} {news : List (Addr × Obj)} {env : Env}
/-- lists of ints that the ledger holds -/
def Lists (news : List (Addr × Obj)) (cd : List (List Int)) (ys : List Value) : Prop := Paired (fun c y => ∃ T o its k, y = Value.ref T ∧ (T, o) ∈ news ∧ o.cls = .type "list" ∧ o.data = .seq its k ∧ IntsAre its.toList c ∧ its.size ≤ 1000) cd ys
theorem Lists.get : ∀ {cd : List (List Int)} {ys : List Value}, Lists news cd ys → ∀ j, j < cd.length → ∃ T o its k, ys[j]? = some (.ref T) ∧ (T, o) ∈ news ∧ o.cls = .type "list" ∧ o.data = .seq its k ∧ IntsAre its.toList (cd.getD j []) ∧ its.size ≤ 1000
  | _, _, .nil, j, h => by simp at h
  | _, _, .cons ⟨T, o, its, k, e, h1, h2, h3, h4, h5⟩ r, 0, _ => ⟨T, o, its, k, by rw [e]; rfl, h1, h2, h3, h4, h5⟩
  | _, _, .cons _ r, j + 1, h => by
    obtain ⟨T, o, its, k, e, h1, h2, h3, h4, h5⟩ := Lists.get r j (by simpa using h)
    exact ⟨T, o, its, k, by simpa using e, h1, h2, h3, by simpa using h4, h5⟩
def pickI (cd : List (List Int)) (S : List Nat) : List Int := (S.map fun j => cd.getD j []).flatten
theorem ints_flat {cd : List (List Int)} : ∀ {S : List Nat} {pieces : List (Array Value)}, Paired (fun (j : Nat) (p : Array Value) => IntsAre p.toList (cd.getD j [])) S pieces → IntsAre (pieces.map Array.toList).flatten (pickI cd S)
  | _, _, .nil => .nil
  | _, _, .cons h r => by
    have ih := ints_flat r
    unfold pickI at ih ⊢
    rw [List.map_cons, List.map_cons, List.flatten_cons, List.flatten_cons]
    exact IntsAre.append h ih
theorem tr8 {Q : Flow → Shared → Prop} {to aC aP aN aK : Addr} {oP oN oK : Obj} {its ysC ysP ysN ysK : Array Value} {nk kK : Nat} {tp tn : List (List Nat)} {cd : List (List Int)} {S0 : List Nat} {g : Obj → List (Addr × Obj)} (cx : Cx w mean mg mb A base outer h₀ 3)
    (F : Fr h₀ L s.heap m) (N : News h₀ L s.heap news) (U : UpdF to (W.listOf its nk) news g) (hmem : (to, W.listOf its nk) ∈ news) (hsz : its.size ≤ 1000) (hto : m (S "told") = some (.ref to))
    (hC : s.heap.IsList aC ysC) (hmC : m (S "chosen") = some (.ref aC)) (hS : IntsAre ysC.toList (S0.map fun (j : Nat) => (j : Int))) (hn : S0.length ≤ 1000)
    (mP : (L + 1 + 1 + 1, oP) ∈ news) (dP : oP.data = .cell (some (.ref aP))) (hlP : s.heap.IsList aP ysP) (hTP : Txts tp ysP.toList) (hltP : ∀ j ∈ S0, j < tp.length) (htp : tp.length ≤ 1000) (hbP : ∀ l ∈ tp, l.length ≤ 500)
    (mN : (L + 1 + 1 + 1 + 1, oN) ∈ news) (dN : oN.data = .cell (some (.ref aN))) (hlN : s.heap.IsList aN ysN) (hTN : Txts tn ysN.toList) (hltN : ∀ j ∈ S0, j < tn.length) (htn : tn.length ≤ 1000) (hbN : ∀ l ∈ tn, l.length ≤ 500)
    (mK : (L + 1 + 1 + 1 + 1 + 1, oK) ∈ news) (dK : oK.data = .cell (some (.ref aK))) (hlK : (aK, W.listOf ysK kK) ∈ news) (hK : Lists news cd ysK.toList) (hltK : ∀ j ∈ S0, j < cd.length) (hcd : cd.length ≤ 1000)
    (cont : ∀ h' tk T t1 t2 D ys nD, Fr h₀ L h' m → News h₀ L h' ((T, tup3 (.str (mk (pick tp S0)) t1) (.str (mk (pick tn S0)) t2) (.ref D)) :: (D, W.listOf ys nD) :: g (W.listOf (its.push (.ref T)) (nk + 1))) → IntsAre ys.toList (pickI cd S0) →
      s.heap.get? T = none → s.heap.get? D = none → Q .next { s with heap := h', toks := tk }) :
    wpAny (model P0 w) (A.deeper (lawEnv L)) (exec (trn 8) (lawEnv L)) Q E s := by
  conv in (trn 8) => whnf
  refine wpAny_Expr ?_
  refine MethodCall_ ?_ (by rfl)
  refine nm_loc (env := lawEnv L) F.ns hto rfl (by rfl) ?_
  refine Calls.getMethod_list_append (N _ hmem).1 rfl rfl ?_
  refine callWith_method1 ?_
  refine spliced_more ?_
  refine Tuple_ ?_
  refine spliced_more ?_
  refine join_pick F cx.hh hC hmC (N _ mP).1 dP hlP hTP hS hltP hn htp hbP (by with_unfolding_all rfl) (by decide) (by rfl) (by decide) (by rfl) (fun C => by rfl) (by decide) (by decide) (by rfl) ?_
  intro h1 tk1 t1 hk1
  have F1 := fr_keeps F hk1
  have N1 := news_keeps N hk1
  refine spliced_more ?_
  refine join_pick F1 cx.hh (hC.at fun o e => hk1 _ o e) hmC (N1 _ mN).1 dN (hlN.at fun o e => hk1 _ o e) hTN hS hltN hn htn hbN (by with_unfolding_all rfl) (by decide) (by rfl) (by decide) (by rfl) (fun C => by rfl) (by decide) (by decide) (by rfl) ?_
  intro h2 tk2 t2 hk2
  have F2 := fr_keeps F1 hk2
  have N2 := news_keeps N1 hk2
  have hk12 : Kp s.heap h2 := fun b o e => hk2 b o (hk1 b o e)
  refine spliced_more ?_
  refine comp2_list (cl := [(S "codes", L + 1 + 1 + 1 + 1 + 1)]) (fun v its => its.size ≤ 1000 ∧ ∀ (j : Nat) t, v = .int (j : Int) t → IntsAre its.toList (cd.getD j [])) cx.hh (by with_unfolding_all rfl) (by decide) (by rfl) (by decide) (by rfl) (by rfl) (fun _ _ h => h.1) ?_
  refine nm_loc (env := lawEnv L) F2.ns hmC rfl (by rfl) ?_
  refine ⟨aC, ysC, rfl, hC.at fun o e => hk12 _ o e, ?_, ?_, ?_⟩
  · have := hS.length
    simp only [Array.length_toList, List.length_map] at this
    omega
  · intro C v s₃ m₃ E' _ hv hn₃ hm₃ hk₃
    obtain ⟨j, hj, t, rfl⟩ := nats_mem hS v hv
    obtain ⟨T, o, its', k', hxj, hm', hcls, hdat, hints, hsz'⟩ := Lists.get hK j (hltK j hj)
    have := hltK j hj
    have hKlen := Paired.length hK
    have N3 := news_keeps N2 hk₃
    refine Subscript_ ?_
    refine nm_cell (c := L + 1 + 1 + 1 + 1 + 1) (v := .ref aK) (by rfl) ⟨oK, (N3 _ mK).1, dK⟩ rfl (by rfl) ?_
    refine nm_loc hn₃ hm₃ rfl (by rfl) ?_
    refine item_list (News.isList N3 hlK) (by omega) ?_ (x := .ref T) (by rw [Int.toNat_natCast]; simpa using hxj) ?_
    · omega
    · refine ⟨T, its', rfl, ⟨o, (N3 _ hm').1, hcls, k', hdat⟩, Heap.lt_size (N2 _ hm').1, ⟨hsz', fun j' t' e => ?_⟩, _, _, rfl, fun _ _ e => e⟩
      have : j = j' := by have := (Value.int.inj e).1; omega
      subst this
      exact hints
  · intro D h3 tk3 ys pieces hD hpl hP hys hk3
    obtain ⟨nD, hpl⟩ := hpl
    have F3 := fr_keeps F2 hk3
    have N3 := news_add F2 N2 hk3 hD hpl
    have hints : IntsAre ys.toList (pickI cd S0) := by
      rw [hys]
      exact ints_flat ((Paired.comp (nats_paired hS) hP).mono fun j p ⟨v, ⟨t, e⟩, h⟩ => h.2 j t e)
    refine spliced_none ?_
    have U3 := UpdF.tail (p := (D, W.listOf ys nD)) (fresh_ne N2 hD hmem) U
    have hk13 : Kp s.heap h3 := fun b o e => hk3 b o (hk12 b o e)
    refine wpAny_mono (app_tup F3 N3 U3 (.tail _ hmem) hsz (Q := fun v s' => v = .none ∧ Q .next s') ?_) (fun v s₁ h₁ => spliced_none (wpAny_mono h₁ (fun v s₂ h₂ => ?_) fun _ _ e => e)) fun _ _ e => e
    · intro h' T F' N' hn'
      exact ⟨rfl, cont h' _ T _ _ D ys nD F' N' hints (none_back hk13 hn') (none_back hk12 hD)⟩
    · obtain ⟨rfl, h₂⟩ := h₂
      exact h₂
end
end LW
end
section
open PySem PySem.W PyProof.Rows PySem.Calls PySem.Spec
set_option linter.all false
set_option maxRecDepth 100000
set_option maxHeartbeats 4000000
namespace LW
def cdOf (kn : Nat) (tx : List (List Nat)) : List (List Int) := tx.map fun l => codesOf (esc kn (prep l))
/-- what stands while the two loops go -/
structure Fx (L : Addr) (kn cnt : Nat) (tx : List (List Nat)) (fix : List (Addr × Obj)) : Prop where
  hk : kn < 5
  c4 : cnt ≤ 4
  len : tx.length = cnt
  ok : ∀ l ∈ tx, l.length ≤ 2 ∧ ∀ c ∈ l, c ∈ menuT
  texts : ∃ o a ys n, (L + 1 + 1, o) ∈ fix ∧ o.data = .cell (some (.ref a)) ∧ (a, W.listOf ys n) ∈ fix ∧ Txts tx ys.toList
  pages : ∃ o a ys n, (L + 1 + 1 + 1, o) ∈ fix ∧ o.data = .cell (some (.ref a)) ∧ (a, W.listOf ys n) ∈ fix ∧ Txts (tx.map (esc kn)) ys.toList
  names : ∃ o a ys n, (L + 1 + 1 + 1 + 1, o) ∈ fix ∧ o.data = .cell (some (.ref a)) ∧ (a, W.listOf ys n) ∈ fix ∧ Txts (tx.map prep) ys.toList
  codes : ∃ o a ys n, (L + 1 + 1 + 1 + 1 + 1, o) ∈ fix ∧ o.data = .cell (some (.ref a)) ∧ (a, W.listOf ys n) ∈ fix ∧ Lists fix (cdOf kn tx) ys.toList
theorem Lists.mono {n1 n2 : List (Addr × Obj)} (h : ∀ p ∈ n1, p ∈ n2) {cd : List (List Int)} {ys : List Value} (x : Lists n1 cd ys) : Lists n2 cd ys :=
  Paired.mono (fun _ _ ⟨T, o, its, k, e, h1, r⟩ => ⟨T, o, its, k, e, h _ h1, r⟩) x
/-- the names that the loops read -/
structure Lm (kn cnt : Nat) (mark : Int) (sh to aW : Addr) (m : Str → Option Value) : Prop where
  count : ∃ t, m (S "count") = some (.int (cnt : Int) t)
  mark : ∃ t, m (S "mark") = some (.int mark t)
  writer : m (S "writer") = some (.ref (wa kn))
  shown : m (S "shown") = some (.ref sh)
  told : m (S "told") = some (.ref to)
  twice : m (S "twice") = some (.ref aW)
theorem Lm.set {kn cnt : Nat} {mark : Int} {sh to aW : Addr} {m : Str → Option Value} {x : Str} {v : Option Value} (h : Lm kn cnt mark sh to aW m) (hx : x ∉ [S "count", S "mark", S "writer", S "shown", S "told", S "twice"]) :
    Lm kn cnt mark sh to aW (fun z => if z = x then v else m z) := by
  have ne : ∀ y ∈ [S "count", S "mark", S "writer", S "shown", S "told", S "twice"], y ≠ x := fun y hy e => hx (e ▸ hy)
  have go : ∀ y ∈ [S "count", S "mark", S "writer", S "shown", S "told", S "twice"], (fun z => if z = x then v else m z) y = m y := fun y hy => if_neg (ne y hy)
  obtain ⟨⟨t1, h1⟩, ⟨t2, h2⟩, h3, h4, h5, h6⟩ := h
  exact ⟨⟨t1, (go _ (by simp)).trans h1⟩, ⟨t2, (go _ (by simp)).trans h2⟩, (go _ (by simp)).trans h3, (go _ (by simp)).trans h4, (go _ (by simp)).trans h5, (go _ (by simp)).trans h6⟩
/-- what one choice makes of the joined text -/
def prodOf (kn : Nat) (tx : List (List Nat)) (S0 : List Nat) : Int := ((esc kn (esc kn (pick tx S0))).length : Int) * ((prep (pick tx S0)).length : Int) * (codesOf (esc kn (prep (pick tx S0)))).sum
abbrev Rp := List Nat × List Nat × List Int
def rep (kn : Nat) (tx : List (List Nat)) (S0 : List Nat) : Rp := (esc kn (pick tx S0), prep (pick tx S0), codesOf (esc kn (prep (pick tx S0))))
def Rep (led : List (Addr × Obj)) (d : Rp) (y : Value) : Prop :=
  ∃ T t1 t2 N its k, y = Value.ref T ∧ (T, tup3 (.str (mk d.1) t1) (.str (mk d.2.1) t2) (.ref N)) ∈ led ∧ (N, W.listOf its k) ∈ led ∧ IntsAre its.toList d.2.2
theorem Rep.mono {n1 n2 : List (Addr × Obj)} (h : ∀ p ∈ n1, p ∈ n2) {d : Rp} {y : Value} (x : Rep n1 d y) : Rep n2 d y := by
  obtain ⟨T, t1, t2, N, its, k, e, h1, h2, r⟩ := x
  exact ⟨T, t1, t2, N, its, k, e, h _ h1, h _ h2, r⟩
/-- homomorphisms go under pick -/
theorem pick_map {f : List Nat → List Nat} {g : Nat → List Nat} (hf : ∀ l, f l = l.flatMap g) (tx : List (List Nat)) : ∀ S0 : List Nat, pick (tx.map f) S0 = f (pick tx S0)
  | [] => by rw [hf]; rfl
  | j :: S0 => by
    have ih := pick_map hf tx S0
    have hj : (tx.map f).getD j [] = f (tx.getD j []) := by
      by_cases h : j < tx.length
      · simp [List.getD, h]
      · simp only [List.getD, List.getElem?_map, List.getElem?_eq_none (Nat.le_of_not_lt h)]
        show [] = f []
        rw [hf]; rfl
    have e1 : pick (tx.map f) (j :: S0) = (tx.map f).getD j [] ++ pick (tx.map f) S0 := rfl
    have e2 : pick tx (j :: S0) = tx.getD j [] ++ pick tx S0 := rfl
    rw [e1, e2, ih, hj, hf (_ ++ _), List.flatMap_append, ← hf, ← hf]
theorem pickI_codes (kn : Nat) (tx : List (List Nat)) : ∀ S0 : List Nat, pickI (cdOf kn tx) S0 = codesOf (esc kn (prep (pick tx S0)))
  | [] => rfl
  | j :: S0 => by
    have ih := pickI_codes kn tx S0
    have hj : (cdOf kn tx).getD j [] = codesOf (esc kn (prep (tx.getD j []))) := by
      by_cases h : j < tx.length
      · simp [cdOf, List.getD, h]
      · simp only [cdOf, List.getD, List.getElem?_map, List.getElem?_eq_none (Nat.le_of_not_lt h)]
        rfl
    have e1 : pickI (cdOf kn tx) (j :: S0) = (cdOf kn tx).getD j [] ++ pickI (cdOf kn tx) S0 := rfl
    have e2 : pick tx (j :: S0) = tx.getD j [] ++ pick tx S0 := rfl
    rw [e1, e2, ih, hj]
    unfold codesOf esc prep
    simp only [List.flatMap_append, List.map_append]
theorem chosen_mem {cnt i j : Nat} (h : j ∈ chosenOf cnt i) : j < cnt := List.mem_range.mp (List.mem_filter.mp h).1
theorem chosen_len (cnt i : Nat) : (chosenOf cnt i).length ≤ cnt := by
  have := List.length_filter_le (bitB i) (List.range cnt)
  simpa [chosenOf] using this
theorem pick_sub {tx : List (List Nat)} {P : Nat → Prop} (h : ∀ l ∈ tx, ∀ c ∈ l, P c) (S0 : List Nat) : ∀ c ∈ pick tx S0, P c := fun c hc => by
  obtain ⟨l, hl, hc⟩ := List.mem_flatten.mp hc
  obtain ⟨j, _, rfl⟩ := List.mem_map.mp hl
  by_cases hj : j < tx.length
  · rw [List.getD_eq_getElem?_getD, List.getElem?_eq_getElem hj] at hc
    exact h _ (List.getElem_mem hj) c hc
  · rw [List.getD_eq_getElem?_getD, List.getElem?_eq_none (Nat.le_of_not_lt hj)] at hc
    simp at hc
end LW
end
section
open PySem PySem.W PyProof.Rows PySem.Calls PySem.Spec
set_option linter.all false
set_option maxRecDepth 100000
set_option maxHeartbeats 4000000
namespace LW
section
variable {w : World} {mean : ExcName → Option Value} {mg mb : Str → Option Value} {A : Around} {base h₀ : Heap} {outer : List Env} {L : Addr} {n : Nat} {s : Shared} {E : Value → Shared → Prop} {m : Str → Option Value} {news : List (Addr × Obj)} {env : Env}
theorem turn1 {Q : Flow → Shared → Prop} {kn cnt i : Nat} {mark : Int} {tx : List (List Nat)} {fix own : List (Addr × Obj)} {sh to aW It : Addr} {oI oc : Obj} {shs tos : Array Value} {n1 n2 : Nat} {ti : Tok} {ds : List Rp} {lf : Int} {tl : Tok}
    (cx : Cx w mean mg mb A base [] h₀ 3) (XB : (KK w.params).In base) (TB : Top vw (looseW vw lo) mean mg mb base) (fx : Fx L kn cnt tx fix) (hmk : mark = 0 ∨ mark = 128)
    (F : Fr h₀ L s.heap m) (N : News h₀ L s.heap ((It, oI) :: (L + 1 + 1 + 1 + 1 + 1 + 1, oc) :: (sh, W.listOf shs n1) :: (to, W.listOf tos n2) :: (own ++ fix)))
    (di : oc.data = .cell (some (.int (i : Int) ti))) (lm : Lm kn cnt mark sh to aW m) (hlf : m (S "left") = some (.int lf tl)) (ha : Paired (Rep own) ds shs.toList) (hb : Paired (Rep own) ds tos.toList) (hds : ds.length ≤ 500)
    (e1 : @Ne Nat It sh) (e2 : @Ne Nat It to) (e3 : @Ne Nat (L + 1 + 1 + 1 + 1 + 1 + 1) sh) (e4 : @Ne Nat (L + 1 + 1 + 1 + 1 + 1 + 1) to) (e5 : @Ne Nat sh to)
    (off : ∀ p ∈ own ++ fix, @Ne Nat p.1 It ∧ @Ne Nat p.1 (L + 1 + 1 + 1 + 1 + 1 + 1) ∧ @Ne Nat p.1 sh ∧ @Ne Nat p.1 to)
    (cont : ∀ h' tk m' own' shs' tos' n1' n2' tl', Fr h₀ L h' m' → News h₀ L h' ((It, oI) :: (L + 1 + 1 + 1 + 1 + 1 + 1, oc) :: (sh, W.listOf shs' n1') :: (to, W.listOf tos' n2') :: (own' ++ fix)) → Lm kn cnt mark sh to aW m' →
      m' (S "left") = some (.int (lf + signed cnt (chosenOf cnt i).length (prodOf kn tx (chosenOf cnt i))) tl') →
      Paired (Rep own') (ds ++ [rep kn tx (chosenOf cnt i)]) shs'.toList → Paired (Rep own') (ds ++ [rep kn tx (chosenOf cnt i)]) tos'.toList →
      (∀ p ∈ own' ++ fix, @Ne Nat p.1 It ∧ @Ne Nat p.1 (L + 1 + 1 + 1 + 1 + 1 + 1) ∧ @Ne Nat p.1 sh ∧ @Ne Nat p.1 to) → Q .next { s with heap := h', toks := tk }) :
    wpAny (model P0 w) (A.deeper (lawEnv L)) (execs (forBody (stm 14)) (lawEnv L)) Q E s := by
  rw [turn_split]
  obtain ⟨tc, hc⟩ := lm.count
  obtain ⟨tm, hmm⟩ := lm.mark
  have hw := lm.writer
  have hS0 : ∀ j ∈ chosenOf cnt i, j < tx.length := fun j hj => by rw [fx.len]; exact chosen_mem hj
  have hSn : (chosenOf cnt i).length ≤ 4 := Nat.le_trans (chosen_len cnt i) fx.c4
  have hlen4 : tx.length ≤ 4 := by rw [fx.len]; exact fx.c4
  have hpk : (pick tx (chosenOf cnt i)).length ≤ 8 := by
    have := pick_le (b := 2) (fun l hl => (fx.ok l hl).1) (chosenOf cnt i)
    omega
  have hpm := pick_sub (P := fun c => c ∈ menuT) (fun l hl => (fx.ok l hl).2) (chosenOf cnt i)
  generalize hSS : chosenOf cnt i = S0 at *
  obtain ⟨oT, aT, ysT, nT, mT1, dT, mT2, hT⟩ := fx.texts
  obtain ⟨oP, aP, ysP, nP, mP1, dP, mP2, hP⟩ := fx.pages
  obtain ⟨oN, aN, ysN, nN, mN1, dN, mN2, hN⟩ := fx.names
  obtain ⟨oK, aK, ysK, nK, mK1, dK, mK2, hK⟩ := fx.codes
  have inF : ∀ {p : Addr × Obj} {a b c d : Addr × Obj}, p ∈ fix → p ∈ a :: b :: c :: d :: (own ++ fix) := fun h => .tail _ (.tail _ (.tail _ (.tail _ (List.mem_append_right _ h))))
  refine wpAny_execs_cons ?_
  refine tr0 cx F N (.tail _ (.head _)) di hc fx.c4 ?_
  intro h1 tk1 aC ysC nC F1 N1 hSi n1f
  have qC1 := fresh_ne N n1f (b := It) (.head _)
  have qC2 := fresh_ne N n1f (b := L + 1 + 1 + 1 + 1 + 1 + 1) (.tail _ (.head _))
  have qC3 := fresh_ne N n1f (b := sh) (.tail _ (.tail _ (.head _)))
  have qC4 := fresh_ne N n1f (b := to) (.tail _ (.tail _ (.tail _ (.head _))))
  have lm1 := lm.set (x := S "chosen") (v := some (.ref aC)) (by decide)
  rw [hSS] at hSi
  have hszC : ysC.size = S0.length := by
    have := hSi.length
    simpa using this
  dsimp only
  refine wpAny_execs_cons ?_
  refine tr1 cx F1 N1 (News.isList N1 (.head _)) rfl (N1 _ (.tail _ (inF mT1))).1 dT (News.isList N1 (.tail _ (inF mT2))) hT hSi hS0 (by omega) (by omega) (fun l hl => by have := (fx.ok l hl).1; omega) ?_
  intro h2 tk2 t2 F2 N2
  have lm2 := lm1.set (x := S "joined") (v := some (.str (mk (pick tx S0)) t2)) (by decide)
  dsimp only
  refine wpAny_execs_cons ?_
  refine tr2 (l := pick tx S0) (tj := t2) cx F2 N2 fx.hk lm2.writer (by omega) rfl ?_
  intro h3 tk3 t3 F3 N3
  have lm3 := lm2.set (x := S "page") (v := some (.str (mk (esc kn (pick tx S0))) t3)) (by decide)
  dsimp only
  refine wpAny_execs_cons ?_
  refine tr3 (l := pick tx S0) (tj := t2) cx F3 N3 (by omega) hpm rfl ?_
  intro h4 tk4 t4 F4 N4
  have lm4 := lm3.set (x := S "prepared") (v := some (.str (mk (prep (pick tx S0))) t4)) (by decide)
  have hpl := prep_le (pick tx S0)
  have hel := esc_le kn (pick tx S0)
  obtain ⟨tm4, hm4⟩ := lm4.mark
  dsimp only
  refine wpAny_execs_cons ?_
  refine tr4 (l := prep (pick tx S0)) (tp := t4) cx XB TB F4 N4 fx.hk lm4.writer (by omega) (prep_small hpm) hmk rfl hm4 ?_
  intro h5 tk5 aM itM kM F5 N5 hM n5f
  have qM1 := fresh_ne N4 n5f (b := It) (.tail _ (.head _))
  have qM2 := fresh_ne N4 n5f (b := L + 1 + 1 + 1 + 1 + 1 + 1) (.tail _ (.tail _ (.head _)))
  have qM3 := fresh_ne N4 n5f (b := sh) (.tail _ (.tail _ (.tail _ (.head _))))
  have qM4 := fresh_ne N4 n5f (b := to) (.tail _ (.tail _ (.tail _ (.tail _ (.head _)))))
  have lm5 := lm4.set (x := S "numbers") (v := some (.ref aM)) (by decide)
  dsimp only
  refine wpAny_execs_cons ?_
  refine tr5 (l := esc kn (pick tx S0)) (lp := prep (pick tx S0)) (t1 := t3) (t2 := t4) cx F5 N5 fx.hk lm5.writer (by omega) (by omega) rfl rfl rfl (.head _) hM ?_
  intro h6 tk6 t6 F6 N6
  have lm6 := lm5.set (x := S "product") (v := some (.int (prodOf kn tx S0) t6)) (by decide)
  obtain ⟨tc6, hc6⟩ := lm6.count
  dsimp only
  refine wpAny_execs_cons ?_
  refine tr6 (Pr := prodOf kn tx S0) (tp := t6) (lf := lf) (tl := tl) (cnt := cnt) (aC := aC) (ysC := ysC) cx F6 N6 hc6 hlf rfl rfl (News.isList N6 (.tail _ (.head _))) (by omega) ?_
  intro h7 tk7 t7 F7 N7
  rw [hszC] at F7
  have lm7 := lm6.set (x := S "left") (v := some (.int (lf + signed cnt S0.length (prodOf kn tx S0)) t7)) (by decide)
  have hl1 : shs.size ≤ 1000 := by
    have := Paired.length ha
    simp only [Array.length_toList] at this
    omega
  have hl2 : tos.size ≤ 1000 := by
    have := Paired.length hb
    simp only [Array.length_toList] at this
    omega
  dsimp only
  refine wpAny_execs_cons ?_
  refine tr7 (x := .str (mk (esc kn (pick tx S0))) t3) (y := .str (mk (prep (pick tx S0))) t4) (z := .ref aM) F7 N7 (.tail qM3 (.tail qC3 (.tail e1 (.tail e3 (.head (fun p hp => ?_)))))) (.tail _ (.tail _ (.tail _ (.tail _ (.head _))))) hl1 lm7.shown rfl rfl rfl ?_
  · rcases List.mem_cons.mp hp with rfl | hp
    · exact Ne.symm e5
    · exact (off p hp).2.2.1
  intro h8 tk8 aT1 F8 N8 n8f
  have qT1 := fresh_ne N7 n8f (b := It) (.tail _ (.tail _ (.head _)))
  have qT2 := fresh_ne N7 n8f (b := L + 1 + 1 + 1 + 1 + 1 + 1) (.tail _ (.tail _ (.tail _ (.head _))))
  have qT3 := fresh_ne N7 n8f (b := sh) (.tail _ (.tail _ (.tail _ (.tail _ (.head _)))))
  have qT4 := fresh_ne N7 n8f (b := to) (.tail _ (.tail _ (.tail _ (.tail _ (.tail _ (.head _))))))
  have inG : ∀ {p : Addr × Obj} {a b c d e f g : Addr × Obj}, p ∈ fix → p ∈ a :: b :: c :: d :: e :: f :: g :: (own ++ fix) := fun h => .tail _ (.tail _ (.tail _ (.tail _ (.tail _ (.tail _ (.tail _ (List.mem_append_right _ h)))))))
  dsimp only
  refine wpAny_execs_cons ?_
  refine tr8 (S0 := S0) (aC := aC) (ysC := ysC) (tp := tx.map (esc kn)) (tn := tx.map prep) (cd := cdOf kn tx) cx F8 N8 (.tail qT4 (.tail qM4 (.tail qC4 (.tail e2 (.tail e4 (.tail e5 (.head (fun p hp => (off p hp).2.2.2)))))))) (.tail _ (.tail _ (.tail _ (.tail _ (.tail _ (.tail _ (.head _))))))) hl2 lm7.told
    (News.isList N8 (.tail _ (.tail _ (.head _)))) rfl hSi (by omega) (inG mP1) dP (News.isList N8 (inG mP2)) hP (by simpa using hS0) (by simpa using (by omega : tx.length ≤ 1000)) ?_ (inG mN1) dN (News.isList N8 (inG mN2)) hN (by simpa using hS0) (by simpa using (by omega : tx.length ≤ 1000)) ?_
    (inG mK1) dK (inG mK2) (hK.mono fun p hp => inG hp) (by simpa [cdOf] using hS0) (by simpa [cdOf] using (by omega : tx.length ≤ 1000)) ?_
  · intro l hl
    obtain ⟨l', hl', rfl⟩ := List.mem_map.mp hl
    have := (fx.ok l' hl').1
    have := esc_le kn l'
    omega
  · intro l hl
    obtain ⟨l', hl', rfl⟩ := List.mem_map.mp hl
    have := (fx.ok l' hl').1
    have := prep_le l'
    omega
  intro h9 tk9 aT2 t91 t92 aD ysD nD F9 N9 hD n9f n9g
  rw [pick_map (f := esc kn) (g := look (tabL kn)) (fun _ => rfl), pick_map (f := prep) (g := fun (c : Nat) => if b1S (c : Int) then [] else fold c) (fun _ => rfl)] at N9
  rw [pickI_codes] at hD
  have qU1 := fresh_ne N8 n9f (b := It) (.tail _ (.tail _ (.tail _ (.head _))))
  have qU2 := fresh_ne N8 n9f (b := L + 1 + 1 + 1 + 1 + 1 + 1) (.tail _ (.tail _ (.tail _ (.tail _ (.head _)))))
  have qU3 := fresh_ne N8 n9f (b := sh) (.tail _ (.tail _ (.tail _ (.tail _ (.tail _ (.head _))))))
  have qU4 := fresh_ne N8 n9f (b := to) (.tail _ (.tail _ (.tail _ (.tail _ (.tail _ (.tail _ (.head _)))))))
  have qD1 := fresh_ne N8 n9g (b := It) (.tail _ (.tail _ (.tail _ (.head _))))
  have qD2 := fresh_ne N8 n9g (b := L + 1 + 1 + 1 + 1 + 1 + 1) (.tail _ (.tail _ (.tail _ (.tail _ (.head _)))))
  have qD3 := fresh_ne N8 n9g (b := sh) (.tail _ (.tail _ (.tail _ (.tail _ (.tail _ (.head _))))))
  have qD4 := fresh_ne N8 n9g (b := to) (.tail _ (.tail _ (.tail _ (.tail _ (.tail _ (.tail _ (.head _)))))))
  dsimp only
  refine wpAny_execs_nil ?_
  have up : ∀ p ∈ own, p ∈ (aT2, tup3 (.str (mk (esc kn (pick tx S0))) t91) (.str (mk (prep (pick tx S0))) t92) (.ref aD)) :: (aD, W.listOf ysD nD) :: (aT1, tup3 (.str (mk (esc kn (pick tx S0))) t3) (.str (mk (prep (pick tx S0))) t4) (.ref aM)) :: (aM, W.listOf itM kM) :: own :=
    fun p hp => .tail _ (.tail _ (.tail _ (.tail _ hp)))
  refine cont h9 _ _ ((aT2, tup3 (.str (mk (esc kn (pick tx S0))) t91) (.str (mk (prep (pick tx S0))) t92) (.ref aD)) :: (aD, W.listOf ysD nD) :: (aT1, tup3 (.str (mk (esc kn (pick tx S0))) t3) (.str (mk (prep (pick tx S0))) t4) (.ref aM)) :: (aM, W.listOf itM kM) :: own)
    (shs.push (.ref aT1)) (tos.push (.ref aT2)) (n1 + 1) (n2 + 1) t7 F9 (fun p hp => N9 p ?_) lm7 rfl ?_ ?_ ?_
  · simp only [List.cons_append, List.mem_cons, List.mem_append] at hp ⊢
    rcases hp with h | h | h | h | h | h | h | h | h | h <;> simp [h]
  · rw [push_toList]
    exact Paired.snoc (ha.mono fun d y h => h.mono up) ⟨aT1, t3, t4, aM, itM, kM, rfl, .tail _ (.tail _ (.head _)), .tail _ (.tail _ (.tail _ (.head _))), hM⟩
  · rw [push_toList]
    exact Paired.snoc (hb.mono fun d y h => h.mono up) ⟨aT2, t91, t92, aD, ysD, nD, rfl, .head _, .tail _ (.head _), hD⟩
  · intro p hp
    simp only [List.cons_append, List.mem_cons] at hp
    rcases hp with rfl | rfl | rfl | rfl | hp
    · exact ⟨qU1, qU2, qU3, qU4⟩
    · exact ⟨qD1, qD2, qD3, qD4⟩
    · exact ⟨qT1, qT2, qT3, qT4⟩
    · exact ⟨qM1, qM2, qM3, qM4⟩
    · exact off p hp
end
end LW
end
section
open PySem PySem.W PyProof.Rows PySem.Calls PySem.Spec
set_option linter.all false
set_option maxRecDepth 100000
set_option maxHeartbeats 4000000
namespace LW
section
variable {w : World} {mean : ExcName → Option Value} {mg mb : Str → Option Value} {A : Around} {base h₀ : Heap} {outer : List Env} {L : Addr} {n : Nat} {s : Shared} {E : Value → Shared → Prop} {m : Str → Option Value} {news : List (Addr × Obj)} {env : Env}
def lsum (kn cnt : Nat) (tx : List (List Nat)) : Nat → Int
  | 0 => 0
  | i + 1 => lsum kn cnt tx i + signed cnt (chosenOf cnt i).length (prodOf kn tx (chosenOf cnt i))
def reps (kn cnt : Nat) (tx : List (List Nat)) (i : Nat) : List Rp := (List.range i).map fun j => rep kn tx (chosenOf cnt j)
theorem reps_succ (kn cnt : Nat) (tx : List (List Nat)) (i : Nat) : reps kn cnt tx (i + 1) = reps kn cnt tx i ++ [rep kn tx (chosenOf cnt i)] := by
  unfold reps
  rw [List.range_succ, List.map_append]; rfl
theorem reps_len (kn cnt : Nat) (tx : List (List Nat)) (i : Nat) : (reps kn cnt tx i).length = i := by simp [reps]
abbrev rngO (x left : Int) : Obj := { cls := .type "range_iterator", dict := none, data := .fields #[rawInt x, rawInt left, rawInt 1], slots := #[] }
theorem pow_le16 {cnt : Nat} (h : cnt ≤ 4) : 2 ^ cnt ≤ 16 := Nat.pow_le_pow_right (n := 2) (by decide) h
theorem loop1 {Q : Flow → Shared → Prop} {kn cnt : Nat} {mark : Int} {tx : List (List Nat)} {fix : List (Addr × Obj)} {sh to aW : Addr} {oc : Obj} {n1 n2 : Nat} {v0 : Option Value} {tl : Tok}
    (cx : Cx w mean mg mb A base [] h₀ 3) (XB : (KK w.params).In base) (TB : Top vw (looseW vw lo) mean mg mb base) (fx : Fx L kn cnt tx fix) (hmk : mark = 0 ∨ mark = 128)
    (F : Fr h₀ L s.heap m) (N : News h₀ L s.heap ((L + 1 + 1 + 1 + 1 + 1 + 1, oc) :: (sh, W.listOf #[] n1) :: (to, W.listOf #[] n2) :: fix))
    (dc : oc.data = .cell v0) (lm : Lm kn cnt mark sh to aW m) (hlf : m (S "left") = some (.int 0 tl))
    (e3 : @Ne Nat (L + 1 + 1 + 1 + 1 + 1 + 1) sh) (e4 : @Ne Nat (L + 1 + 1 + 1 + 1 + 1 + 1) to) (e5 : @Ne Nat sh to)
    (off : ∀ p ∈ fix, @Ne Nat p.1 (L + 1 + 1 + 1 + 1 + 1 + 1) ∧ @Ne Nat p.1 sh ∧ @Ne Nat p.1 to)
    (cont : ∀ h' tk m' own shs tos k1 k2 tl', Fr h₀ L h' m' → News h₀ L h' ((sh, W.listOf shs k1) :: (to, W.listOf tos k2) :: (own ++ fix)) → Lm kn cnt mark sh to aW m' →
      m' (S "left") = some (.int (lsum kn cnt tx (2 ^ cnt)) tl') → Paired (Rep own) (reps kn cnt tx (2 ^ cnt)) shs.toList → Paired (Rep own) (reps kn cnt tx (2 ^ cnt)) tos.toList → Q .next { s with heap := h', toks := tk }) :
    wpAny (model P0 w) (A.deeper (lawEnv L)) (exec (stm 14) (lawEnv L)) Q E s := by
  have cL := cx.deeperC F (name := fName (st 21)) (scope := fScope (st 21)) (a := 172) (cd := .ref 171)
  obtain ⟨tc, hc⟩ := lm.count
  have h16 := pow_le16 fx.c4
  have c4 := fx.c4
  have key : ∀ (it : Value) (bd : List Stmt) (p : Pos) (s₂ : Shared) (E' : Value → Shared → Prop), bd = forBody (stm 14) →
      (∃ I h₂ tk, it = .ref I ∧ s₂ = { s with heap := h₂, toks := tk } ∧ Kp s.heap h₂ ∧ s.heap.get? I = none ∧ IsRangeIter h₂ I 0 ((2 ^ cnt : Nat) : Int) 1) →
      codeAny (model P0 w) (A.deeper (lawEnv L)) (.forLoop (.Name (S "choice") p) it bd [] (lawEnv L)) (fun r s' => match r with | .ok f => Q f s' | .error e => cameBackBy (model P0 w) (A.deeper (lawEnv L)) (lawEnv L) E' e s') s₂ := by
    rintro _ bd p _ E' rfl ⟨I, h₂, tk₂, rfl, rfl, hk₂, hI, hit⟩
    have q1 := fresh_ne N hI (b := L + 1 + 1 + 1 + 1 + 1 + 1) (.head _)
    have q2 := fresh_ne N hI (b := sh) (.tail _ (.head _))
    have q3 := fresh_ne N hI (b := to) (.tail _ (.tail _ (.head _)))
    have F2 := fr_keeps F hk₂
    have N2 := news_add F N hk₂ hI hit
    refine codeAny_forLoop_any (fun k s' => ∃ j h tk m own shs tos k1 k2 oc v tl, s' = { s with heap := h, toks := tk } ∧ k = 2 ^ cnt - j ∧ j ≤ 2 ^ cnt ∧ Fr h₀ L h m ∧
      News h₀ L h ((I, rngO (j : Int) ((2 ^ cnt : Nat) - (j : Nat) : Int)) :: (L + 1 + 1 + 1 + 1 + 1 + 1, oc) :: (sh, W.listOf shs k1) :: (to, W.listOf tos k2) :: (own ++ fix)) ∧ oc.data = .cell v ∧ Lm kn cnt mark sh to aW m ∧
      m (S "left") = some (.int (lsum kn cnt tx j) tl) ∧ Paired (Rep own) (reps kn cnt tx j) shs.toList ∧ Paired (Rep own) (reps kn cnt tx j) tos.toList ∧
      (∀ p ∈ own ++ fix, @Ne Nat p.1 I ∧ @Ne Nat p.1 (L + 1 + 1 + 1 + 1 + 1 + 1) ∧ @Ne Nat p.1 sh ∧ @Ne Nat p.1 to)) ?_ (2 ^ cnt)
      ⟨0, h₂, tk₂, m, [], #[], #[], n1, n2, oc, v0, tl, rfl, rfl, Nat.zero_le _, F2, ?_, dc, lm, hlf, .nil, .nil, ?_⟩
    · rintro k s' ⟨j, h, tk, m', own, shs, tos, k1, k2, oc', v, tl', rfl, rfl, hj, F3, N3, dc', lm', hlf', ha, hb, off'⟩
      have hit3 : IsRangeIter h I (j : Int) ((2 ^ cnt : Nat) - (j : Nat) : Int) 1 := (N3 _ (.head _)).1
      have zI := N3 _ (.head _)
      by_cases hlt : j < 2 ^ cnt
      · refine wpAny_pyNext_range_item hit3 (by omega) fun h4 hit4 hs4 => ?_
        have F4 : Fr h₀ L h4 m' := F3.change hs4 zI.2.1 zI.2.2
        have N4 : News h₀ L h4 ((I, rngO ((j + 1 : Nat) : Int) ((2 ^ cnt : Nat) - ((j + 1 : Nat) : Nat) : Int)) :: (L + 1 + 1 + 1 + 1 + 1 + 1, oc') :: (sh, W.listOf shs k1) :: (to, W.listOf tos k2) :: (own ++ fix)) := by
          refine news_set (pre := []) N3 (fun p hp => nomatch hp) (fun p hp => ?_) hs4 ?_
          · rcases List.mem_cons.mp hp with rfl | hp
            · exact Ne.symm q1
            · rcases List.mem_cons.mp hp with rfl | hp
              · exact Ne.symm q2
              · rcases List.mem_cons.mp hp with rfl | hp
                · exact Ne.symm q3
                · exact (off' p hp).1
          · have e1 : ((j + 1 : Nat) : Int) = (j : Int) + 1 := by omega
            have e2 : (((2 ^ cnt : Nat) : Int) - ((j + 1 : Nat) : Int)) = ((2 ^ cnt : Nat) : Int) - (j : Int) - 1 := by omega
            rw [e2, e1]
            exact hit4
        dsimp only
        refine wpAny_of_eq (a := ()) rfl ?_
        refine wpAny_assign_Name ?_
        refine storeX_C (cl := cellsFrom (L + 1) (fScope (st 21)).names []) (c := L + 1 + 1 + 1 + 1 + 1 + 1) F4 N4 (by rfl) (.tail q1 (.head fun p hp => ?_)) dc' ?_
        · rcases List.mem_cons.mp hp with rfl | hp
          · exact Ne.symm e3
          · rcases List.mem_cons.mp hp with rfl | hp
            · exact Ne.symm e4
            · exact (off' p hp).2.1
        intro h5 oc5 F5 N5 d5
        refine turn1 (i := j) cx XB TB fx hmk F5 N5 d5 lm' hlf' ha hb (by rw [reps_len]; omega) q2 q3 e3 e4 e5 off' ?_
        intro h6 tk6 m6 own6 shs6 tos6 k16 k26 tl6 F6 N6 lm6 hlf6 ha6 hb6 off6
        refine ⟨2 ^ cnt - (j + 1), by omega, j + 1, h6, tk6, m6, own6, shs6, tos6, k16, k26, oc5, _, tl6, rfl, rfl, hlt, F6, N6, d5, lm6, hlf6, ?_, ?_, off6⟩
        · rw [reps_succ]; exact ha6
        · rw [reps_succ]; exact hb6
      · have hje : j = 2 ^ cnt := by omega
        subst hje
        refine wpAny_pyNext_range_end cx.hh hit3 (by omega) fun h4 he4 => ?_
        dsimp only
        refine wpAny_execs_nil ?_
        have F4 : Fr h₀ L h4 m' := ⟨F3.ns.at' fun o e => he4 _ o (Ne.symm zI.2.1) e, fun b o e => he4 b o (fun q => by rw [q, zI.2.2] at e; cases e) (F3.keep b o e), F3.above⟩
        have N4 : News h₀ L h4 ((sh, W.listOf shs k1) :: (to, W.listOf tos k2) :: (own ++ fix)) := fun p hp => by
          have z := N3 p (.tail _ (.tail _ hp))
          refine ⟨he4 _ _ ?_ z.1, z.2⟩
          rcases List.mem_cons.mp hp with rfl | hp
          · exact Ne.symm q2
          · rcases List.mem_cons.mp hp with rfl | hp
            · exact Ne.symm q3
            · exact (off' p hp).1
        exact cont h4 _ m' own shs tos k1 k2 tl' F4 N4 lm' hlf' ha hb
    · have e0 : (((2 ^ cnt : Nat) : Int) - ((0 : Nat) : Int)) = ((2 ^ cnt : Nat) : Int) := by omega
      rw [e0]
      exact N2
    · intro p hp
      have hp' : p ∈ fix := by simpa using hp
      exact ⟨Ne.symm (fresh_ne N hI (b := p.1) (o := p.2) (.tail _ (.tail _ (.tail _ hp')))), off p hp'⟩
  conv in (stm 14) => whnf
  refine wpAny_For ?_
  refine range_go (n := 2 ^ cnt) cL.X cL.T (by omega) rfl rfl rfl (by rfl) ?_
  refine wpAny_BinOp ?_
  refine wpAny_Constant_int ?_
  refine nm_loc (env := lawEnv L) F.ns hc rfl (by rfl) ?_
  refine pow_int_small (by omega) (by omega) (by decide) ?_
  refine ⟨_, by rw [Int.toNat_natCast]; norm_cast, ?_⟩
  intro h₂ tk I hk hI hit _
  exact key _ _ _ _ _ (by rfl) ⟨I, h₂, tk, rfl, rfl, hk, hI, hit⟩
end
end LW
end
section
open PySem PySem.W PyProof.Rows PySem.Calls PySem.Spec
set_option linter.all false
set_option maxRecDepth 100000
set_option maxHeartbeats 4000000
namespace LW
section
variable {w : World} {mean : ExcName → Option Value} {mg mb : Str → Option Value} {A : Around} {base h₀ : Heap} {outer : List Env} {L : Addr} {n : Nat} {s : Shared} {E : Value → Shared → Prop} {m : Str → Option Value} {news : List (Addr × Obj)} {env : Env}
theorem tm0 {Q : Flow → Shared → Prop} {cnt d : Nat} {tc td : Tok} (cx : Cx w mean mg mb A base [] h₀ 3) (F : Fr h₀ L s.heap m) (N : News h₀ L s.heap news) (h2 : 2 ≤ cnt) (h4 : cnt ≤ 4)
    (hc : m (S "count") = some (.int (cnt : Int) tc)) (hd : m (S "deal") = some (.int (d : Int) td)) (hd64 : d < 64)
    (cont : ∀ h' tk t1 t2 t3, Fr h₀ L h' (fun z => if z = S "first" then some (.int ((d : Int).fmod (cnt : Int)) t1) else if z = S "second" then some (.int (((d : Int).fdiv (cnt : Int)).fmod (cnt : Int)) t2) else if z = S "third" then some (.int ((d : Int).fdiv ((cnt : Int) ^ Int.toNat 2)) t3) else m z) →
      News h₀ L h' news → Q .next { s with heap := h', toks := tk }) :
    wpAny (model P0 w) (A.deeper (lawEnv L)) (exec (trm 0) (lawEnv L)) Q E s := by
  have hkf : (KK w.params).In h₀ ∧ PySem.Challenge.rw_wa0043_01 = PySem.Challenge.rw_wa0043_01 := by
    k_fill
    exact ⟨cx.X, rfl⟩
  clear hkf
  have X := cx.X
  have T := cx.T
  have B := cx.B
  conv in (trm 0) => whnf
  have F2 := fr_know (fr_know F (x := S "count") (v := .int (cnt : Int) tc) hc) (x := S "deal") (v := .int (d : Int) td) hd
  clear F
  k_steps
  have hc2 : (cnt : Int) ^ Int.toNat 2 ≠ 0 := by
    rcases (by omega : cnt = 2 ∨ cnt = 3 ∨ cnt = 4) with rfl | rfl | rfl <;> decide
  have hc3 : ((cnt : Int) ^ Int.toNat 2).natAbs < 1073741824 := by
    rcases (by omega : cnt = 2 ∨ cnt = 3 ∨ cnt = 4) with rfl | rfl | rfl <;> decide
  refine floordiv_int hc2 ?_ (.inl (PyProof.noPylong_small hc3))
  generalize (d : Int).fmod (cnt : Int) = a1 at *
  generalize ((d : Int).fdiv (cnt : Int)).fmod (cnt : Int) = a2 at *
  generalize (d : Int).fdiv ((cnt : Int) ^ Int.toNat 2) = a3 at *
  generalize Shared.toks _ = tkk
  k_steps
  rename Fr _ _ _ _ => F3
  rename News _ _ _ _ => N3
  have F4 := fr_forget (fr_forget F3 hd) hc
  refine unpackItemsN_ F4 N3 ⟨_, (N3 _ (.head _)).1, rfl, _, rfl⟩ cx.hh rfl ?_
  intro h5 F5 N5
  show wpAny _ _ (assignInOrder [bindName (lawEnv L) (S "third"), bindName (lawEnv L) (S "second"), bindName (lawEnv L) (S "first")] [.int a3 _, .int a2 _, .int a1 _]) _ _ _
  refine wpAny_bind (wpAny_holding (wpAny_bindName (storeX_L (cl := cellsFrom (L + 1) (fScope (st 21)).names []) F5 N5 ?_)))
  intro h6 F6 N6
  refine wpAny_bind (wpAny_holding (wpAny_bindName (storeX_L (cl := cellsFrom (L + 1) (fScope (st 21)).names []) F6 N6 ?_)))
  intro h7 F7 N7
  refine wpAny_bind (wpAny_holding (wpAny_bindName (storeX_L (cl := cellsFrom (L + 1) (fScope (st 21)).names []) F7 N7 ?_)))
  intro h8 F8 N8
  refine wpAny_pure ?_
  exact cont _ _ _ _ _ F8 (fun p hp => N8 p (.tail _ hp))
end
end LW
end
section
open PySem PySem.W PyProof.Rows PySem.Calls PySem.Spec
set_option linter.all false
set_option maxRecDepth 100000
set_option maxHeartbeats 4000000
namespace LW
section
variable {w : World} {mean : ExcName → Option Value} {mg mb : Str → Option Value} {A : Around} {base h₀ : Heap} {outer : List Env} {L : Addr} {n : Nat} {s : Shared} {E : Value → Shared → Prop} {m : Str → Option Value} {news : List (Addr × Obj)} {env : Env}
/-- how many of three ints are not alike -/
def dn (a b c : Int) : Nat := if c = a ∨ c = b then (if b = a then 1 else 2) else (if b = a then 2 else 3)
theorem lenset {Q : Value → Shared → Prop} {pos pl p1 p2 p3 ps : Pos} {a b c : Int} {ta tb tc : Tok} (cx : Cx w mean mg mb A base [] h₀ 3) (F : Fr h₀ L s.heap m) (N : News h₀ L s.heap news)
    (ha : m (S "first") = some (.int a ta)) (hb : m (S "second") = some (.int b tb)) (hc : m (S "third") = some (.int c tc))
    (hQ : ∀ h' tk t, Fr h₀ L h' m → News h₀ L h' news → Q (.int (dn a b c : Int) t) { s with heap := h', toks := tk })
    (he : starEach [.Set [.Name (S "first") p1, .Name (S "second") p2, .Name (S "third") p3] 0 ps] (lawEnv L) = (false, eval (.Set [.Name (S "first") p1, .Name (S "second") p2, .Name (S "third") p3] 0 ps) (lawEnv L)) :: starEach [] (lawEnv L) := by rfl) :
    wpAny (model P0 w) (A.deeper (lawEnv L)) (eval (.Call (.Name (S "len") pl) [.Set [.Name (S "first") p1, .Name (S "second") p2, .Name (S "third") p3] 0 ps] [] pos) (lawEnv L)) Q E s := by
  have cL := cx.deeperC F (name := fName (st 21)) (scope := fScope (st 21)) (a := 172) (cd := .ref 171)
  refine bcall1 cL.X cL.T (by kernel_rfl) boot_len rfl rfl rfl (by rfl) ?_ (by decide) (by decide) he
  refine kds_eval (K := KK w.params) F N cx.X (by kernel_rfl) (by rfl) (by rfl) (by simp) ?_
  intro D h1 led F1 N1 hlt so _
  refine nm_loc (env := lawEnv L) F1.ns ha rfl (by rfl) ?_
  refine nm_loc (env := lawEnv L) F1.ns hb rfl (by rfl) ?_
  refine nm_loc (env := lawEnv L) F1.ns hc rfl (by rfl) ?_
  have hne : ∀ p ∈ news, p.1 ≠ D := fun p hp => Nat.ne_of_lt (hlt p hp)
  show KdsFill _ _ _ _ _ _ [_, _, _] _
  refine kds_fill_cons ?_
  refine kds_add F1 N1 (.head hne) so (by unfold scanBound; omega) (intKind_is _ _ _ _) rfl ?_
  intro h2 so2 F2 N2 hs2
  refine kds_fill_cons ?_
  refine kds_add F2 N2 (.head hne) hs2 (by unfold scanBound; simp) (intKind_is _ _ _ _) rfl ?_
  intro h3 so3 F3 N3 hs3
  refine kds_fill_cons ?_
  refine kds_add F3 N3 (.head hne) hs3 (by unfold scanBound; split <;> simp) (intKind_is _ _ _ _) rfl ?_
  intro h4 so4 F4 N4 hs4
  have hn : (if (false || decide (c = a) || decide (c = b)) = true then (if (false || decide (b = a)) = true then (if (fun _ : Int => false) a = true then 0 else 0 + 1) else (if (fun _ : Int => false) a = true then 0 else 0 + 1) + 1) else (if (false || decide (b = a)) = true then (if (fun _ : Int => false) a = true then 0 else 0 + 1) else (if (fun _ : Int => false) a = true then 0 else 0 + 1) + 1) + 1) = dn a b c := by
    unfold dn
    by_cases h1 : b = a <;> by_cases h2 : c = a <;> by_cases h3 : c = b <;> simp [h1, h2, h3]
  have done : ∀ (s' : Shared) so', Fr h₀ L s'.heap m → News h₀ L s'.heap ((D, so') :: news) → so'.SetObjOf (PySem.intKind P0 w) (fun k' => ((false || decide (k' = a)) || decide (k' = b)) || decide (k' = c)) (dn a b c) → s'.gens = s.gens → s'.drawn = s.drawn → s'.os = s.os →
      wpAny (model P0 w) (A.deeper (lawEnv L)) (call (.builtin "len") [.ref D]) Q E s' := by
    rintro ⟨hh, gg, dd, tt, oo⟩ so' F' N' hs' rfl rfl rfl
    refine kse_len N' (.head hne) hs' (by unfold dn; split <;> split <;> decide) ?_
    exact hQ _ _ _ F' (fun p hp => N' p (.tail _ hp))
  rw [hn] at hs4
  first
  | refine kds_fill_nil (by rfl) ?_
    exact done _ _ F4 N4 hs4 rfl rfl rfl
  | refine kds_fill_unled (by rfl) ?_
    refine kds_unled F4 N4 (.head hne) hs4 (by unfold scanBound dn; split <;> split <;> decide) ?_
    intro h5 so5 F5 N5 hs5
    exact done _ _ F5 N5 hs5 rfl rfl rfl
end
end LW
end
section
open PySem PySem.W PyProof.Rows PySem.Calls PySem.Spec
set_option linter.all false
set_option maxRecDepth 100000
set_option maxHeartbeats 4000000
namespace LW
section
variable {w : World} {mean : ExcName → Option Value} {mg mb : Str → Option Value} {A : Around} {base h₀ : Heap} {outer : List Env} {L : Addr} {n : Nat} {s : Shared} {E : Value → Shared → Prop} {m : Str → Option Value} {news : List (Addr × Obj)} {env : Env}
/-- what a deal gives -/
def dealT (kn : Nat) (tx : List (List Nat)) (a b c : Nat) : Int := ((esc kn (esc kn (tx.getD a []))).length : Int) * ((prep (tx.getD b [])).length : Int) * (codesOf (esc kn (prep (tx.getD c [])))).sum
def dueT (kn cnt : Nat) (tx : List (List Nat)) (a b c : Nat) : Int := if dn (a : Int) (b : Int) (c : Int) = cnt then dealT kn tx a b c else 0
theorem getD_map (f : List Nat → List Nat) {tx : List (List Nat)} {j : Nat} (h : j < tx.length) : (tx.map f).getD j [] = f (tx.getD j []) := by simp [List.getD, h]
theorem tm1 {Q : Flow → Shared → Prop} {kn cnt a b c : Nat} {tx : List (List Nat)} {fix : List (Addr × Obj)} {tc t1 t2 t3 td : Tok} {du : Int} {aW : Addr} {ysW : Array Value} {nW : Nat}
    (cx : Cx w mean mg mb A base [] h₀ 3) (F : Fr h₀ L s.heap m) (N : News h₀ L s.heap news) (fx : Fx L kn cnt tx fix) (sub : ∀ p ∈ fix, p ∈ news)
    (hc : m (S "count") = some (.int (cnt : Int) tc)) (h1 : m (S "first") = some (.int (a : Int) t1)) (h2 : m (S "second") = some (.int (b : Int) t2)) (h3 : m (S "third") = some (.int (c : Int) t3)) (hdu : m (S "due") = some (.int du td))
    (hW : m (S "twice") = some (.ref aW)) (mW : (aW, W.listOf ysW nW) ∈ news) (hTW : Txts ((tx.map (esc kn)).map (esc kn)) ysW.toList) (ha : a < cnt) (hb : b < cnt) (hcc : c < cnt)
    (cont : ∀ h' tk m' t, Fr h₀ L h' m' → News h₀ L h' news → m' (S "due") = some (.int (du + dueT kn cnt tx a b c) t) → (∀ z, z ≠ S "due" → m' z = m z) → Q .next { s with heap := h', toks := tk }) :
    wpAny (model P0 w) (A.deeper (lawEnv L)) (exec (trm 1) (lawEnv L)) Q E s := by
  conv in (trm 1) => whnf
  refine wpAny_If (wpAny_isTrue_Compare1 ?_)
  refine lenset cx F N h1 h2 h3 ?_
  intro h' tk t F1 N1
  refine nm_loc (env := lawEnv L) F1.ns hc rfl (by rfl) ?_
  refine P.eq_int ?_
  refine wpAny_truthy_bool ?_
  by_cases hd : dn (a : Int) (b : Int) (c : Int) = cnt
  · have ed : dueT kn cnt tx a b c = ((esc kn (esc kn (tx.getD a []))).length : Int) * ((prep (tx.getD b [])).length : Int) * (codesOf (esc kn (prep (tx.getD c [])))).sum := by
      unfold dueT dealT
      rw [if_pos hd]
    rw [ed] at cont
    have e : ((dn (a : Int) (b : Int) (c : Int) : Int) == (cnt : Int)) = true := by rw [hd]; simp
    rw [if_pos e]
    have cL := cx.deeperC F1 (name := fName (st 21)) (scope := fScope (st 21)) (a := 172) (cd := .ref 171)
    obtain ⟨oN, aN, ysN, nN, mN1, dN, mN2, hN⟩ := fx.names
    obtain ⟨oK, aK, ysK, nK, mK1, dK, mK2, hK⟩ := fx.codes
    have hlen := fx.len
    have c4 := fx.c4
    obtain ⟨ta, hxa⟩ := Txts.get hTW a (by simpa [hlen] using ha)
    obtain ⟨tb, hxb⟩ := Txts.get hN b (by simpa [hlen] using hb)
    obtain ⟨T, oT, its, k, hxc, mT, hcls, hdat, hints, hsz⟩ := Lists.get hK c (by simpa [cdOf, hlen] using hcc)
    have e1 : ((tx.map (esc kn)).map (esc kn)).getD a [] = esc kn (esc kn (tx.getD a [])) := by
      rw [getD_map _ (by simpa [hlen] using ha), getD_map _ (by omega)]
    have e2 : (tx.map prep).getD b [] = prep (tx.getD b []) := getD_map _ (by omega)
    have e3 : (cdOf kn tx).getD c [] = codesOf (esc kn (prep (tx.getD c []))) := by
      have : c < tx.length := by omega
      simp [cdOf, List.getD, this]
    have lt2 : ∀ {j : Nat}, j < cnt → (tx.getD j []).length ≤ 2 := fun {j} hj => by
      have hj' : j < tx.length := by omega
      rw [List.getD_eq_getElem?_getD, List.getElem?_eq_getElem hj']
      exact (fx.ok _ (List.getElem_mem hj')).1
    have la := lt2 ha
    have lb := lt2 hb
    have le1 := esc_le kn (tx.getD a [])
    have le2 := esc_le kn (esc kn (tx.getD a []))
    have le3 := prep_le (tx.getD b [])
    rw [e1] at hxa
    rw [e2] at hxb
    rw [e3] at hints
    refine wpAny_execs_cons ?_
    refine wpAny_AugAssign_Name ?_
    refine wpAny_loadName_local rfl (by rfl) F1.ns hdu ?_
    refine wpAny_BinOp ?_
    refine wpAny_BinOp ?_
    refine bcall1 cL.X cL.T (by kernel_rfl) boot_len rfl rfl rfl (by rfl) ?_
    refine Subscript_ ?_
    refine nm_loc (env := lawEnv L) F1.ns hW rfl (by rfl) ?_
    refine nm_loc (env := lawEnv L) F1.ns h1 rfl (by rfl) ?_
    refine item_list (News.isList N1 mW) (by omega) (by omega) (x := .str (mk (esc kn (esc kn (tx.getD a [])))) ta) (by rw [Int.toNat_natCast]; simpa using hxa) ?_
    refine P.len_str (by rw [mk_len]; omega) ?_
    rw [mk_len]
    refine bcall1 cL.X cL.T (by kernel_rfl) boot_len rfl rfl rfl (by rfl) ?_
    refine Subscript_ ?_
    refine nm_cell (env := lawEnv L) (c := L + 1 + 1 + 1 + 1) (v := .ref aN) (by rfl) ⟨oN, (N1 _ (sub _ mN1)).1, dN⟩ rfl (by rfl) ?_
    refine nm_loc (env := lawEnv L) F1.ns h2 rfl (by rfl) ?_
    refine item_list (News.isList N1 (sub _ mN2)) (by omega) (by omega) (x := .str (mk (prep (tx.getD b []))) tb) (by rw [Int.toNat_natCast]; simpa using hxb) ?_
    refine P.len_str (by rw [mk_len]; omega) ?_
    rw [mk_len]
    refine P.mul_int ?_ (mul_ok (by omega))
    refine bcall1 cL.X cL.T (by kernel_rfl) boot_sum rfl rfl rfl (by rfl) ?_
    refine Subscript_ ?_
    refine nm_cell (env := lawEnv L) (c := L + 1 + 1 + 1 + 1 + 1) (v := .ref aK) (by rfl) ⟨oK, (N1 _ (sub _ mK1)).1, dK⟩ rfl (by rfl) ?_
    refine nm_loc (env := lawEnv L) F1.ns h3 rfl (by rfl) ?_
    refine item_list (News.isList N1 (sub _ mK2)) (by omega) (by omega) (x := .ref T) (by rw [Int.toNat_natCast]; simpa using hxc) ?_
    refine sum_call cx.hh ⟨oT, (N1 _ (sub _ mT)).1, hcls, k, hdat⟩ hints ?_
    intro h5 tk5 t5 hk5
    refine P.mul_int ?_ (mul_ok ?_)
    · refine P.iadd_int ?_
      refine storeX_L (cl := cellsFrom (L + 1) (fScope (st 21)).names []) (fr_keeps F1 hk5) (news_keeps N1 hk5) ?_
      intro h6 F6 N6
      dsimp only
      refine wpAny_execs_nil ?_
      exact cont h6 _ _ _ F6 N6 rfl (fun z hz => if_neg hz)
    · rw [Int.natAbs_mul, Int.natAbs_natCast, Int.natAbs_natCast]
      have : (esc kn (esc kn (tx.getD a []))).length * (prep (tx.getD b [])).length ≤ 72 * 8 := Nat.mul_le_mul (by omega) (by omega)
      omega
  · have e : ((dn (a : Int) (b : Int) (c : Int) : Int) == (cnt : Int)) = false := by
      rw [beq_eq_false_iff_ne]
      omega
    rw [if_neg (by rw [e]; exact Bool.false_ne_true)]
    refine wpAny_execs_nil ?_
    refine cont h' _ m td F1 N1 ?_ (fun z _ => rfl)
    unfold dueT
    rw [if_neg hd, Int.add_zero]
    exact hdu
end
end LW
end
section
open PySem PySem.W PyProof.Rows PySem.Calls PySem.Spec
set_option linter.all false
set_option maxRecDepth 100000
set_option maxHeartbeats 4000000
namespace LW
section
variable {w : World} {mean : ExcName → Option Value} {mg mb : Str → Option Value} {A : Around} {base h₀ : Heap} {outer : List Env} {L : Addr} {n : Nat} {s : Shared} {E : Value → Shared → Prop} {m : Str → Option Value} {news : List (Addr × Obj)} {env : Env}
theorem fmodN (a b : Nat) : (a : Int).fmod (b : Int) = ((a % b : Nat) : Int) := by
  rw [Int.fmod_eq_emod_of_nonneg _ (Int.natCast_nonneg b)]; rfl
theorem fdivN (a b : Nat) : (a : Int).fdiv (b : Int) = ((a / b : Nat) : Int) := by
  rw [Int.fdiv_eq_ediv_of_nonneg _ (Int.natCast_nonneg b)]; rfl
theorem pow2_nat (b : Nat) : (b : Int) ^ Int.toNat 2 = ((b ^ 2 : Nat) : Int) := by
  show (b : Int) ^ 2 = _
  rw [Int.natCast_pow]
def dsum (kn cnt : Nat) (tx : List (List Nat)) : Nat → Int
  | 0 => 0
  | d + 1 => dsum kn cnt tx d + dueT kn cnt tx (d % cnt) (d / cnt % cnt) (d / cnt ^ 2)
abbrev dealNames : List Str := [S "due", S "deal", S "first", S "second", S "third"]
theorem ite_names {m m' : Str → Option Value} {x : Str} {v : Option Value} (hx : x ∈ dealNames) (h : ∀ z, z ∉ dealNames → m' z = m z) : ∀ z, z ∉ dealNames → (fun z => if z = x then v else m' z) z = m z := fun z hz => by
  show (if z = x then v else m' z) = m z
  have ne : z ≠ x := fun e => hz (e ▸ hx)
  rw [if_neg ne]; exact h z hz
theorem loop2 {Q : Flow → Shared → Prop} {kn cnt : Nat} {tx : List (List Nat)} {fix : List (Addr × Obj)} {aW : Addr} {ysW : Array Value} {nW : Nat} {tc td : Tok}
    (cx : Cx w mean mg mb A base [] h₀ 3) (fx : Fx L kn cnt tx fix) (h2 : 2 ≤ cnt) (sub : ∀ p ∈ fix, p ∈ news) (F : Fr h₀ L s.heap m) (N : News h₀ L s.heap news)
    (hc : m (S "count") = some (.int (cnt : Int) tc)) (hW : m (S "twice") = some (.ref aW)) (mW : (aW, W.listOf ysW nW) ∈ news) (hTW : Txts ((tx.map (esc kn)).map (esc kn)) ysW.toList) (hdu : m (S "due") = some (.int 0 td))
    (cont : ∀ h' tk m' t, Fr h₀ L h' m' → News h₀ L h' news → m' (S "due") = some (.int (dsum kn cnt tx (cnt ^ 3)) t) → (∀ z, z ∉ dealNames → m' z = m z) → Q .next { s with heap := h', toks := tk }) :
    wpAny (model P0 w) (A.deeper (lawEnv L)) (exec (stm 16) (lawEnv L)) Q E s := by
  have cL := cx.deeperC F (name := fName (st 21)) (scope := fScope (st 21)) (a := 172) (cd := .ref 171)
  have c4 := fx.c4
  have h64 : cnt ^ 3 ≤ 64 := Nat.pow_le_pow_left c4 3
  have key : ∀ (it : Value) (bd : List Stmt) (p : Pos) (s₂ : Shared) (E' : Value → Shared → Prop), bd = forBody (stm 16) →
      (∃ I h₂ tk, it = .ref I ∧ s₂ = { s with heap := h₂, toks := tk } ∧ Kp s.heap h₂ ∧ s.heap.get? I = none ∧ IsRangeIter h₂ I 0 ((cnt ^ 3 : Nat) : Int) 1) →
      codeAny (model P0 w) (A.deeper (lawEnv L)) (.forLoop (.Name (S "deal") p) it bd [] (lawEnv L)) (fun r s' => match r with | .ok f => Q f s' | .error e => cameBackBy (model P0 w) (A.deeper (lawEnv L)) (lawEnv L) E' e s') s₂ := by
    rintro _ bd p _ E' rfl ⟨I, h₂, tk₂, rfl, rfl, hk₂, hI, hit⟩
    have qI : ∀ p ∈ news, p.1 ≠ I := fun p hp => Ne.symm (fresh_ne N hI (b := p.1) (o := p.2) hp)
    have F2 := fr_keeps F hk₂
    have N2 := news_add F N hk₂ hI hit
    refine codeAny_forLoop_any (fun k s' => ∃ j h tk m' td, s' = { s with heap := h, toks := tk } ∧ k = cnt ^ 3 - j ∧ j ≤ cnt ^ 3 ∧ Fr h₀ L h m' ∧ News h₀ L h ((I, rngO (j : Int) ((cnt ^ 3 : Nat) - (j : Nat) : Int)) :: news) ∧
      m' (S "due") = some (.int (dsum kn cnt tx j) td) ∧ (∀ z, z ∉ dealNames → m' z = m z)) ?_ (cnt ^ 3)
      ⟨0, h₂, tk₂, m, td, rfl, rfl, Nat.zero_le _, F2, ?_, hdu, fun _ _ => rfl⟩
    · rintro k s' ⟨j, h, tk, m', td', rfl, rfl, hj, F3, N3, hdu', hpres⟩
      have hit3 : IsRangeIter h I (j : Int) ((cnt ^ 3 : Nat) - (j : Nat) : Int) 1 := (N3 _ (.head _)).1
      have zI := N3 _ (.head _)
      by_cases hlt : j < cnt ^ 3
      · refine wpAny_pyNext_range_item hit3 (by omega) fun h4 hit4 hs4 => ?_
        have F4 : Fr h₀ L h4 m' := F3.change hs4 zI.2.1 zI.2.2
        have N4 : News h₀ L h4 ((I, rngO ((j + 1 : Nat) : Int) ((cnt ^ 3 : Nat) - ((j + 1 : Nat) : Nat) : Int)) :: news) := by
          refine news_set (pre := []) N3 (fun p hp => nomatch hp) (fun p hp => qI p hp) hs4 ?_
          have e1 : ((j + 1 : Nat) : Int) = (j : Int) + 1 := by omega
          have e2 : (((cnt ^ 3 : Nat) : Int) - ((j + 1 : Nat) : Int)) = ((cnt ^ 3 : Nat) : Int) - (j : Int) - 1 := by omega
          rw [e2, e1]
          exact hit4
        dsimp only
        refine wpAny_of_eq (a := ()) rfl ?_
        refine wpAny_assign_Name ?_
        refine storeX_L (cl := cellsFrom (L + 1) (fScope (st 21)).names []) F4 N4 ?_
        intro h5 F5 N5
        have p5 := ite_names (x := S "deal") (v := some (.int (j : Int) tk)) (by decide) hpres
        rw [turm_split]
        refine wpAny_execs_cons ?_
        refine tm0 (d := j) cx F5 N5 h2 c4 ((p5 _ (by decide)).trans hc) rfl (by omega) ?_
        intro h6 tk6 t1 t2 t3 F6 N6
        rw [fdivN, fmodN, fmodN, pow2_nat, fdivN] at F6
        have p6 := ite_names (x := S "first") (v := some (.int ((j % cnt : Nat) : Int) t1)) (by decide) (ite_names (x := S "second") (v := some (.int ((j / cnt % cnt : Nat) : Int) t2)) (by decide) (ite_names (x := S "third") (v := some (.int ((j / cnt ^ 2 : Nat) : Int) t3)) (by decide) p5))
        have hthird : j / cnt ^ 2 < cnt := by
          rw [Nat.div_lt_iff_lt_mul (Nat.pow_pos (by omega))]
          have : cnt * cnt ^ 2 = cnt ^ 3 := by rw [Nat.pow_succ cnt 2, Nat.mul_comm]
          omega
        dsimp only
        refine wpAny_execs_cons ?_
        refine tm1 (kn := kn) (tx := tx) (fix := fix) (a := j % cnt) (b := j / cnt % cnt) (c := j / cnt ^ 2) cx F6 N6 fx (fun p hp => .tail _ (sub p hp)) ((p6 _ (by decide)).trans hc) rfl rfl rfl hdu' ((p6 _ (by decide)).trans hW) (.tail _ mW) hTW (Nat.mod_lt _ (by omega)) (Nat.mod_lt _ (by omega)) hthird ?_
        intro h7 tk7 m7 t7 F7 N7 hdu7 hm7
        dsimp only
        refine wpAny_execs_nil ?_
        refine ⟨cnt ^ 3 - (j + 1), by omega, j + 1, h7, tk7, m7, t7, rfl, rfl, hlt, F7, N7, hdu7, fun z hz => ?_⟩
        rw [hm7 z (fun e => hz (by rw [e]; decide))]
        exact p6 z hz
      · have hje : j = cnt ^ 3 := by omega
        subst hje
        refine wpAny_pyNext_range_end cx.hh hit3 (by omega) fun h4 he4 => ?_
        dsimp only
        refine wpAny_execs_nil ?_
        have F4 : Fr h₀ L h4 m' := ⟨F3.ns.at' fun o e => he4 _ o (Ne.symm zI.2.1) e, fun b o e => he4 b o (fun q => by rw [q, zI.2.2] at e; cases e) (F3.keep b o e), F3.above⟩
        have N4 : News h₀ L h4 news := fun p hp => by
          have z := N3 p (.tail _ hp)
          exact ⟨he4 _ _ (qI p hp) z.1, z.2⟩
        exact cont h4 _ m' td' F4 N4 hdu' hpres
    · have e0 : (((cnt ^ 3 : Nat) : Int) - ((0 : Nat) : Int)) = ((cnt ^ 3 : Nat) : Int) := by omega
      rw [e0]
      exact N2
  conv in (stm 16) => whnf
  refine wpAny_For ?_
  refine range_go (n := cnt ^ 3) cL.X cL.T (by omega) rfl rfl rfl (by rfl) ?_
  refine wpAny_BinOp ?_
  refine nm_loc (env := lawEnv L) F.ns hc rfl (by rfl) ?_
  refine wpAny_Constant_int ?_
  refine pow_int_small (by decide) (by decide) (by omega) ?_
  have ep : (cnt : Int) ^ Int.toNat 3 = ((cnt ^ 3 : Nat) : Int) := by
    show (cnt : Int) ^ 3 = _
    rw [Int.natCast_pow]
  rw [ep]
  refine ⟨_, rfl, ?_⟩
  intro h₂ tk I hk hI hit _
  exact key _ _ _ _ _ (by rfl) ⟨I, h₂, tk, rfl, rfl, hk, hI, hit⟩
end
end LW
end
section
open PySem PySem.W PyProof.Rows PySem.Calls PySem.Spec
set_option linter.all false
set_option maxRecDepth 100000
set_option maxHeartbeats 4000000
namespace LW
section
variable {w : World} {mean : ExcName → Option Value} {mg mb : Str → Option Value} {A : Around} {base h₀ : Heap} {outer : List Env} {L : Addr} {n : Nat} {s : Shared} {E : Value → Shared → Prop} {m : Str → Option Value} {news : List (Addr × Obj)} {env : Env}
def datOf (d : Rp) : Dat := .tuple [.str (mk d.1), .str (mk d.2.1), .list (d.2.2.map Dat.int)]
theorem dat_ints {led : List (Addr × Obj)} {vs : List Value} {ns : List Int} (h : IntsAre vs ns) : DatAll led vs (ns.map Dat.int) := by
  induction h with
  | nil => exact .nil
  | cons n t r ih => exact .cons (.int n t) ih
theorem dat_rep {led : List (Addr × Obj)} {d : Rp} {y : Value} (h : Rep led d y) : DatIn led y (datOf d) := by
  obtain ⟨T, t1, t2, N, its, k, rfl, h1, h2, h3⟩ := h
  refine DatIn.tuple (n := 0) h1 (.cons (.str _ _) (.cons (.str _ _) (.cons (DatIn.list (vs := its.toList) (n := k) (by simpa using h2) (dat_ints h3)) .nil)))
theorem dat_reps {led : List (Addr × Obj)} : ∀ {ds : List Rp} {ys : List Value}, Paired (Rep led) ds ys → DatAll led ys (ds.map datOf)
  | _, _, .nil => .nil
  | _, _, .cons h r => .cons (dat_rep h) (dat_reps r)
theorem dat_ok {d : Rp} (h1 : ∀ c ∈ d.1, c < 1114112) (h2 : ∀ c ∈ d.2.1, c < 1114112) : kqdOk 8 (datOf d) = true := by
  have ok : ∀ l : List Nat, (∀ c ∈ l, c < 1114112) → PyData.strOk (mk l) = true := fun l h => by
    unfold PyData.strOk
    simp only [mk, List.all_toArray]
    exact List.all_eq_true.mpr fun c hc => decide_eq_true (h c hc)
  simp only [datOf, kqdOk, List.all_cons, List.all_nil, Bool.and_true, ok _ h1, ok _ h2, Bool.true_and, List.all_map]
  exact List.all_eq_true.mpr fun i _ => by simp [kqdOk]
theorem ret17 {Q : Flow → Shared → Prop} {sh to : Addr} {shs tos : Array Value} {k1 k2 : Nat} {own fix : List (Addr × Obj)} {ds : List Rp} {x : Int} {t1 t2 : Tok} (cx : Cx w mean mg mb A base [] h₀ 3) (hu : (A.deeper (lawEnv L)).units + 64 < cLine)
    (F : Fr h₀ L s.heap m) (N : News h₀ L s.heap ((sh, W.listOf shs k1) :: (to, W.listOf tos k2) :: (own ++ fix)))
    (hl : m (S "left") = some (.int x t1)) (hdu : m (S "due") = some (.int x t2)) (hsh : m (S "shown") = some (.ref sh)) (hto : m (S "told") = some (.ref to))
    (ha : Paired (Rep own) ds shs.toList) (hb : Paired (Rep own) ds tos.toList) (hok : ∀ d ∈ ds, (∀ c ∈ d.1, c < 1114112) ∧ (∀ c ∈ d.2.1, c < 1114112))
    (cont : Q (.ret (.bool true)) s) : wpAny (model P0 w) (A.deeper (lawEnv L)) (exec (stm 17) (lawEnv L)) Q E s := by
  conv in (stm 17) => whnf
  refine wpAny_Return_some ?_
  refine BoolOp_and ?_
  refine wpAny_Compare1 ?_
  refine nm_loc (env := lawEnv L) F.ns hl rfl (by rfl) ?_
  refine nm_loc (env := lawEnv L) F.ns hdu rfl (by rfl) ?_
  refine P.eq_int ?_
  rw [beq_self_eq_true]
  refine wpAny_truthy_bool ?_
  rw [if_pos rfl]
  refine BoolOp_one ?_
  refine wpAny_Compare1 ?_
  refine nm_loc (env := lawEnv L) F.ns hsh rfl (by rfl) ?_
  refine nm_loc (env := lawEnv L) F.ns hto rfl (by rfl) ?_
  refine kqd_eq (ka := k1) (kb := k2) (ds := ds.map datOf) (es := ds.map datOf) (n₁ := own) (n₂ := own) (xs := shs.toList) (ys := tos.toList) N (.head _) rfl (by simp) (dat_reps ha) (fun p hp => .tail _ (.tail _ (List.mem_append_left _ hp)))
    (.tail _ (.head _)) rfl (by simp) (dat_reps hb) (fun p hp => .tail _ (.tail _ (List.mem_append_left _ hp))) ?_ ?_ hu ?_
  · intro d hd
    obtain ⟨r, hr, rfl⟩ := List.mem_map.mp hd
    exact dat_ok (hok r hr).1 (hok r hr).2
  · intro d hd
    obtain ⟨r, hr, rfl⟩ := List.mem_map.mp hd
    exact dat_ok (hok r hr).1 (hok r hr).2
  · have hd : ∀ inst : Decidable (ds.map datOf = ds.map datOf), @decide (ds.map datOf = ds.map datOf) inst = true := fun inst => @decide_eq_true _ inst rfl
    rw [hd]
    exact cont
end
end LW
end
section
open PySem PySem.W PyProof.Rows PySem.Calls PySem.Spec
set_option linter.all false
set_option maxRecDepth 100000
set_option maxHeartbeats 4000000
namespace LW
/-- the measures of one text -/
def wgt (kn : Nat) (l : List Nat) : Int × Int × Int := (((esc kn (esc kn l)).length : Int), ((prep l).length : Int), (codesOf (esc kn (prep l))).sum)
theorem esc_app (k : Nat) (a b : List Nat) : esc k (a ++ b) = esc k a ++ esc k b := by unfold esc; rw [List.flatMap_append]
theorem prep_app (a b : List Nat) : prep (a ++ b) = prep a ++ prep b := by unfold prep; rw [List.flatMap_append]
theorem wgt_app (kn : Nat) (a b : List Nat) : wgt kn (a ++ b) = ((wgt kn a).1 + (wgt kn b).1, (wgt kn a).2.1 + (wgt kn b).2.1, (wgt kn a).2.2 + (wgt kn b).2.2) := by
  unfold wgt
  simp only [esc_app, prep_app, codesOf, List.map_append, List.sum_append, List.length_append]
  rw [Int.natCast_add, Int.natCast_add]
theorem wgt_nil (kn : Nat) : wgt kn [] = (0, 0, 0) := rfl
def sum3 (x y z : Nat → Int) : List Nat → Int × Int × Int
  | [] => (0, 0, 0)
  | j :: r => (x j + (sum3 x y z r).1, y j + (sum3 x y z r).2.1, z j + (sum3 x y z r).2.2)
theorem wgt_pick (kn : Nat) (tx : List (List Nat)) : ∀ S0 : List Nat, wgt kn (pick tx S0) = sum3 (fun j => (wgt kn (tx.getD j [])).1) (fun j => (wgt kn (tx.getD j [])).2.1) (fun j => (wgt kn (tx.getD j [])).2.2) S0
  | [] => rfl
  | j :: r => by
    have ih := wgt_pick kn tx r
    have e : pick tx (j :: r) = tx.getD j [] ++ pick tx r := rfl
    rw [e, wgt_app, ih]; rfl
theorem prodOf_eq (kn : Nat) (tx : List (List Nat)) (S0 : List Nat) : prodOf kn tx S0 = (wgt kn (pick tx S0)).1 * (wgt kn (pick tx S0)).2.1 * (wgt kn (pick tx S0)).2.2 := rfl
theorem dealT_eq (kn : Nat) (tx : List (List Nat)) (a b c : Nat) : dealT kn tx a b c = (wgt kn (tx.getD a [])).1 * (wgt kn (tx.getD b [])).2.1 * (wgt kn (tx.getD c [])).2.2 := rfl
theorem ch2 : chosenOf 2 0 = [] ∧ chosenOf 2 1 = [0] ∧ chosenOf 2 2 = [1] ∧ chosenOf 2 3 = [0, 1] := by decide +kernel
theorem ch3 : chosenOf 3 0 = [] ∧ chosenOf 3 1 = [0] ∧ chosenOf 3 2 = [1] ∧ chosenOf 3 3 = [0, 1] ∧ chosenOf 3 4 = [2] ∧ chosenOf 3 5 = [0, 2] ∧ chosenOf 3 6 = [1, 2] ∧ chosenOf 3 7 = [0, 1, 2] := by decide +kernel
theorem ch4 : chosenOf 4 0 = [] ∧ chosenOf 4 1 = [0] ∧ chosenOf 4 2 = [1] ∧ chosenOf 4 3 = [0, 1] ∧ chosenOf 4 4 = [2] ∧ chosenOf 4 5 = [0, 2] ∧ chosenOf 4 6 = [1, 2] ∧ chosenOf 4 7 = [0, 1, 2] ∧
    chosenOf 4 8 = [3] ∧ chosenOf 4 9 = [0, 3] ∧ chosenOf 4 10 = [1, 3] ∧ chosenOf 4 11 = [0, 1, 3] ∧ chosenOf 4 12 = [2, 3] ∧ chosenOf 4 13 = [0, 2, 3] ∧ chosenOf 4 14 = [1, 2, 3] ∧ chosenOf 4 15 = [0, 1, 2, 3] := by decide +kernel
theorem sg (c k : Nat) (P : Int) : signed c k P = (if ((c : Int) - (k : Int)).fmod 2 == 0 then P else -P) := rfl
theorem due2 (kn : Nat) (tx : List (List Nat)) (a b c : Nat) : dueT kn 2 tx a b c = if dn (a : Int) (b : Int) (c : Int) = 2 then dealT kn tx a b c else 0 := rfl
theorem plain2 (kn : Nat) (tx : List (List Nat)) : lsum kn 2 tx (2 ^ 2) = dsum kn 2 tx (2 ^ 3) := by
  obtain ⟨c0, c1, c2, c3⟩ := ch2
  show lsum kn 2 tx 4 = dsum kn 2 tx 8
  simp only [lsum, dsum, c0, c1, c2, c3, prodOf_eq, wgt_pick, sum3, List.length_cons, List.length_nil]
  have s0 : ∀ P, signed 2 0 P = P := fun P => by unfold signed; rw [if_pos (by decide)]
  have s1 : ∀ P, signed 2 (0 + 1) P = -P := fun P => by unfold signed; rw [if_neg (by decide)]
  have s2 : ∀ P, signed 2 (0 + 1 + 1) P = P := fun P => by unfold signed; rw [if_pos (by decide)]
  simp only [s0, s1, s2]
  have d1 : ∀ a b c : Nat, dn (a : Int) (b : Int) (c : Int) = 2 → dueT kn 2 tx a b c = dealT kn tx a b c := fun a b c h => if_pos h
  have d0 : ∀ a b c : Nat, dn (a : Int) (b : Int) (c : Int) ≠ 2 → dueT kn 2 tx a b c = 0 := fun a b c h => if_neg h
  simp only [show (0 : Nat) % 2 = 0 from rfl, show (1 : Nat) % 2 = 1 from rfl, Nat.reduceMod, Nat.reduceDiv, Nat.reducePow]
  rw [d0 0 0 0 (by decide), d1 1 0 0 (by decide), d1 0 1 0 (by decide), d1 1 1 0 (by decide), d1 0 0 1 (by decide), d1 1 0 1 (by decide), d1 0 1 1 (by decide), d0 1 1 1 (by decide)]
  simp only [dealT_eq]
  generalize wgt kn (tx.getD 0 []) = u0
  generalize wgt kn (tx.getD 1 []) = u1
  grind
theorem plain3 (kn : Nat) (tx : List (List Nat)) : lsum kn 3 tx (2 ^ 3) = dsum kn 3 tx (3 ^ 3) := by
  obtain ⟨c0, c1, c2, c3, c4, c5, c6, c7⟩ := ch3
  show lsum kn 3 tx 8 = dsum kn 3 tx 27
  have d0 : ∀ a b c : Nat, dn (a : Int) (b : Int) (c : Int) ≠ 3 → dueT kn 3 tx a b c = 0 := fun a b c h => if_neg h
  have d1 : ∀ a b c : Nat, dn (a : Int) (b : Int) (c : Int) = 3 → dueT kn 3 tx a b c = dealT kn tx a b c := fun a b c h => if_pos h
  have s0 : ∀ P, signed 3 (0) P = -P := fun P => by unfold signed; rw [if_neg (by decide)]
  have s1 : ∀ P, signed 3 (0 + 1) P = P := fun P => by unfold signed; rw [if_pos (by decide)]
  have s2 : ∀ P, signed 3 (0 + 1 + 1) P = -P := fun P => by unfold signed; rw [if_neg (by decide)]
  have s3 : ∀ P, signed 3 (0 + 1 + 1 + 1) P = P := fun P => by unfold signed; rw [if_pos (by decide)]
  simp only [lsum, dsum, c0, c1, c2, c3, c4, c5, c6, c7, prodOf_eq, wgt_pick, sum3, List.length_cons, List.length_nil, s0, s1, s2, s3]
  simp only [Nat.reduceMod, Nat.reduceDiv, Nat.reducePow, Nat.zero_mod, Nat.zero_div]
  rw [d0 0 0 0 (by decide), d0 1 0 0 (by decide), d0 2 0 0 (by decide), d0 0 1 0 (by decide), d0 1 1 0 (by decide), d1 2 1 0 (by decide), d0 0 2 0 (by decide), d1 1 2 0 (by decide), d0 2 2 0 (by decide), d0 0 0 1 (by decide), d0 1 0 1 (by decide), d1 2 0 1 (by decide), d0 0 1 1 (by decide), d0 1 1 1 (by decide), d0 2 1 1 (by decide), d1 0 2 1 (by decide), d0 1 2 1 (by decide), d0 2 2 1 (by decide), d0 0 0 2 (by decide), d1 1 0 2 (by decide), d0 2 0 2 (by decide), d1 0 1 2 (by decide), d0 1 1 2 (by decide), d0 2 1 2 (by decide), d0 0 2 2 (by decide), d0 1 2 2 (by decide), d0 2 2 2 (by decide)]
  simp only [dealT_eq]
  generalize wgt kn (tx.getD 0 []) = u0
  generalize wgt kn (tx.getD 1 []) = u1
  generalize wgt kn (tx.getD 2 []) = u2
  obtain ⟨x0, y0, z0⟩ := u0
  obtain ⟨x1, y1, z1⟩ := u1
  obtain ⟨x2, y2, z2⟩ := u2
  dsimp only
  grind
theorem plain4 (kn : Nat) (tx : List (List Nat)) : lsum kn 4 tx (2 ^ 4) = dsum kn 4 tx (4 ^ 3) := by
  obtain ⟨c0, c1, c2, c3, c4, c5, c6, c7, c8, c9, c10, c11, c12, c13, c14, c15⟩ := ch4
  show lsum kn 4 tx 16 = dsum kn 4 tx 64
  have d0 : ∀ a b c : Nat, dn (a : Int) (b : Int) (c : Int) ≠ 4 → dueT kn 4 tx a b c = 0 := fun a b c h => if_neg h
  have dz : ∀ a b c : Nat, dueT kn 4 tx a b c = 0 := fun a b c => d0 a b c (by unfold dn; split <;> split <;> decide)
  have s0 : ∀ P, signed 4 (0) P = P := fun P => by unfold signed; rw [if_pos (by decide)]
  have s1 : ∀ P, signed 4 (0 + 1) P = -P := fun P => by unfold signed; rw [if_neg (by decide)]
  have s2 : ∀ P, signed 4 (0 + 1 + 1) P = P := fun P => by unfold signed; rw [if_pos (by decide)]
  have s3 : ∀ P, signed 4 (0 + 1 + 1 + 1) P = -P := fun P => by unfold signed; rw [if_neg (by decide)]
  have s4 : ∀ P, signed 4 (0 + 1 + 1 + 1 + 1) P = P := fun P => by unfold signed; rw [if_pos (by decide)]
  simp only [lsum, dsum, c0, c1, c2, c3, c4, c5, c6, c7, c8, c9, c10, c11, c12, c13, c14, c15, prodOf_eq, wgt_pick, sum3, List.length_cons, List.length_nil, s0, s1, s2, s3, s4, dz]
  generalize wgt kn (tx.getD 0 []) = u0
  generalize wgt kn (tx.getD 1 []) = u1
  generalize wgt kn (tx.getD 2 []) = u2
  generalize wgt kn (tx.getD 3 []) = u3
  obtain ⟨x0, y0, z0⟩ := u0
  obtain ⟨x1, y1, z1⟩ := u1
  obtain ⟨x2, y2, z2⟩ := u2
  obtain ⟨x3, y3, z3⟩ := u3
  dsimp only
  grind
end LW
end
section
open PySem PySem.W PyProof.Rows PySem.Calls PySem.Spec
set_option linter.all false
set_option maxRecDepth 100000
set_option maxHeartbeats 4000000
namespace LW
section
variable {w : World} {mean : ExcName → Option Value} {mg mb : Str → Option Value} {A : Around} {base h₀ : Heap} {outer : List Env} {L : Addr} {n : Nat} {s : Shared} {E : Value → Shared → Prop} {m : Str → Option Value} {news : List (Addr × Obj)} {env : Env}
theorem size_none {h : Heap} : h.get? h.objs.size = none := Heap.get?_none_of_le (Nat.le_refl _)
theorem st11 {Q : Flow → Shared → Prop} (F : Fr h₀ L s.heap m) (N : News h₀ L s.heap news)
    (cont : ∀ h' tk D, Fr h₀ L h' (fun z => if z = S "shown" then some (.ref D) else m z) → News h₀ L h' ((D, W.listOf #[] 0) :: news) → s.heap.get? D = none → Q .next { s with heap := h', toks := tk }) :
    wpAny (model P0 w) (A.deeper (lawEnv L)) (exec (stm 11) (lawEnv L)) Q E s := by
  conv in (stm 11) => whnf
  refine wpAny_Assign_Name ?_
  refine List_ ?_
  refine spliced_none ?_
  refine newList_N F N ?_ (by rw [sizeLine_eq]; simp)
  intro h1 F1 N1
  refine storeX_L (cl := cellsFrom (L + 1) (fScope (st 21)).names []) F1 N1 ?_
  intro h2 F2 N2
  exact cont _ _ _ F2 N2 size_none
theorem st12 {Q : Flow → Shared → Prop} (F : Fr h₀ L s.heap m) (N : News h₀ L s.heap news)
    (cont : ∀ h' tk D, Fr h₀ L h' (fun z => if z = S "told" then some (.ref D) else m z) → News h₀ L h' ((D, W.listOf #[] 0) :: news) → s.heap.get? D = none → Q .next { s with heap := h', toks := tk }) :
    wpAny (model P0 w) (A.deeper (lawEnv L)) (exec (stm 12) (lawEnv L)) Q E s := by
  conv in (stm 12) => whnf
  refine wpAny_Assign_Name ?_
  refine List_ ?_
  refine spliced_none ?_
  refine newList_N F N ?_ (by rw [sizeLine_eq]; simp)
  intro h1 F1 N1
  refine storeX_L (cl := cellsFrom (L + 1) (fScope (st 21)).names []) F1 N1 ?_
  intro h2 F2 N2
  exact cont _ _ _ F2 N2 size_none
theorem st13 {Q : Flow → Shared → Prop} (F : Fr h₀ L s.heap m) (N : News h₀ L s.heap news)
    (cont : ∀ h' tk t, Fr h₀ L h' (fun z => if z = S "left" then some (.int 0 t) else m z) → News h₀ L h' news → Q .next { s with heap := h', toks := tk }) :
    wpAny (model P0 w) (A.deeper (lawEnv L)) (exec (stm 13) (lawEnv L)) Q E s := by
  conv in (stm 13) => whnf
  refine wpAny_Assign_Name ?_
  refine wpAny_Constant_int ?_
  refine storeX_L (cl := cellsFrom (L + 1) (fScope (st 21)).names []) F N ?_
  intro h2 F2 N2
  exact cont _ _ _ F2 N2
theorem st15 {Q : Flow → Shared → Prop} (F : Fr h₀ L s.heap m) (N : News h₀ L s.heap news)
    (cont : ∀ h' tk t, Fr h₀ L h' (fun z => if z = S "due" then some (.int 0 t) else m z) → News h₀ L h' news → Q .next { s with heap := h', toks := tk }) :
    wpAny (model P0 w) (A.deeper (lawEnv L)) (exec (stm 15) (lawEnv L)) Q E s := by
  conv in (stm 15) => whnf
  refine wpAny_Assign_Name ?_
  refine wpAny_Constant_int ?_
  refine storeX_L (cl := cellsFrom (L + 1) (fScope (st 21)).names []) F N ?_
  intro h2 F2 N2
  exact cont _ _ _ F2 N2
/-- the inner lists of codes, as a ledger -/
theorem lists_of {kn : Nat} {hs h' : Heap} {tp : List (List Nat)} {ys : List Value}
    (h : Paired (fun l y => ∃ T its, y = Value.ref T ∧ hs.get? T = none ∧ h'.IsList T its ∧ IntsAre its.toList (codesOf (esc kn l))) tp ys) (hb : ∀ l ∈ tp, l.length ≤ 50) :
    ∃ inn : List (Addr × Obj), (∀ p ∈ inn, h'.get? p.1 = some p.2 ∧ hs.get? p.1 = none) ∧ Lists inn (tp.map fun l => codesOf (esc kn l)) ys := by
  induction h with
  | nil => exact ⟨[], by simp, Paired.nil⟩
  | @cons l y tp ys hh r ih =>
    obtain ⟨T, its, e, hn, ⟨o, ho, hc, k, hd⟩, hi⟩ := hh
    obtain ⟨inn, h1, h2⟩ := ih fun l hl => hb l (.tail _ hl)
    refine ⟨(T, o) :: inn, fun p hp => ?_, Paired.cons ⟨T, o, its, k, e, .head _, hc, hd, hi, ?_⟩ (h2.mono fun p hp => .tail _ hp)⟩
    · rcases List.mem_cons.mp hp with rfl | hp
      · exact ⟨ho, hn⟩
      · exact h1 p hp
    · have h5 := hi.length
      have h3 := hb _ (.head _)
      have h4 := esc_le kn l
      simp only [Array.length_toList, codesOf, List.length_map] at h5
      omega
end
end LW
end
section
open PySem PySem.W PyProof.Rows PySem.Calls PySem.Spec
set_option linter.all false
set_option maxRecDepth 100000
set_option maxHeartbeats 4000000
namespace LW
section
variable {w : World} {mean : ExcName → Option Value} {mg mb : Str → Option Value} {A : Around} {base h₀ : Heap} {outer : List Env} {L : Addr} {n : Nat} {s : Shared} {E : Value → Shared → Prop} {m : Str → Option Value} {news : List (Addr × Obj)} {env : Env}
theorem neC {L : Addr} : ∀ i j : Nat, i < j → @Ne Nat (L + i) (L + j) := fun i j h e => by
  have : (L : Nat) + i = L + j := e
  omega
theorem plain_law {kn cnt : Nat} {tx : List (List Nat)} (h2 : 2 ≤ cnt) (h4 : cnt ≤ 4) : lsum kn cnt tx (2 ^ cnt) = dsum kn cnt tx (cnt ^ 3) := by
  rcases (by omega : cnt = 2 ∨ cnt = 3 ∨ cnt = 4) with rfl | rfl | rfl
  · exact plain2 kn tx
  · exact plain3 kn tx
  · exact plain4 kn tx
theorem reps_small {kn cnt : Nat} {tx : List (List Nat)} (ok : ∀ l ∈ tx, l.length ≤ 2 ∧ ∀ c ∈ l, c ∈ menuT) {k : Nat} : ∀ d ∈ reps kn cnt tx k, (∀ c ∈ d.1, c < 1114112) ∧ (∀ c ∈ d.2.1, c < 1114112) := fun d hd => by
  obtain ⟨j, _, rfl⟩ := List.mem_map.mp hd
  have hm := pick_sub (P := fun c => c ∈ menuT) (fun l hl => (ok l hl).2) (chosenOf cnt j)
  have hsm : ∀ c ∈ pick tx (chosenOf cnt j), c < 1114112 := fun c hc => by
    have h := List.all_eq_true.mp (show (menuT.all fun c => decide (c < 1114112)) = true by decide) c (hm c hc)
    exact of_decide_eq_true h
  exact ⟨esc_small hsm, prep_small hm⟩
theorem body_law {Q : Flow → Shared → Prop} {a : Addr} {vs : List Value} {ns : List Int} {o1 o2 o3 o4 o5 o6 : Obj} {v1 v2 v3 v4 v5 : Option Value} (hl : h₀.IsList a vs.toArray) (hi : IntsAre vs ns) (hn : ns.length ≤ 100000)
    (cx : Cx w mean mg mb A base [] h₀ 3) (XB : (KK w.params).In base) (TB : Top vw (looseW vw lo) mean mg mb base) (hu : (A.deeper (lawEnv L)).units + 64 < cLine)
    (F : Fr h₀ L s.heap (bindL (lawEnv L).kindOf [(S "script", Value.ref a)] fun x => none))
    (N : News h₀ L s.heap (six L o1 o2 o3 o4 o5 o6)) (d1 : o1.data = .cell v1) (d2 : o2.data = .cell v2) (d3 : o3.data = .cell v3) (d4 : o4.data = .cell v4) (d5 : o5.data = .cell v5)
    (d6 : o6.data = .cell (bindC (lawEnv L).kindOf [(S "script", Value.ref a)] (fun x => none) (S "way")))
    (cont : ∀ h' tk m', Fr h₀ L h' m' → Q (.ret (.bool true)) { s with heap := h', toks := tk }) :
    wpAny (model P0 w) (A.deeper (lawEnv L)) (execs (fBody (st 21)) (lawEnv L)) Q E s := by
  rw [law_split]
  refine seg1 hl hi hn cx F N d6 ?_
  intro kn cnt mark hk h2 h4 hmk h1 tk1 m1 nl its n1 o6' c0 c1 c2 c3 F1 N1 ⟨tw, d6'⟩ hcl ⟨tm, hmm⟩ ⟨tc, hcn⟩ hw hints hne
  refine wpAny_execs_cons ?_
  refine st6 cx F1 N1 hne d5 hcl hcn h2 h4 hints ?_
  intro h3 tk3 tx aT ysT nT o5' hlen hok F3 N3 d5' hT neT
  dsimp only
  refine wpAny_execs_cons ?_
  refine st7 cx F3 N3 neT hk d6' d5' d4 hT (fun l hl => by have := (hok l hl).1; omega) (by omega) ?_
  intro h5 tk5 aP ysP nP o4' F5 N5 d4' hP neP _
  have hbP : ∀ l ∈ tx.map (esc kn), l.length ≤ 50 := fun l hl => by
    obtain ⟨l', hl', rfl⟩ := List.mem_map.mp hl
    have := (hok l' hl').1
    have := esc_le kn l'
    omega
  dsimp only
  refine wpAny_execs_cons ?_
  refine st8 cx F5 N5 (.head _) (by k_mem) (by k_mem) hk d6' d4' hP hbP (by simpa using (by omega : tx.length ≤ 4)) ?_
  intro h6 tk6 aW ysW nW F6 N6 hW n6f
  have qW : ∀ p ∈ cellsAt L, @Ne Nat aW p := off_cells N5 (o1 := o1) (o2 := o2) (o3 := o3) (o4 := o4') (o5 := o5') (o6 := o6') (by intro p hp; exact .tail _ (.tail _ hp)) n6f
  dsimp only
  refine wpAny_execs_cons ?_
  refine st9 cx F6 N6 (aT := aT) (ysT := ysT) (nT := nT) (o5 := o5') (o3 := o3) (v3 := v3) (by k_mem) (by k_mem) d5' d3 (by k_mem)
    (.tail (qW _ (by simp)) (.tail (neP _ (by simp)) (.tail (neT _ (by simp)) (.tail (by k_ne) (.tail (by k_ne) (.head (by k_all))))))) hT (fun l hl => ⟨by have := (hok l hl).1; omega, (hok l hl).2⟩) (by omega) ?_
  intro h7 tk7 aN ysN nN o3' F7 N7 d3' hN n7f
  have qN : ∀ p ∈ cellsAt L, @Ne Nat aN p := off_cells N6 (o1 := o1) (o2 := o2) (o3 := o3) (o4 := o4') (o5 := o5') (o6 := o6') (by intro p hp; exact .tail _ (.tail _ (.tail _ hp))) n7f
  have hbN : ∀ l ∈ tx.map prep, l.length ≤ 8 := fun l hl => by
    obtain ⟨l', hl', rfl⟩ := List.mem_map.mp hl
    have := (hok l' hl').1
    have := prep_le l'
    omega
  dsimp only
  refine wpAny_execs_cons ?_
  refine st10 cx F7 N7 (aN := aN) (ysN := ysN) (nN := nN) (kn := kn) (tw := tw) (o3 := o3') (o2 := o2) (o6 := o6') (v2 := v2) (by k_mem) (by k_mem) d3' (by k_mem) hk d6' d2 (by k_mem)
    (.tail (qN _ (by simp)) (.tail (qW _ (by simp)) (.tail (neP _ (by simp)) (.tail (neT _ (by simp)) (.tail (by k_ne) (.head (by k_all))))))) hN (fun l hl => by have := hbN l hl; omega) (by simpa using (by omega : tx.length ≤ 4)) ?_
  intro h8 tk8 aK ysK nK o2' F8 N8 d2' hK n8f _
  obtain ⟨inn, hinn, hKl⟩ := lists_of hK (fun l hl => by have := hbN l hl; omega)
  (try dsimp only at N8)
  have qK : ∀ p ∈ cellsAt L, @Ne Nat aK p := off_cells N7 (o1 := o1) (o2 := o2) (o3 := o3') (o4 := o4') (o5 := o5') (o6 := o6') (by intro p hp; exact .tail _ (.tail _ (.tail _ (.tail _ hp)))) n8f
  have Ninn : News h₀ L h8 inn := fun p hp => by
    obtain ⟨e1, e2⟩ := hinn p hp
    refine ⟨e1, fun e => ?_, ?_⟩
    · obtain ⟨oL, _, _, hL, _⟩ := F7.ns
      have hL' : h7.get? L = some oL := hL
      have e2' : h7.get? p.1 = none := e2
      rw [e, hL'] at e2'; cases e2'
    · cases q : h₀.get? p.1 with
      | none => rfl
      | some o =>
        have z : h7.get? p.1 = some o := F7.keep _ _ q
        have e2' : h7.get? p.1 = none := e2
        rw [e2'] at z; cases z
  have qI : ∀ p ∈ inn, @Ne Nat p.1 (L + 1 + 1 + 1 + 1 + 1 + 1) := fun p hp => fresh_ne N7 (hinn p hp).2 (b := L + 1 + 1 + 1 + 1 + 1 + 1) (o := o1) (by k_mem)
  generalize hfix : (aK, W.listOf ysK nK) :: (aN, W.listOf ysN nN) :: (aW, W.listOf ysW nW) :: (aP, W.listOf ysP nP) :: (aT, W.listOf ysT nT) :: (L + 1 + 1 + 1 + 1 + 1, o2') :: (L + 1 + 1 + 1 + 1, o3') :: (L + 1 + 1 + 1, o4') :: (L + 1 + 1, o5') :: (L + 1, o6') :: inn = fix
  have Nfix : News h₀ L h8 ((L + 1 + 1 + 1 + 1 + 1 + 1, o1) :: fix) := by
    intro p hp
    rw [← hfix] at hp
    simp only [List.mem_cons] at hp
    rcases hp with h | h | h | h | h | h | h | h | h | h | h | h
    · exact N8 p (by simp [h])
    · exact N8 p (by simp [h])
    · exact N8 p (by simp [h])
    · exact N8 p (by simp [h])
    · exact N8 p (by simp [h])
    · exact N8 p (by simp [h])
    · exact N8 p (by simp [h])
    · exact N8 p (by simp [h])
    · exact N8 p (by simp [h])
    · exact N8 p (by simp [h])
    · exact N8 p (by simp [h])
    · exact Ninn p h
  have off0 : ∀ p ∈ fix, @Ne Nat p.1 (L + 1 + 1 + 1 + 1 + 1 + 1) := by
    intro p hp
    rw [← hfix] at hp
    simp only [List.mem_cons] at hp
    rcases hp with rfl | rfl | rfl | rfl | rfl | rfl | rfl | rfl | rfl | rfl | h
    · exact qK _ (by simp)
    · exact qN _ (by simp)
    · exact qW _ (by simp)
    · exact neP _ (by simp)
    · exact neT _ (by simp)
    · exact neC 5 6 (by decide)
    · exact neC 4 6 (by decide)
    · exact neC 3 6 (by decide)
    · exact neC 2 6 (by decide)
    · exact neC 1 6 (by decide)
    · exact qI p h
  have fx : Fx L kn cnt tx fix := by
    subst hfix
    refine ⟨hk, h4, hlen, hok, ⟨o5', aT, ysT, nT, by k_mem, d5', by k_mem, hT⟩, ⟨o4', aP, ysP, nP, by k_mem, d4', by k_mem, hP⟩, ⟨o3', aN, ysN, nN, by k_mem, d3', by k_mem, hN⟩, ⟨o2', aK, ysK, nK, by k_mem, d2', by k_mem, ?_⟩⟩
    have e : cdOf kn tx = (tx.map prep).map fun l => codesOf (esc kn l) := by unfold cdOf; rw [List.map_map]; rfl
    rw [e]
    exact hKl.mono fun p hp => .tail _ (.tail _ (.tail _ (.tail _ (.tail _ (.tail _ (.tail _ (.tail _ (.tail _ (.tail _ hp)))))))))
  have mW : (aW, W.listOf ysW nW) ∈ fix := by rw [← hfix]; simp
  dsimp only
  refine wpAny_execs_cons ?_
  refine st11 F8 Nfix ?_
  intro h9 tk9 sh F9 N9 n9f
  have s1 := fresh_ne Nfix n9f (b := L + 1 + 1 + 1 + 1 + 1 + 1) (.head _)
  have s2 : ∀ p ∈ fix, @Ne Nat p.1 sh := fun p hp => Ne.symm (fresh_ne Nfix n9f (b := p.1) (o := p.2) (.tail _ hp))
  dsimp only
  refine wpAny_execs_cons ?_
  refine st12 F9 N9 ?_
  intro h10 tk10 to F10 N10 n10f
  have t1 := fresh_ne N9 n10f (b := L + 1 + 1 + 1 + 1 + 1 + 1) (.tail _ (.head _))
  have t0 := fresh_ne N9 n10f (b := sh) (.head _)
  have t2 : ∀ p ∈ fix, @Ne Nat p.1 to := fun p hp => Ne.symm (fresh_ne N9 n10f (b := p.1) (o := p.2) (.tail _ (.tail _ hp)))
  dsimp only
  refine wpAny_execs_cons ?_
  refine st13 F10 N10 ?_
  intro h11 tk11 tl F11 N11
  dsimp only
  refine wpAny_execs_cons ?_
  have lm : Lm kn cnt mark sh to aW (fun z => if z = S "left" then some (.int 0 tl) else if z = S "told" then some (.ref to) else if z = S "shown" then some (.ref sh) else if z = S "twice" then some (.ref aW) else m1 z) :=
    ⟨⟨tc, hcn⟩, ⟨tm, hmm⟩, hw, rfl, rfl, rfl⟩
  refine loop1 (n1 := 0) (n2 := 0) (tl := tl) cx XB TB fx hmk F11 (fun p hp => N11 p ?_) d1 lm rfl (Ne.symm s1) (Ne.symm t1) (Ne.symm t0) (fun p hp => ⟨off0 p hp, s2 p hp, t2 p hp⟩) ?_
  · simp only [List.mem_cons] at hp ⊢
    rcases hp with h | h | h | h <;> simp [h]
  intro h12 tk12 m12 own shs tos k1 k2 tl' F12 N12 lm12 hleft ha hb
  dsimp only
  refine wpAny_execs_cons ?_
  refine st15 F12 N12 ?_
  intro h13 tk13 td F13 N13
  have lm13 := lm12.set (x := S "due") (v := some (.int 0 td)) (by decide)
  obtain ⟨tc13, hc13⟩ := lm13.count
  dsimp only
  refine wpAny_execs_cons ?_
  refine loop2 (kn := kn) (cnt := cnt) (tx := tx) (fix := fix) (aW := aW) (ysW := ysW) (nW := nW) (td := td) cx fx h2 (fun p hp => .tail _ (.tail _ (List.mem_append_right _ hp))) F13 N13 hc13 lm13.twice (.tail _ (.tail _ (List.mem_append_right _ mW))) hW rfl ?_
  intro h14 tk14 m14 t14 F14 N14 hdue hpres
  rw [← plain_law h2 h4] at hdue
  dsimp only
  refine wpAny_execs_cons ?_
  refine ret17 (ds := reps kn cnt tx (2 ^ cnt)) cx hu F14 N14 ((hpres _ (by decide)).trans hleft) hdue ((hpres _ (by decide)).trans lm13.shown) ((hpres _ (by decide)).trans lm13.told) ha hb (reps_small hok) ?_
  exact cont _ _ _ F14
end
end LW
end
section
open PySem PySem.W PyProof.Rows PySem.Calls PySem.Spec
set_option linter.all false
set_option maxRecDepth 100000
set_option maxHeartbeats 8000000
namespace LW
section
variable {w : World} {mean : ExcName → Option Value} {mg mb : Str → Option Value} {A : Around} {base h₀ : Heap} {outer : List Env} {L : Addr} {n : Nat} {s : Shared} {E : Value → Shared → Prop}
theorem law_call {Q : Value → Shared → Prop} {a : Addr} {vs : List Value} {ns : List Int} (hl : s.heap.IsList a vs.toArray) (hi : IntsAre vs ns) (hn : ns.length ≤ 100000) (cx : Cx w mean mg mb A base [] s.heap 3) (XB : (KK w.params).In base) (TB : Top vw (looseW vw lo) mean mg mb base)
    (hu : A.units + 3 + 64 < cLine) (hQ : ∀ h' tk L m', Fr s.heap L h' m' → Q (.bool true) { s with heap := h', toks := tk }) : wpAny (model P0 w) A (call (.ref 172) [.ref a]) Q E s := by
  have hkf : (KK w.params).In s.heap ∧ PySem.Challenge.rw_wa0043_01 = PySem.Challenge.rw_wa0043_01 := by
    k_fill
    exact ⟨cx.X, rfl⟩
  clear hkf
  refine enterC (n := 2) cx (binds := [(S "script", .ref a)]) (by k_is) (by k_is) rfl (by rfl) (by decide) ?_
  intro h₁ L tk cells F N Y
  k_cells Y
  rename_i d1 d2 d3 d4 d5 d6
  refine body_law hl hi hn cx XB TB hu F N d1 d2 d3 d4 d5 d6 ?_
  intro h' tk' m' F'
  exact hQ h' tk' L m' F'
theorem law_holds : PySem.Challenge.rw_wa0043_01.Holds := by
  refine holds_of _ _ (by rfl) (by rfl) (by rfl) ?_
  intro w s₀ s₁ mg mb G Y fa o pm cd doc dV kV ho hd hcd hD hmg hg args vals as hpre hlay hrd hwl hlo
  have KX := kIn_of Y
  refine Ground.open G ?_
  intro T B D TE TW
  have hfa : fa = 172 := by
    have e := mg_of KX T.g (n := S "law") (v := .ref 172) (by kernel_rfl)
    have e2 : mg (S "law") = some (.ref fa) := hmg
    rw [e] at e2
    exact (Value.ref.inj (Option.some.inj e2)).symm
  subst hfa
  wrow_args hpre hlay hrd hwl hlo
  rename Heap.IsList s₁.heap _ _ => hL
  rename IntsAre _ _ => hI
  rename (¬ _ < _) => hcond
  have cx : Cx w (ExcName.means s₀.heap) mg mb callerA s₁.heap [] s₁.heap 3 := ⟨below_caller s₁.heap, KX, T, rfl, by decide, by decide⟩
  refine law_call hL hI (by omega) cx KX T (by decide) ?_
  intro h' tk L m' F
  refine GoodW.toG (goodW_bool F hg (raisesW_false ?_) ?_ rfl)
  · wrow_none_raised
  · wrow_post
end
end LW
end
set_option maxRecDepth 100000 in
set_option maxHeartbeats 8000000 in
theorem PySem.Challenge.cw_wa0043_01_holds : PySem.Challenge.rw_wa0043_01.Holds := by
  exact LW.law_holds
