import PyProof.Rows.All
import Wide.All
import OpenK.AllK
import Wide.FinOn
import OpenK.ZHead
import Lean
import PySem.Challenge.RW_rw0121_03
set_option Elab.async false
set_option maxRecDepth 100000
set_option linter.all false
set_option maxHeartbeats 4000000
set_option compiler.extract_closed false
set_option genSizeOf false
set_option genInjectivity false
noncomputable section
section
open PySem PySem.W PyProof.Rows
namespace Mine
noncomputable section
structure TE where
  p : Program
  w : World
  n₀ : Nat
  ann : Option Value
  code : Code
  q : Pos
noncomputable def TE.run (e : TE) (N : Nat) (s : Shared) (cur : Sem Fin) (pos : Pos) (r : Shared) : Prop := topRun treeTable e.p e.w e.n₀ e.ann N s ⟨cur, e.code, pos, [topFrame e.q]⟩ = some r
/-- a tree of the module's top that runs to its value -/
noncomputable def Op (e : TE) (B : Nat) {α : Type} (m : Sem α) (s : Shared) (a : α) (s' : Shared) : Prop :=
  ∀ (K : α → Sem Fin) (H : Value → Sem Fin) (gd : Bool → Bool) (lv : List Value → List Value) (pos : Pos), ∃ (n : Nat) (pos' : Pos), n ≤ B ∧ ∀ (N : Nat) (r : Shared),
    e.run N s' (K a) pos' r → e.run (n + N) s (m.wrap K H gd lv) pos r
variable {e : TE} {α β : Type} {s s' s₁ : Shared}
theorem Op.le {B B' : Nat} {m : Sem α} {a : α} (pf : Op e B m s a s') (hle : B ≤ B') : Op e B' m s a s' := fun K H gd lv pos => by
  obtain ⟨n, pos', hn, h⟩ := pf K H gd lv pos
  exact ⟨n, pos', Nat.le_trans hn hle, h⟩
theorem Op.pure {B : Nat} {a : α} : Op e B (Pure.pure a) s a s := fun _ _ _ _ pos => ⟨0, pos, Nat.zero_le _, fun N r h => by rw [Nat.zero_add]; exact h⟩
theorem op_ret {a : α} : Op e 0 (Pure.pure a) s a s := Op.pure
theorem Op.bind {B B' : Nat} {m : Sem α} {f : α → Sem β} {a : α} {b : β} (h : Op e B' m s a s₁) (k : Op e (B - B') (f a) s₁ b s') (hle : B' ≤ B := by lia) : Op e B (m >>= f) s b s' := fun K H gd lv pos => by
  obtain ⟨n, pos', hn, h⟩ := h (fun a => (f a).wrap K H gd lv) H gd lv pos
  obtain ⟨n', pos'', hn', k⟩ := k K H gd lv pos'
  refine ⟨n + n', pos'', by lia, fun N r x => ?_⟩
  rw [Sem.bind_eq_wrap', Sem.wrap_wrap, Nat.add_assoc]
  exact h _ _ (k _ _ x)
theorem Op.keep {B : Nat} {vs : List Value} {m : Sem α} {a : α} (h : Op e B m s a s') : Op e B (m.keep vs) s a s' := fun K H gd lv pos => by
  obtain ⟨n, pos', hn, h⟩ := h K H gd (fun l => lv (vs ++ l)) pos
  refine ⟨n, pos', hn, fun N r x => ?_⟩
  rw [Sem.keep_eq_wrap, Sem.wrap_wrap]
  exact h _ _ x
theorem Op.holding {B : Nat} {vs : List Value} {m : Sem α} {a : α} (h : Op e B m s a s') : Op e B (holding vs m) s a s' := by
  unfold PySem.holding; split
  · exact h
  · exact h.keep
theorem Op.onRaise {B : Nat} {m : Sem α} {f : Value → Sem Unit} {a : α} (h : Op e B m s a s') : Op e B (m.onRaise f) s a s' := fun K H gd lv pos => by
  obtain ⟨n, pos', hn, h⟩ := h K (fun x => ((f x).bind fun _ => (.raise x : Sem α)).wrap K H gd lv) gd lv pos
  refine ⟨n, pos', hn, fun N r x => ?_⟩
  rw [Sem.onRaise_eq_wrap, Sem.wrap_wrap]
  exact h _ _ x
theorem Op.one {m : Sem α} {a : α} (h : ∀ (K : α → Sem Fin) (H : Value → Sem Fin) (gd : Bool → Bool) (lv : List Value → List Value) (pos : Pos), ∃ pos' : Pos,
    stepOk e.n₀ e.ann ⟨m.wrap K H gd lv, e.code, pos, [topFrame e.q]⟩ = true ∧ through ⟨m.wrap K H gd lv, e.code, pos, [topFrame e.q]⟩ = false ∧
    step (denote treeTable) e.p e.w s ⟨m.wrap K H gd lv, e.code, pos, [topFrame e.q]⟩ = .go s' ⟨K a, e.code, pos', [topFrame e.q]⟩) : Op e 1 m s a s' := fun K H gd lv pos => by
  obtain ⟨pos', h1, h2, h3⟩ := h K H gd lv pos
  refine ⟨1, pos', Nat.le_refl _, fun N r x => ?_⟩
  unfold TE.run at *
  rw [Nat.add_comm]
  unfold topRun
  rw [h2, h1, h3]
  exact x
theorem Op.loadPart {a : Addr} {q : Option Value} {o : Obj} (ho : s.heap.get? a = some o) : Op e 1 (PySem.loadPart a q) s o s := Op.one fun K H gd lv pos => by
  obtain ⟨heap, gens, drawn, toks, os⟩ := s
  refine ⟨pos, rfl, rfl, ?_⟩
  simp only [PySem.loadPart, Sem.wrap, step]
  rw [show heap.get? a = some o from ho]
theorem Op.alloc {o : Obj} : Op e 1 (PySem.alloc o) s s.heap.objs.size { s with heap := s.heap.push o } := Op.one fun K H gd lv pos => ⟨pos, rfl, rfl, rfl⟩
theorem Op.fresh : Op e 1 PySem.fresh s s.toks { s with toks := s.toks + 1 } := Op.one fun K H gd lv pos => ⟨pos, rfl, rfl, rfl⟩
theorem Op.rule {t : String} : Op e 1 (PySem.rule t) s () s := Op.one fun K H gd lv pos => ⟨pos, rfl, rfl, rfl⟩
theorem Op.standAt {t : Pos} : Op e 1 (PySem.standAt t) s () s := Op.one fun K H gd lv pos => ⟨t, rfl, rfl, rfl⟩
theorem Op.updatePart {a : Addr} {q : Option Value} {o : Obj} {f : Obj → Obj} (ho : s.heap.get? a = some o) (ha : e.n₀ ≤ a) : Op e 1 (PySem.updatePart a q f) s () { s with heap := s.heap.update a f } := Op.one fun K H gd lv pos => by
  obtain ⟨heap, gens, drawn, toks, os⟩ := s
  refine ⟨pos, ?_, rfl, ?_⟩
  · show (true && (Nat.ble e.n₀ a || a == mainNs || a == cStatics || e.ann == some (.ref a))) = true
    rw [Nat.ble_eq_true_of_le ha]; rfl
  · simp only [PySem.updatePart, Sem.wrap, step]
    rw [show heap.get? a = some o from ho]; rfl
/-- from a run that was looked at alone -/
theorem Op.of_seg {B : Nat} {m : Sem α} {a : α} {f : Flow} (res : α → Flow) (inj : ∀ b, res b = f → b = a)
    (h : ∀ (gd : Bool → Bool) (lv : List Value → List Value) (pos : Pos), ∃ (n : Nat) (pos' : Pos), n ≤ B ∧ segRun treeTable e.p e.w e.n₀ e.ann 1 n s ⟨m.wrap (fun a => .pure (.done (res a))) deadEnd gd lv, e.code, pos, [topFrame e.q]⟩ = some (f, s', e.code, pos')) :
    Op e B m s a s' := fun K H gd lv pos => by
  obtain ⟨n, pos', hn, h⟩ := h gd lv pos
  obtain ⟨b, hb, k⟩ := seg_top (res := res) (K' := K) (H' := H) (gd := gd) (lv := lv) (B := [topFrame e.q]) rfl n s ⟨m.wrap (fun a => .pure (.done (res a))) deadEnd gd lv, e.code, pos, [topFrame e.q]⟩ ⟨m.wrap K H gd lv, e.code, pos, [topFrame e.q]⟩ _ _ _ _ ⟨rfl, rfl, .inl ⟨rfl, rfl, m, rfl, rfl⟩⟩ h
  obtain rfl := inj b hb
  exact ⟨n, pos', hn, fun N r x => k N r x⟩
theorem Op.forIn_nil {B : Nat} {γ : Type} {f : γ → β → Sem (ForInStep β)} {b : β} : Op e B (forIn ([] : List γ) b f) s b s := Op.pure
theorem Op.forIn_cons {B B' : Nat} {γ : Type} {f : γ → β → Sem (ForInStep β)} {x : γ} {l : List γ} {b b' b'' : β} (h : Op e B' (f x b) s (.yield b') s₁) (k : Op e (B - B') (forIn l b' f) s₁ b'' s') (hle : B' ≤ B := by lia) : Op e B (forIn (x :: l) b f) s b'' s' := by
  rw [List.forIn_cons]; exact Op.bind h k hle
/- a dict's entries, its epoch, a key that is not in it -/
theorem Op.dictEntries {a : Addr} {q : Option Value} {o : Obj} {es n} (ho : s.heap.get? a = some o) (hd : o.data = .dict es n) : Op e (1) (PySem.dictEntries a q) s es s := by
  unfold PySem.dictEntries; refine Op.bind (Op.loadPart ho) ?_; rw [hd]; exact Op.pure
theorem Op.dictEpoch {a : Addr} {q : Option Value} {o : Obj} {es n} (ho : s.heap.get? a = some o) (hd : o.data = .dict es n) : Op e (1) (PySem.dictEpoch a q) s n s := by
  unfold PySem.dictEpoch; refine Op.bind (Op.loadPart ho) ?_; rw [hd]; exact Op.pure
theorem places_nil {es : Array DictEntry} {h : Int} (hn : ∀ x ∈ es, x.hash ≠ h) : placesWithHash es.size (fun i => es[i]?.map (·.hash)) h = [] := by
  unfold placesWithHash
  rw [List.filter_eq_nil_iff]
  intro i _
  rw [beq_iff_eq]
  intro hi
  obtain ⟨x, hx, rfl⟩ := Option.map_eq_some_iff.mp hi
  exact hn x (Array.mem_of_getElem? hx) rfl
theorem Op.dictFind_none {a : Addr} {o : Obj} {es n} {k : Int} {t : Tok} {h : Int} (ho : s.heap.get? a = some o) (hd : o.data = .dict es n) (hn : ∀ x ∈ es, x.hash ≠ h) :
    Op e (1) (PySem.dictFind a (.int k t) h) s none s := by
  unfold PySem.dictFind
  refine Op.holding (Op.bind (Op.dictEntries ho hd) ?_)
  simp only [places_nil hn]
  exact Op.pure
theorem Op.pushNew {a : Addr} {q : Option Value} {o : Obj} {es : Array DictEntry} {n : Nat} {x : DictEntry} (ho : s.heap.get? a = some o) (hd : o = ⟨.type "dict", none, .dict es n, #[]⟩) (ha : e.n₀ ≤ a) (hz : es.size ≤ 100000) :
    Op e (3) (PySem.updateDictKeys a (·.push x) q) s () { s with heap := s.heap.update a (Obj.mapDictKeys (·.push x)) } := by
  subst hd
  unfold PySem.updateDictKeys
  refine Op.bind (Op.loadPart ho) (Op.bind (Op.updatePart ho ha) ?_)
  unfold lookBehind
  refine Op.bind (Op.loadPart (o := ⟨.type "dict", none, .dict (es.push x) (n + 1), #[]⟩) (Heap.get?_update_self _ ho rfl)) ?_
  have hp : (Data.dict (es.push x) (n + 1)).pastItsLine = none := pastItsLine_dict (by rw [Array.size_push]; have : sizeLine = 16777216 := rfl; lia)
  simp only [hp]
  exact Op.pure


noncomputable abbrev noHash (v : Value) : Sem (Option Value) := callSpecialIfBoundUnlessNone? v "__hash__" (do rule "hash.unhashable"; raiseError "TypeError" s!"unhashable type: '{← typeNameOf v}'")
noncomputable def oRes : Option Value → Flow | some v => .ret v | none => .next
theorem hash_seg (p : Program) (n₀ : Nat) (ann : Option Value) (q : Pos) (b : List Stmt) (env : Env) (heap : Heap) (gens : Array GenState) (drawn : Drawn) (toks : Nat) (os : OsState) (i : Int) (t : Tok) (gd : Bool → Bool) (lv : List Value → List Value) (pos : Pos) :
    ∀ w : World, segRun treeTable p w n₀ ann 1 40 ⟨heap, gens, drawn, toks, os⟩ ⟨(noHash (.int i t)).wrap (fun a => .pure (.done (oRes a))) deadEnd gd lv, .body b env, pos, [topFrame q]⟩ = some (.ret (.int (rawHash i) toks), ⟨heap, gens, drawn, toks + 1, os⟩, .body b env, pos) := by
  rw [show @segRun = @PySem.W.Fast.tw14374325043358763698 from PySem.W.Fast.te14374325043358763698, show @treeTable = @PySem.W.Fast.tw14364793385576792824 from PySem.W.Fast.te14364793385576792824]
  refine byRow2 "special-get-raises" ?_ ?_ <;> (intro w; kernel_rfl)
theorem Op.pyHash {b : List Stmt} {env : Env} {k : Int} {t : Tok} (hc : e.code = .body b env) : Op e (41) (PySem.pyHash (.int k t)) s (hashInt k) { s with toks := s.toks + 1 } := by
  have hr := rawHash_range k
  unfold PySem.pyHash
  have hv : [Value.int k t].any Value.onHeap = false := rfl
  refine Op.bind (a := ()) (s₁ := s) (B' := 0) ?_ ?_
  · rw [cRoomFor, if_neg (by rw [hv]; exact Bool.false_ne_true)]; exact Op.pure
  have sp : specialOf (.int k t) "__hash__" = Pure.pure (some (.builtin "int.__hash__")) := by
    show typeLookup (.type "int") "__hash__" = _
    exact slot_int_hash.lookup
  rw [sp]
  refine Op.bind op_ret ?_
  rw [if_neg (by rw [beq_builtin_none]; exact Bool.false_ne_true)]
  refine Op.bind op_ret ?_
  refine Op.bind (B' := 40) (m := noHash (.int k t)) (a := some (.int (rawHash k) s.toks)) (s₁ := { s with toks := s.toks + 1 }) ?_ ?_
  · refine Op.of_seg oRes (f := .ret (.int (rawHash k) s.toks)) (fun x hx => ?_) (fun gd lv pos => ⟨40, pos, Nat.le_refl _, ?_⟩)
    · cases x <;> simp [oRes] at hx; rw [hx]
    · obtain ⟨heap, gens, drawn, toks, os⟩ := s
      rw [hc]; exact hash_seg _ _ _ _ _ _ _ _ _ _ _ _ _ _ _ _ _
  · show Op e _ (if (decide (-(2 : Int) ^ 63 ≤ rawHash k) && decide (rawHash k < 2 ^ 63)) = true then _ else _) _ _ _
    rw [if_pos (by rw [decide_eq_true hr.1, decide_eq_true hr.2]; rfl)]
    exact Op.pure

/- heaps: one object put anew -/
noncomputable def hput (h : Heap) (d : Addr) (o : Obj) : Heap := h.update d fun _ => o
theorem hput_of {h : Heap} {d : Addr} {o : Obj} (f : Obj → Obj) (ho : h.get? d = some o) : h.update d f = hput h d (f o) := by
  obtain ⟨objs, life⟩ := h
  have hx : objs[d]? = some o := by
    unfold Heap.get? at ho
    split at ho
    · cases ho
    · exact ho
  show (⟨objs.modify d f, life⟩ : Heap) = ⟨objs.modify d fun _ => f o, life⟩
  congr 1
  apply Array.ext_getElem?
  intro i
  rw [Array.getElem?_modify, Array.getElem?_modify]
  split
  · rename_i e; subst e; rw [hx]; rfl
  · rfl
theorem hput_put (h : Heap) (d : Addr) (o o' : Obj) : hput (hput h d o) d o' = hput h d o' := by
  obtain ⟨objs, life⟩ := h
  show (⟨(objs.modify d fun _ => o).modify d fun _ => o', life⟩ : Heap) = ⟨objs.modify d fun _ => o', life⟩
  congr 1
  apply Array.ext_getElem?
  intro i
  simp only [Array.getElem?_modify]
  split
  · cases objs[i]? <;> rfl
  · rfl
theorem hput_self {h : Heap} {d : Addr} {o o' : Obj} (ho : h.get? d = some o) (hf : o'.isFreed = false) : (hput h d o').get? d = some o' := Heap.get?_update_self (fun _ => o') ho hf
noncomputable abbrev dictO (es : List DictEntry) (n : Nat) : Obj := ⟨.type "dict", none, .dict ⟨es⟩ n, #[]⟩
noncomputable def entsA : Nat → List (Int × Str) → List DictEntry
  | _, [] => []
  | t, (k, v) :: r => ⟨hashInt k, .int k t, .str v (t + 1)⟩ :: entsA (t + 3) r
noncomputable def entsB : Nat → List (Int × Str) → List DictEntry
  | _, [] => []
  | t, (k, v) :: r => ⟨hashInt k, .int k t, .str v (t + 1)⟩ :: entsB (t + 2) r
noncomputable def Fresh (es : List DictEntry) (c : List (Int × Str)) : Prop := ∀ x ∈ es, ∀ p ∈ c, x.hash ≠ hashInt p.1
theorem Op.setNew {d : Addr} {es : List DictEntry} {n : Nat} {k : Int} {t : Tok} {v : Value} {b : List Stmt} {env : Env} (hc : e.code = .body b env) (ho : s.heap.get? d = some (dictO es n)) (ha : e.n₀ ≤ d) (hz : es.length ≤ 100000) (hn : ∀ x ∈ es, x.hash ≠ hashInt k) :
    Op e (50) (dictSet d (.int k t) v) s () { s with heap := hput s.heap d (dictO (es ++ [⟨hashInt k, .int k t, v⟩]) (n + 1)), toks := s.toks + 1 } := by
  unfold dictSet
  refine Op.holding (Op.bind (Op.pyHash hc) ?_)
  unfold dictSetHashed
  refine Op.holding (Op.bind (Op.dictFind_none (s := { s with toks := s.toks + 1 }) ho rfl (by simpa using hn)) (Op.bind Op.rule ?_))
  have := Op.pushNew (e := e) (q := keyPart (.int k t)) (x := ⟨hashInt k, .int k t, v⟩) (s := { s with toks := s.toks + 1 }) ho rfl ha (by simpa using hz)
  rw [hput_of _ ho] at this
  refine Op.le ?_ (B := 3) (by lia)
  simpa [Obj.mapDictKeys] using this
theorem Op.putNew {d : Addr} {es : List DictEntry} {n : Nat} {k : Int} {t : Tok} {v : Value} (ho : s.heap.get? d = some (dictO es n)) (ha : e.n₀ ≤ d) (hz : es.length ≤ 100000) (hn : ∀ x ∈ es, x.hash ≠ hashInt k) :
    Op e (10) (dictPut d (hashInt k) (.int k t) v) s () { s with heap := hput s.heap d (dictO (es ++ [⟨hashInt k, .int k t, v⟩]) (n + 1)) } := by
  unfold dictPut
  refine Op.bind (Op.dictFind_none ho rfl (by simpa using hn)) ?_
  have := Op.pushNew (e := e) (q := none) (x := ⟨hashInt k, .int k t, v⟩) ho rfl ha (by simpa using hz)
  rw [hput_of _ ho] at this
  refine Op.le ?_ (B := 3) (by lia)
  simpa [Obj.mapDictKeys] using this
noncomputable abbrev prK (k : Int) : Sem Value := mkInt k
noncomputable abbrev prV (dp : Pos) (v : Str) : Sem Value := do let x ← mkText v; standAt dp; pure x
theorem op_prK {k : Int} : Op e (1) (prK k) s (.int k s.toks) { s with toks := s.toks + 1 } := Op.bind Op.fresh Op.pure
theorem op_prV {dp : Pos} {v : Str} : Op e (2) (prV dp v) s (.str v s.toks) { s with toks := s.toks + 1 } := Op.bind (B' := 1) (Op.bind Op.fresh Op.pure) (Op.bind Op.standAt Op.pure)
noncomputable abbrev prs (dp : Pos) (c : List (Int × Str)) : List (Sem Value × Sem Value) := c.map fun p => (prK p.1, prV dp p.2)
theorem entsA_hash {c : List (Int × Str)} : ∀ {t : Nat} {x : DictEntry}, x ∈ entsA t c → ∃ p ∈ c, x.hash = hashInt p.1 := by
  induction c with
  | nil => intro t x hx; cases hx
  | cons p c ih =>
    intro t x hx
    cases hx with
    | head => exact ⟨p, .head _, rfl⟩
    | tail _ hx => obtain ⟨q, hq, e⟩ := ih hx; exact ⟨q, .tail _ hq, e⟩
theorem entsA_form {c : List (Int × Str)} : ∀ {t : Nat} {x : DictEntry}, x ∈ entsA t c → ∃ k t v, x = ⟨hashInt k, .int k t, v⟩ := by
  induction c with
  | nil => intro t x hx; cases hx
  | cons p c ih =>
    intro t x hx
    cases hx with
    | head => exact ⟨_, _, _, rfl⟩
    | tail _ hx => exact ih hx
theorem entsA_hashes {c : List (Int × Str)} : ∀ {t : Nat}, (entsA t c).map (·.hash) = c.map fun p => hashInt p.1 := by
  induction c with
  | nil => intro t; rfl
  | cons p c ih => intro t; show hashInt p.1 :: (entsA (t + 3) c).map (·.hash) = _; rw [ih]; rfl
theorem entsB_form {c : List (Int × Str)} : ∀ {t : Nat} {x : DictEntry}, x ∈ entsB t c → ∃ k t v, x = ⟨hashInt k, .int k t, v⟩ := by
  induction c with
  | nil => intro t x hx; cases hx
  | cons p c ih =>
    intro t x hx
    cases hx with
    | head => exact ⟨_, _, _, rfl⟩
    | tail _ hx => exact ih hx
theorem entsB_hashes {c : List (Int × Str)} : ∀ {t : Nat}, (entsB t c).map (·.hash) = c.map fun p => hashInt p.1 := by
  induction c with
  | nil => intro t; rfl
  | cons p c ih => intro t; show hashInt p.1 :: (entsB (t + 2) c).map (·.hash) = _; rw [ih]; rfl
theorem entsA_length {c : List (Int × Str)} : ∀ {t : Nat}, (entsA t c).length = c.length := by
  induction c with
  | nil => intro t; rfl
  | cons p c ih => intro t; show (entsA (t + 3) c).length + 1 = _; rw [ih]; rfl
theorem entsB_length {c : List (Int × Str)} : ∀ {t : Nat}, (entsB t c).length = c.length := by
  induction c with
  | nil => intro t; rfl
  | cons p c ih => intro t; show (entsB (t + 2) c).length + 1 = _; rw [ih]; rfl
/-- the long way: each pair is reckoned and stored -/
theorem Op.longLoop {f : Sem Value × Sem Value → PUnit → Sem (ForInStep PUnit)} {d : Addr} (hb : ∀ k v u, f (k, v) u = (do
      let kv ← k
      let vv ← PySem.holding [kv] v
      PySem.holding [kv, vv] (dictSet d kv vv)
      Pure.pure (ForInStep.yield PUnit.unit))) {dp : Pos} {b : List Stmt} {env : Env} (hc : e.code = .body b env) (ha : e.n₀ ≤ d) : ∀ (c : List (Int × Str)) (es : List DictEntry) (n : Nat) (s : Shared), s.heap.get? d = some (dictO es n) → es.length + c.length ≤ 100000 → Fresh es c → (c.map fun p => hashInt p.1).Nodup →
    Op e (60 * c.length) (forIn (prs dp c) PUnit.unit f) s PUnit.unit { s with heap := hput s.heap d (dictO (es ++ entsA s.toks c) (n + c.length)), toks := s.toks + 3 * c.length }
  | [], es, n, s, ho, _, _, _ => by
    have e1 : hput s.heap d (dictO (es ++ entsA s.toks []) (n + 0)) = s.heap := by
      obtain ⟨⟨objs, life⟩, gens, drawn, toks, os⟩ := s
      have hx : objs[d]? = some (dictO es n) := by
        unfold Heap.get? at ho
        split at ho
        · cases ho
        · exact ho
      show (⟨objs.modify d _, life⟩ : Heap) = ⟨objs, life⟩
      congr 1
      apply Array.ext_getElem?
      intro i
      rw [Array.getElem?_modify]
      split
      · rename_i e'; subst e'; rw [hx]; simp [entsA]
      · rfl
    show Op e _ _ s PUnit.unit { s with heap := hput s.heap d (dictO (es ++ entsA s.toks []) (n + 0)), toks := s.toks + 3 * 0 }
    rw [e1]
    exact Op.forIn_nil
  | (k, v) :: c, es, n, s, ho, hz, hf, hnd => by
    rw [List.map_cons, List.nodup_cons] at hnd
    have hz1 : es.length ≤ 100000 := by simp only [List.length_cons] at hz; lia
    have step := Op.setNew (e := e) (s := { s with toks := s.toks + 1 + 1 }) (t := s.toks) (v := .str v (s.toks + 1)) hc ho ha hz1 (fun x hx => hf x hx (k, v) (.head _))
    have ih := Op.longLoop hb (dp := dp) hc ha c (es ++ [⟨hashInt k, .int k s.toks, .str v (s.toks + 1)⟩]) (n + 1) { s with heap := hput s.heap d (dictO (es ++ [⟨hashInt k, .int k s.toks, .str v (s.toks + 1)⟩]) (n + 1)), toks := s.toks + 1 + 1 + 1 }
      (hput_self ho rfl) (by simp only [List.length_append, List.length_cons, List.length_nil] at hz ⊢; lia) (fun x hx p hp => by
        rcases List.mem_append.mp hx with hx | hx
        · exact hf x hx p (.tail _ hp)
        · rcases List.mem_singleton.mp hx with rfl
          intro q
          exact hnd.1 (List.mem_map.mpr ⟨p, hp, q.symm⟩)) hnd.2
    have hone : Op e 60 (f (prK k, prV dp v) PUnit.unit) s (ForInStep.yield PUnit.unit) { s with heap := hput s.heap d (dictO (es ++ [⟨hashInt k, .int k s.toks, .str v (s.toks + 1)⟩]) (n + 1)), toks := s.toks + 1 + 1 + 1 } := by rw [hb]; exact Op.bind op_prK (Op.bind (Op.holding op_prV) (Op.bind (Op.holding step) Op.pure))
    refine Op.forIn_cons hone (Op.le (B := 60 * c.length) ?_ (by rw [List.length_cons]; lia)) (by rw [List.length_cons]; lia)
    rw [hput_put] at ih
    have e2 : es ++ [⟨hashInt k, .int k s.toks, .str v (s.toks + 1)⟩] ++ entsA (s.toks + 1 + 1 + 1) c = es ++ entsA s.toks ((k, v) :: c) := by rw [List.append_assoc]; rfl
    rw [e2] at ih
    have e3 : n + 1 + c.length = n + ((k, v) :: c).length := by rw [List.length_cons]; lia
    have e4 : s.toks + 1 + 1 + 1 + 3 * c.length = s.toks + 3 * ((k, v) :: c).length := by rw [List.length_cons]; lia
    rw [e3, e4] at ih
    exact ih
theorem Op.subLong {dp : Pos} {b : List Stmt} {env : Env} {c : List (Int × Str)} (hc : e.code = .body b env) (hl : c.length = 17) (ha : e.n₀ ≤ s.heap.objs.size) (hnd : (c.map fun p => hashInt p.1).Nodup) :
    Op e (1100) (subDict (prs dp c)) s s.heap.objs.size { s with heap := s.heap.push (dictO (entsA s.toks c) 17), toks := s.toks + 51 } := by
  unfold subDict
  refine Op.bind Op.alloc (Op.bind (B' := 1098) (a := PUnit.unit) (s₁ := { s with heap := s.heap.push (dictO (entsA s.toks c) 17), toks := s.toks + 51 }) (Op.holding ?_) Op.pure)
  rw [if_neg (by rw [List.length_map, hl]; decide)]
  refine Op.bind Op.rule ?_
  have e1 : hput (s.heap.push { cls := .type "dict", data := .dict #[] }) s.heap.objs.size (dictO ([] ++ entsA s.toks c) (0 + c.length)) = s.heap.push (dictO (entsA s.toks c) 17) := by
    obtain ⟨⟨objs, life⟩, gens, drawn, toks, os⟩ := s
    show (⟨(objs.push _).modify objs.size _, life⟩ : Heap) = ⟨objs.push _, life⟩
    congr 1
    apply Array.ext_getElem?
    intro i
    rw [Array.getElem?_modify, Array.getElem?_push, Array.getElem?_push, hl]
    by_cases hi : i = objs.size
    · subst hi; simp
    · rw [if_neg (Ne.symm hi), if_neg hi, if_neg hi]
  have e2 : ({ s with heap := hput (s.heap.push { cls := .type "dict", data := .dict #[] }) s.heap.objs.size (dictO ([] ++ entsA s.toks c) (0 + c.length)), toks := s.toks + 3 * c.length } : Shared) = { s with heap := s.heap.push (dictO (entsA s.toks c) 17), toks := s.toks + 51 } := by rw [e1, hl]
  rw [← e2]
  exact Op.bind (B' := 60 * c.length) (Op.longLoop (d := s.heap.objs.size) (s := { s with heap := s.heap.push { cls := .type "dict", data := .dict #[] } }) (fun k v u => rfl) hc ha c [] 0 (Heap.get?_push_size _ rfl) (by rw [hl]; decide) (fun _ hx => nomatch hx) hnd) Op.pure (by rw [hl]; decide)
theorem dict_lookups : typeLookup (.type "dict") "__iter__" = pure (some (.builtin "dict.__iter__")) ∧ isSubtype (.type "dict") (.type "dict") = pure true := by
  constructor
  · rw [typeLookup_type, builtinLookup_eq_fast]; kernel_rfl
  · rw [isSubtype_type]; kernel_rfl

theorem Op.forIn_to {Bs : Nat} {γ : Type} {f : γ → β → Sem (ForInStep β)} (I : List γ → β → Shared → Prop) {b₀ : β} {s₀ : Shared}
    (step : ∀ x rest b s, I (x :: rest) b s → ∃ b' s', Op e Bs (f x b) s (.yield b') s' ∧ I rest b' s') (fin : ∀ b s, I [] b s → b = b₀ ∧ s = s₀) :
    ∀ (l : List γ) (b : β) (s : Shared), I l b s → Op e (Bs * l.length) (forIn l b f) s b₀ s₀
  | [], b, s, h => by obtain ⟨rfl, rfl⟩ := fin b s h; exact Op.forIn_nil
  | x :: l, b, s, h => by
    obtain ⟨b', s', h1, h2⟩ := step x l b s h
    exact Op.forIn_cons h1 ((Op.forIn_to I step fin l b' s' h2).le (by rw [List.length_cons, Nat.mul_succ]; lia)) (by rw [List.length_cons, Nat.mul_succ]; lia)
theorem hput_id {h : Heap} {d : Addr} {o : Obj} (ho : h.get? d = some o) : hput h d o = h := by
  obtain ⟨objs, life⟩ := h
  have hx : objs[d]? = some o := by
    unfold Heap.get? at ho
    split at ho
    · cases ho
    · exact ho
  show (⟨objs.modify d _, life⟩ : Heap) = ⟨objs, life⟩
  congr 1
  apply Array.ext_getElem?
  intro i
  rw [Array.getElem?_modify]
  split
  · rename_i e'; subst e'; rw [hx]; rfl
  · rfl
theorem hput_ne {h : Heap} {d a : Addr} {o : Obj} (hda : d ≠ a) : (hput h d o).get? a = h.get? a := Heap.get?_update_ne _ _ _ _ (Ne.symm hda)
theorem Op.merge {d a : Addr} {es sub : List DictEntry} {n m : Nat} (ha : e.n₀ ≤ d) (hda : d ≠ a) (hsys : a ≠ sysModules) (hd : s.heap.get? d = some (dictO es n)) (hs : s.heap.get? a = some (dictO sub m)) (hne : es ≠ [])
    (hz : es.length + sub.length ≤ 100000) (hk : ∀ x ∈ sub, ∃ k t v, x = ⟨hashInt k, .int k t, v⟩) (hf : ∀ x ∈ es, ∀ y ∈ sub, x.hash ≠ y.hash) (hnd : (sub.map (·.hash)).Nodup) :
    Op e (20 + 20 * sub.length) (mergeMapping d (.ref a) false) s () { s with heap := hput s.heap d (dictO (es ++ sub) (n + sub.length)) } := by
  unfold mergeMapping
  have hty : Op e 1 (typeOf (.ref a)) s (.type "dict") s := Op.bind (Op.loadPart hs) Op.pure
  refine Op.bind (B' := 1) (a := true) (s₁ := s) (by unfold isInstance; refine Op.bind hty ?_; rw [dict_lookups.2]; exact Op.pure) ?_
  rw [if_pos rfl]
  refine Op.bind (B' := 1) (a := some (.builtin "dict.__iter__")) (s₁ := s) (by unfold specialOf; refine Op.bind hty ?_; rw [dict_lookups.1]; exact Op.pure) (Op.bind op_ret ?_)
  have hit : ((some (Value.builtin "dict.__iter__") : Option Value) == some (.builtin "dict.__iter__")) = true := by decide
  rw [hit]
  dsimp only
  have hsysb : (a == sysModules) = false := by simpa using hsys
  rw [if_neg (by rw [hsysb]; exact Bool.false_ne_true)]
  refine Op.bind (Op.dictEntries hd rfl) ?_
  have hemp : (⟨es⟩ : Array DictEntry).isEmpty = false := by cases es with | nil => exact absurd rfl hne | cons => rfl
  rw [if_neg (by rw [hemp]; exact Bool.false_ne_true)]
  refine Op.bind (Op.dictEntries hs rfl) (Op.bind (Op.dictEpoch hs rfl) ?_)
  refine Op.bind (B' := 20 * (List.range sub.length).length) (a := PUnit.unit) ?_ Op.pure (by rw [List.length_range]; lia)
  refine Op.forIn_to (Bs := 20) (fun rest _ s' => ∃ i, rest = List.range' i (sub.length - i) ∧ i ≤ sub.length ∧ s' = { s with heap := hput s.heap d (dictO (es ++ sub.take i) (n + i)) }) ?_ ?_ _ _ _ ⟨0, ?_, Nat.zero_le _, ?_⟩
  · rintro x rest _ s' ⟨i, hr, hi, rfl⟩
    have hlt : i < sub.length := by
      rcases Nat.lt_or_ge i sub.length with h | h
      · exact h
      · (first | obtain rfl := Option.some.inj ((show sub.length - i = 0 by lia).symm.trans hr) | exact absurd ((show sub.length - i = 0 by lia).symm.trans hr) (Option.some_ne_none _) | exact absurd ((show sub.length - i = 0 by lia).symm.trans hr).symm (Option.some_ne_none _) | exact (datN ((show sub.length - i = 0 by lia).symm.trans hr) rfl).elim | (rw [show sub.length - i = 0 by lia] at hr; cases hr))
    rw [show sub.length - i = (sub.length - (i + 1)) + 1 by lia, List.range'_succ] at hr
    injection hr with hx hrest
    subst hx hrest
    have ha' : (hput s.heap d (dictO (es ++ sub.take x) (n + x))).get? a = some (dictO sub m) := (hput_ne hda).trans hs
    obtain ⟨k, t, v, hkx⟩ := hk _ (List.getElem_mem hlt)
    have hgx : (⟨sub⟩ : Array DictEntry)[x]? = some ⟨hashInt k, .int k t, v⟩ := by rw [← hkx]; simpa using List.getElem?_eq_getElem hlt
    refine ⟨PUnit.unit, { s with heap := hput s.heap d (dictO (es ++ sub.take (x + 1)) (n + (x + 1))) }, ?_, x + 1, rfl, hlt, rfl⟩
    refine Op.bind (Op.dictEntries ha' rfl) ?_
    rw [hgx]
    dsimp only
    rw [if_neg Bool.false_ne_true]
    have hput2 := Op.putNew (e := e) (d := d) (es := es ++ sub.take x) (n := n + x) (k := k) (t := t) (v := v) (s := { s with heap := hput s.heap d (dictO (es ++ sub.take x) (n + x)) }) (hput_self hd rfl) ha
      (by rw [List.length_append, List.length_take]; lia) (fun y hy => by
        rcases List.mem_append.mp hy with hy | hy
        · have := hf y hy _ (List.getElem_mem hlt); rw [hkx] at this; exact this
        · obtain ⟨j, hj, rfl⟩ := List.mem_take_iff_getElem.mp hy
          intro q
          have hj' : j < x := by lia
          have h1 : (sub.map (·.hash))[j]'(by rw [List.length_map]; lia) = (sub.map (·.hash))[x]'(by rw [List.length_map]; lia) := by
            rw [List.getElem_map, List.getElem_map, q, hkx]
          exact (List.pairwise_iff_getElem.mp hnd) j x _ _ hj' h1)
    have e1 : es ++ sub.take x ++ [⟨hashInt k, .int k t, v⟩] = es ++ sub.take (x + 1) := by
      rw [List.append_assoc, ← hkx, List.take_append_getElem]
    rw [e1, hput_put] at hput2
    refine Op.bind (Op.holding hput2) (Op.bind (Op.dictEpoch (o := dictO sub m) ((hput_ne hda).trans hs) rfl) ?_)
    rw [if_neg (by simp)]
    exact Op.pure
  · rintro b s' ⟨i, hr, hi, rfl⟩
    have hi' : i = sub.length := by
      rcases Nat.lt_or_ge i sub.length with h | h
      · rw [show sub.length - i = (sub.length - (i + 1)) + 1 by lia, List.range'_succ] at hr; cases hr
      · lia
    subst hi'
    exact ⟨rfl, by rw [List.take_length]⟩
  · show List.range sub.length = _
    rw [List.range_eq_range', Nat.sub_zero]
  · rw [List.take_zero, List.append_nil, Nat.add_zero, hput_id hd]
noncomputable abbrev DIt := Option (Sem Value) × Sem Value
noncomputable abbrev DSt := Option Addr × List (Sem Value × Sem Value)
noncomputable def dparts : { p : (DIt → DSt → Sem (ForInStep DSt)) × (DSt → Sem Value) // ∀ l : List DIt, dictDisplay l = (forIn l ((none, []) : DSt) p.1) >>= p.2 } := ⟨(_, _), fun l => rfl⟩
noncomputable abbrev dF := dparts.1.1
theorem sem_assoc {α β γ : Type} (m : Sem α) (f : α → Sem β) (g : β → Sem γ) : (m >>= f) >>= g = m >>= fun a => f a >>= g := by
  rw [Sem.bind_eq_wrap', Sem.bind_eq_wrap', Sem.bind_eq_wrap', Sem.wrap_wrap]
  exact Sem.wrap_congr _ _ _ (fun a => (Sem.bind_eq_wrap' _ _).symm) (fun _ => rfl)
theorem forIn_app {α β : Type} (f : α → β → Sem (ForInStep β)) : ∀ (l r : List α) (b : β) (hy : ∀ x ∈ l, ∀ b, ∃ m : Sem β, f x b = m >>= fun y => pure (.yield y)), forIn (l ++ r) b f = (forIn l b f) >>= fun b' => forIn r b' f
  | [], r, b, _ => rfl
  | x :: l, r, b, hy => by
    obtain ⟨m, hm⟩ := hy x (.head _) b
    rw [List.cons_append, List.forIn_cons, List.forIn_cons, hm, sem_assoc, sem_assoc, sem_assoc]
    refine congrArg (m >>= ·) (funext fun y => ?_)
    show forIn (l ++ r) y f = forIn l y f >>= _
    exact forIn_app f l r y fun x hx b => hy x (.tail _ hx) b
theorem dF_yields (k v : Sem Value) (b : DSt) : ∃ m : Sem DSt, dF (some k, v) b = m >>= fun y => pure (.yield y) := by
  obtain ⟨main, run⟩ := b
  by_cases h : ((run ++ [(k, v)]).length == 17) = true
  · obtain ⟨X, e⟩ : ∃ X, dF (some k, v) (main, run) = X >>= fun (mn : Option Addr) => pure (.yield ((mn, []) : DSt)) := by
      apply Exists.intro
      show (if ((run ++ [(k, v)]).length == 17) = true then _ else _) = _
      exact (if_pos h).trans rfl
    exact ⟨X >>= fun (mn : Option Addr) => pure ((mn, []) : DSt), by rw [sem_assoc]; exact e⟩
  · refine ⟨pure (main, run ++ [(k, v)]), ?_⟩
    show (if ((run ++ [(k, v)]).length == 17) = true then _ else _) = _
    rw [if_neg h]
    rfl
noncomputable abbrev item (dp : Pos) (p : Int × Str) : DIt := (some (prK p.1), prV dp p.2)
theorem items_app {dp : Pos} {c r : List (Int × Str)} {b : DSt} : forIn ((c ++ r).map (item dp)) b dF = (forIn (c.map (item dp)) b dF) >>= fun b' => forIn (r.map (item dp)) b' dF := by
  rw [List.map_append]
  refine forIn_app dF _ _ b fun x hx b => ?_
  obtain ⟨p, _, rfl⟩ := List.mem_map.mp hx
  exact dF_yields _ _ b
theorem Op.accum {dp : Pos} {main : Option Addr} : ∀ (c : List (Int × Str)) (run : List (Sem Value × Sem Value)), run.length + c.length ≤ 16 → Op e (0) (forIn (c.map (item dp)) ((main, run) : DSt) dF) s (main, run ++ prs dp c) s
  | [], run, _ => by
    show Op e _ (forIn ([] : List DIt) ((main, run) : DSt) dF) s (main, run ++ []) s
    rw [List.append_nil]; exact Op.forIn_nil
  | p :: c, run, h => by
    have hl : ¬ ((run ++ [(prK p.1, prV dp p.2)]).length == 17) = true := by
      rw [List.length_append, beq_iff_eq]; simp only [List.length_cons, List.length_nil] at h ⊢; lia
    refine Op.forIn_cons (B' := 0) (b' := ((main, run ++ [(prK p.1, prV dp p.2)]) : DSt)) (s₁ := s) ?_ ?_
    · show Op e _ (if ((run ++ [(prK p.1, prV dp p.2)]).length == 17) = true then _ else _) _ _ _
      rw [if_neg hl]
      exact Op.pure
    · have := Op.accum (main := main) (dp := dp) c (run ++ [(prK p.1, prV dp p.2)]) (by rw [List.length_append]; simp only [List.length_cons, List.length_nil] at h ⊢; lia)
      rw [List.append_assoc] at this
      exact this
theorem split17 {c : List (Int × Str)} (hl : c.length = 17) : ∃ a p, c = a ++ [p] ∧ a.length = 16 := by
  refine ⟨c.take 16, c[16], ?_, by rw [List.length_take]; lia⟩
  rw [List.take_append_getElem, List.take_of_length_le (by lia)]
theorem Op.chunk0 {dp : Pos} {b : List Stmt} {env : Env} {c : List (Int × Str)} (hc : e.code = .body b env) (hl : c.length = 17) (ha : e.n₀ ≤ s.heap.objs.size) (hnd : (c.map fun p => hashInt p.1).Nodup) :
    Op e (1200) (forIn (c.map (item dp)) ((none, []) : DSt) dF) s (some s.heap.objs.size, []) { s with heap := s.heap.push (dictO (entsA s.toks c) 17), toks := s.toks + 51 } := by
  obtain ⟨a, p, hx, h16⟩ := split17 hl
  have hrun : prs dp a ++ [(prK p.1, prV dp p.2)] = prs dp c := by rw [hx]; simp [prs]
  have e0 : forIn (c.map (item dp)) ((none, []) : DSt) dF = (forIn (a.map (item dp)) ((none, []) : DSt) dF) >>= fun b' => forIn ([p].map (item dp)) b' dF := by rw [hx]; exact items_app
  rw [e0]
  refine Op.bind (Op.accum a [] (by rw [h16]; decide)) (Op.forIn_cons (B' := 1200) (b' := ((some s.heap.objs.size, []) : DSt)) (s₁ := { s with heap := s.heap.push (dictO (entsA s.toks c) 17), toks := s.toks + 51 }) ?_ Op.forIn_nil)
  rw [List.nil_append]
  show Op e _ (if ((prs dp a ++ [(prK p.1, prV dp p.2)]).length == 17) = true then _ else _) _ _ _
  rw [hrun, if_pos (by rw [List.length_map, hl]; rfl)]
  refine Op.bind (B' := 1200) (a := some s.heap.objs.size) ?_ Op.pure
  show Op e _ (if (prs dp c).isEmpty = true then _ else _) _ _ _
  rw [if_neg (by cases c with | nil => cases hl | cons => exact Bool.false_ne_true)]
  exact Op.bind (Op.subLong hc hl ha hnd) Op.pure
theorem Op.flushOn {Bs : Nat} {dp : Pos} {d : Addr} {c : List (Int × Str)} {es sub : List DictEntry} {n : Nat} {s₁ : Shared}
    (hsub : Op e Bs (subDict (prs dp c)) s s.heap.objs.size s₁) (hd : s₁.heap.get? d = some (dictO es n)) (hs : s₁.heap.get? s.heap.objs.size = some (dictO sub sub.length)) (ha : e.n₀ ≤ d) (hda : d ≠ s.heap.objs.size) (hsys : s.heap.objs.size ≠ sysModules)
    (hne : es ≠ []) (hz : es.length + sub.length ≤ 100000) (hk : ∀ x ∈ sub, ∃ k t v, x = ⟨hashInt k, .int k t, v⟩) (hf : ∀ x ∈ es, ∀ y ∈ sub, x.hash ≠ y.hash) (hnd : (sub.map (·.hash)).Nodup) :
    Op e (Bs + 20 + 20 * sub.length) (do
      let sub ← PySem.holding [.ref d] (subDict (prs dp c))
      (PySem.holding [.ref d, .ref sub] (mergeMapping d (.ref sub) false)).onRaise fun x => do
        let _ ← PySem.holding [.ref d, x] (runValue (.builtin "proto.let_go" {}))
        Pure.pure ()
      Pure.pure (some d)) s (some d) { s₁ with heap := hput s₁.heap d (dictO (es ++ sub) (n + sub.length)) } :=
  Op.bind (Op.holding hsub) (Op.bind (Op.onRaise (Op.holding (Op.merge ha hda hsys hd hs hne hz hk hf hnd))) Op.pure)
theorem Op.chunk {dp : Pos} {d : Addr} {b : List Stmt} {env : Env} {c : List (Int × Str)} {es : List DictEntry} {n : Nat} (hc : e.code = .body b env) (hl : c.length = 17) (ha : e.n₀ ≤ d) (hlt : d < s.heap.objs.size) (hsys : 1 < s.heap.objs.size) (hnd : (c.map fun p => hashInt p.1).Nodup)
    (hd : s.heap.get? d = some (dictO es n)) (hne : es ≠ []) (hz : es.length ≤ 90000) (hf : Fresh es c) :
    Op e (1600) (forIn (c.map (item dp)) ((some d, []) : DSt) dF) s (some d, []) { s with heap := hput (s.heap.push (dictO (entsA s.toks c) 17)) d (dictO (es ++ entsA s.toks c) (n + 17)), toks := s.toks + 51 } := by
  obtain ⟨a, p, hx, h16⟩ := split17 hl
  have hrun : prs dp a ++ [(prK p.1, prV dp p.2)] = prs dp c := by rw [hx]; simp [prs]
  have e0 : forIn (c.map (item dp)) ((some d, []) : DSt) dF = (forIn (a.map (item dp)) ((some d, []) : DSt) dF) >>= fun b' => forIn ([p].map (item dp)) b' dF := by rw [hx]; exact items_app
  rw [e0]
  refine Op.bind (Op.accum a [] (by rw [h16]; decide)) (Op.forIn_cons (B' := 1600) (b' := ((some d, []) : DSt)) (s₁ := { s with heap := hput (s.heap.push (dictO (entsA s.toks c) 17)) d (dictO (es ++ entsA s.toks c) (n + 17)), toks := s.toks + 51 }) ?_ Op.forIn_nil)
  rw [List.nil_append]
  show Op e _ (if ((prs dp a ++ [(prK p.1, prV dp p.2)]).length == 17) = true then _ else _) _ _ _
  rw [hrun, if_pos (by rw [List.length_map, hl]; rfl)]
  refine Op.bind (B' := 1600) (a := some d) ?_ Op.pure
  show Op e _ (if (prs dp c).isEmpty = true then _ else _) _ _ _
  rw [if_neg (by cases c with | nil => cases hl | cons => exact Bool.false_ne_true)]
  have hlen : (entsA s.toks c).length = 17 := by rw [entsA_length, hl]
  have := Op.flushOn (e := e) (dp := dp) (d := d) (c := c) (s := s) (es := es) (n := n) (sub := entsA s.toks c) (Op.subLong hc hl (Nat.le_trans ha (Nat.le_of_lt hlt)) hnd) (Heap.get?_push_of_some _ hd) (by rw [hlen]; exact Heap.get?_push_size _ rfl) ha (Nat.ne_of_lt hlt) (Nat.ne_of_gt hsys) hne (by rw [hlen]; lia)
    (fun x hx => entsA_form hx)
    (fun x hx y hy => by obtain ⟨p, hp, e⟩ := entsA_hash hy; rw [e]; exact hf x hx p hp)
    (by rw [entsA_hashes]; exact hnd)
  rw [hlen] at this
  exact this.le (by decide)

/- the short way: first all pairs, then the stores -/
noncomputable def valsB : Nat → List (Int × Str) → List (Value × Value)
  | _, [] => []
  | t, (k, v) :: r => (.int k t, .str v (t + 1)) :: valsB (t + 2) r
theorem Op.evalPairs {dp : Pos} : ∀ (c : List (Int × Str)) (s : Shared), Op e (5 * c.length) (PySem.evalPairs (prs dp c)) s (valsB s.toks c) { s with toks := s.toks + 2 * c.length }
  | [], s => Op.pure
  | (k, v) :: c, s => by
    have ih := Op.evalPairs (dp := dp) c { s with toks := s.toks + 1 + 1 }
    have e4 : s.toks + 1 + 1 + 2 * c.length = s.toks + 2 * ((k, v) :: c).length := by rw [List.length_cons]; lia
    dsimp only at ih
    rw [e4] at ih
    show Op e _ (do let kv ← prK k; let vv ← PySem.holding [kv] (prV dp v); return (kv, vv) :: (← PySem.holding [kv, vv] (PySem.evalPairs (prs dp c)))) _ _ _
    exact Op.bind op_prK (Op.bind (Op.holding op_prV) (Op.bind (Op.holding ih) Op.pure (by rw [List.length_cons]; lia)) (by rw [List.length_cons]; lia)) (by rw [List.length_cons]; lia)
theorem Op.shortLoop {f : Value × Value → PUnit → Sem (ForInStep PUnit)} {d : Addr} (hb : ∀ k v u, f (k, v) u = (do
      dictSet d k v
      Pure.pure (ForInStep.yield PUnit.unit))) {b : List Stmt} {env : Env} (hc : e.code = .body b env) (ha : e.n₀ ≤ d) : ∀ (c : List (Int × Str)) (t : Nat) (es : List DictEntry) (n : Nat) (s : Shared), s.heap.get? d = some (dictO es n) → es.length + c.length ≤ 100000 → Fresh es c → (c.map fun p => hashInt p.1).Nodup →
    Op e (60 * c.length) (forIn (valsB t c) PUnit.unit f) s PUnit.unit { s with heap := hput s.heap d (dictO (es ++ entsB t c) (n + c.length)), toks := s.toks + c.length }
  | [], t, es, n, s, ho, _, _, _ => by
    have : hput s.heap d (dictO (es ++ entsB t []) (n + [].length (α := Int × Str))) = s.heap := by
      rw [show es ++ entsB t [] = es from List.append_nil _]; exact hput_id ho
    rw [this]
    exact Op.forIn_nil
  | (k, v) :: c, t, es, n, s, ho, hz, hf, hnd => by
    rw [List.map_cons, List.nodup_cons] at hnd
    have hz1 : es.length ≤ 100000 := by simp only [List.length_cons] at hz; lia
    have step := Op.setNew (e := e) (s := s) (t := t) (v := .str v (t + 1)) hc ho ha hz1 (fun x hx => hf x hx (k, v) (.head _))
    have ih := Op.shortLoop hb hc ha c (t + 2) (es ++ [⟨hashInt k, .int k t, .str v (t + 1)⟩]) (n + 1) { s with heap := hput s.heap d (dictO (es ++ [⟨hashInt k, .int k t, .str v (t + 1)⟩]) (n + 1)), toks := s.toks + 1 }
      (hput_self ho rfl) (by simp only [List.length_append, List.length_cons, List.length_nil] at hz ⊢; lia) (fun x hx p hp => by
        rcases List.mem_append.mp hx with hx | hx
        · exact hf x hx p (.tail _ hp)
        · rcases List.mem_singleton.mp hx with rfl
          intro q
          exact hnd.1 (List.mem_map.mpr ⟨p, hp, q.symm⟩)) hnd.2
    have hone : Op e 60 (f (.int k t, .str v (t + 1)) PUnit.unit) s (ForInStep.yield PUnit.unit) { s with heap := hput s.heap d (dictO (es ++ [⟨hashInt k, .int k t, .str v (t + 1)⟩]) (n + 1)), toks := s.toks + 1 } := by rw [hb]; exact Op.bind step Op.pure
    refine Op.forIn_cons hone (Op.le (B := 60 * c.length) ?_ (by rw [List.length_cons]; lia)) (by rw [List.length_cons]; lia)
    rw [hput_put] at ih
    have e2 : es ++ [⟨hashInt k, .int k t, .str v (t + 1)⟩] ++ entsB (t + 2) c = es ++ entsB t ((k, v) :: c) := by rw [List.append_assoc]; rfl
    rw [e2] at ih
    have e3 : n + 1 + c.length = n + ((k, v) :: c).length := by rw [List.length_cons]; lia
    have e4 : s.toks + 1 + c.length = s.toks + ((k, v) :: c).length := by rw [List.length_cons]; lia
    rw [e3, e4] at ih
    exact ih
theorem push_put (h : Heap) (o o' : Obj) : hput (h.push o) h.objs.size o' = h.push o' := by
  obtain ⟨objs, life⟩ := h
  show (⟨(objs.push _).modify objs.size _, life⟩ : Heap) = ⟨objs.push _, life⟩
  congr 1
  apply Array.ext_getElem?
  intro i
  rw [Array.getElem?_modify, Array.getElem?_push, Array.getElem?_push]
  by_cases hi : i = objs.size
  · subst hi; simp
  · rw [if_neg (Ne.symm hi), if_neg hi, if_neg hi]
theorem Op.subShort {dp : Pos} {b : List Stmt} {env : Env} {c : List (Int × Str)} (hc : e.code = .body b env) (hl : c.length ≤ 15) (ha : e.n₀ ≤ s.heap.objs.size) (hnd : (c.map fun p => hashInt p.1).Nodup) :
    Op e (1100) (subDict (prs dp c)) s s.heap.objs.size { s with heap := s.heap.push (dictO (entsB s.toks c) c.length), toks := s.toks + 2 * c.length + c.length } := by
  unfold subDict
  refine Op.bind Op.alloc (Op.bind (B' := 1098) (a := PUnit.unit) (s₁ := { s with heap := s.heap.push (dictO (entsB s.toks c) c.length), toks := s.toks + 2 * c.length + c.length }) (Op.holding ?_) Op.pure)
  rw [if_pos (by rw [List.length_map]; exact hl)]
  have e1 : hput (s.heap.push { cls := .type "dict", data := .dict #[] }) s.heap.objs.size (dictO ([] ++ entsB s.toks c) (0 + c.length)) = s.heap.push (dictO (entsB s.toks c) c.length) := by
    rw [push_put, List.nil_append, Nat.zero_add]
  have e2 : ({ s with heap := hput (s.heap.push { cls := .type "dict", data := .dict #[] }) s.heap.objs.size (dictO ([] ++ entsB s.toks c) (0 + c.length)), toks := s.toks + 2 * c.length + c.length } : Shared) = { s with heap := s.heap.push (dictO (entsB s.toks c) c.length), toks := s.toks + 2 * c.length + c.length } := by rw [e1]
  rw [← e2]
  exact Op.bind (Op.evalPairs c { s with heap := s.heap.push { cls := .type "dict", data := .dict #[] } }) (Op.holding (Op.bind (B' := 60 * c.length) (Op.shortLoop (d := s.heap.objs.size) (s := { s with heap := s.heap.push { cls := .type "dict", data := .dict #[] }, toks := s.toks + 2 * c.length }) (fun k v u => rfl) hc ha c s.toks [] 0 (Heap.get?_push_size _ rfl) (by simp only [List.length_nil]; lia) (fun _ hx => nomatch hx) hnd) Op.pure (by lia))) (by lia)
noncomputable def Hs (h : Heap) (m : Obj) (subs : List Obj) : Heap := ⟨⟨h.objs.toList ++ m :: subs⟩, h.life⟩
theorem Hs_start (h : Heap) (m : Obj) : h.push m = Hs h m [] := by
  obtain ⟨⟨l⟩, life⟩ := h
  show (⟨(⟨l⟩ : Array Obj).push m, life⟩ : Heap) = ⟨⟨l ++ [m]⟩, life⟩
  rw [List.push_toArray]
theorem Hs_push (h : Heap) (m o : Obj) (subs : List Obj) : (Hs h m subs).push o = Hs h m (subs ++ [o]) := by
  obtain ⟨⟨l⟩, life⟩ := h
  show (⟨(⟨l ++ m :: subs⟩ : Array Obj).push o, life⟩ : Heap) = ⟨⟨l ++ m :: (subs ++ [o])⟩, life⟩
  rw [List.push_toArray, List.append_assoc]; rfl
theorem Hs_put (h : Heap) (m m' : Obj) (subs : List Obj) : hput (Hs h m subs) h.objs.size m' = Hs h m' subs := by
  obtain ⟨⟨l⟩, life⟩ := h
  show (⟨(⟨l ++ m :: subs⟩ : Array Obj).modify l.length _, life⟩ : Heap) = ⟨⟨l ++ m' :: subs⟩, life⟩
  congr 1
  apply Array.ext_getElem?
  intro i
  rw [Array.getElem?_modify]
  simp only [List.getElem?_toArray]
  by_cases hi : l.length = i
  · subst hi; simp
  · rw [if_neg hi]
    by_cases hl : i < l.length
    · rw [List.getElem?_append_left hl, List.getElem?_append_left hl]
    · rw [List.getElem?_append_right (by lia), List.getElem?_append_right (by lia)]
      obtain ⟨k, hk⟩ : ∃ k, i - l.length = k + 1 := ⟨i - l.length - 1, by lia⟩
      rw [hk]; rfl
theorem Hs_get (h : Heap) (es : List DictEntry) (n : Nat) (subs : List Obj) : (Hs h (dictO es n) subs).get? h.objs.size = some (dictO es n) := by
  obtain ⟨⟨l⟩, life⟩ := h
  have : (⟨l ++ dictO es n :: subs⟩ : Array Obj)[l.length]? = some (dictO es n) := by simp
  show (match (⟨l ++ dictO es n :: subs⟩ : Array Obj)[l.length]? with | some ⟨_, _, .freed, _⟩ => none | o => o) = _
  rw [this]
theorem Hs_size (h : Heap) (m : Obj) (subs : List Obj) : (Hs h m subs).objs.size = h.objs.size + 1 + subs.length := by
  obtain ⟨⟨l⟩, life⟩ := h
  show (l ++ m :: subs).length = l.length + 1 + subs.length
  rw [List.length_append, List.length_cons]; lia
theorem entsA_append : ∀ (c r : List (Int × Str)) (t : Nat), entsA t (c ++ r) = entsA t c ++ entsA (t + 3 * c.length) r
  | [], r, t => rfl
  | (k, v) :: c, r, t => by
    show _ :: entsA (t + 3) (c ++ r) = _ :: (entsA (t + 3) c ++ _)
    rw [entsA_append c r, List.length_cons, show t + 3 + 3 * c.length = t + 3 * (c.length + 1) by lia]
noncomputable def subsA : Nat → List (List (Int × Str)) → List Obj
  | _, [] => []
  | t, c :: cs => dictO (entsA t c) 17 :: subsA (t + 51) cs
theorem subsA_length : ∀ (cs : List (List (Int × Str))) (t : Nat), (subsA t cs).length = cs.length
  | [], _ => rfl
  | c :: cs, t => by show (subsA (t + 51) cs).length + 1 = _; rw [subsA_length cs]; rfl
noncomputable abbrev hs (c : List (Int × Str)) : List Int := c.map fun p => hashInt p.1
theorem Op.chunks {h₀ : Heap} {dp : Pos} {b : List Stmt} {env : Env} (hc : e.code = .body b env) (ha : e.n₀ ≤ h₀.objs.size) (h1 : 1 < h₀.objs.size) : ∀ (cs : List (List (Int × Str))) (es : List DictEntry) (n : Nat) (subs : List Obj) (s : Shared), s.heap = Hs h₀ (dictO es n) subs → (∀ c ∈ cs, c.length = 17) →
    es ≠ [] → es.length + 17 * cs.length ≤ 90000 → Fresh es cs.flatten → (hs cs.flatten).Nodup →
    Op e (1600 * cs.length) (forIn (cs.flatten.map (item dp)) ((some h₀.objs.size, []) : DSt) dF) s (some h₀.objs.size, []) { s with heap := Hs h₀ (dictO (es ++ entsA s.toks cs.flatten) (n + 17 * cs.length)) (subs ++ subsA s.toks cs), toks := s.toks + 51 * cs.length }
  | [], es, n, subs, s, hh, _, _, _, _, _ => by
    have : ({ s with heap := Hs h₀ (dictO (es ++ entsA s.toks []) (n + 17 * 0)) (subs ++ subsA s.toks []), toks := s.toks + 51 * 0 } : Shared) = s := by
      rw [show es ++ entsA s.toks [] = es from List.append_nil _, show subs ++ subsA s.toks [] = subs from List.append_nil _, ← show s.heap = Hs h₀ (dictO es (n + 17 * 0)) subs from hh]
      rfl
    show Op e _ _ s _ { s with heap := Hs h₀ (dictO (es ++ entsA s.toks []) (n + 17 * 0)) (subs ++ subsA s.toks []), toks := s.toks + 51 * 0 }
    rw [this]
    exact Op.forIn_nil
  | c :: cs, es, n, subs, s, hh, hl, hne, hz, hf, hnd => by
    have hlc := hl c (.head _)
    rw [List.flatten_cons, show hs (c ++ cs.flatten) = hs c ++ hs cs.flatten from List.map_append, List.nodup_append] at hnd
    have hsz : h₀.objs.size < s.heap.objs.size := by rw [hh, Hs_size]; lia
    have hd : s.heap.get? h₀.objs.size = some (dictO es n) := by rw [hh]; exact Hs_get ..
    have step := Op.chunk (e := e) (dp := dp) (s := s) (c := c) hc hlc ha hsz (Nat.lt_trans h1 hsz) hnd.1 hd hne (by lia) (fun x hx p hp => hf x hx p (List.mem_flatten.mpr ⟨c, .head _, hp⟩))
    have hheap : hput (s.heap.push (dictO (entsA s.toks c) 17)) h₀.objs.size (dictO (es ++ entsA s.toks c) (n + 17)) = Hs h₀ (dictO (es ++ entsA s.toks c) (n + 17)) (subs ++ [dictO (entsA s.toks c) 17]) := by
      rw [hh, Hs_push, Hs_put]
    rw [hheap] at step
    have ih := Op.chunks (dp := dp) hc ha h1 cs (es ++ entsA s.toks c) (n + 17) (subs ++ [dictO (entsA s.toks c) 17]) { s with heap := Hs h₀ (dictO (es ++ entsA s.toks c) (n + 17)) (subs ++ [dictO (entsA s.toks c) 17]), toks := s.toks + 51 } rfl
      (fun c hc => hl c (.tail _ hc)) (by intro q; exact hne (List.append_eq_nil_iff.mp q).1) (by rw [List.length_append, entsA_length, hlc]; rw [List.length_cons] at hz; lia)
      (fun x hx p hp => by
        rcases List.mem_append.mp hx with hx | hx
        · exact hf x hx p (by rw [List.flatten_cons]; exact List.mem_append_right _ hp)
        · obtain ⟨q, hq, eq⟩ := entsA_hash hx
          rw [eq]
          exact hnd.2.2 _ (List.mem_map.mpr ⟨q, hq, rfl⟩) _ (List.mem_map.mpr ⟨p, hp, rfl⟩)) hnd.2.1
    rw [List.flatten_cons, items_app]
    have e1 : es ++ entsA s.toks c ++ entsA (s.toks + 51) cs.flatten = es ++ entsA s.toks (c ++ cs.flatten) := by
      rw [entsA_append, hlc, List.append_assoc]
    have e2 : subs ++ [dictO (entsA s.toks c) 17] ++ subsA (s.toks + 51) cs = subs ++ subsA s.toks (c :: cs) := by rw [List.append_assoc]; rfl
    have e3 : n + 17 + 17 * cs.length = n + 17 * (c :: cs).length := by rw [List.length_cons]; lia
    have e4 : s.toks + 51 + 51 * cs.length = s.toks + 51 * (c :: cs).length := by rw [List.length_cons]; lia
    dsimp only at ih
    rw [e1, e2, e3, e4] at ih
    exact Op.bind step (ih.le (by rw [List.length_cons]; lia)) (by rw [List.length_cons]; lia)
theorem flat_length : ∀ (cs : List (List (Int × Str))), (∀ c ∈ cs, c.length = 17) → cs.flatten.length = 17 * cs.length
  | [], _ => rfl
  | c :: cs, h => by rw [List.flatten_cons, List.length_append, h c (.head _), flat_length cs fun c hc => h c (.tail _ hc), List.length_cons]; lia
/-- the whole display -/
theorem Op.display {dp : Pos} {b : List Stmt} {env : Env} {c₀ l : List (Int × Str)} {cs : List (List (Int × Str))} (hc : e.code = .body b env) (ha : e.n₀ ≤ s.heap.objs.size) (h1 : 1 < s.heap.objs.size)
    (hl₀ : c₀.length = 17) (hl : ∀ c ∈ cs, c.length = 17) (hll : l.length ≤ 15) (hlp : l ≠ []) (hz : cs.length ≤ 1000) (hnd : (hs (c₀ ++ (cs.flatten ++ l))).Nodup) :
    Op e (3200 + 1600 * cs.length) (dictDisplay ((c₀ ++ (cs.flatten ++ l)).map (item dp))) s (.ref s.heap.objs.size) { s with
      heap := Hs s.heap (dictO (entsA s.toks (c₀ ++ cs.flatten) ++ entsB (s.toks + 51 + 51 * cs.length) l) (17 + 17 * cs.length + l.length)) (subsA (s.toks + 51) cs ++ [dictO (entsB (s.toks + 51 + 51 * cs.length) l) l.length]),
      toks := s.toks + 51 + 51 * cs.length + 2 * l.length + l.length } := by
  rw [dparts.2]
  rw [show hs (c₀ ++ (cs.flatten ++ l)) = hs c₀ ++ (hs cs.flatten ++ hs l) by simp [hs], List.nodup_append, List.nodup_append] at hnd
  obtain ⟨n1, ⟨n2, n3, n4⟩, n5⟩ := hnd
  have hlen0 : (entsA s.toks c₀).length = 17 := by rw [entsA_length, hl₀]
  have st0 := Op.chunk0 (e := e) (dp := dp) (s := s) hc hl₀ ha n1
  rw [Hs_start] at st0
  have st1 := Op.chunks (e := e) (dp := dp) hc ha h1 cs (entsA s.toks c₀) 17 [] { s with heap := Hs s.heap (dictO (entsA s.toks c₀) 17) [], toks := s.toks + 51 } rfl hl (by intro q; (first | obtain rfl := Option.some.inj (q.symm.trans hlen0) | exact absurd (q.symm.trans hlen0) (Option.some_ne_none _) | exact absurd (q.symm.trans hlen0).symm (Option.some_ne_none _) | exact (datN (q.symm.trans hlen0) rfl).elim | (rw [q] at hlen0; cases hlen0))) (by lia)
    (fun x hx p hp => by
      obtain ⟨q, hq, eq⟩ := entsA_hash hx
      rw [eq]
      exact n5 _ (List.mem_map.mpr ⟨q, hq, rfl⟩) _ (List.mem_append_left _ (List.mem_map.mpr ⟨p, hp, rfl⟩))) n2
  dsimp only at st1
  have e1 : entsA s.toks c₀ ++ entsA (s.toks + 51) cs.flatten = entsA s.toks (c₀ ++ cs.flatten) := by rw [entsA_append, hl₀]
  rw [e1, List.nil_append] at st1
  have hE : (entsA s.toks (c₀ ++ cs.flatten)).length = 17 + 17 * cs.length := by
    rw [entsA_length, List.length_append, hl₀, flat_length cs hl]
  have hll' : (entsB (s.toks + 51 + 51 * cs.length) l).length = l.length := entsB_length
  have hsz : (Hs s.heap (dictO (entsA s.toks (c₀ ++ cs.flatten)) (17 + 17 * cs.length)) (subsA (s.toks + 51) cs)).objs.size = s.heap.objs.size + 1 + cs.length := by rw [Hs_size, subsA_length]
  have sub := Op.subShort (e := e) (dp := dp) (c := l) (s := { s with heap := Hs s.heap (dictO (entsA s.toks (c₀ ++ cs.flatten)) (17 + 17 * cs.length)) (subsA (s.toks + 51) cs), toks := s.toks + 51 + 51 * cs.length }) hc hll (by rw [hsz]; lia) n3
  have fl := Op.flushOn (e := e) (dp := dp) (d := s.heap.objs.size) (c := l) (es := entsA s.toks (c₀ ++ cs.flatten)) (n := 17 + 17 * cs.length) (sub := entsB (s.toks + 51 + 51 * cs.length) l) sub
    (by dsimp only; rw [Hs_push]; exact Hs_get ..) (by dsimp only; rw [hll']; exact Heap.get?_push_size _ rfl) ha (by dsimp only; rw [hsz]; exact Nat.ne_of_lt (Nat.lt_of_lt_of_le (Nat.lt_succ_self _) (Nat.le_add_right _ _))) (by dsimp only; rw [hsz]; exact Nat.ne_of_gt (Nat.lt_of_lt_of_le h1 (Nat.le_trans (Nat.le_succ _) (Nat.le_add_right _ _))))
    (by intro q; rw [q] at hE; simp at hE; lia) (by rw [hE, hll']; lia) (fun x hx => entsB_form hx)
    (fun x hx y hy => by
      obtain ⟨p, hp, ep⟩ := entsA_hash hx
      have hy' : y.hash ∈ hs l := by
        have := List.mem_map_of_mem (f := (·.hash)) hy
        rw [entsB_hashes] at this
        exact this
      rw [ep]
      rcases List.mem_append.mp hp with hp | hp
      · exact n5 _ (List.mem_map.mpr ⟨p, hp, rfl⟩) _ (List.mem_append_right _ hy')
      · exact n4 _ (List.mem_map.mpr ⟨p, hp, rfl⟩) _ hy') (by rw [entsB_hashes]; exact n3)
  dsimp only at fl
  rw [Hs_push, Hs_put, hll'] at fl
  rw [items_app]
  refine Op.bind (B' := 1200 + 1600 * cs.length) (Op.bind st0 ?_) ?_ (a := (some s.heap.objs.size, prs dp l)) (s₁ := { s with heap := Hs s.heap (dictO (entsA s.toks (c₀ ++ cs.flatten)) (17 + 17 * cs.length)) (subsA (s.toks + 51) cs), toks := s.toks + 51 + 51 * cs.length })
  · rw [items_app]
    exact Op.bind (st1.le (B' := 1600 * cs.length) (Nat.le_refl _)) (by have := Op.accum (e := e) (s := { s with heap := Hs s.heap (dictO (entsA s.toks (c₀ ++ cs.flatten)) (17 + 17 * cs.length)) (subsA (s.toks + 51) cs), toks := s.toks + 51 + 51 * cs.length }) (dp := dp) (main := some s.heap.objs.size) l [] (by rw [List.length_nil]; lia); exact this.le (Nat.zero_le _))
  · show Op e _ (do
      let x ← (if (prs dp l).isEmpty = true then Pure.pure (some s.heap.objs.size) else do
        let sub ← PySem.holding [.ref s.heap.objs.size] (subDict (prs dp l))
        (PySem.holding [.ref s.heap.objs.size, .ref sub] (mergeMapping s.heap.objs.size (.ref sub) false)).onRaise fun x => do
          let _ ← PySem.holding [.ref s.heap.objs.size, x] (runValue (.builtin "proto.let_go" {}))
          Pure.pure ()
        Pure.pure (some s.heap.objs.size))
      match x with
      | some d => Pure.pure (Value.ref d)
      | none => newDict) _ _ _
    rw [if_neg (by cases l with | nil => exact absurd rfl hlp | cons => exact Bool.false_ne_true)]
    exact Op.bind (fl.le (B' := 1500) (by lia)) Op.pure
end
end Mine
end
section
open PySem PySem.W PyProof.Rows
namespace Mine
noncomputable section
noncomputable abbrev PR : Program := PySem.Challenge.pw_rw0121_03
noncomputable def nthS : List Stmt → Nat → Stmt
  | [], _ => .Pass default
  | s :: _, 0 => s
  | _ :: r, n + 1 => nthS r n
noncomputable def stm (n : Nat) : Stmt := nthS PR.main.body n
noncomputable def sParams : Stmt → Arguments | .FunctionDef _ a _ _ _ _ _ _ _ _ => a | _ => default
noncomputable def sBody : Stmt → List Stmt | .FunctionDef _ _ b _ _ _ _ _ _ _ => b | .ClassDef _ _ _ b _ _ _ _ _ _ _ => b | _ => []
noncomputable def sScope : Stmt → Scope | .FunctionDef _ _ _ _ _ _ sc _ _ _ => sc | _ => default
noncomputable def sMeth (n k : Nat) : Stmt := nthS (sBody (stm n)) k
/- the big table of the module's top -/
noncomputable def dKeys : Stmt → List (Option Expr) | .Assign _ (.Dict ks _ _) _ => ks | _ => []
noncomputable def dVals : Stmt → List Expr | .Assign _ (.Dict _ vs _) _ => vs | _ => []
noncomputable def intOf : Option Expr → Int | some (.Constant (.int i) _ _) => i | _ => 0
noncomputable def strOf : Expr → Str | .Constant (.str s) _ _ => s | _ => ⟨⟨[]⟩⟩
noncomputable def mkPairs : List (Option Expr) → List Expr → List (Int × Str)
  | k :: ks, v :: vs => (intOf k, strOf v) :: mkPairs ks vs
  | _, _ => []
noncomputable def pairs : List (Int × Str) := mkPairs (dKeys (stm 13)) (dVals (stm 13))
noncomputable def pC0 : List (Int × Str) := pairs.take 17
noncomputable def pCs : List (List (Int × Str)) := (List.range 37).map fun j => (pairs.drop (17 * (j + 1))).take 17
noncomputable def pL : List (Int × Str) := pairs.drop 646
noncomputable def mainD : Obj := dictO (entsA 398 (pC0 ++ pCs.flatten) ++ entsB (398 + 51 + 51 * pCs.length) pL) (17 + 17 * pCs.length + pL.length)
noncomputable def subsD : List Obj := subsA (398 + 51) pCs ++ [dictO (entsB (398 + 51 + 51 * pCs.length) pL) pL.length]
noncomputable def subD (k : Nat) : Obj := subsD.getD k default
noncomputable def insAll : BT → Nat → List Obj → BT
  | t, _, [] => t
  | t, a, o :: os => insAll (t.ins a o) (a + 1) os
noncomputable def o_11_a (P : Params) : Obj := ⟨(.type "tuple"), none, (.seq ⟨[]⟩ 0), ⟨[]⟩⟩
noncomputable def o_12_a (P : Params) : Obj := ⟨.none, none, (.fields ⟨[]⟩), ⟨[]⟩⟩
noncomputable def o_13_a (P : Params) : Obj := ⟨(.type "code"), none, (.fields ⟨[(.str ⟨⟨[60, 109, 111, 100, 117, 108, 101, 62]⟩⟩ 182), (.str ⟨⟨[60, 109, 111, 100, 117, 108, 101, 62]⟩⟩ 183), (.str ⟨⟨[47, 99, 108, 97, 105, 109, 47, 99, 117, 116, 46, 112, 121]⟩⟩ 184), (.int (.ofNat 1) 0), (.int (.ofNat 0) 0), (.int (.ofNat 0) 0), (.int (.ofNat 0) 0), (.int (.ofNat 0) 0), (.ref 11), (.bool false), (.int (.ofNat 181) 0), (.ref 12), .none, .none, .none, .none, (.int (.ofNat 185) 0), (.int (.ofNat 1) 0), (.str ⟨⟨[47, 99, 108, 97, 105, 109, 47, 99, 117, 116, 46, 112, 121]⟩⟩ 186)]⟩), ⟨[]⟩⟩
noncomputable def o_14_a (P : Params) : Obj := ⟨(.type "frame"), none, .plain, ⟨[(some (.ref 13)), (some (.ref 3)), (some (.ref 3)), none, (some (.str ⟨⟨[95, 95, 109, 97, 105, 110, 95, 95]⟩⟩ 164)), none, (some (.ref 0))]⟩⟩
noncomputable def T_a (P : Params) : BT := (.node (boot_o_0 P) (.node (boot_o_1 P) (.node (boot_o_3 P) (.node (boot_o_7 P) .nil .nil) (.node (o_11_a P) .nil .nil)) (.node (boot_o_5 P) (.node (boot_o_9 P) .nil .nil) (.node (o_13_a P) .nil .nil))) (.node (boot_o_2 P) (.node (boot_o_4 P) (.node (boot_o_8 P) .nil .nil) (.node (o_12_a P) .nil .nil)) (.node (boot_o_6 P) (.node (boot_o_10 P) .nil .nil) (.node (o_14_a P) .nil .nil))))
noncomputable def o_3_1 (P : Params) : Obj := ⟨(.type "dict"), none, (.dict ⟨[⟨PyData.keyHash P ⟨⟨[95, 95, 110, 97, 109, 101, 95, 95]⟩⟩, (.str ⟨⟨[95, 95, 110, 97, 109, 101, 95, 95]⟩⟩ 165), (.str ⟨⟨[99, 112, 121, 51, 49, 51, 46, 110, 101, 116, 114, 99]⟩⟩ 269)⟩, ⟨PyData.keyHash P ⟨⟨[95, 95, 100, 111, 99, 95, 95]⟩⟩, (.str ⟨⟨[95, 95, 100, 111, 99, 95, 95]⟩⟩ 166), .none⟩, ⟨PyData.keyHash P ⟨⟨[95, 95, 112, 97, 99, 107, 97, 103, 101, 95, 95]⟩⟩, (.str ⟨⟨[95, 95, 112, 97, 99, 107, 97, 103, 101, 95, 95]⟩⟩ 167), .none⟩, ⟨PyData.keyHash P ⟨⟨[95, 95, 108, 111, 97, 100, 101, 114, 95, 95]⟩⟩, (.str ⟨⟨[95, 95, 108, 111, 97, 100, 101, 114, 95, 95]⟩⟩ 168), (.builtin "__main__.__loader__#opaque")⟩, ⟨PyData.keyHash P ⟨⟨[95, 95, 115, 112, 101, 99, 95, 95]⟩⟩, (.str ⟨⟨[95, 95, 115, 112, 101, 99, 95, 95]⟩⟩ 169), .none⟩, ⟨PyData.keyHash P ⟨⟨[95, 95, 97, 110, 110, 111, 116, 97, 116, 105, 111, 110, 115, 95, 95]⟩⟩, (.str ⟨⟨[95, 95, 97, 110, 110, 111, 116, 97, 116, 105, 111, 110, 115, 95, 95]⟩⟩ 170), (.ref 6)⟩, ⟨PyData.keyHash P ⟨⟨[95, 95, 98, 117, 105, 108, 116, 105, 110, 115, 95, 95]⟩⟩, (.str ⟨⟨[95, 95, 98, 117, 105, 108, 116, 105, 110, 115, 95, 95]⟩⟩ 171), (.ref 4)⟩, ⟨PyData.keyHash P ⟨⟨[95, 95, 102, 105, 108, 101, 95, 95]⟩⟩, (.str ⟨⟨[95, 95, 102, 105, 108, 101, 95, 95]⟩⟩ 173), (.str ⟨⟨[47, 99, 108, 97, 105, 109, 47, 99, 117, 116, 46, 112, 121]⟩⟩ 172)⟩, ⟨PyData.keyHash P ⟨⟨[95, 95, 99, 97, 99, 104, 101, 100, 95, 95]⟩⟩, (.str ⟨⟨[95, 95, 99, 97, 99, 104, 101, 100, 95, 95]⟩⟩ 174), .none⟩, ⟨PyData.keyHash P ⟨⟨[95, 68, 73, 86, 95, 76, 73, 77, 73, 84]⟩⟩, (.str ⟨⟨[95, 68, 73, 86, 95, 76, 73, 77, 73, 84]⟩⟩ 190), (.int (.ofNat 4000) 189)⟩, ⟨PyData.keyHash P ⟨⟨[95, 100, 105, 118, 50, 110, 49, 110]⟩⟩, (.str ⟨⟨[95, 100, 105, 118, 50, 110, 49, 110]⟩⟩ 207), (.ref 21)⟩, ⟨PyData.keyHash P ⟨⟨[95, 100, 105, 118, 51, 110, 50, 110]⟩⟩, (.str ⟨⟨[95, 100, 105, 118, 51, 110, 50, 110]⟩⟩ 221), (.ref 28)⟩, ⟨PyData.keyHash P ⟨⟨[95, 105, 110, 116, 50, 100, 105, 103, 105, 116, 115]⟩⟩, (.str ⟨⟨[95, 105, 110, 116, 50, 100, 105, 103, 105, 116, 115]⟩⟩ 232), (.ref 35)⟩, ⟨PyData.keyHash P ⟨⟨[95, 100, 105, 103, 105, 116, 115, 50, 105, 110, 116]⟩⟩, (.str ⟨⟨[95, 100, 105, 103, 105, 116, 115, 50, 105, 110, 116]⟩⟩ 243), (.ref 42)⟩, ⟨PyData.keyHash P ⟨⟨[95, 100, 105, 118, 109, 111, 100, 95, 112, 111, 115]⟩⟩, (.str ⟨⟨[95, 100, 105, 118, 109, 111, 100, 95, 112, 111, 115]⟩⟩ 258), (.ref 49)⟩, ⟨PyData.keyHash P ⟨⟨[105, 110, 116, 95, 100, 105, 118, 109, 111, 100]⟩⟩, (.str ⟨⟨[105, 110, 116, 95, 100, 105, 118, 109, 111, 100]⟩⟩ 268), (.ref 56)⟩]⟩ 16), ⟨[]⟩⟩
noncomputable def o_12_1 (P : Params) : Obj := ⟨.none, none, (.fields ⟨[(.int (.ofNat 3) 0), (.int (.ofNat 0) 0), (.ref 20), (.int (.ofNat 19) 0), (.int (.ofNat 0) 0), (.ref 27), (.int (.ofNat 29) 0), (.int (.ofNat 0) 0), (.ref 34), (.int (.ofNat 45) 0), (.int (.ofNat 0) 0), (.ref 41), (.int (.ofNat 54) 0), (.int (.ofNat 0) 0), (.ref 48), (.int (.ofNat 65) 0), (.int (.ofNat 0) 0), (.ref 55)]⟩), ⟨[]⟩⟩
noncomputable def o_15_1 (P : Params) : Obj := ⟨(.type "tuple"), none, (.seq ⟨[]⟩ 0), ⟨[]⟩⟩
noncomputable def o_16_1 (P : Params) : Obj := ⟨.none, none, (.fields ⟨[]⟩), ⟨[]⟩⟩
noncomputable def o_17_1 (P : Params) : Obj := ⟨(.type "tuple"), none, (.seq ⟨[(.str ⟨⟨[97]⟩⟩ 194), (.str ⟨⟨[98]⟩⟩ 195), (.str ⟨⟨[110]⟩⟩ 196), (.str ⟨⟨[112, 97, 100]⟩⟩ 197), (.str ⟨⟨[104, 97, 108, 102, 95, 110]⟩⟩ 198), (.str ⟨⟨[109, 97, 115, 107]⟩⟩ 199), (.str ⟨⟨[98, 49]⟩⟩ 200), (.str ⟨⟨[98, 50]⟩⟩ 201), (.str ⟨⟨[113, 49]⟩⟩ 202), (.str ⟨⟨[114]⟩⟩ 203), (.str ⟨⟨[113, 50]⟩⟩ 204)]⟩ 0), ⟨[]⟩⟩
noncomputable def o_18_1 (P : Params) : Obj := ⟨(.type "tuple"), none, (.seq ⟨[]⟩ 0), ⟨[]⟩⟩
noncomputable def o_19_1 (P : Params) : Obj := ⟨.none, none, (.func ⟨⟨⟨[95, 100, 105, 118, 50, 110, 49, 110]⟩⟩, ⟨⟨[95, 100, 105, 118, 50, 110, 49, 110]⟩⟩, sParams (stm 2), .stmts (sBody (stm 2)), sScope (stm 2), 0, [], .none, .none, .none, .none, none, .none, .none, 0⟩), ⟨[]⟩⟩
noncomputable def o_20_1 (P : Params) : Obj := ⟨(.type "code"), none, (.fields ⟨[(.str ⟨⟨[95, 100, 105, 118, 50, 110, 49, 110]⟩⟩ 191), (.str ⟨⟨[95, 100, 105, 118, 50, 110, 49, 110]⟩⟩ 192), (.str ⟨⟨[47, 99, 108, 97, 105, 109, 47, 99, 117, 116, 46, 112, 121]⟩⟩ 193), (.int (.ofNat 3) 0), (.int (.ofNat 3) 0), (.int (.ofNat 0) 0), (.int (.ofNat 0) 0), (.int (.ofNat 3) 0), (.ref 15), (.bool true), (.int (.ofNat 181) 0), (.ref 16), .none, (.ref 17), (.ref 18), (.ref 19), (.int (.ofNat 205) 0), (.int (.ofNat 3) 0), (.str ⟨⟨[47, 99, 108, 97, 105, 109, 47, 99, 117, 116, 46, 112, 121]⟩⟩ 206)]⟩), ⟨[]⟩⟩
noncomputable def o_21_1 (P : Params) : Obj := ⟨(.type "function"), none, (.func ⟨⟨⟨[95, 100, 105, 118, 50, 110, 49, 110]⟩⟩, ⟨⟨[95, 100, 105, 118, 50, 110, 49, 110]⟩⟩, sParams (stm 2), .stmts (sBody (stm 2)), sScope (stm 2), 3, [], .none, .none, .none, (.str ⟨⟨[99, 112, 121, 51, 49, 51, 46, 95, 112, 121, 108, 111, 110, 103]⟩⟩ 187), none, (.ref 20), .none, 0⟩), ⟨[]⟩⟩
noncomputable def o_22_1 (P : Params) : Obj := ⟨(.type "tuple"), none, (.seq ⟨[]⟩ 0), ⟨[]⟩⟩
noncomputable def o_23_1 (P : Params) : Obj := ⟨.none, none, (.fields ⟨[]⟩), ⟨[]⟩⟩
noncomputable def o_24_1 (P : Params) : Obj := ⟨(.type "tuple"), none, (.seq ⟨[(.str ⟨⟨[97, 49, 50]⟩⟩ 211), (.str ⟨⟨[97, 51]⟩⟩ 212), (.str ⟨⟨[98]⟩⟩ 213), (.str ⟨⟨[98, 49]⟩⟩ 214), (.str ⟨⟨[98, 50]⟩⟩ 215), (.str ⟨⟨[110]⟩⟩ 216), (.str ⟨⟨[113]⟩⟩ 217), (.str ⟨⟨[114]⟩⟩ 218)]⟩ 0), ⟨[]⟩⟩
noncomputable def o_25_1 (P : Params) : Obj := ⟨(.type "tuple"), none, (.seq ⟨[]⟩ 0), ⟨[]⟩⟩
noncomputable def o_26_1 (P : Params) : Obj := ⟨.none, none, (.func ⟨⟨⟨[95, 100, 105, 118, 51, 110, 50, 110]⟩⟩, ⟨⟨[95, 100, 105, 118, 51, 110, 50, 110]⟩⟩, sParams (stm 3), .stmts (sBody (stm 3)), sScope (stm 3), 0, [], .none, .none, .none, .none, none, .none, .none, 0⟩), ⟨[]⟩⟩
noncomputable def o_27_1 (P : Params) : Obj := ⟨(.type "code"), none, (.fields ⟨[(.str ⟨⟨[95, 100, 105, 118, 51, 110, 50, 110]⟩⟩ 208), (.str ⟨⟨[95, 100, 105, 118, 51, 110, 50, 110]⟩⟩ 209), (.str ⟨⟨[47, 99, 108, 97, 105, 109, 47, 99, 117, 116, 46, 112, 121]⟩⟩ 210), (.int (.ofNat 19) 0), (.int (.ofNat 6) 0), (.int (.ofNat 0) 0), (.int (.ofNat 0) 0), (.int (.ofNat 3) 0), (.ref 22), (.bool true), (.int (.ofNat 181) 0), (.ref 23), .none, (.ref 24), (.ref 25), (.ref 26), (.int (.ofNat 219) 0), (.int (.ofNat 19) 0), (.str ⟨⟨[47, 99, 108, 97, 105, 109, 47, 99, 117, 116, 46, 112, 121]⟩⟩ 220)]⟩), ⟨[]⟩⟩
noncomputable def o_28_1 (P : Params) : Obj := ⟨(.type "function"), none, (.func ⟨⟨⟨[95, 100, 105, 118, 51, 110, 50, 110]⟩⟩, ⟨⟨[95, 100, 105, 118, 51, 110, 50, 110]⟩⟩, sParams (stm 3), .stmts (sBody (stm 3)), sScope (stm 3), 3, [], .none, .none, .none, (.str ⟨⟨[99, 112, 121, 51, 49, 51, 46, 95, 112, 121, 108, 111, 110, 103]⟩⟩ 187), none, (.ref 27), .none, 0⟩), ⟨[]⟩⟩
noncomputable def o_29_1 (P : Params) : Obj := ⟨(.type "tuple"), none, (.seq ⟨[]⟩ 0), ⟨[]⟩⟩
noncomputable def o_30_1 (P : Params) : Obj := ⟨.none, none, (.fields ⟨[]⟩), ⟨[]⟩⟩
noncomputable def o_31_1 (P : Params) : Obj := ⟨(.type "tuple"), none, (.seq ⟨[(.str ⟨⟨[97]⟩⟩ 225), (.str ⟨⟨[110]⟩⟩ 226)]⟩ 0), ⟨[]⟩⟩
noncomputable def o_32_1 (P : Params) : Obj := ⟨(.type "tuple"), none, (.seq ⟨[(.str ⟨⟨[110]⟩⟩ 227), (.str ⟨⟨[97, 95, 100, 105, 103, 105, 116, 115]⟩⟩ 228), (.str ⟨⟨[105, 110, 110, 101, 114]⟩⟩ 229)]⟩ 0), ⟨[]⟩⟩
noncomputable def o_33_1 (P : Params) : Obj := ⟨.none, none, (.func ⟨⟨⟨[95, 105, 110, 116, 50, 100, 105, 103, 105, 116, 115]⟩⟩, ⟨⟨[95, 105, 110, 116, 50, 100, 105, 103, 105, 116, 115]⟩⟩, sParams (stm 4), .stmts (sBody (stm 4)), sScope (stm 4), 0, [], .none, .none, .none, .none, none, .none, .none, 0⟩), ⟨[]⟩⟩
noncomputable def o_34_1 (P : Params) : Obj := ⟨(.type "code"), none, (.fields ⟨[(.str ⟨⟨[95, 105, 110, 116, 50, 100, 105, 103, 105, 116, 115]⟩⟩ 222), (.str ⟨⟨[95, 105, 110, 116, 50, 100, 105, 103, 105, 116, 115]⟩⟩ 223), (.str ⟨⟨[47, 99, 108, 97, 105, 109, 47, 99, 117, 116, 46, 112, 121]⟩⟩ 224), (.int (.ofNat 29) 0), (.int (.ofNat 2) 0), (.int (.ofNat 0) 0), (.int (.ofNat 0) 0), (.int (.ofNat 3) 0), (.ref 29), (.bool true), (.int (.ofNat 181) 0), (.ref 30), .none, (.ref 31), (.ref 32), (.ref 33), (.int (.ofNat 230) 0), (.int (.ofNat 29) 0), (.str ⟨⟨[47, 99, 108, 97, 105, 109, 47, 99, 117, 116, 46, 112, 121]⟩⟩ 231)]⟩), ⟨[]⟩⟩
noncomputable def o_35_1 (P : Params) : Obj := ⟨(.type "function"), none, (.func ⟨⟨⟨[95, 105, 110, 116, 50, 100, 105, 103, 105, 116, 115]⟩⟩, ⟨⟨[95, 105, 110, 116, 50, 100, 105, 103, 105, 116, 115]⟩⟩, sParams (stm 4), .stmts (sBody (stm 4)), sScope (stm 4), 3, [], .none, .none, .none, (.str ⟨⟨[99, 112, 121, 51, 49, 51, 46, 95, 112, 121, 108, 111, 110, 103]⟩⟩ 187), none, (.ref 34), .none, 0⟩), ⟨[]⟩⟩
noncomputable def o_36_1 (P : Params) : Obj := ⟨(.type "tuple"), none, (.seq ⟨[]⟩ 0), ⟨[]⟩⟩
noncomputable def o_37_1 (P : Params) : Obj := ⟨.none, none, (.fields ⟨[]⟩), ⟨[]⟩⟩
noncomputable def o_38_1 (P : Params) : Obj := ⟨(.type "tuple"), none, (.seq ⟨[(.str ⟨⟨[100, 105, 103, 105, 116, 115]⟩⟩ 236), (.str ⟨⟨[110]⟩⟩ 237)]⟩ 0), ⟨[]⟩⟩
noncomputable def o_39_1 (P : Params) : Obj := ⟨(.type "tuple"), none, (.seq ⟨[(.str ⟨⟨[100, 105, 103, 105, 116, 115]⟩⟩ 238), (.str ⟨⟨[110]⟩⟩ 239), (.str ⟨⟨[105, 110, 110, 101, 114]⟩⟩ 240)]⟩ 0), ⟨[]⟩⟩
noncomputable def o_40_1 (P : Params) : Obj := ⟨.none, none, (.func ⟨⟨⟨[95, 100, 105, 103, 105, 116, 115, 50, 105, 110, 116]⟩⟩, ⟨⟨[95, 100, 105, 103, 105, 116, 115, 50, 105, 110, 116]⟩⟩, sParams (stm 5), .stmts (sBody (stm 5)), sScope (stm 5), 0, [], .none, .none, .none, .none, none, .none, .none, 0⟩), ⟨[]⟩⟩
noncomputable def o_41_1 (P : Params) : Obj := ⟨(.type "code"), none, (.fields ⟨[(.str ⟨⟨[95, 100, 105, 103, 105, 116, 115, 50, 105, 110, 116]⟩⟩ 233), (.str ⟨⟨[95, 100, 105, 103, 105, 116, 115, 50, 105, 110, 116]⟩⟩ 234), (.str ⟨⟨[47, 99, 108, 97, 105, 109, 47, 99, 117, 116, 46, 112, 121]⟩⟩ 235), (.int (.ofNat 45) 0), (.int (.ofNat 2) 0), (.int (.ofNat 0) 0), (.int (.ofNat 0) 0), (.int (.ofNat 3) 0), (.ref 36), (.bool true), (.int (.ofNat 181) 0), (.ref 37), .none, (.ref 38), (.ref 39), (.ref 40), (.int (.ofNat 241) 0), (.int (.ofNat 45) 0), (.str ⟨⟨[47, 99, 108, 97, 105, 109, 47, 99, 117, 116, 46, 112, 121]⟩⟩ 242)]⟩), ⟨[]⟩⟩
noncomputable def o_42_1 (P : Params) : Obj := ⟨(.type "function"), none, (.func ⟨⟨⟨[95, 100, 105, 103, 105, 116, 115, 50, 105, 110, 116]⟩⟩, ⟨⟨[95, 100, 105, 103, 105, 116, 115, 50, 105, 110, 116]⟩⟩, sParams (stm 5), .stmts (sBody (stm 5)), sScope (stm 5), 3, [], .none, .none, .none, (.str ⟨⟨[99, 112, 121, 51, 49, 51, 46, 95, 112, 121, 108, 111, 110, 103]⟩⟩ 187), none, (.ref 41), .none, 0⟩), ⟨[]⟩⟩
noncomputable def o_43_1 (P : Params) : Obj := ⟨(.type "tuple"), none, (.seq ⟨[]⟩ 0), ⟨[]⟩⟩
noncomputable def o_44_1 (P : Params) : Obj := ⟨.none, none, (.fields ⟨[]⟩), ⟨[]⟩⟩
noncomputable def o_45_1 (P : Params) : Obj := ⟨(.type "tuple"), none, (.seq ⟨[(.str ⟨⟨[97]⟩⟩ 247), (.str ⟨⟨[98]⟩⟩ 248), (.str ⟨⟨[110]⟩⟩ 249), (.str ⟨⟨[97, 95, 100, 105, 103, 105, 116, 115]⟩⟩ 250), (.str ⟨⟨[114]⟩⟩ 251), (.str ⟨⟨[113, 95, 100, 105, 103, 105, 116, 115]⟩⟩ 252), (.str ⟨⟨[97, 95, 100, 105, 103, 105, 116]⟩⟩ 253), (.str ⟨⟨[113, 95, 100, 105, 103, 105, 116]⟩⟩ 254), (.str ⟨⟨[113]⟩⟩ 255)]⟩ 0), ⟨[]⟩⟩
noncomputable def o_46_1 (P : Params) : Obj := ⟨(.type "tuple"), none, (.seq ⟨[]⟩ 0), ⟨[]⟩⟩
noncomputable def o_47_1 (P : Params) : Obj := ⟨.none, none, (.func ⟨⟨⟨[95, 100, 105, 118, 109, 111, 100, 95, 112, 111, 115]⟩⟩, ⟨⟨[95, 100, 105, 118, 109, 111, 100, 95, 112, 111, 115]⟩⟩, sParams (stm 6), .stmts (sBody (stm 6)), sScope (stm 6), 0, [], .none, .none, .none, .none, none, .none, .none, 0⟩), ⟨[]⟩⟩
noncomputable def o_48_1 (P : Params) : Obj := ⟨(.type "code"), none, (.fields ⟨[(.str ⟨⟨[95, 100, 105, 118, 109, 111, 100, 95, 112, 111, 115]⟩⟩ 244), (.str ⟨⟨[95, 100, 105, 118, 109, 111, 100, 95, 112, 111, 115]⟩⟩ 245), (.str ⟨⟨[47, 99, 108, 97, 105, 109, 47, 99, 117, 116, 46, 112, 121]⟩⟩ 246), (.int (.ofNat 54) 0), (.int (.ofNat 2) 0), (.int (.ofNat 0) 0), (.int (.ofNat 0) 0), (.int (.ofNat 3) 0), (.ref 43), (.bool true), (.int (.ofNat 181) 0), (.ref 44), .none, (.ref 45), (.ref 46), (.ref 47), (.int (.ofNat 256) 0), (.int (.ofNat 54) 0), (.str ⟨⟨[47, 99, 108, 97, 105, 109, 47, 99, 117, 116, 46, 112, 121]⟩⟩ 257)]⟩), ⟨[]⟩⟩
noncomputable def o_49_1 (P : Params) : Obj := ⟨(.type "function"), none, (.func ⟨⟨⟨[95, 100, 105, 118, 109, 111, 100, 95, 112, 111, 115]⟩⟩, ⟨⟨[95, 100, 105, 118, 109, 111, 100, 95, 112, 111, 115]⟩⟩, sParams (stm 6), .stmts (sBody (stm 6)), sScope (stm 6), 3, [], .none, .none, .none, (.str ⟨⟨[99, 112, 121, 51, 49, 51, 46, 95, 112, 121, 108, 111, 110, 103]⟩⟩ 187), none, (.ref 48), .none, 0⟩), ⟨[]⟩⟩
noncomputable def o_50_1 (P : Params) : Obj := ⟨(.type "tuple"), none, (.seq ⟨[]⟩ 0), ⟨[]⟩⟩
noncomputable def o_51_1 (P : Params) : Obj := ⟨.none, none, (.fields ⟨[]⟩), ⟨[]⟩⟩
noncomputable def o_52_1 (P : Params) : Obj := ⟨(.type "tuple"), none, (.seq ⟨[(.str ⟨⟨[97]⟩⟩ 262), (.str ⟨⟨[98]⟩⟩ 263), (.str ⟨⟨[113]⟩⟩ 264), (.str ⟨⟨[114]⟩⟩ 265)]⟩ 0), ⟨[]⟩⟩
noncomputable def o_53_1 (P : Params) : Obj := ⟨(.type "tuple"), none, (.seq ⟨[]⟩ 0), ⟨[]⟩⟩
noncomputable def o_54_1 (P : Params) : Obj := ⟨.none, none, (.func ⟨⟨⟨[105, 110, 116, 95, 100, 105, 118, 109, 111, 100]⟩⟩, ⟨⟨[105, 110, 116, 95, 100, 105, 118, 109, 111, 100]⟩⟩, sParams (stm 7), .stmts (sBody (stm 7)), sScope (stm 7), 0, [], .none, .none, .none, .none, none, .none, .none, 0⟩), ⟨[]⟩⟩
noncomputable def o_55_1 (P : Params) : Obj := ⟨(.type "code"), none, (.fields ⟨[(.str ⟨⟨[105, 110, 116, 95, 100, 105, 118, 109, 111, 100]⟩⟩ 259), (.str ⟨⟨[105, 110, 116, 95, 100, 105, 118, 109, 111, 100]⟩⟩ 260), (.str ⟨⟨[47, 99, 108, 97, 105, 109, 47, 99, 117, 116, 46, 112, 121]⟩⟩ 261), (.int (.ofNat 65) 0), (.int (.ofNat 2) 0), (.int (.ofNat 0) 0), (.int (.ofNat 0) 0), (.int (.ofNat 3) 0), (.ref 50), (.bool true), (.int (.ofNat 181) 0), (.ref 51), .none, (.ref 52), (.ref 53), (.ref 54), (.int (.ofNat 266) 0), (.int (.ofNat 65) 0), (.str ⟨⟨[47, 99, 108, 97, 105, 109, 47, 99, 117, 116, 46, 112, 121]⟩⟩ 267)]⟩), ⟨[]⟩⟩
noncomputable def o_56_1 (P : Params) : Obj := ⟨(.type "function"), none, (.func ⟨⟨⟨[105, 110, 116, 95, 100, 105, 118, 109, 111, 100]⟩⟩, ⟨⟨[105, 110, 116, 95, 100, 105, 118, 109, 111, 100]⟩⟩, sParams (stm 7), .stmts (sBody (stm 7)), sScope (stm 7), 3, [], .none, .none, .none, (.str ⟨⟨[99, 112, 121, 51, 49, 51, 46, 95, 112, 121, 108, 111, 110, 103]⟩⟩ 187), none, (.ref 55), .none, 0⟩), ⟨[]⟩⟩
noncomputable def T_1 (P : Params) : BT := (.node (boot_o_0 P) (.node (boot_o_1 P) (.node (o_3_1 P) (.node (boot_o_7 P) (.node (o_15_1 P) (.node (o_31_1 P) .nil .nil) (.node (o_47_1 P) .nil .nil)) (.node (o_23_1 P) (.node (o_39_1 P) .nil .nil) (.node (o_55_1 P) .nil .nil))) (.node (o_11_a P) (.node (o_19_1 P) (.node (o_35_1 P) .nil .nil) (.node (o_51_1 P) .nil .nil)) (.node (o_27_1 P) (.node (o_43_1 P) .nil .nil) .nil))) (.node (boot_o_5 P) (.node (boot_o_9 P) (.node (o_17_1 P) (.node (o_33_1 P) .nil .nil) (.node (o_49_1 P) .nil .nil)) (.node (o_25_1 P) (.node (o_41_1 P) .nil .nil) .nil)) (.node (o_13_a P) (.node (o_21_1 P) (.node (o_37_1 P) .nil .nil) (.node (o_53_1 P) .nil .nil)) (.node (o_29_1 P) (.node (o_45_1 P) .nil .nil) .nil)))) (.node (boot_o_2 P) (.node (boot_o_4 P) (.node (boot_o_8 P) (.node (o_16_1 P) (.node (o_32_1 P) .nil .nil) (.node (o_48_1 P) .nil .nil)) (.node (o_24_1 P) (.node (o_40_1 P) .nil .nil) (.node (o_56_1 P) .nil .nil))) (.node (o_12_1 P) (.node (o_20_1 P) (.node (o_36_1 P) .nil .nil) (.node (o_52_1 P) .nil .nil)) (.node (o_28_1 P) (.node (o_44_1 P) .nil .nil) .nil))) (.node (boot_o_6 P) (.node (boot_o_10 P) (.node (o_18_1 P) (.node (o_34_1 P) .nil .nil) (.node (o_50_1 P) .nil .nil)) (.node (o_26_1 P) (.node (o_42_1 P) .nil .nil) .nil)) (.node (o_14_a P) (.node (o_22_1 P) (.node (o_38_1 P) .nil .nil) (.node (o_54_1 P) .nil .nil)) (.node (o_30_1 P) (.node (o_46_1 P) .nil .nil) .nil)))))
noncomputable def o_3_2 (P : Params) : Obj := ⟨(.type "dict"), none, (.dict ⟨[⟨PyData.keyHash P ⟨⟨[95, 95, 110, 97, 109, 101, 95, 95]⟩⟩, (.str ⟨⟨[95, 95, 110, 97, 109, 101, 95, 95]⟩⟩ 165), (.str ⟨⟨[99, 112, 121, 51, 49, 51, 46, 115, 116, 114, 105, 110, 103, 112, 114, 101, 112]⟩⟩ 329)⟩, ⟨PyData.keyHash P ⟨⟨[95, 95, 100, 111, 99, 95, 95]⟩⟩, (.str ⟨⟨[95, 95, 100, 111, 99, 95, 95]⟩⟩ 166), .none⟩, ⟨PyData.keyHash P ⟨⟨[95, 95, 112, 97, 99, 107, 97, 103, 101, 95, 95]⟩⟩, (.str ⟨⟨[95, 95, 112, 97, 99, 107, 97, 103, 101, 95, 95]⟩⟩ 167), .none⟩, ⟨PyData.keyHash P ⟨⟨[95, 95, 108, 111, 97, 100, 101, 114, 95, 95]⟩⟩, (.str ⟨⟨[95, 95, 108, 111, 97, 100, 101, 114, 95, 95]⟩⟩ 168), (.builtin "__main__.__loader__#opaque")⟩, ⟨PyData.keyHash P ⟨⟨[95, 95, 115, 112, 101, 99, 95, 95]⟩⟩, (.str ⟨⟨[95, 95, 115, 112, 101, 99, 95, 95]⟩⟩ 169), .none⟩, ⟨PyData.keyHash P ⟨⟨[95, 95, 97, 110, 110, 111, 116, 97, 116, 105, 111, 110, 115, 95, 95]⟩⟩, (.str ⟨⟨[95, 95, 97, 110, 110, 111, 116, 97, 116, 105, 111, 110, 115, 95, 95]⟩⟩ 170), (.ref 6)⟩, ⟨PyData.keyHash P ⟨⟨[95, 95, 98, 117, 105, 108, 116, 105, 110, 115, 95, 95]⟩⟩, (.str ⟨⟨[95, 95, 98, 117, 105, 108, 116, 105, 110, 115, 95, 95]⟩⟩ 171), (.ref 4)⟩, ⟨PyData.keyHash P ⟨⟨[95, 95, 102, 105, 108, 101, 95, 95]⟩⟩, (.str ⟨⟨[95, 95, 102, 105, 108, 101, 95, 95]⟩⟩ 173), (.str ⟨⟨[47, 99, 108, 97, 105, 109, 47, 99, 117, 116, 46, 112, 121]⟩⟩ 172)⟩, ⟨PyData.keyHash P ⟨⟨[95, 95, 99, 97, 99, 104, 101, 100, 95, 95]⟩⟩, (.str ⟨⟨[95, 95, 99, 97, 99, 104, 101, 100, 95, 95]⟩⟩ 174), .none⟩, ⟨PyData.keyHash P ⟨⟨[95, 68, 73, 86, 95, 76, 73, 77, 73, 84]⟩⟩, (.str ⟨⟨[95, 68, 73, 86, 95, 76, 73, 77, 73, 84]⟩⟩ 190), (.int (.ofNat 4000) 189)⟩, ⟨PyData.keyHash P ⟨⟨[95, 100, 105, 118, 50, 110, 49, 110]⟩⟩, (.str ⟨⟨[95, 100, 105, 118, 50, 110, 49, 110]⟩⟩ 207), (.ref 21)⟩, ⟨PyData.keyHash P ⟨⟨[95, 100, 105, 118, 51, 110, 50, 110]⟩⟩, (.str ⟨⟨[95, 100, 105, 118, 51, 110, 50, 110]⟩⟩ 221), (.ref 28)⟩, ⟨PyData.keyHash P ⟨⟨[95, 105, 110, 116, 50, 100, 105, 103, 105, 116, 115]⟩⟩, (.str ⟨⟨[95, 105, 110, 116, 50, 100, 105, 103, 105, 116, 115]⟩⟩ 232), (.ref 35)⟩, ⟨PyData.keyHash P ⟨⟨[95, 100, 105, 103, 105, 116, 115, 50, 105, 110, 116]⟩⟩, (.str ⟨⟨[95, 100, 105, 103, 105, 116, 115, 50, 105, 110, 116]⟩⟩ 243), (.ref 42)⟩, ⟨PyData.keyHash P ⟨⟨[95, 100, 105, 118, 109, 111, 100, 95, 112, 111, 115]⟩⟩, (.str ⟨⟨[95, 100, 105, 118, 109, 111, 100, 95, 112, 111, 115]⟩⟩ 258), (.ref 49)⟩, ⟨PyData.keyHash P ⟨⟨[105, 110, 116, 95, 100, 105, 118, 109, 111, 100]⟩⟩, (.str ⟨⟨[105, 110, 116, 95, 100, 105, 118, 109, 111, 100]⟩⟩ 268), (.ref 56)⟩, ⟨PyData.keyHash P ⟨⟨[95, 110, 101, 116, 114, 99, 108, 101, 120]⟩⟩, (.str ⟨⟨[95, 110, 101, 116, 114, 99, 108, 101, 120]⟩⟩ 328), (.ref 94)⟩]⟩ 17), ⟨[]⟩⟩
noncomputable def o_12_2 (P : Params) : Obj := ⟨.none, none, (.fields ⟨[(.int (.ofNat 3) 0), (.int (.ofNat 0) 0), (.ref 20), (.int (.ofNat 19) 0), (.int (.ofNat 0) 0), (.ref 27), (.int (.ofNat 29) 0), (.int (.ofNat 0) 0), (.ref 34), (.int (.ofNat 45) 0), (.int (.ofNat 0) 0), (.ref 41), (.int (.ofNat 54) 0), (.int (.ofNat 0) 0), (.ref 48), (.int (.ofNat 65) 0), (.int (.ofNat 0) 0), (.ref 55), (.int (.ofNat 77) 0), (.int (.ofNat 0) 0), (.ref 62)]⟩), ⟨[]⟩⟩
noncomputable def o_57_2 (P : Params) : Obj := ⟨(.type "tuple"), none, (.seq ⟨[]⟩ 0), ⟨[]⟩⟩
noncomputable def o_58_2 (P : Params) : Obj := ⟨(.type "builtin_function_or_method"), none, (.fields ⟨[(.builtin "type.__prepare__"), (.type "type")]⟩), ⟨[]⟩⟩
noncomputable def o_59_2 (P : Params) : Obj := ⟨(.type "dict"), none, (.dict ⟨[⟨PyData.keyHash P ⟨⟨[95, 95, 109, 111, 100, 117, 108, 101, 95, 95]⟩⟩, (.str ⟨⟨[95, 95, 109, 111, 100, 117, 108, 101, 95, 95]⟩⟩ 278), (.str ⟨⟨[99, 112, 121, 51, 49, 51, 46, 110, 101, 116, 114, 99]⟩⟩ 269)⟩, ⟨PyData.keyHash P ⟨⟨[95, 95, 113, 117, 97, 108, 110, 97, 109, 101, 95, 95]⟩⟩, (.str ⟨⟨[95, 95, 113, 117, 97, 108, 110, 97, 109, 101, 95, 95]⟩⟩ 280), (.str ⟨⟨[95, 110, 101, 116, 114, 99, 108, 101, 120]⟩⟩ 279)⟩, ⟨PyData.keyHash P ⟨⟨[95, 95, 102, 105, 114, 115, 116, 108, 105, 110, 101, 110, 111, 95, 95]⟩⟩, (.str ⟨⟨[95, 95, 102, 105, 114, 115, 116, 108, 105, 110, 101, 110, 111, 95, 95]⟩⟩ 282), (.int (.ofNat 77) 281)⟩, ⟨PyData.keyHash P ⟨⟨[95, 95, 105, 110, 105, 116, 95, 95]⟩⟩, (.str ⟨⟨[95, 95, 105, 110, 105, 116, 95, 95]⟩⟩ 290), (.ref 70)⟩, ⟨PyData.keyHash P ⟨⟨[95, 114, 101, 97, 100, 95, 99, 104, 97, 114]⟩⟩, (.str ⟨⟨[95, 114, 101, 97, 100, 95, 99, 104, 97, 114]⟩⟩ 298), (.ref 77)⟩, ⟨PyData.keyHash P ⟨⟨[103, 101, 116, 95, 116, 111, 107, 101, 110]⟩⟩, (.str ⟨⟨[103, 101, 116, 95, 116, 111, 107, 101, 110]⟩⟩ 308), (.ref 84)⟩, ⟨PyData.keyHash P ⟨⟨[112, 117, 115, 104, 95, 116, 111, 107, 101, 110]⟩⟩, (.str ⟨⟨[112, 117, 115, 104, 95, 116, 111, 107, 101, 110]⟩⟩ 316), (.ref 91)⟩, ⟨PyData.keyHash P ⟨⟨[95, 95, 115, 116, 97, 116, 105, 99, 95, 97, 116, 116, 114, 105, 98, 117, 116, 101, 115, 95, 95]⟩⟩, (.str ⟨⟨[95, 95, 115, 116, 97, 116, 105, 99, 95, 97, 116, 116, 114, 105, 98, 117, 116, 101, 115, 95, 95]⟩⟩ 321), (.ref 92)⟩]⟩ 8), ⟨[]⟩⟩
noncomputable def o_60_2 (P : Params) : Obj := ⟨(.type "tuple"), none, (.seq ⟨[]⟩ 0), ⟨[]⟩⟩
noncomputable def o_61_2 (P : Params) : Obj := ⟨.none, none, (.fields ⟨[(.int (.ofNat 79) 0), (.int (.ofNat 4) 0), (.ref 69), (.int (.ofNat 85) 0), (.int (.ofNat 4) 0), (.ref 76), (.int (.ofNat 91) 0), (.int (.ofNat 4) 0), (.ref 83), (.int (.ofNat 118) 0), (.int (.ofNat 4) 0), (.ref 90)]⟩), ⟨[]⟩⟩
noncomputable def o_62_2 (P : Params) : Obj := ⟨(.type "code"), none, (.fields ⟨[(.str ⟨⟨[95, 110, 101, 116, 114, 99, 108, 101, 120]⟩⟩ 273), (.str ⟨⟨[95, 110, 101, 116, 114, 99, 108, 101, 120]⟩⟩ 274), (.str ⟨⟨[47, 99, 108, 97, 105, 109, 47, 99, 117, 116, 46, 112, 121]⟩⟩ 275), (.int (.ofNat 77) 0), (.int (.ofNat 0) 0), (.int (.ofNat 0) 0), (.int (.ofNat 0) 0), (.int (.ofNat 0) 0), (.ref 60), (.bool false), (.int (.ofNat 181) 0), (.ref 61), .none, .none, .none, .none, (.int (.ofNat 276) 0), (.int (.ofNat 77) 0), (.str ⟨⟨[47, 99, 108, 97, 105, 109, 47, 99, 117, 116, 46, 112, 121]⟩⟩ 277)]⟩), ⟨[]⟩⟩
noncomputable def o_63_2 (P : Params) : Obj := ⟨(.type "frame"), none, .plain, ⟨[(some (.ref 62)), (some (.ref 3)), (some (.ref 59)), none, (some (.str ⟨⟨[99, 112, 121, 51, 49, 51, 46, 110, 101, 116, 114, 99]⟩⟩ 269)), none, (some (.ref 0))]⟩⟩
noncomputable def o_64_2 (P : Params) : Obj := ⟨(.type "tuple"), none, (.seq ⟨[]⟩ 0), ⟨[]⟩⟩
noncomputable def o_65_2 (P : Params) : Obj := ⟨.none, none, (.fields ⟨[]⟩), ⟨[]⟩⟩
noncomputable def o_66_2 (P : Params) : Obj := ⟨(.type "tuple"), none, (.seq ⟨[(.str ⟨⟨[115, 101, 108, 102]⟩⟩ 286), (.str ⟨⟨[102, 112]⟩⟩ 287)]⟩ 0), ⟨[]⟩⟩
noncomputable def o_67_2 (P : Params) : Obj := ⟨(.type "tuple"), none, (.seq ⟨[]⟩ 0), ⟨[]⟩⟩
noncomputable def o_68_2 (P : Params) : Obj := ⟨.none, none, (.func ⟨⟨⟨[95, 95, 105, 110, 105, 116, 95, 95]⟩⟩, ⟨⟨[95, 110, 101, 116, 114, 99, 108, 101, 120, 46, 95, 95, 105, 110, 105, 116, 95, 95]⟩⟩, sParams (sMeth 9 0), .stmts (sBody (sMeth 9 0)), sScope (sMeth 9 0), 0, [], .none, .none, .none, .none, none, .none, .none, 0⟩), ⟨[]⟩⟩
noncomputable def o_69_2 (P : Params) : Obj := ⟨(.type "code"), none, (.fields ⟨[(.str ⟨⟨[95, 95, 105, 110, 105, 116, 95, 95]⟩⟩ 283), (.str ⟨⟨[95, 110, 101, 116, 114, 99, 108, 101, 120, 46, 95, 95, 105, 110, 105, 116, 95, 95]⟩⟩ 284), (.str ⟨⟨[47, 99, 108, 97, 105, 109, 47, 99, 117, 116, 46, 112, 121]⟩⟩ 285), (.int (.ofNat 79) 0), (.int (.ofNat 2) 0), (.int (.ofNat 0) 0), (.int (.ofNat 0) 0), (.int (.ofNat 3) 0), (.ref 64), (.bool true), (.int (.ofNat 181) 0), (.ref 65), .none, (.ref 66), (.ref 67), (.ref 68), (.int (.ofNat 288) 0), (.int (.ofNat 79) 0), (.str ⟨⟨[47, 99, 108, 97, 105, 109, 47, 99, 117, 116, 46, 112, 121]⟩⟩ 289)]⟩), ⟨[]⟩⟩
noncomputable def o_70_2 (P : Params) : Obj := ⟨(.type "function"), none, (.func ⟨⟨⟨[95, 95, 105, 110, 105, 116, 95, 95]⟩⟩, ⟨⟨[95, 110, 101, 116, 114, 99, 108, 101, 120, 46, 95, 95, 105, 110, 105, 116, 95, 95]⟩⟩, sParams (sMeth 9 0), .stmts (sBody (sMeth 9 0)), sScope (sMeth 9 0), 3, [], .none, .none, .none, (.str ⟨⟨[99, 112, 121, 51, 49, 51, 46, 110, 101, 116, 114, 99]⟩⟩ 269), none, (.ref 69), .none, 0⟩), ⟨[]⟩⟩
noncomputable def o_71_2 (P : Params) : Obj := ⟨(.type "tuple"), none, (.seq ⟨[]⟩ 0), ⟨[]⟩⟩
noncomputable def o_72_2 (P : Params) : Obj := ⟨.none, none, (.fields ⟨[]⟩), ⟨[]⟩⟩
noncomputable def o_73_2 (P : Params) : Obj := ⟨(.type "tuple"), none, (.seq ⟨[(.str ⟨⟨[115, 101, 108, 102]⟩⟩ 294), (.str ⟨⟨[99, 104]⟩⟩ 295)]⟩ 0), ⟨[]⟩⟩
noncomputable def o_74_2 (P : Params) : Obj := ⟨(.type "tuple"), none, (.seq ⟨[]⟩ 0), ⟨[]⟩⟩
noncomputable def o_75_2 (P : Params) : Obj := ⟨.none, none, (.func ⟨⟨⟨[95, 114, 101, 97, 100, 95, 99, 104, 97, 114]⟩⟩, ⟨⟨[95, 110, 101, 116, 114, 99, 108, 101, 120, 46, 95, 114, 101, 97, 100, 95, 99, 104, 97, 114]⟩⟩, sParams (sMeth 9 1), .stmts (sBody (sMeth 9 1)), sScope (sMeth 9 1), 0, [], .none, .none, .none, .none, none, .none, .none, 0⟩), ⟨[]⟩⟩
noncomputable def o_76_2 (P : Params) : Obj := ⟨(.type "code"), none, (.fields ⟨[(.str ⟨⟨[95, 114, 101, 97, 100, 95, 99, 104, 97, 114]⟩⟩ 291), (.str ⟨⟨[95, 110, 101, 116, 114, 99, 108, 101, 120, 46, 95, 114, 101, 97, 100, 95, 99, 104, 97, 114]⟩⟩ 292), (.str ⟨⟨[47, 99, 108, 97, 105, 109, 47, 99, 117, 116, 46, 112, 121]⟩⟩ 293), (.int (.ofNat 85) 0), (.int (.ofNat 1) 0), (.int (.ofNat 0) 0), (.int (.ofNat 0) 0), (.int (.ofNat 3) 0), (.ref 71), (.bool true), (.int (.ofNat 181) 0), (.ref 72), .none, (.ref 73), (.ref 74), (.ref 75), (.int (.ofNat 296) 0), (.int (.ofNat 85) 0), (.str ⟨⟨[47, 99, 108, 97, 105, 109, 47, 99, 117, 116, 46, 112, 121]⟩⟩ 297)]⟩), ⟨[]⟩⟩
noncomputable def o_77_2 (P : Params) : Obj := ⟨(.type "function"), none, (.func ⟨⟨⟨[95, 114, 101, 97, 100, 95, 99, 104, 97, 114]⟩⟩, ⟨⟨[95, 110, 101, 116, 114, 99, 108, 101, 120, 46, 95, 114, 101, 97, 100, 95, 99, 104, 97, 114]⟩⟩, sParams (sMeth 9 1), .stmts (sBody (sMeth 9 1)), sScope (sMeth 9 1), 3, [], .none, .none, .none, (.str ⟨⟨[99, 112, 121, 51, 49, 51, 46, 110, 101, 116, 114, 99]⟩⟩ 269), none, (.ref 76), .none, 0⟩), ⟨[]⟩⟩
noncomputable def o_78_2 (P : Params) : Obj := ⟨(.type "tuple"), none, (.seq ⟨[]⟩ 0), ⟨[]⟩⟩
noncomputable def o_79_2 (P : Params) : Obj := ⟨.none, none, (.fields ⟨[]⟩), ⟨[]⟩⟩
noncomputable def o_80_2 (P : Params) : Obj := ⟨(.type "tuple"), none, (.seq ⟨[(.str ⟨⟨[115, 101, 108, 102]⟩⟩ 302), (.str ⟨⟨[116, 111, 107, 101, 110]⟩⟩ 303), (.str ⟨⟨[102, 105, 116, 101, 114]⟩⟩ 304), (.str ⟨⟨[99, 104]⟩⟩ 305)]⟩ 0), ⟨[]⟩⟩
noncomputable def o_81_2 (P : Params) : Obj := ⟨(.type "tuple"), none, (.seq ⟨[]⟩ 0), ⟨[]⟩⟩
noncomputable def o_82_2 (P : Params) : Obj := ⟨.none, none, (.func ⟨⟨⟨[103, 101, 116, 95, 116, 111, 107, 101, 110]⟩⟩, ⟨⟨[95, 110, 101, 116, 114, 99, 108, 101, 120, 46, 103, 101, 116, 95, 116, 111, 107, 101, 110]⟩⟩, sParams (sMeth 9 2), .stmts (sBody (sMeth 9 2)), sScope (sMeth 9 2), 0, [], .none, .none, .none, .none, none, .none, .none, 0⟩), ⟨[]⟩⟩
noncomputable def o_83_2 (P : Params) : Obj := ⟨(.type "code"), none, (.fields ⟨[(.str ⟨⟨[103, 101, 116, 95, 116, 111, 107, 101, 110]⟩⟩ 299), (.str ⟨⟨[95, 110, 101, 116, 114, 99, 108, 101, 120, 46, 103, 101, 116, 95, 116, 111, 107, 101, 110]⟩⟩ 300), (.str ⟨⟨[47, 99, 108, 97, 105, 109, 47, 99, 117, 116, 46, 112, 121]⟩⟩ 301), (.int (.ofNat 91) 0), (.int (.ofNat 1) 0), (.int (.ofNat 0) 0), (.int (.ofNat 0) 0), (.int (.ofNat 3) 0), (.ref 78), (.bool true), (.int (.ofNat 181) 0), (.ref 79), .none, (.ref 80), (.ref 81), (.ref 82), (.int (.ofNat 306) 0), (.int (.ofNat 91) 0), (.str ⟨⟨[47, 99, 108, 97, 105, 109, 47, 99, 117, 116, 46, 112, 121]⟩⟩ 307)]⟩), ⟨[]⟩⟩
noncomputable def o_84_2 (P : Params) : Obj := ⟨(.type "function"), none, (.func ⟨⟨⟨[103, 101, 116, 95, 116, 111, 107, 101, 110]⟩⟩, ⟨⟨[95, 110, 101, 116, 114, 99, 108, 101, 120, 46, 103, 101, 116, 95, 116, 111, 107, 101, 110]⟩⟩, sParams (sMeth 9 2), .stmts (sBody (sMeth 9 2)), sScope (sMeth 9 2), 3, [], .none, .none, .none, (.str ⟨⟨[99, 112, 121, 51, 49, 51, 46, 110, 101, 116, 114, 99]⟩⟩ 269), none, (.ref 83), .none, 0⟩), ⟨[]⟩⟩
noncomputable def o_85_2 (P : Params) : Obj := ⟨(.type "tuple"), none, (.seq ⟨[]⟩ 0), ⟨[]⟩⟩
noncomputable def o_86_2 (P : Params) : Obj := ⟨.none, none, (.fields ⟨[]⟩), ⟨[]⟩⟩
noncomputable def o_87_2 (P : Params) : Obj := ⟨(.type "tuple"), none, (.seq ⟨[(.str ⟨⟨[115, 101, 108, 102]⟩⟩ 312), (.str ⟨⟨[116, 111, 107, 101, 110]⟩⟩ 313)]⟩ 0), ⟨[]⟩⟩
noncomputable def o_88_2 (P : Params) : Obj := ⟨(.type "tuple"), none, (.seq ⟨[]⟩ 0), ⟨[]⟩⟩
noncomputable def o_89_2 (P : Params) : Obj := ⟨.none, none, (.func ⟨⟨⟨[112, 117, 115, 104, 95, 116, 111, 107, 101, 110]⟩⟩, ⟨⟨[95, 110, 101, 116, 114, 99, 108, 101, 120, 46, 112, 117, 115, 104, 95, 116, 111, 107, 101, 110]⟩⟩, sParams (sMeth 9 3), .stmts (sBody (sMeth 9 3)), sScope (sMeth 9 3), 0, [], .none, .none, .none, .none, none, .none, .none, 0⟩), ⟨[]⟩⟩
noncomputable def o_90_2 (P : Params) : Obj := ⟨(.type "code"), none, (.fields ⟨[(.str ⟨⟨[112, 117, 115, 104, 95, 116, 111, 107, 101, 110]⟩⟩ 309), (.str ⟨⟨[95, 110, 101, 116, 114, 99, 108, 101, 120, 46, 112, 117, 115, 104, 95, 116, 111, 107, 101, 110]⟩⟩ 310), (.str ⟨⟨[47, 99, 108, 97, 105, 109, 47, 99, 117, 116, 46, 112, 121]⟩⟩ 311), (.int (.ofNat 118) 0), (.int (.ofNat 2) 0), (.int (.ofNat 0) 0), (.int (.ofNat 0) 0), (.int (.ofNat 3) 0), (.ref 85), (.bool true), (.int (.ofNat 181) 0), (.ref 86), .none, (.ref 87), (.ref 88), (.ref 89), (.int (.ofNat 314) 0), (.int (.ofNat 118) 0), (.str ⟨⟨[47, 99, 108, 97, 105, 109, 47, 99, 117, 116, 46, 112, 121]⟩⟩ 315)]⟩), ⟨[]⟩⟩
noncomputable def o_91_2 (P : Params) : Obj := ⟨(.type "function"), none, (.func ⟨⟨⟨[112, 117, 115, 104, 95, 116, 111, 107, 101, 110]⟩⟩, ⟨⟨[95, 110, 101, 116, 114, 99, 108, 101, 120, 46, 112, 117, 115, 104, 95, 116, 111, 107, 101, 110]⟩⟩, sParams (sMeth 9 3), .stmts (sBody (sMeth 9 3)), sScope (sMeth 9 3), 3, [], .none, .none, .none, (.str ⟨⟨[99, 112, 121, 51, 49, 51, 46, 110, 101, 116, 114, 99]⟩⟩ 269), none, (.ref 90), .none, 0⟩), ⟨[]⟩⟩
noncomputable def o_92_2 (P : Params) : Obj := ⟨(.type "tuple"), none, (.seq ⟨[(.str ⟨⟨[105, 110, 115, 116, 114, 101, 97, 109]⟩⟩ 317), (.str ⟨⟨[108, 105, 110, 101, 110, 111]⟩⟩ 318), (.str ⟨⟨[112, 117, 115, 104, 98, 97, 99, 107]⟩⟩ 319), (.str ⟨⟨[119, 104, 105, 116, 101, 115, 112, 97, 99, 101]⟩⟩ 320)]⟩ 0), ⟨[]⟩⟩
noncomputable def o_93_2 (P : Params) : Obj := ⟨(.type "dict"), none, (.dict ⟨[⟨PyData.keyHash P ⟨⟨[95, 95, 109, 111, 100, 117, 108, 101, 95, 95]⟩⟩, (.str ⟨⟨[95, 95, 109, 111, 100, 117, 108, 101, 95, 95]⟩⟩ 278), (.str ⟨⟨[99, 112, 121, 51, 49, 51, 46, 110, 101, 116, 114, 99]⟩⟩ 269)⟩, ⟨PyData.keyHash P ⟨⟨[95, 95, 102, 105, 114, 115, 116, 108, 105, 110, 101, 110, 111, 95, 95]⟩⟩, (.str ⟨⟨[95, 95, 102, 105, 114, 115, 116, 108, 105, 110, 101, 110, 111, 95, 95]⟩⟩ 282), (.int (.ofNat 77) 281)⟩, ⟨PyData.keyHash P ⟨⟨[95, 95, 105, 110, 105, 116, 95, 95]⟩⟩, (.str ⟨⟨[95, 95, 105, 110, 105, 116, 95, 95]⟩⟩ 290), (.ref 70)⟩, ⟨PyData.keyHash P ⟨⟨[95, 114, 101, 97, 100, 95, 99, 104, 97, 114]⟩⟩, (.str ⟨⟨[95, 114, 101, 97, 100, 95, 99, 104, 97, 114]⟩⟩ 298), (.ref 77)⟩, ⟨PyData.keyHash P ⟨⟨[103, 101, 116, 95, 116, 111, 107, 101, 110]⟩⟩, (.str ⟨⟨[103, 101, 116, 95, 116, 111, 107, 101, 110]⟩⟩ 308), (.ref 84)⟩, ⟨PyData.keyHash P ⟨⟨[112, 117, 115, 104, 95, 116, 111, 107, 101, 110]⟩⟩, (.str ⟨⟨[112, 117, 115, 104, 95, 116, 111, 107, 101, 110]⟩⟩ 316), (.ref 91)⟩, ⟨PyData.keyHash P ⟨⟨[95, 95, 115, 116, 97, 116, 105, 99, 95, 97, 116, 116, 114, 105, 98, 117, 116, 101, 115, 95, 95]⟩⟩, (.str ⟨⟨[95, 95, 115, 116, 97, 116, 105, 99, 95, 97, 116, 116, 114, 105, 98, 117, 116, 101, 115, 95, 95]⟩⟩ 321), (.ref 92)⟩, ⟨PyData.keyHash P ⟨⟨[95, 95, 100, 105, 99, 116, 95, 95]⟩⟩, (.str ⟨⟨[95, 95, 100, 105, 99, 116, 95, 95]⟩⟩ 323), (.ref 95)⟩, ⟨PyData.keyHash P ⟨⟨[95, 95, 119, 101, 97, 107, 114, 101, 102, 95, 95]⟩⟩, (.str ⟨⟨[95, 95, 119, 101, 97, 107, 114, 101, 102, 95, 95]⟩⟩ 325), (.ref 96)⟩, ⟨PyData.keyHash P ⟨⟨[95, 95, 100, 111, 99, 95, 95]⟩⟩, (.str ⟨⟨[95, 95, 100, 111, 99, 95, 95]⟩⟩ 326), .none⟩]⟩ 4), ⟨[]⟩⟩
noncomputable def o_94_2 (P : Params) : Obj := ⟨(.type "type"), none, (.cls ⟨⟨⟨[95, 110, 101, 116, 114, 99, 108, 101, 120]⟩⟩, [(.type "object")], [(.ref 94), (.type "object")], 93, ⟨⟨[95, 110, 101, 116, 114, 99, 108, 101, 120]⟩⟩, true, [], [], false, none, false⟩), ⟨[none, none, (some (.str ⟨⟨[95, 110, 101, 116, 114, 99, 108, 101, 120]⟩⟩ 271)), (some (.str ⟨⟨[95, 110, 101, 116, 114, 99, 108, 101, 120]⟩⟩ 279)), (some (.builtin "object.__new__")), (some (.bool true))]⟩⟩
noncomputable def o_95_2 (P : Params) : Obj := ⟨(.type "getset_descriptor"), none, (.fields ⟨[(.str ⟨⟨[95, 95, 100, 105, 99, 116, 95, 95]⟩⟩ 322), (.ref 94), (.builtin "function.__dict__"), (.builtin "function.__dict__#set")]⟩), ⟨[]⟩⟩
noncomputable def o_96_2 (P : Params) : Obj := ⟨(.type "getset_descriptor"), none, (.fields ⟨[(.str ⟨⟨[95, 95, 119, 101, 97, 107, 114, 101, 102, 95, 95]⟩⟩ 324), (.ref 94), (.builtin "ExceptionGroup.__weakref__"), .none]⟩), ⟨[]⟩⟩
noncomputable def o_97_2 (P : Params) : Obj := ⟨(.type "super"), none, (.fields ⟨[(.ref 94), (.ref 94), (.ref 94)]⟩), ⟨[]⟩⟩
noncomputable def o_98_2 (P : Params) : Obj := ⟨(.type "builtin_function_or_method"), none, (.fields ⟨[(.builtin "object.__init_subclass__"), (.ref 94)]⟩), ⟨[]⟩⟩
noncomputable def T_2 (P : Params) : BT := (.node (boot_o_0 P) (.node (boot_o_1 P) (.node (o_3_2 P) (.node (boot_o_7 P) (.node (o_15_1 P) (.node (o_31_1 P) (.node (o_63_2 P) .nil .nil) (.node (o_95_2 P) .nil .nil)) (.node (o_47_1 P) (.node (o_79_2 P) .nil .nil) .nil)) (.node (o_23_1 P) (.node (o_39_1 P) (.node (o_71_2 P) .nil .nil) .nil) (.node (o_55_1 P) (.node (o_87_2 P) .nil .nil) .nil))) (.node (o_11_a P) (.node (o_19_1 P) (.node (o_35_1 P) (.node (o_67_2 P) .nil .nil) .nil) (.node (o_51_1 P) (.node (o_83_2 P) .nil .nil) .nil)) (.node (o_27_1 P) (.node (o_43_1 P) (.node (o_75_2 P) .nil .nil) .nil) (.node (o_59_2 P) (.node (o_91_2 P) .nil .nil) .nil)))) (.node (boot_o_5 P) (.node (boot_o_9 P) (.node (o_17_1 P) (.node (o_33_1 P) (.node (o_65_2 P) .nil .nil) (.node (o_97_2 P) .nil .nil)) (.node (o_49_1 P) (.node (o_81_2 P) .nil .nil) .nil)) (.node (o_25_1 P) (.node (o_41_1 P) (.node (o_73_2 P) .nil .nil) .nil) (.node (o_57_2 P) (.node (o_89_2 P) .nil .nil) .nil))) (.node (o_13_a P) (.node (o_21_1 P) (.node (o_37_1 P) (.node (o_69_2 P) .nil .nil) .nil) (.node (o_53_1 P) (.node (o_85_2 P) .nil .nil) .nil)) (.node (o_29_1 P) (.node (o_45_1 P) (.node (o_77_2 P) .nil .nil) .nil) (.node (o_61_2 P) (.node (o_93_2 P) .nil .nil) .nil))))) (.node (boot_o_2 P) (.node (boot_o_4 P) (.node (boot_o_8 P) (.node (o_16_1 P) (.node (o_32_1 P) (.node (o_64_2 P) .nil .nil) (.node (o_96_2 P) .nil .nil)) (.node (o_48_1 P) (.node (o_80_2 P) .nil .nil) .nil)) (.node (o_24_1 P) (.node (o_40_1 P) (.node (o_72_2 P) .nil .nil) .nil) (.node (o_56_1 P) (.node (o_88_2 P) .nil .nil) .nil))) (.node (o_12_2 P) (.node (o_20_1 P) (.node (o_36_1 P) (.node (o_68_2 P) .nil .nil) .nil) (.node (o_52_1 P) (.node (o_84_2 P) .nil .nil) .nil)) (.node (o_28_1 P) (.node (o_44_1 P) (.node (o_76_2 P) .nil .nil) .nil) (.node (o_60_2 P) (.node (o_92_2 P) .nil .nil) .nil)))) (.node (boot_o_6 P) (.node (boot_o_10 P) (.node (o_18_1 P) (.node (o_34_1 P) (.node (o_66_2 P) .nil .nil) (.node (o_98_2 P) .nil .nil)) (.node (o_50_1 P) (.node (o_82_2 P) .nil .nil) .nil)) (.node (o_26_1 P) (.node (o_42_1 P) (.node (o_74_2 P) .nil .nil) .nil) (.node (o_58_2 P) (.node (o_90_2 P) .nil .nil) .nil))) (.node (o_14_a P) (.node (o_22_1 P) (.node (o_38_1 P) (.node (o_70_2 P) .nil .nil) .nil) (.node (o_54_1 P) (.node (o_86_2 P) .nil .nil) .nil)) (.node (o_30_1 P) (.node (o_46_1 P) (.node (o_78_2 P) .nil .nil) .nil) (.node (o_62_2 P) (.node (o_94_2 P) .nil .nil) .nil))))))
noncomputable def o_3_3 (P : Params) : Obj := ⟨(.type "dict"), none, (.dict ⟨[⟨PyData.keyHash P ⟨⟨[95, 95, 110, 97, 109, 101, 95, 95]⟩⟩, (.str ⟨⟨[95, 95, 110, 97, 109, 101, 95, 95]⟩⟩ 165), (.str ⟨⟨[99, 112, 121, 51, 49, 51, 46, 115, 116, 114, 105, 110, 103, 112, 114, 101, 112]⟩⟩ 329)⟩, ⟨PyData.keyHash P ⟨⟨[95, 95, 100, 111, 99, 95, 95]⟩⟩, (.str ⟨⟨[95, 95, 100, 111, 99, 95, 95]⟩⟩ 166), .none⟩, ⟨PyData.keyHash P ⟨⟨[95, 95, 112, 97, 99, 107, 97, 103, 101, 95, 95]⟩⟩, (.str ⟨⟨[95, 95, 112, 97, 99, 107, 97, 103, 101, 95, 95]⟩⟩ 167), .none⟩, ⟨PyData.keyHash P ⟨⟨[95, 95, 108, 111, 97, 100, 101, 114, 95, 95]⟩⟩, (.str ⟨⟨[95, 95, 108, 111, 97, 100, 101, 114, 95, 95]⟩⟩ 168), (.builtin "__main__.__loader__#opaque")⟩, ⟨PyData.keyHash P ⟨⟨[95, 95, 115, 112, 101, 99, 95, 95]⟩⟩, (.str ⟨⟨[95, 95, 115, 112, 101, 99, 95, 95]⟩⟩ 169), .none⟩, ⟨PyData.keyHash P ⟨⟨[95, 95, 97, 110, 110, 111, 116, 97, 116, 105, 111, 110, 115, 95, 95]⟩⟩, (.str ⟨⟨[95, 95, 97, 110, 110, 111, 116, 97, 116, 105, 111, 110, 115, 95, 95]⟩⟩ 170), (.ref 6)⟩, ⟨PyData.keyHash P ⟨⟨[95, 95, 98, 117, 105, 108, 116, 105, 110, 115, 95, 95]⟩⟩, (.str ⟨⟨[95, 95, 98, 117, 105, 108, 116, 105, 110, 115, 95, 95]⟩⟩ 171), (.ref 4)⟩, ⟨PyData.keyHash P ⟨⟨[95, 95, 102, 105, 108, 101, 95, 95]⟩⟩, (.str ⟨⟨[95, 95, 102, 105, 108, 101, 95, 95]⟩⟩ 173), (.str ⟨⟨[47, 99, 108, 97, 105, 109, 47, 99, 117, 116, 46, 112, 121]⟩⟩ 172)⟩, ⟨PyData.keyHash P ⟨⟨[95, 95, 99, 97, 99, 104, 101, 100, 95, 95]⟩⟩, (.str ⟨⟨[95, 95, 99, 97, 99, 104, 101, 100, 95, 95]⟩⟩ 174), .none⟩, ⟨PyData.keyHash P ⟨⟨[95, 68, 73, 86, 95, 76, 73, 77, 73, 84]⟩⟩, (.str ⟨⟨[95, 68, 73, 86, 95, 76, 73, 77, 73, 84]⟩⟩ 190), (.int (.ofNat 4000) 189)⟩, ⟨PyData.keyHash P ⟨⟨[95, 100, 105, 118, 50, 110, 49, 110]⟩⟩, (.str ⟨⟨[95, 100, 105, 118, 50, 110, 49, 110]⟩⟩ 207), (.ref 21)⟩, ⟨PyData.keyHash P ⟨⟨[95, 100, 105, 118, 51, 110, 50, 110]⟩⟩, (.str ⟨⟨[95, 100, 105, 118, 51, 110, 50, 110]⟩⟩ 221), (.ref 28)⟩, ⟨PyData.keyHash P ⟨⟨[95, 105, 110, 116, 50, 100, 105, 103, 105, 116, 115]⟩⟩, (.str ⟨⟨[95, 105, 110, 116, 50, 100, 105, 103, 105, 116, 115]⟩⟩ 232), (.ref 35)⟩, ⟨PyData.keyHash P ⟨⟨[95, 100, 105, 103, 105, 116, 115, 50, 105, 110, 116]⟩⟩, (.str ⟨⟨[95, 100, 105, 103, 105, 116, 115, 50, 105, 110, 116]⟩⟩ 243), (.ref 42)⟩, ⟨PyData.keyHash P ⟨⟨[95, 100, 105, 118, 109, 111, 100, 95, 112, 111, 115]⟩⟩, (.str ⟨⟨[95, 100, 105, 118, 109, 111, 100, 95, 112, 111, 115]⟩⟩ 258), (.ref 49)⟩, ⟨PyData.keyHash P ⟨⟨[105, 110, 116, 95, 100, 105, 118, 109, 111, 100]⟩⟩, (.str ⟨⟨[105, 110, 116, 95, 100, 105, 118, 109, 111, 100]⟩⟩ 268), (.ref 56)⟩, ⟨PyData.keyHash P ⟨⟨[95, 110, 101, 116, 114, 99, 108, 101, 120]⟩⟩, (.str ⟨⟨[95, 110, 101, 116, 114, 99, 108, 101, 120]⟩⟩ 328), (.ref 94)⟩, ⟨PyData.keyHash P ⟨⟨[98, 49, 95, 115, 101, 116]⟩⟩, (.str ⟨⟨[98, 49, 95, 115, 101, 116]⟩⟩ 390), (.ref 106)⟩]⟩ 18), ⟨[]⟩⟩
noncomputable def o_99_3 (P : Params) : Obj := ⟨(.type "list"), none, (.seq ⟨[(.int (.ofNat 173) 331), (.int (.ofNat 847) 332), (.int (.ofNat 6150) 333), (.int (.ofNat 6155) 334), (.int (.ofNat 6156) 335), (.int (.ofNat 6157) 336), (.int (.ofNat 8203) 337), (.int (.ofNat 8204) 338), (.int (.ofNat 8205) 339), (.int (.ofNat 8288) 340), (.int (.ofNat 65279) 341)]⟩ 0), ⟨[]⟩⟩
noncomputable def o_100_3 (P : Params) : Obj := ⟨(.type "range"), none, (.fields ⟨[(.int (.ofNat 65024) 342), (.int (.ofNat 65040) 343), (.int (.ofNat 1) 344)]⟩), ⟨[]⟩⟩
noncomputable def o_101_3 (P : Params) : Obj := ⟨(.type "list"), none, (.seq ⟨[(.int (.ofNat 65024) 347), (.int (.ofNat 65025) 348), (.int (.ofNat 65026) 349), (.int (.ofNat 65027) 350), (.int (.ofNat 65028) 351), (.int (.ofNat 65029) 352), (.int (.ofNat 65030) 353), (.int (.ofNat 65031) 354), (.int (.ofNat 65032) 355), (.int (.ofNat 65033) 356), (.int (.ofNat 65034) 357), (.int (.ofNat 65035) 358), (.int (.ofNat 65036) 359), (.int (.ofNat 65037) 360), (.int (.ofNat 65038) 361), (.int (.ofNat 65039) 362)]⟩ 18), ⟨[]⟩⟩
noncomputable def o_102_3 (P : Params) : Obj := ⟨(.type "range_iterator"), none, (.fields ⟨[(.int (.ofNat 65040) 0), (.int (.ofNat 0) 0), (.int (.ofNat 1) 0)]⟩), ⟨[]⟩⟩
noncomputable def o_103_3 (P : Params) : Obj := ⟨(.type "tuple"), none, (.seq ⟨[]⟩ 0), ⟨[]⟩⟩
noncomputable def o_104_3 (P : Params) : Obj := ⟨(.type "StopIteration"), none, (.fields ⟨[(.ref 103), .none, .none, .none, (.bool false), .none]⟩), ⟨[]⟩⟩
noncomputable def o_105_3 (P : Params) : Obj := ⟨(.type "list"), none, (.seq ⟨[(.int (.ofNat 173) 331), (.int (.ofNat 847) 332), (.int (.ofNat 6150) 333), (.int (.ofNat 6155) 334), (.int (.ofNat 6156) 335), (.int (.ofNat 6157) 336), (.int (.ofNat 8203) 337), (.int (.ofNat 8204) 338), (.int (.ofNat 8205) 339), (.int (.ofNat 8288) 340), (.int (.ofNat 65279) 341), (.int (.ofNat 65024) 347), (.int (.ofNat 65025) 348), (.int (.ofNat 65026) 349), (.int (.ofNat 65027) 350), (.int (.ofNat 65028) 351), (.int (.ofNat 65029) 352), (.int (.ofNat 65030) 353), (.int (.ofNat 65031) 354), (.int (.ofNat 65032) 355), (.int (.ofNat 65033) 356), (.int (.ofNat 65034) 357), (.int (.ofNat 65035) 358), (.int (.ofNat 65036) 359), (.int (.ofNat 65037) 360), (.int (.ofNat 65038) 361), (.int (.ofNat 65039) 362)]⟩ 0), ⟨[]⟩⟩
noncomputable def o_106_3 (P : Params) : Obj := ⟨(.type "set"), none, (.set ⟨[((.ofNat 65024), (.int (.ofNat 65024) 347)), ((.ofNat 65025), (.int (.ofNat 65025) 348)), ((.ofNat 65026), (.int (.ofNat 65026) 349)), ((.ofNat 65027), (.int (.ofNat 65027) 350)), ((.ofNat 65028), (.int (.ofNat 65028) 351)), ((.ofNat 65029), (.int (.ofNat 65029) 352)), ((.ofNat 6150), (.int (.ofNat 6150) 333)), ((.ofNat 65030), (.int (.ofNat 65030) 353)), ((.ofNat 65031), (.int (.ofNat 65031) 354)), ((.ofNat 65032), (.int (.ofNat 65032) 355)), ((.ofNat 65033), (.int (.ofNat 65033) 356)), ((.ofNat 6155), (.int (.ofNat 6155) 334)), ((.ofNat 6156), (.int (.ofNat 6156) 335)), ((.ofNat 6157), (.int (.ofNat 6157) 336)), ((.ofNat 8203), (.int (.ofNat 8203) 337)), ((.ofNat 8204), (.int (.ofNat 8204) 338)), ((.ofNat 8205), (.int (.ofNat 8205) 339)), ((.ofNat 65034), (.int (.ofNat 65034) 357)), ((.ofNat 65035), (.int (.ofNat 65035) 358)), ((.ofNat 65036), (.int (.ofNat 65036) 359)), ((.ofNat 65037), (.int (.ofNat 65037) 360)), ((.ofNat 65038), (.int (.ofNat 65038) 361)), ((.ofNat 65039), (.int (.ofNat 65039) 362)), ((.ofNat 173), (.int (.ofNat 173) 331)), ((.ofNat 847), (.int (.ofNat 847) 332)), ((.ofNat 8288), (.int (.ofNat 8288) 340)), ((.ofNat 65279), (.int (.ofNat 65279) 341))]⟩ 29 { mask := 127, place := ⟨[0, 1, 2, 3, 4, 5, 6, 7, 8, 9, 10, 11, 12, 13, 14, 15, 16, 17, 18, 19, 20, 21, 22, 45, 79, 96, 127]⟩, dummies := ⟨[]⟩, finger := 0, led := (!P.followText "set-order"), moves := 2, plain := true }), ⟨[]⟩⟩
noncomputable def o_107_3 (P : Params) : Obj := ⟨(.type "list_iterator"), none, (.fields ⟨[.none, (.int (.ofNat 27) 0)]⟩), ⟨[]⟩⟩
noncomputable def o_108_3 (P : Params) : Obj := ⟨(.type "tuple"), none, (.seq ⟨[]⟩ 0), ⟨[]⟩⟩
noncomputable def o_109_3 (P : Params) : Obj := ⟨(.type "StopIteration"), none, (.fields ⟨[(.ref 108), .none, .none, .none, (.bool false), .none]⟩), ⟨[]⟩⟩
noncomputable def T_3 (P : Params) : BT := (.node (boot_o_0 P) (.node (boot_o_1 P) (.node (o_3_3 P) (.node (boot_o_7 P) (.node (o_15_1 P) (.node (o_31_1 P) (.node (o_63_2 P) .nil .nil) (.node (o_95_2 P) .nil .nil)) (.node (o_47_1 P) (.node (o_79_2 P) .nil .nil) .nil)) (.node (o_23_1 P) (.node (o_39_1 P) (.node (o_71_2 P) .nil .nil) (.node (o_103_3 P) .nil .nil)) (.node (o_55_1 P) (.node (o_87_2 P) .nil .nil) .nil))) (.node (o_11_a P) (.node (o_19_1 P) (.node (o_35_1 P) (.node (o_67_2 P) .nil .nil) (.node (o_99_3 P) .nil .nil)) (.node (o_51_1 P) (.node (o_83_2 P) .nil .nil) .nil)) (.node (o_27_1 P) (.node (o_43_1 P) (.node (o_75_2 P) .nil .nil) (.node (o_107_3 P) .nil .nil)) (.node (o_59_2 P) (.node (o_91_2 P) .nil .nil) .nil)))) (.node (boot_o_5 P) (.node (boot_o_9 P) (.node (o_17_1 P) (.node (o_33_1 P) (.node (o_65_2 P) .nil .nil) (.node (o_97_2 P) .nil .nil)) (.node (o_49_1 P) (.node (o_81_2 P) .nil .nil) .nil)) (.node (o_25_1 P) (.node (o_41_1 P) (.node (o_73_2 P) .nil .nil) (.node (o_105_3 P) .nil .nil)) (.node (o_57_2 P) (.node (o_89_2 P) .nil .nil) .nil))) (.node (o_13_a P) (.node (o_21_1 P) (.node (o_37_1 P) (.node (o_69_2 P) .nil .nil) (.node (o_101_3 P) .nil .nil)) (.node (o_53_1 P) (.node (o_85_2 P) .nil .nil) .nil)) (.node (o_29_1 P) (.node (o_45_1 P) (.node (o_77_2 P) .nil .nil) (.node (o_109_3 P) .nil .nil)) (.node (o_61_2 P) (.node (o_93_2 P) .nil .nil) .nil))))) (.node (boot_o_2 P) (.node (boot_o_4 P) (.node (boot_o_8 P) (.node (o_16_1 P) (.node (o_32_1 P) (.node (o_64_2 P) .nil .nil) (.node (o_96_2 P) .nil .nil)) (.node (o_48_1 P) (.node (o_80_2 P) .nil .nil) .nil)) (.node (o_24_1 P) (.node (o_40_1 P) (.node (o_72_2 P) .nil .nil) (.node (o_104_3 P) .nil .nil)) (.node (o_56_1 P) (.node (o_88_2 P) .nil .nil) .nil))) (.node (o_12_2 P) (.node (o_20_1 P) (.node (o_36_1 P) (.node (o_68_2 P) .nil .nil) (.node (o_100_3 P) .nil .nil)) (.node (o_52_1 P) (.node (o_84_2 P) .nil .nil) .nil)) (.node (o_28_1 P) (.node (o_44_1 P) (.node (o_76_2 P) .nil .nil) (.node (o_108_3 P) .nil .nil)) (.node (o_60_2 P) (.node (o_92_2 P) .nil .nil) .nil)))) (.node (boot_o_6 P) (.node (boot_o_10 P) (.node (o_18_1 P) (.node (o_34_1 P) (.node (o_66_2 P) .nil .nil) (.node (o_98_2 P) .nil .nil)) (.node (o_50_1 P) (.node (o_82_2 P) .nil .nil) .nil)) (.node (o_26_1 P) (.node (o_42_1 P) (.node (o_74_2 P) .nil .nil) (.node (o_106_3 P) .nil .nil)) (.node (o_58_2 P) (.node (o_90_2 P) .nil .nil) .nil))) (.node (o_14_a P) (.node (o_22_1 P) (.node (o_38_1 P) (.node (o_70_2 P) .nil .nil) (.node (o_102_3 P) .nil .nil)) (.node (o_54_1 P) (.node (o_86_2 P) .nil .nil) .nil)) (.node (o_30_1 P) (.node (o_46_1 P) (.node (o_78_2 P) .nil .nil) .nil) (.node (o_62_2 P) (.node (o_94_2 P) .nil .nil) .nil))))))
noncomputable def o_3_4 (P : Params) : Obj := ⟨(.type "dict"), none, (.dict ⟨[⟨PyData.keyHash P ⟨⟨[95, 95, 110, 97, 109, 101, 95, 95]⟩⟩, (.str ⟨⟨[95, 95, 110, 97, 109, 101, 95, 95]⟩⟩ 165), (.str ⟨⟨[99, 112, 121, 51, 49, 51, 46, 115, 116, 114, 105, 110, 103, 112, 114, 101, 112]⟩⟩ 329)⟩, ⟨PyData.keyHash P ⟨⟨[95, 95, 100, 111, 99, 95, 95]⟩⟩, (.str ⟨⟨[95, 95, 100, 111, 99, 95, 95]⟩⟩ 166), .none⟩, ⟨PyData.keyHash P ⟨⟨[95, 95, 112, 97, 99, 107, 97, 103, 101, 95, 95]⟩⟩, (.str ⟨⟨[95, 95, 112, 97, 99, 107, 97, 103, 101, 95, 95]⟩⟩ 167), .none⟩, ⟨PyData.keyHash P ⟨⟨[95, 95, 108, 111, 97, 100, 101, 114, 95, 95]⟩⟩, (.str ⟨⟨[95, 95, 108, 111, 97, 100, 101, 114, 95, 95]⟩⟩ 168), (.builtin "__main__.__loader__#opaque")⟩, ⟨PyData.keyHash P ⟨⟨[95, 95, 115, 112, 101, 99, 95, 95]⟩⟩, (.str ⟨⟨[95, 95, 115, 112, 101, 99, 95, 95]⟩⟩ 169), .none⟩, ⟨PyData.keyHash P ⟨⟨[95, 95, 97, 110, 110, 111, 116, 97, 116, 105, 111, 110, 115, 95, 95]⟩⟩, (.str ⟨⟨[95, 95, 97, 110, 110, 111, 116, 97, 116, 105, 111, 110, 115, 95, 95]⟩⟩ 170), (.ref 6)⟩, ⟨PyData.keyHash P ⟨⟨[95, 95, 98, 117, 105, 108, 116, 105, 110, 115, 95, 95]⟩⟩, (.str ⟨⟨[95, 95, 98, 117, 105, 108, 116, 105, 110, 115, 95, 95]⟩⟩ 171), (.ref 4)⟩, ⟨PyData.keyHash P ⟨⟨[95, 95, 102, 105, 108, 101, 95, 95]⟩⟩, (.str ⟨⟨[95, 95, 102, 105, 108, 101, 95, 95]⟩⟩ 173), (.str ⟨⟨[47, 99, 108, 97, 105, 109, 47, 99, 117, 116, 46, 112, 121]⟩⟩ 172)⟩, ⟨PyData.keyHash P ⟨⟨[95, 95, 99, 97, 99, 104, 101, 100, 95, 95]⟩⟩, (.str ⟨⟨[95, 95, 99, 97, 99, 104, 101, 100, 95, 95]⟩⟩ 174), .none⟩, ⟨PyData.keyHash P ⟨⟨[95, 68, 73, 86, 95, 76, 73, 77, 73, 84]⟩⟩, (.str ⟨⟨[95, 68, 73, 86, 95, 76, 73, 77, 73, 84]⟩⟩ 190), (.int (.ofNat 4000) 189)⟩, ⟨PyData.keyHash P ⟨⟨[95, 100, 105, 118, 50, 110, 49, 110]⟩⟩, (.str ⟨⟨[95, 100, 105, 118, 50, 110, 49, 110]⟩⟩ 207), (.ref 21)⟩, ⟨PyData.keyHash P ⟨⟨[95, 100, 105, 118, 51, 110, 50, 110]⟩⟩, (.str ⟨⟨[95, 100, 105, 118, 51, 110, 50, 110]⟩⟩ 221), (.ref 28)⟩, ⟨PyData.keyHash P ⟨⟨[95, 105, 110, 116, 50, 100, 105, 103, 105, 116, 115]⟩⟩, (.str ⟨⟨[95, 105, 110, 116, 50, 100, 105, 103, 105, 116, 115]⟩⟩ 232), (.ref 35)⟩, ⟨PyData.keyHash P ⟨⟨[95, 100, 105, 103, 105, 116, 115, 50, 105, 110, 116]⟩⟩, (.str ⟨⟨[95, 100, 105, 103, 105, 116, 115, 50, 105, 110, 116]⟩⟩ 243), (.ref 42)⟩, ⟨PyData.keyHash P ⟨⟨[95, 100, 105, 118, 109, 111, 100, 95, 112, 111, 115]⟩⟩, (.str ⟨⟨[95, 100, 105, 118, 109, 111, 100, 95, 112, 111, 115]⟩⟩ 258), (.ref 49)⟩, ⟨PyData.keyHash P ⟨⟨[105, 110, 116, 95, 100, 105, 118, 109, 111, 100]⟩⟩, (.str ⟨⟨[105, 110, 116, 95, 100, 105, 118, 109, 111, 100]⟩⟩ 268), (.ref 56)⟩, ⟨PyData.keyHash P ⟨⟨[95, 110, 101, 116, 114, 99, 108, 101, 120]⟩⟩, (.str ⟨⟨[95, 110, 101, 116, 114, 99, 108, 101, 120]⟩⟩ 328), (.ref 94)⟩, ⟨PyData.keyHash P ⟨⟨[98, 49, 95, 115, 101, 116]⟩⟩, (.str ⟨⟨[98, 49, 95, 115, 101, 116]⟩⟩ 390), (.ref 106)⟩, ⟨PyData.keyHash P ⟨⟨[105, 110, 95, 116, 97, 98, 108, 101, 95, 98, 49]⟩⟩, (.str ⟨⟨[105, 110, 95, 116, 97, 98, 108, 101, 95, 98, 49]⟩⟩ 397), (.ref 116)⟩]⟩ 19), ⟨[]⟩⟩
noncomputable def o_12_4 (P : Params) : Obj := ⟨.none, none, (.fields ⟨[(.int (.ofNat 3) 0), (.int (.ofNat 0) 0), (.ref 20), (.int (.ofNat 19) 0), (.int (.ofNat 0) 0), (.ref 27), (.int (.ofNat 29) 0), (.int (.ofNat 0) 0), (.ref 34), (.int (.ofNat 45) 0), (.int (.ofNat 0) 0), (.ref 41), (.int (.ofNat 54) 0), (.int (.ofNat 0) 0), (.ref 48), (.int (.ofNat 65) 0), (.int (.ofNat 0) 0), (.ref 55), (.int (.ofNat 77) 0), (.int (.ofNat 0) 0), (.ref 62), (.int (.ofNat 122) 0), (.int (.ofNat 0) 0), (.ref 115)]⟩), ⟨[]⟩⟩
noncomputable def o_110_4 (P : Params) : Obj := ⟨(.type "tuple"), none, (.seq ⟨[]⟩ 0), ⟨[]⟩⟩
noncomputable def o_111_4 (P : Params) : Obj := ⟨.none, none, (.fields ⟨[]⟩), ⟨[]⟩⟩
noncomputable def o_112_4 (P : Params) : Obj := ⟨(.type "tuple"), none, (.seq ⟨[(.str ⟨⟨[99, 111, 100, 101]⟩⟩ 394)]⟩ 0), ⟨[]⟩⟩
noncomputable def o_113_4 (P : Params) : Obj := ⟨(.type "tuple"), none, (.seq ⟨[]⟩ 0), ⟨[]⟩⟩
noncomputable def o_114_4 (P : Params) : Obj := ⟨.none, none, (.func ⟨⟨⟨[105, 110, 95, 116, 97, 98, 108, 101, 95, 98, 49]⟩⟩, ⟨⟨[105, 110, 95, 116, 97, 98, 108, 101, 95, 98, 49]⟩⟩, sParams (stm 12), .stmts (sBody (stm 12)), sScope (stm 12), 0, [], .none, .none, .none, .none, none, .none, .none, 0⟩), ⟨[]⟩⟩
noncomputable def o_115_4 (P : Params) : Obj := ⟨(.type "code"), none, (.fields ⟨[(.str ⟨⟨[105, 110, 95, 116, 97, 98, 108, 101, 95, 98, 49]⟩⟩ 391), (.str ⟨⟨[105, 110, 95, 116, 97, 98, 108, 101, 95, 98, 49]⟩⟩ 392), (.str ⟨⟨[47, 99, 108, 97, 105, 109, 47, 99, 117, 116, 46, 112, 121]⟩⟩ 393), (.int (.ofNat 122) 0), (.int (.ofNat 1) 0), (.int (.ofNat 0) 0), (.int (.ofNat 0) 0), (.int (.ofNat 3) 0), (.ref 110), (.bool true), (.int (.ofNat 181) 0), (.ref 111), .none, (.ref 112), (.ref 113), (.ref 114), (.int (.ofNat 395) 0), (.int (.ofNat 122) 0), (.str ⟨⟨[47, 99, 108, 97, 105, 109, 47, 99, 117, 116, 46, 112, 121]⟩⟩ 396)]⟩), ⟨[]⟩⟩
noncomputable def o_116_4 (P : Params) : Obj := ⟨(.type "function"), none, (.func ⟨⟨⟨[105, 110, 95, 116, 97, 98, 108, 101, 95, 98, 49]⟩⟩, ⟨⟨[105, 110, 95, 116, 97, 98, 108, 101, 95, 98, 49]⟩⟩, sParams (stm 12), .stmts (sBody (stm 12)), sScope (stm 12), 3, [], .none, .none, .none, (.str ⟨⟨[99, 112, 121, 51, 49, 51, 46, 115, 116, 114, 105, 110, 103, 112, 114, 101, 112]⟩⟩ 329), none, (.ref 115), .none, 0⟩), ⟨[]⟩⟩
noncomputable def T_4 (P : Params) : BT := (.node (boot_o_0 P) (.node (boot_o_1 P) (.node (o_3_4 P) (.node (boot_o_7 P) (.node (o_15_1 P) (.node (o_31_1 P) (.node (o_63_2 P) .nil .nil) (.node (o_95_2 P) .nil .nil)) (.node (o_47_1 P) (.node (o_79_2 P) .nil .nil) (.node (o_111_4 P) .nil .nil))) (.node (o_23_1 P) (.node (o_39_1 P) (.node (o_71_2 P) .nil .nil) (.node (o_103_3 P) .nil .nil)) (.node (o_55_1 P) (.node (o_87_2 P) .nil .nil) .nil))) (.node (o_11_a P) (.node (o_19_1 P) (.node (o_35_1 P) (.node (o_67_2 P) .nil .nil) (.node (o_99_3 P) .nil .nil)) (.node (o_51_1 P) (.node (o_83_2 P) .nil .nil) (.node (o_115_4 P) .nil .nil))) (.node (o_27_1 P) (.node (o_43_1 P) (.node (o_75_2 P) .nil .nil) (.node (o_107_3 P) .nil .nil)) (.node (o_59_2 P) (.node (o_91_2 P) .nil .nil) .nil)))) (.node (boot_o_5 P) (.node (boot_o_9 P) (.node (o_17_1 P) (.node (o_33_1 P) (.node (o_65_2 P) .nil .nil) (.node (o_97_2 P) .nil .nil)) (.node (o_49_1 P) (.node (o_81_2 P) .nil .nil) (.node (o_113_4 P) .nil .nil))) (.node (o_25_1 P) (.node (o_41_1 P) (.node (o_73_2 P) .nil .nil) (.node (o_105_3 P) .nil .nil)) (.node (o_57_2 P) (.node (o_89_2 P) .nil .nil) .nil))) (.node (o_13_a P) (.node (o_21_1 P) (.node (o_37_1 P) (.node (o_69_2 P) .nil .nil) (.node (o_101_3 P) .nil .nil)) (.node (o_53_1 P) (.node (o_85_2 P) .nil .nil) .nil)) (.node (o_29_1 P) (.node (o_45_1 P) (.node (o_77_2 P) .nil .nil) (.node (o_109_3 P) .nil .nil)) (.node (o_61_2 P) (.node (o_93_2 P) .nil .nil) .nil))))) (.node (boot_o_2 P) (.node (boot_o_4 P) (.node (boot_o_8 P) (.node (o_16_1 P) (.node (o_32_1 P) (.node (o_64_2 P) .nil .nil) (.node (o_96_2 P) .nil .nil)) (.node (o_48_1 P) (.node (o_80_2 P) .nil .nil) (.node (o_112_4 P) .nil .nil))) (.node (o_24_1 P) (.node (o_40_1 P) (.node (o_72_2 P) .nil .nil) (.node (o_104_3 P) .nil .nil)) (.node (o_56_1 P) (.node (o_88_2 P) .nil .nil) .nil))) (.node (o_12_4 P) (.node (o_20_1 P) (.node (o_36_1 P) (.node (o_68_2 P) .nil .nil) (.node (o_100_3 P) .nil .nil)) (.node (o_52_1 P) (.node (o_84_2 P) .nil .nil) (.node (o_116_4 P) .nil .nil))) (.node (o_28_1 P) (.node (o_44_1 P) (.node (o_76_2 P) .nil .nil) (.node (o_108_3 P) .nil .nil)) (.node (o_60_2 P) (.node (o_92_2 P) .nil .nil) .nil)))) (.node (boot_o_6 P) (.node (boot_o_10 P) (.node (o_18_1 P) (.node (o_34_1 P) (.node (o_66_2 P) .nil .nil) (.node (o_98_2 P) .nil .nil)) (.node (o_50_1 P) (.node (o_82_2 P) .nil .nil) (.node (o_114_4 P) .nil .nil))) (.node (o_26_1 P) (.node (o_42_1 P) (.node (o_74_2 P) .nil .nil) (.node (o_106_3 P) .nil .nil)) (.node (o_58_2 P) (.node (o_90_2 P) .nil .nil) .nil))) (.node (o_14_a P) (.node (o_22_1 P) (.node (o_38_1 P) (.node (o_70_2 P) .nil .nil) (.node (o_102_3 P) .nil .nil)) (.node (o_54_1 P) (.node (o_86_2 P) .nil .nil) .nil)) (.node (o_30_1 P) (.node (o_46_1 P) (.node (o_78_2 P) .nil .nil) (.node (o_110_4 P) .nil .nil)) (.node (o_62_2 P) (.node (o_94_2 P) .nil .nil) .nil))))))
noncomputable def o_3_5 (P : Params) : Obj := ⟨(.type "dict"), none, (.dict ⟨[⟨PyData.keyHash P ⟨⟨[95, 95, 110, 97, 109, 101, 95, 95]⟩⟩, (.str ⟨⟨[95, 95, 110, 97, 109, 101, 95, 95]⟩⟩ 165), (.str ⟨⟨[99, 112, 121, 51, 49, 51, 46, 115, 116, 114, 105, 110, 103, 112, 114, 101, 112]⟩⟩ 329)⟩, ⟨PyData.keyHash P ⟨⟨[95, 95, 100, 111, 99, 95, 95]⟩⟩, (.str ⟨⟨[95, 95, 100, 111, 99, 95, 95]⟩⟩ 166), .none⟩, ⟨PyData.keyHash P ⟨⟨[95, 95, 112, 97, 99, 107, 97, 103, 101, 95, 95]⟩⟩, (.str ⟨⟨[95, 95, 112, 97, 99, 107, 97, 103, 101, 95, 95]⟩⟩ 167), .none⟩, ⟨PyData.keyHash P ⟨⟨[95, 95, 108, 111, 97, 100, 101, 114, 95, 95]⟩⟩, (.str ⟨⟨[95, 95, 108, 111, 97, 100, 101, 114, 95, 95]⟩⟩ 168), (.builtin "__main__.__loader__#opaque")⟩, ⟨PyData.keyHash P ⟨⟨[95, 95, 115, 112, 101, 99, 95, 95]⟩⟩, (.str ⟨⟨[95, 95, 115, 112, 101, 99, 95, 95]⟩⟩ 169), .none⟩, ⟨PyData.keyHash P ⟨⟨[95, 95, 97, 110, 110, 111, 116, 97, 116, 105, 111, 110, 115, 95, 95]⟩⟩, (.str ⟨⟨[95, 95, 97, 110, 110, 111, 116, 97, 116, 105, 111, 110, 115, 95, 95]⟩⟩ 170), (.ref 6)⟩, ⟨PyData.keyHash P ⟨⟨[95, 95, 98, 117, 105, 108, 116, 105, 110, 115, 95, 95]⟩⟩, (.str ⟨⟨[95, 95, 98, 117, 105, 108, 116, 105, 110, 115, 95, 95]⟩⟩ 171), (.ref 4)⟩, ⟨PyData.keyHash P ⟨⟨[95, 95, 102, 105, 108, 101, 95, 95]⟩⟩, (.str ⟨⟨[95, 95, 102, 105, 108, 101, 95, 95]⟩⟩ 173), (.str ⟨⟨[47, 99, 108, 97, 105, 109, 47, 99, 117, 116, 46, 112, 121]⟩⟩ 172)⟩, ⟨PyData.keyHash P ⟨⟨[95, 95, 99, 97, 99, 104, 101, 100, 95, 95]⟩⟩, (.str ⟨⟨[95, 95, 99, 97, 99, 104, 101, 100, 95, 95]⟩⟩ 174), .none⟩, ⟨PyData.keyHash P ⟨⟨[95, 68, 73, 86, 95, 76, 73, 77, 73, 84]⟩⟩, (.str ⟨⟨[95, 68, 73, 86, 95, 76, 73, 77, 73, 84]⟩⟩ 190), (.int (.ofNat 4000) 189)⟩, ⟨PyData.keyHash P ⟨⟨[95, 100, 105, 118, 50, 110, 49, 110]⟩⟩, (.str ⟨⟨[95, 100, 105, 118, 50, 110, 49, 110]⟩⟩ 207), (.ref 21)⟩, ⟨PyData.keyHash P ⟨⟨[95, 100, 105, 118, 51, 110, 50, 110]⟩⟩, (.str ⟨⟨[95, 100, 105, 118, 51, 110, 50, 110]⟩⟩ 221), (.ref 28)⟩, ⟨PyData.keyHash P ⟨⟨[95, 105, 110, 116, 50, 100, 105, 103, 105, 116, 115]⟩⟩, (.str ⟨⟨[95, 105, 110, 116, 50, 100, 105, 103, 105, 116, 115]⟩⟩ 232), (.ref 35)⟩, ⟨PyData.keyHash P ⟨⟨[95, 100, 105, 103, 105, 116, 115, 50, 105, 110, 116]⟩⟩, (.str ⟨⟨[95, 100, 105, 103, 105, 116, 115, 50, 105, 110, 116]⟩⟩ 243), (.ref 42)⟩, ⟨PyData.keyHash P ⟨⟨[95, 100, 105, 118, 109, 111, 100, 95, 112, 111, 115]⟩⟩, (.str ⟨⟨[95, 100, 105, 118, 109, 111, 100, 95, 112, 111, 115]⟩⟩ 258), (.ref 49)⟩, ⟨PyData.keyHash P ⟨⟨[105, 110, 116, 95, 100, 105, 118, 109, 111, 100]⟩⟩, (.str ⟨⟨[105, 110, 116, 95, 100, 105, 118, 109, 111, 100]⟩⟩ 268), (.ref 56)⟩, ⟨PyData.keyHash P ⟨⟨[95, 110, 101, 116, 114, 99, 108, 101, 120]⟩⟩, (.str ⟨⟨[95, 110, 101, 116, 114, 99, 108, 101, 120]⟩⟩ 328), (.ref 94)⟩, ⟨PyData.keyHash P ⟨⟨[98, 49, 95, 115, 101, 116]⟩⟩, (.str ⟨⟨[98, 49, 95, 115, 101, 116]⟩⟩ 390), (.ref 106)⟩, ⟨PyData.keyHash P ⟨⟨[105, 110, 95, 116, 97, 98, 108, 101, 95, 98, 49]⟩⟩, (.str ⟨⟨[105, 110, 95, 116, 97, 98, 108, 101, 95, 98, 49]⟩⟩ 397), (.ref 116)⟩, ⟨PyData.keyHash P ⟨⟨[98, 51, 95, 101, 120, 99, 101, 112, 116, 105, 111, 110, 115]⟩⟩, (.str ⟨⟨[98, 51, 95, 101, 120, 99, 101, 112, 116, 105, 111, 110, 115]⟩⟩ 2348), (.ref 117)⟩]⟩ 20), ⟨[]⟩⟩
noncomputable def T_d (P : Params) : BT := insAll (T_4 P) 117 (mainD :: subsD)
noncomputable def T_5 (P : Params) : BT := (T_d P).set 3 (fun _ => o_3_5 P)
noncomputable def o_3_6 (P : Params) : Obj := ⟨(.type "dict"), none, (.dict ⟨[⟨PyData.keyHash P ⟨⟨[95, 95, 110, 97, 109, 101, 95, 95]⟩⟩, (.str ⟨⟨[95, 95, 110, 97, 109, 101, 95, 95]⟩⟩ 165), (.str ⟨⟨[108, 97, 119, 95, 114, 119, 48, 49, 50, 49, 95, 48, 51]⟩⟩ 2357)⟩, ⟨PyData.keyHash P ⟨⟨[95, 95, 100, 111, 99, 95, 95]⟩⟩, (.str ⟨⟨[95, 95, 100, 111, 99, 95, 95]⟩⟩ 166), .none⟩, ⟨PyData.keyHash P ⟨⟨[95, 95, 112, 97, 99, 107, 97, 103, 101, 95, 95]⟩⟩, (.str ⟨⟨[95, 95, 112, 97, 99, 107, 97, 103, 101, 95, 95]⟩⟩ 167), .none⟩, ⟨PyData.keyHash P ⟨⟨[95, 95, 108, 111, 97, 100, 101, 114, 95, 95]⟩⟩, (.str ⟨⟨[95, 95, 108, 111, 97, 100, 101, 114, 95, 95]⟩⟩ 168), (.builtin "__main__.__loader__#opaque")⟩, ⟨PyData.keyHash P ⟨⟨[95, 95, 115, 112, 101, 99, 95, 95]⟩⟩, (.str ⟨⟨[95, 95, 115, 112, 101, 99, 95, 95]⟩⟩ 169), .none⟩, ⟨PyData.keyHash P ⟨⟨[95, 95, 97, 110, 110, 111, 116, 97, 116, 105, 111, 110, 115, 95, 95]⟩⟩, (.str ⟨⟨[95, 95, 97, 110, 110, 111, 116, 97, 116, 105, 111, 110, 115, 95, 95]⟩⟩ 170), (.ref 6)⟩, ⟨PyData.keyHash P ⟨⟨[95, 95, 98, 117, 105, 108, 116, 105, 110, 115, 95, 95]⟩⟩, (.str ⟨⟨[95, 95, 98, 117, 105, 108, 116, 105, 110, 115, 95, 95]⟩⟩ 171), (.ref 4)⟩, ⟨PyData.keyHash P ⟨⟨[95, 95, 102, 105, 108, 101, 95, 95]⟩⟩, (.str ⟨⟨[95, 95, 102, 105, 108, 101, 95, 95]⟩⟩ 173), (.str ⟨⟨[47, 99, 108, 97, 105, 109, 47, 99, 117, 116, 46, 112, 121]⟩⟩ 172)⟩, ⟨PyData.keyHash P ⟨⟨[95, 95, 99, 97, 99, 104, 101, 100, 95, 95]⟩⟩, (.str ⟨⟨[95, 95, 99, 97, 99, 104, 101, 100, 95, 95]⟩⟩ 174), .none⟩, ⟨PyData.keyHash P ⟨⟨[95, 68, 73, 86, 95, 76, 73, 77, 73, 84]⟩⟩, (.str ⟨⟨[95, 68, 73, 86, 95, 76, 73, 77, 73, 84]⟩⟩ 190), (.int (.ofNat 4000) 189)⟩, ⟨PyData.keyHash P ⟨⟨[95, 100, 105, 118, 50, 110, 49, 110]⟩⟩, (.str ⟨⟨[95, 100, 105, 118, 50, 110, 49, 110]⟩⟩ 207), (.ref 21)⟩, ⟨PyData.keyHash P ⟨⟨[95, 100, 105, 118, 51, 110, 50, 110]⟩⟩, (.str ⟨⟨[95, 100, 105, 118, 51, 110, 50, 110]⟩⟩ 221), (.ref 28)⟩, ⟨PyData.keyHash P ⟨⟨[95, 105, 110, 116, 50, 100, 105, 103, 105, 116, 115]⟩⟩, (.str ⟨⟨[95, 105, 110, 116, 50, 100, 105, 103, 105, 116, 115]⟩⟩ 232), (.ref 35)⟩, ⟨PyData.keyHash P ⟨⟨[95, 100, 105, 103, 105, 116, 115, 50, 105, 110, 116]⟩⟩, (.str ⟨⟨[95, 100, 105, 103, 105, 116, 115, 50, 105, 110, 116]⟩⟩ 243), (.ref 42)⟩, ⟨PyData.keyHash P ⟨⟨[95, 100, 105, 118, 109, 111, 100, 95, 112, 111, 115]⟩⟩, (.str ⟨⟨[95, 100, 105, 118, 109, 111, 100, 95, 112, 111, 115]⟩⟩ 258), (.ref 49)⟩, ⟨PyData.keyHash P ⟨⟨[105, 110, 116, 95, 100, 105, 118, 109, 111, 100]⟩⟩, (.str ⟨⟨[105, 110, 116, 95, 100, 105, 118, 109, 111, 100]⟩⟩ 268), (.ref 56)⟩, ⟨PyData.keyHash P ⟨⟨[95, 110, 101, 116, 114, 99, 108, 101, 120]⟩⟩, (.str ⟨⟨[95, 110, 101, 116, 114, 99, 108, 101, 120]⟩⟩ 328), (.ref 94)⟩, ⟨PyData.keyHash P ⟨⟨[98, 49, 95, 115, 101, 116]⟩⟩, (.str ⟨⟨[98, 49, 95, 115, 101, 116]⟩⟩ 390), (.ref 106)⟩, ⟨PyData.keyHash P ⟨⟨[105, 110, 95, 116, 97, 98, 108, 101, 95, 98, 49]⟩⟩, (.str ⟨⟨[105, 110, 95, 116, 97, 98, 108, 101, 95, 98, 49]⟩⟩ 397), (.ref 116)⟩, ⟨PyData.keyHash P ⟨⟨[98, 51, 95, 101, 120, 99, 101, 112, 116, 105, 111, 110, 115]⟩⟩, (.str ⟨⟨[98, 51, 95, 101, 120, 99, 101, 112, 116, 105, 111, 110, 115]⟩⟩ 2348), (.ref 117)⟩, ⟨PyData.keyHash P ⟨⟨[109, 97, 112, 95, 116, 97, 98, 108, 101, 95, 98, 51]⟩⟩, (.str ⟨⟨[109, 97, 112, 95, 116, 97, 98, 108, 101, 95, 98, 51]⟩⟩ 2356), (.ref 162)⟩, ⟨PyData.keyHash P ⟨⟨[95, 108, 97, 119, 95, 103, 114, 111, 117, 112]⟩⟩, (.str ⟨⟨[95, 108, 97, 119, 95, 103, 114, 111, 117, 112]⟩⟩ 2364), (.ref 167)⟩, ⟨PyData.keyHash P ⟨⟨[95, 108, 97, 119, 95, 108, 101, 102, 116]⟩⟩, (.str ⟨⟨[95, 108, 97, 119, 95, 108, 101, 102, 116]⟩⟩ 2370), (.ref 172)⟩, ⟨PyData.keyHash P ⟨⟨[95, 108, 97, 119, 95, 100, 117, 101]⟩⟩, (.str ⟨⟨[95, 108, 97, 119, 95, 100, 117, 101]⟩⟩ 2385), (.ref 179)⟩, ⟨PyData.keyHash P ⟨⟨[95, 108, 97, 119, 95, 114, 101, 97, 100]⟩⟩, (.str ⟨⟨[95, 108, 97, 119, 95, 114, 101, 97, 100]⟩⟩ 2391), (.ref 184)⟩, ⟨PyData.keyHash P ⟨⟨[95, 108, 97, 119, 95, 112, 114, 101, 112, 97, 114, 101, 100]⟩⟩, (.str ⟨⟨[95, 108, 97, 119, 95, 112, 114, 101, 112, 97, 114, 101, 100]⟩⟩ 2397), (.ref 189)⟩, ⟨PyData.keyHash P ⟨⟨[95, 108, 97, 119, 95, 98, 97, 114, 101]⟩⟩, (.str ⟨⟨[95, 108, 97, 119, 95, 98, 97, 114, 101]⟩⟩ 2403), (.ref 194)⟩, ⟨PyData.keyHash P ⟨⟨[95, 108, 97, 119, 95, 110, 117, 109, 98, 101, 114, 115]⟩⟩, (.str ⟨⟨[95, 108, 97, 119, 95, 110, 117, 109, 98, 101, 114, 115]⟩⟩ 2409), (.ref 199)⟩, ⟨PyData.keyHash P ⟨⟨[95, 108, 97, 119, 95, 111, 114, 100, 101, 114, 115]⟩⟩, (.str ⟨⟨[95, 108, 97, 119, 95, 111, 114, 100, 101, 114, 115]⟩⟩ 2415), (.ref 204)⟩, ⟨PyData.keyHash P ⟨⟨[108, 97, 119]⟩⟩, (.str ⟨⟨[108, 97, 119]⟩⟩ 2421), (.ref 209)⟩]⟩ 30), ⟨[]⟩⟩
noncomputable def o_12_6 (P : Params) : Obj := ⟨.none, none, (.fields ⟨[(.int (.ofNat 3) 0), (.int (.ofNat 0) 0), (.ref 20), (.int (.ofNat 19) 0), (.int (.ofNat 0) 0), (.ref 27), (.int (.ofNat 29) 0), (.int (.ofNat 0) 0), (.ref 34), (.int (.ofNat 45) 0), (.int (.ofNat 0) 0), (.ref 41), (.int (.ofNat 54) 0), (.int (.ofNat 0) 0), (.ref 48), (.int (.ofNat 65) 0), (.int (.ofNat 0) 0), (.ref 55), (.int (.ofNat 77) 0), (.int (.ofNat 0) 0), (.ref 62), (.int (.ofNat 122) 0), (.int (.ofNat 0) 0), (.ref 115), (.int (.ofNat 125) 0), (.int (.ofNat 0) 0), (.ref 161), (.int (.ofNat 131) 0), (.int (.ofNat 0) 0), (.ref 166), (.int (.ofNat 136) 0), (.int (.ofNat 0) 0), (.ref 171), (.int (.ofNat 141) 0), (.int (.ofNat 0) 0), (.ref 178), (.int (.ofNat 152) 0), (.int (.ofNat 0) 0), (.ref 183), (.int (.ofNat 170) 0), (.int (.ofNat 0) 0), (.ref 188), (.int (.ofNat 176) 0), (.int (.ofNat 0) 0), (.ref 193), (.int (.ofNat 178) 0), (.int (.ofNat 0) 0), (.ref 198), (.int (.ofNat 195) 0), (.int (.ofNat 0) 0), (.ref 203), (.int (.ofNat 203) 0), (.int (.ofNat 0) 0), (.ref 208)]⟩), ⟨[]⟩⟩
noncomputable def o_156_6 (P : Params) : Obj := ⟨(.type "tuple"), none, (.seq ⟨[]⟩ 0), ⟨[]⟩⟩
noncomputable def o_157_6 (P : Params) : Obj := ⟨.none, none, (.fields ⟨[]⟩), ⟨[]⟩⟩
noncomputable def o_158_6 (P : Params) : Obj := ⟨(.type "tuple"), none, (.seq ⟨[(.str ⟨⟨[99, 111, 100, 101]⟩⟩ 2352), (.str ⟨⟨[114]⟩⟩ 2353)]⟩ 0), ⟨[]⟩⟩
noncomputable def o_159_6 (P : Params) : Obj := ⟨(.type "tuple"), none, (.seq ⟨[]⟩ 0), ⟨[]⟩⟩
noncomputable def o_160_6 (P : Params) : Obj := ⟨.none, none, (.func ⟨⟨⟨[109, 97, 112, 95, 116, 97, 98, 108, 101, 95, 98, 51]⟩⟩, ⟨⟨[109, 97, 112, 95, 116, 97, 98, 108, 101, 95, 98, 51]⟩⟩, sParams (stm 14), .stmts (sBody (stm 14)), sScope (stm 14), 0, [], .none, .none, .none, .none, none, .none, .none, 0⟩), ⟨[]⟩⟩
noncomputable def o_161_6 (P : Params) : Obj := ⟨(.type "code"), none, (.fields ⟨[(.str ⟨⟨[109, 97, 112, 95, 116, 97, 98, 108, 101, 95, 98, 51]⟩⟩ 2349), (.str ⟨⟨[109, 97, 112, 95, 116, 97, 98, 108, 101, 95, 98, 51]⟩⟩ 2350), (.str ⟨⟨[47, 99, 108, 97, 105, 109, 47, 99, 117, 116, 46, 112, 121]⟩⟩ 2351), (.int (.ofNat 125) 0), (.int (.ofNat 1) 0), (.int (.ofNat 0) 0), (.int (.ofNat 0) 0), (.int (.ofNat 3) 0), (.ref 156), (.bool true), (.int (.ofNat 181) 0), (.ref 157), .none, (.ref 158), (.ref 159), (.ref 160), (.int (.ofNat 2354) 0), (.int (.ofNat 125) 0), (.str ⟨⟨[47, 99, 108, 97, 105, 109, 47, 99, 117, 116, 46, 112, 121]⟩⟩ 2355)]⟩), ⟨[]⟩⟩
noncomputable def o_162_6 (P : Params) : Obj := ⟨(.type "function"), none, (.func ⟨⟨⟨[109, 97, 112, 95, 116, 97, 98, 108, 101, 95, 98, 51]⟩⟩, ⟨⟨[109, 97, 112, 95, 116, 97, 98, 108, 101, 95, 98, 51]⟩⟩, sParams (stm 14), .stmts (sBody (stm 14)), sScope (stm 14), 3, [], .none, .none, .none, (.str ⟨⟨[99, 112, 121, 51, 49, 51, 46, 115, 116, 114, 105, 110, 103, 112, 114, 101, 112]⟩⟩ 329), none, (.ref 161), .none, 0⟩), ⟨[]⟩⟩
noncomputable def o_163_6 (P : Params) : Obj := ⟨(.type "tuple"), none, (.seq ⟨[]⟩ 0), ⟨[]⟩⟩
noncomputable def o_164_6 (P : Params) : Obj := ⟨.none, none, (.fields ⟨[]⟩), ⟨[]⟩⟩
noncomputable def o_165_6 (P : Params) : Obj := ⟨.none, none, (.func ⟨⟨⟨[95, 108, 97, 119, 95, 103, 114, 111, 117, 112]⟩⟩, ⟨⟨[95, 108, 97, 119, 95, 103, 114, 111, 117, 112]⟩⟩, sParams (stm 16), .stmts (sBody (stm 16)), sScope (stm 16), 0, [], .none, .none, .none, .none, none, .none, .none, 0⟩), ⟨[]⟩⟩
noncomputable def o_166_6 (P : Params) : Obj := ⟨(.type "code"), none, (.fields ⟨[(.str ⟨⟨[95, 108, 97, 119, 95, 103, 114, 111, 117, 112]⟩⟩ 2359), (.str ⟨⟨[95, 108, 97, 119, 95, 103, 114, 111, 117, 112]⟩⟩ 2360), (.str ⟨⟨[47, 99, 108, 97, 105, 109, 47, 99, 117, 116, 46, 112, 121]⟩⟩ 2361), (.int (.ofNat 131) 0), (.int (.ofNat 1) 0), (.int (.ofNat 0) 0), (.int (.ofNat 0) 0), (.int (.ofNat 3) 0), (.ref 163), (.bool true), (.int (.ofNat 181) 0), (.ref 164), .none, .none, .none, (.ref 165), (.int (.ofNat 2362) 0), (.int (.ofNat 131) 0), (.str ⟨⟨[47, 99, 108, 97, 105, 109, 47, 99, 117, 116, 46, 112, 121]⟩⟩ 2363)]⟩), ⟨[]⟩⟩
noncomputable def o_167_6 (P : Params) : Obj := ⟨(.type "function"), none, (.func ⟨⟨⟨[95, 108, 97, 119, 95, 103, 114, 111, 117, 112]⟩⟩, ⟨⟨[95, 108, 97, 119, 95, 103, 114, 111, 117, 112]⟩⟩, sParams (stm 16), .stmts (sBody (stm 16)), sScope (stm 16), 3, [], .none, .none, .none, (.str ⟨⟨[108, 97, 119, 95, 114, 119, 48, 49, 50, 49, 95, 48, 51]⟩⟩ 2357), none, (.ref 166), .none, 0⟩), ⟨[]⟩⟩
noncomputable def o_168_6 (P : Params) : Obj := ⟨(.type "tuple"), none, (.seq ⟨[]⟩ 0), ⟨[]⟩⟩
noncomputable def o_169_6 (P : Params) : Obj := ⟨.none, none, (.fields ⟨[]⟩), ⟨[]⟩⟩
noncomputable def o_170_6 (P : Params) : Obj := ⟨.none, none, (.func ⟨⟨⟨[95, 108, 97, 119, 95, 108, 101, 102, 116]⟩⟩, ⟨⟨[95, 108, 97, 119, 95, 108, 101, 102, 116]⟩⟩, sParams (stm 17), .stmts (sBody (stm 17)), sScope (stm 17), 0, [], .none, .none, .none, .none, none, .none, .none, 0⟩), ⟨[]⟩⟩
noncomputable def o_171_6 (P : Params) : Obj := ⟨(.type "code"), none, (.fields ⟨[(.str ⟨⟨[95, 108, 97, 119, 95, 108, 101, 102, 116]⟩⟩ 2365), (.str ⟨⟨[95, 108, 97, 119, 95, 108, 101, 102, 116]⟩⟩ 2366), (.str ⟨⟨[47, 99, 108, 97, 105, 109, 47, 99, 117, 116, 46, 112, 121]⟩⟩ 2367), (.int (.ofNat 136) 0), (.int (.ofNat 3) 0), (.int (.ofNat 0) 0), (.int (.ofNat 0) 0), (.int (.ofNat 3) 0), (.ref 168), (.bool true), (.int (.ofNat 181) 0), (.ref 169), .none, .none, .none, (.ref 170), (.int (.ofNat 2368) 0), (.int (.ofNat 136) 0), (.str ⟨⟨[47, 99, 108, 97, 105, 109, 47, 99, 117, 116, 46, 112, 121]⟩⟩ 2369)]⟩), ⟨[]⟩⟩
noncomputable def o_172_6 (P : Params) : Obj := ⟨(.type "function"), none, (.func ⟨⟨⟨[95, 108, 97, 119, 95, 108, 101, 102, 116]⟩⟩, ⟨⟨[95, 108, 97, 119, 95, 108, 101, 102, 116]⟩⟩, sParams (stm 17), .stmts (sBody (stm 17)), sScope (stm 17), 3, [], .none, .none, .none, (.str ⟨⟨[108, 97, 119, 95, 114, 119, 48, 49, 50, 49, 95, 48, 51]⟩⟩ 2357), none, (.ref 171), .none, 0⟩), ⟨[]⟩⟩
noncomputable def o_173_6 (P : Params) : Obj := ⟨(.type "tuple"), none, (.seq ⟨[]⟩ 0), ⟨[]⟩⟩
noncomputable def o_174_6 (P : Params) : Obj := ⟨.none, none, (.fields ⟨[]⟩), ⟨[]⟩⟩
noncomputable def o_175_6 (P : Params) : Obj := ⟨(.type "tuple"), none, (.seq ⟨[(.str ⟨⟨[103, 114, 111, 117, 112, 115]⟩⟩ 2374), (.str ⟨⟨[104, 97, 110, 100, 115]⟩⟩ 2375), (.str ⟨⟨[119, 111, 114, 100, 115]⟩⟩ 2376), (.str ⟨⟨[114, 101, 97, 100, 105, 110, 103, 115]⟩⟩ 2377), (.str ⟨⟨[112, 97, 114, 116, 115]⟩⟩ 2378), (.str ⟨⟨[110, 111, 116, 104, 105, 110, 103, 115]⟩⟩ 2379), (.str ⟨⟨[101, 110, 100, 115]⟩⟩ 2380), (.str ⟨⟨[119, 111, 114, 100]⟩⟩ 2381), (.str ⟨⟨[107]⟩⟩ 2382)]⟩ 0), ⟨[]⟩⟩
noncomputable def o_176_6 (P : Params) : Obj := ⟨(.type "tuple"), none, (.seq ⟨[]⟩ 0), ⟨[]⟩⟩
noncomputable def o_177_6 (P : Params) : Obj := ⟨.none, none, (.func ⟨⟨⟨[95, 108, 97, 119, 95, 100, 117, 101]⟩⟩, ⟨⟨[95, 108, 97, 119, 95, 100, 117, 101]⟩⟩, sParams (stm 18), .stmts (sBody (stm 18)), sScope (stm 18), 0, [], .none, .none, .none, .none, none, .none, .none, 0⟩), ⟨[]⟩⟩
noncomputable def o_178_6 (P : Params) : Obj := ⟨(.type "code"), none, (.fields ⟨[(.str ⟨⟨[95, 108, 97, 119, 95, 100, 117, 101]⟩⟩ 2371), (.str ⟨⟨[95, 108, 97, 119, 95, 100, 117, 101]⟩⟩ 2372), (.str ⟨⟨[47, 99, 108, 97, 105, 109, 47, 99, 117, 116, 46, 112, 121]⟩⟩ 2373), (.int (.ofNat 141) 0), (.int (.ofNat 2) 0), (.int (.ofNat 0) 0), (.int (.ofNat 0) 0), (.int (.ofNat 3) 0), (.ref 173), (.bool true), (.int (.ofNat 181) 0), (.ref 174), .none, (.ref 175), (.ref 176), (.ref 177), (.int (.ofNat 2383) 0), (.int (.ofNat 141) 0), (.str ⟨⟨[47, 99, 108, 97, 105, 109, 47, 99, 117, 116, 46, 112, 121]⟩⟩ 2384)]⟩), ⟨[]⟩⟩
noncomputable def o_179_6 (P : Params) : Obj := ⟨(.type "function"), none, (.func ⟨⟨⟨[95, 108, 97, 119, 95, 100, 117, 101]⟩⟩, ⟨⟨[95, 108, 97, 119, 95, 100, 117, 101]⟩⟩, sParams (stm 18), .stmts (sBody (stm 18)), sScope (stm 18), 3, [], .none, .none, .none, (.str ⟨⟨[108, 97, 119, 95, 114, 119, 48, 49, 50, 49, 95, 48, 51]⟩⟩ 2357), none, (.ref 178), .none, 0⟩), ⟨[]⟩⟩
noncomputable def o_180_6 (P : Params) : Obj := ⟨(.type "tuple"), none, (.seq ⟨[]⟩ 0), ⟨[]⟩⟩
noncomputable def o_181_6 (P : Params) : Obj := ⟨.none, none, (.fields ⟨[]⟩), ⟨[]⟩⟩
noncomputable def o_182_6 (P : Params) : Obj := ⟨.none, none, (.func ⟨⟨⟨[95, 108, 97, 119, 95, 114, 101, 97, 100]⟩⟩, ⟨⟨[95, 108, 97, 119, 95, 114, 101, 97, 100]⟩⟩, sParams (stm 19), .stmts (sBody (stm 19)), sScope (stm 19), 0, [], .none, .none, .none, .none, none, .none, .none, 0⟩), ⟨[]⟩⟩
noncomputable def o_183_6 (P : Params) : Obj := ⟨(.type "code"), none, (.fields ⟨[(.str ⟨⟨[95, 108, 97, 119, 95, 114, 101, 97, 100]⟩⟩ 2386), (.str ⟨⟨[95, 108, 97, 119, 95, 114, 101, 97, 100]⟩⟩ 2387), (.str ⟨⟨[47, 99, 108, 97, 105, 109, 47, 99, 117, 116, 46, 112, 121]⟩⟩ 2388), (.int (.ofNat 152) 0), (.int (.ofNat 2) 0), (.int (.ofNat 0) 0), (.int (.ofNat 0) 0), (.int (.ofNat 3) 0), (.ref 180), (.bool true), (.int (.ofNat 181) 0), (.ref 181), .none, .none, .none, (.ref 182), (.int (.ofNat 2389) 0), (.int (.ofNat 152) 0), (.str ⟨⟨[47, 99, 108, 97, 105, 109, 47, 99, 117, 116, 46, 112, 121]⟩⟩ 2390)]⟩), ⟨[]⟩⟩
noncomputable def o_184_6 (P : Params) : Obj := ⟨(.type "function"), none, (.func ⟨⟨⟨[95, 108, 97, 119, 95, 114, 101, 97, 100]⟩⟩, ⟨⟨[95, 108, 97, 119, 95, 114, 101, 97, 100]⟩⟩, sParams (stm 19), .stmts (sBody (stm 19)), sScope (stm 19), 3, [], .none, .none, .none, (.str ⟨⟨[108, 97, 119, 95, 114, 119, 48, 49, 50, 49, 95, 48, 51]⟩⟩ 2357), none, (.ref 183), .none, 0⟩), ⟨[]⟩⟩
noncomputable def o_185_6 (P : Params) : Obj := ⟨(.type "tuple"), none, (.seq ⟨[]⟩ 0), ⟨[]⟩⟩
noncomputable def o_186_6 (P : Params) : Obj := ⟨.none, none, (.fields ⟨[]⟩), ⟨[]⟩⟩
noncomputable def o_187_6 (P : Params) : Obj := ⟨.none, none, (.func ⟨⟨⟨[95, 108, 97, 119, 95, 112, 114, 101, 112, 97, 114, 101, 100]⟩⟩, ⟨⟨[95, 108, 97, 119, 95, 112, 114, 101, 112, 97, 114, 101, 100]⟩⟩, sParams (stm 20), .stmts (sBody (stm 20)), sScope (stm 20), 0, [], .none, .none, .none, .none, none, .none, .none, 0⟩), ⟨[]⟩⟩
noncomputable def o_188_6 (P : Params) : Obj := ⟨(.type "code"), none, (.fields ⟨[(.str ⟨⟨[95, 108, 97, 119, 95, 112, 114, 101, 112, 97, 114, 101, 100]⟩⟩ 2392), (.str ⟨⟨[95, 108, 97, 119, 95, 112, 114, 101, 112, 97, 114, 101, 100]⟩⟩ 2393), (.str ⟨⟨[47, 99, 108, 97, 105, 109, 47, 99, 117, 116, 46, 112, 121]⟩⟩ 2394), (.int (.ofNat 170) 0), (.int (.ofNat 1) 0), (.int (.ofNat 0) 0), (.int (.ofNat 0) 0), (.int (.ofNat 3) 0), (.ref 185), (.bool true), (.int (.ofNat 181) 0), (.ref 186), .none, .none, .none, (.ref 187), (.int (.ofNat 2395) 0), (.int (.ofNat 170) 0), (.str ⟨⟨[47, 99, 108, 97, 105, 109, 47, 99, 117, 116, 46, 112, 121]⟩⟩ 2396)]⟩), ⟨[]⟩⟩
noncomputable def o_189_6 (P : Params) : Obj := ⟨(.type "function"), none, (.func ⟨⟨⟨[95, 108, 97, 119, 95, 112, 114, 101, 112, 97, 114, 101, 100]⟩⟩, ⟨⟨[95, 108, 97, 119, 95, 112, 114, 101, 112, 97, 114, 101, 100]⟩⟩, sParams (stm 20), .stmts (sBody (stm 20)), sScope (stm 20), 3, [], .none, .none, .none, (.str ⟨⟨[108, 97, 119, 95, 114, 119, 48, 49, 50, 49, 95, 48, 51]⟩⟩ 2357), none, (.ref 188), .none, 0⟩), ⟨[]⟩⟩
noncomputable def o_190_6 (P : Params) : Obj := ⟨(.type "tuple"), none, (.seq ⟨[]⟩ 0), ⟨[]⟩⟩
noncomputable def o_191_6 (P : Params) : Obj := ⟨.none, none, (.fields ⟨[]⟩), ⟨[]⟩⟩
noncomputable def o_192_6 (P : Params) : Obj := ⟨.none, none, (.func ⟨⟨⟨[95, 108, 97, 119, 95, 98, 97, 114, 101]⟩⟩, ⟨⟨[95, 108, 97, 119, 95, 98, 97, 114, 101]⟩⟩, sParams (stm 21), .stmts (sBody (stm 21)), sScope (stm 21), 0, [], .none, .none, .none, .none, none, .none, .none, 0⟩), ⟨[]⟩⟩
noncomputable def o_193_6 (P : Params) : Obj := ⟨(.type "code"), none, (.fields ⟨[(.str ⟨⟨[95, 108, 97, 119, 95, 98, 97, 114, 101]⟩⟩ 2398), (.str ⟨⟨[95, 108, 97, 119, 95, 98, 97, 114, 101]⟩⟩ 2399), (.str ⟨⟨[47, 99, 108, 97, 105, 109, 47, 99, 117, 116, 46, 112, 121]⟩⟩ 2400), (.int (.ofNat 176) 0), (.int (.ofNat 1) 0), (.int (.ofNat 0) 0), (.int (.ofNat 0) 0), (.int (.ofNat 3) 0), (.ref 190), (.bool true), (.int (.ofNat 181) 0), (.ref 191), .none, .none, .none, (.ref 192), (.int (.ofNat 2401) 0), (.int (.ofNat 176) 0), (.str ⟨⟨[47, 99, 108, 97, 105, 109, 47, 99, 117, 116, 46, 112, 121]⟩⟩ 2402)]⟩), ⟨[]⟩⟩
noncomputable def o_194_6 (P : Params) : Obj := ⟨(.type "function"), none, (.func ⟨⟨⟨[95, 108, 97, 119, 95, 98, 97, 114, 101]⟩⟩, ⟨⟨[95, 108, 97, 119, 95, 98, 97, 114, 101]⟩⟩, sParams (stm 21), .stmts (sBody (stm 21)), sScope (stm 21), 3, [], .none, .none, .none, (.str ⟨⟨[108, 97, 119, 95, 114, 119, 48, 49, 50, 49, 95, 48, 51]⟩⟩ 2357), none, (.ref 193), .none, 0⟩), ⟨[]⟩⟩
noncomputable def o_195_6 (P : Params) : Obj := ⟨(.type "tuple"), none, (.seq ⟨[]⟩ 0), ⟨[]⟩⟩
noncomputable def o_196_6 (P : Params) : Obj := ⟨.none, none, (.fields ⟨[]⟩), ⟨[]⟩⟩
noncomputable def o_197_6 (P : Params) : Obj := ⟨.none, none, (.func ⟨⟨⟨[95, 108, 97, 119, 95, 110, 117, 109, 98, 101, 114, 115]⟩⟩, ⟨⟨[95, 108, 97, 119, 95, 110, 117, 109, 98, 101, 114, 115]⟩⟩, sParams (stm 22), .stmts (sBody (stm 22)), sScope (stm 22), 0, [], .none, .none, .none, .none, none, .none, .none, 0⟩), ⟨[]⟩⟩
noncomputable def o_198_6 (P : Params) : Obj := ⟨(.type "code"), none, (.fields ⟨[(.str ⟨⟨[95, 108, 97, 119, 95, 110, 117, 109, 98, 101, 114, 115]⟩⟩ 2404), (.str ⟨⟨[95, 108, 97, 119, 95, 110, 117, 109, 98, 101, 114, 115]⟩⟩ 2405), (.str ⟨⟨[47, 99, 108, 97, 105, 109, 47, 99, 117, 116, 46, 112, 121]⟩⟩ 2406), (.int (.ofNat 178) 0), (.int (.ofNat 2) 0), (.int (.ofNat 0) 0), (.int (.ofNat 0) 0), (.int (.ofNat 3) 0), (.ref 195), (.bool true), (.int (.ofNat 181) 0), (.ref 196), .none, .none, .none, (.ref 197), (.int (.ofNat 2407) 0), (.int (.ofNat 178) 0), (.str ⟨⟨[47, 99, 108, 97, 105, 109, 47, 99, 117, 116, 46, 112, 121]⟩⟩ 2408)]⟩), ⟨[]⟩⟩
noncomputable def o_199_6 (P : Params) : Obj := ⟨(.type "function"), none, (.func ⟨⟨⟨[95, 108, 97, 119, 95, 110, 117, 109, 98, 101, 114, 115]⟩⟩, ⟨⟨[95, 108, 97, 119, 95, 110, 117, 109, 98, 101, 114, 115]⟩⟩, sParams (stm 22), .stmts (sBody (stm 22)), sScope (stm 22), 3, [], .none, .none, .none, (.str ⟨⟨[108, 97, 119, 95, 114, 119, 48, 49, 50, 49, 95, 48, 51]⟩⟩ 2357), none, (.ref 198), .none, 0⟩), ⟨[]⟩⟩
noncomputable def o_200_6 (P : Params) : Obj := ⟨(.type "tuple"), none, (.seq ⟨[]⟩ 0), ⟨[]⟩⟩
noncomputable def o_201_6 (P : Params) : Obj := ⟨.none, none, (.fields ⟨[]⟩), ⟨[]⟩⟩
noncomputable def o_202_6 (P : Params) : Obj := ⟨.none, none, (.func ⟨⟨⟨[95, 108, 97, 119, 95, 111, 114, 100, 101, 114, 115]⟩⟩, ⟨⟨[95, 108, 97, 119, 95, 111, 114, 100, 101, 114, 115]⟩⟩, sParams (stm 23), .stmts (sBody (stm 23)), sScope (stm 23), 0, [], .none, .none, .none, .none, none, .none, .none, 0⟩), ⟨[]⟩⟩
noncomputable def o_203_6 (P : Params) : Obj := ⟨(.type "code"), none, (.fields ⟨[(.str ⟨⟨[95, 108, 97, 119, 95, 111, 114, 100, 101, 114, 115]⟩⟩ 2410), (.str ⟨⟨[95, 108, 97, 119, 95, 111, 114, 100, 101, 114, 115]⟩⟩ 2411), (.str ⟨⟨[47, 99, 108, 97, 105, 109, 47, 99, 117, 116, 46, 112, 121]⟩⟩ 2412), (.int (.ofNat 195) 0), (.int (.ofNat 2) 0), (.int (.ofNat 0) 0), (.int (.ofNat 0) 0), (.int (.ofNat 3) 0), (.ref 200), (.bool true), (.int (.ofNat 181) 0), (.ref 201), .none, .none, .none, (.ref 202), (.int (.ofNat 2413) 0), (.int (.ofNat 195) 0), (.str ⟨⟨[47, 99, 108, 97, 105, 109, 47, 99, 117, 116, 46, 112, 121]⟩⟩ 2414)]⟩), ⟨[]⟩⟩
noncomputable def o_204_6 (P : Params) : Obj := ⟨(.type "function"), none, (.func ⟨⟨⟨[95, 108, 97, 119, 95, 111, 114, 100, 101, 114, 115]⟩⟩, ⟨⟨[95, 108, 97, 119, 95, 111, 114, 100, 101, 114, 115]⟩⟩, sParams (stm 23), .stmts (sBody (stm 23)), sScope (stm 23), 3, [], .none, .none, .none, (.str ⟨⟨[108, 97, 119, 95, 114, 119, 48, 49, 50, 49, 95, 48, 51]⟩⟩ 2357), none, (.ref 203), .none, 0⟩), ⟨[]⟩⟩
noncomputable def o_205_6 (P : Params) : Obj := ⟨(.type "tuple"), none, (.seq ⟨[]⟩ 0), ⟨[]⟩⟩
noncomputable def o_206_6 (P : Params) : Obj := ⟨.none, none, (.fields ⟨[]⟩), ⟨[]⟩⟩
noncomputable def o_207_6 (P : Params) : Obj := ⟨.none, none, (.func ⟨⟨⟨[108, 97, 119]⟩⟩, ⟨⟨[108, 97, 119]⟩⟩, sParams (stm 24), .stmts (sBody (stm 24)), sScope (stm 24), 0, [], .none, .none, .none, .none, none, .none, .none, 0⟩), ⟨[]⟩⟩
noncomputable def o_208_6 (P : Params) : Obj := ⟨(.type "code"), none, (.fields ⟨[(.str ⟨⟨[108, 97, 119]⟩⟩ 2416), (.str ⟨⟨[108, 97, 119]⟩⟩ 2417), (.str ⟨⟨[47, 99, 108, 97, 105, 109, 47, 99, 117, 116, 46, 112, 121]⟩⟩ 2418), (.int (.ofNat 203) 0), (.int (.ofNat 1) 0), (.int (.ofNat 0) 0), (.int (.ofNat 0) 0), (.int (.ofNat 3) 0), (.ref 205), (.bool true), (.int (.ofNat 181) 0), (.ref 206), .none, .none, .none, (.ref 207), (.int (.ofNat 2419) 0), (.int (.ofNat 203) 0), (.str ⟨⟨[47, 99, 108, 97, 105, 109, 47, 99, 117, 116, 46, 112, 121]⟩⟩ 2420)]⟩), ⟨[]⟩⟩
noncomputable def o_209_6 (P : Params) : Obj := ⟨(.type "function"), none, (.func ⟨⟨⟨[108, 97, 119]⟩⟩, ⟨⟨[108, 97, 119]⟩⟩, sParams (stm 24), .stmts (sBody (stm 24)), sScope (stm 24), 3, [], .none, .none, .none, (.str ⟨⟨[108, 97, 119, 95, 114, 119, 48, 49, 50, 49, 95, 48, 51]⟩⟩ 2357), none, (.ref 208), .none, 0⟩), ⟨[]⟩⟩
noncomputable def T_6 (P : Params) : BT := (.node (boot_o_0 P) (.node (boot_o_1 P) (.node (o_3_6 P) (.node (boot_o_7 P) (.node (o_15_1 P) (.node (o_31_1 P) (.node (o_63_2 P) (.node (subD 9) .nil .nil) (.node (o_191_6 P) .nil .nil)) (.node (o_95_2 P) (.node (o_159_6 P) .nil .nil) .nil)) (.node (o_47_1 P) (.node (o_79_2 P) (.node (subD 25) .nil .nil) (.node (o_207_6 P) .nil .nil)) (.node (o_111_4 P) (.node (o_175_6 P) .nil .nil) .nil))) (.node (o_23_1 P) (.node (o_39_1 P) (.node (o_71_2 P) (.node (subD 17) .nil .nil) (.node (o_199_6 P) .nil .nil)) (.node (o_103_3 P) (.node (o_167_6 P) .nil .nil) .nil)) (.node (o_55_1 P) (.node (o_87_2 P) (.node (subD 33) .nil .nil) .nil) (.node (subD 1) (.node (o_183_6 P) .nil .nil) .nil)))) (.node (o_11_a P) (.node (o_19_1 P) (.node (o_35_1 P) (.node (o_67_2 P) (.node (subD 13) .nil .nil) (.node (o_195_6 P) .nil .nil)) (.node (o_99_3 P) (.node (o_163_6 P) .nil .nil) .nil)) (.node (o_51_1 P) (.node (o_83_2 P) (.node (subD 29) .nil .nil) .nil) (.node (o_115_4 P) (.node (o_179_6 P) .nil .nil) .nil))) (.node (o_27_1 P) (.node (o_43_1 P) (.node (o_75_2 P) (.node (subD 21) .nil .nil) (.node (o_203_6 P) .nil .nil)) (.node (o_107_3 P) (.node (o_171_6 P) .nil .nil) .nil)) (.node (o_59_2 P) (.node (o_91_2 P) (.node (subD 37) .nil .nil) .nil) (.node (subD 5) (.node (o_187_6 P) .nil .nil) .nil))))) (.node (boot_o_5 P) (.node (boot_o_9 P) (.node (o_17_1 P) (.node (o_33_1 P) (.node (o_65_2 P) (.node (subD 11) .nil .nil) (.node (o_193_6 P) .nil .nil)) (.node (o_97_2 P) (.node (o_161_6 P) .nil .nil) .nil)) (.node (o_49_1 P) (.node (o_81_2 P) (.node (subD 27) .nil .nil) (.node (o_209_6 P) .nil .nil)) (.node (o_113_4 P) (.node (o_177_6 P) .nil .nil) .nil))) (.node (o_25_1 P) (.node (o_41_1 P) (.node (o_73_2 P) (.node (subD 19) .nil .nil) (.node (o_201_6 P) .nil .nil)) (.node (o_105_3 P) (.node (o_169_6 P) .nil .nil) .nil)) (.node (o_57_2 P) (.node (o_89_2 P) (.node (subD 35) .nil .nil) .nil) (.node (subD 3) (.node (o_185_6 P) .nil .nil) .nil)))) (.node (o_13_a P) (.node (o_21_1 P) (.node (o_37_1 P) (.node (o_69_2 P) (.node (subD 15) .nil .nil) (.node (o_197_6 P) .nil .nil)) (.node (o_101_3 P) (.node (o_165_6 P) .nil .nil) .nil)) (.node (o_53_1 P) (.node (o_85_2 P) (.node (subD 31) .nil .nil) .nil) (.node mainD (.node (o_181_6 P) .nil .nil) .nil))) (.node (o_29_1 P) (.node (o_45_1 P) (.node (o_77_2 P) (.node (subD 23) .nil .nil) (.node (o_205_6 P) .nil .nil)) (.node (o_109_3 P) (.node (o_173_6 P) .nil .nil) .nil)) (.node (o_61_2 P) (.node (o_93_2 P) (.node (o_157_6 P) .nil .nil) .nil) (.node (subD 7) (.node (o_189_6 P) .nil .nil) .nil)))))) (.node (boot_o_2 P) (.node (boot_o_4 P) (.node (boot_o_8 P) (.node (o_16_1 P) (.node (o_32_1 P) (.node (o_64_2 P) (.node (subD 10) .nil .nil) (.node (o_192_6 P) .nil .nil)) (.node (o_96_2 P) (.node (o_160_6 P) .nil .nil) .nil)) (.node (o_48_1 P) (.node (o_80_2 P) (.node (subD 26) .nil .nil) (.node (o_208_6 P) .nil .nil)) (.node (o_112_4 P) (.node (o_176_6 P) .nil .nil) .nil))) (.node (o_24_1 P) (.node (o_40_1 P) (.node (o_72_2 P) (.node (subD 18) .nil .nil) (.node (o_200_6 P) .nil .nil)) (.node (o_104_3 P) (.node (o_168_6 P) .nil .nil) .nil)) (.node (o_56_1 P) (.node (o_88_2 P) (.node (subD 34) .nil .nil) .nil) (.node (subD 2) (.node (o_184_6 P) .nil .nil) .nil)))) (.node (o_12_6 P) (.node (o_20_1 P) (.node (o_36_1 P) (.node (o_68_2 P) (.node (subD 14) .nil .nil) (.node (o_196_6 P) .nil .nil)) (.node (o_100_3 P) (.node (o_164_6 P) .nil .nil) .nil)) (.node (o_52_1 P) (.node (o_84_2 P) (.node (subD 30) .nil .nil) .nil) (.node (o_116_4 P) (.node (o_180_6 P) .nil .nil) .nil))) (.node (o_28_1 P) (.node (o_44_1 P) (.node (o_76_2 P) (.node (subD 22) .nil .nil) (.node (o_204_6 P) .nil .nil)) (.node (o_108_3 P) (.node (o_172_6 P) .nil .nil) .nil)) (.node (o_60_2 P) (.node (o_92_2 P) (.node (o_156_6 P) .nil .nil) .nil) (.node (subD 6) (.node (o_188_6 P) .nil .nil) .nil))))) (.node (boot_o_6 P) (.node (boot_o_10 P) (.node (o_18_1 P) (.node (o_34_1 P) (.node (o_66_2 P) (.node (subD 12) .nil .nil) (.node (o_194_6 P) .nil .nil)) (.node (o_98_2 P) (.node (o_162_6 P) .nil .nil) .nil)) (.node (o_50_1 P) (.node (o_82_2 P) (.node (subD 28) .nil .nil) .nil) (.node (o_114_4 P) (.node (o_178_6 P) .nil .nil) .nil))) (.node (o_26_1 P) (.node (o_42_1 P) (.node (o_74_2 P) (.node (subD 20) .nil .nil) (.node (o_202_6 P) .nil .nil)) (.node (o_106_3 P) (.node (o_170_6 P) .nil .nil) .nil)) (.node (o_58_2 P) (.node (o_90_2 P) (.node (subD 36) .nil .nil) .nil) (.node (subD 4) (.node (o_186_6 P) .nil .nil) .nil)))) (.node (o_14_a P) (.node (o_22_1 P) (.node (o_38_1 P) (.node (o_70_2 P) (.node (subD 16) .nil .nil) (.node (o_198_6 P) .nil .nil)) (.node (o_102_3 P) (.node (o_166_6 P) .nil .nil) .nil)) (.node (o_54_1 P) (.node (o_86_2 P) (.node (subD 32) .nil .nil) .nil) (.node (subD 0) (.node (o_182_6 P) .nil .nil) .nil))) (.node (o_30_1 P) (.node (o_46_1 P) (.node (o_78_2 P) (.node (subD 24) .nil .nil) (.node (o_206_6 P) .nil .nil)) (.node (o_110_4 P) (.node (o_174_6 P) .nil .nil) .nil)) (.node (o_62_2 P) (.node (o_94_2 P) (.node (o_158_6 P) .nil .nil) .nil) (.node (subD 8) (.node (o_190_6 P) .nil .nil) .nil)))))))
noncomputable abbrev tEnv : Env := { scope := PR.main.scope, locals := mainNs, globals := mainNs, cells := [], code := .ref 13, frame := some 14 }
noncomputable abbrev tCode : Code := .body (behindTheImports PR) tEnv
noncomputable abbrev q0 : Pos := ⟨0, 0, 0, 0⟩
noncomputable abbrev tAnn : Option Value := some (.ref 6)
noncomputable abbrev stT (t : Params → BT) (n k : Nat) (w : World) (os : OsState) : SharedT := ⟨t w.params, n, {}, ⟨[]⟩, {}, k, os⟩
theorem sg_tw : @segRunT = @PySem.W.Fast.tw10110043849684766642 := PySem.W.Fast.te10110043849684766642
theorem tt_tw : @treeTable = @PySem.W.Fast.tw14364793385576792824 := PySem.W.Fast.te14364793385576792824
theorem pc_pre : ∀ w : World, (fun os => topGo treeTable PR w 11 tAnn 12 ⟨boot_heap w.params, ⟨[]⟩, boot_drawn, boot_toks, os⟩ (topStub PR)) =
  fun os => some ((stT T_a 15 187 w os).abs, ⟨denote treeTable tCode, tCode, q0, [topFrame q0]⟩) := by
  intro w; kernel_rfl
theorem pc_0 : ∀ w : World, (fun os => segRunT treeTable PR w 11 tAnn 1 1 (stT T_a 15 187 w os) (blockOf (behindTheImports PR) tEnv tCode q0 [topFrame q0])) =
  fun os => some (.next, stT T_a 15 187 w os, tCode, q0) := by
  rw [sg_tw, tt_tw]; intro w; kernel_rfl
theorem pc_1 : ∀ w : World, (fun os => segRunT treeTable PR w 11 tAnn 1 239 (stT T_a 15 187 w os) (piecesOf [stm 0, stm 1, stm 2, stm 3, stm 4, stm 5, stm 6, stm 7, stm 8] tEnv tCode ⟨0, 0, 0, 0⟩ [topFrame q0])) =
  fun os => some (.next, stT T_1 57 271 w os, tCode, ⟨76, 0, 76, 8⟩) := by
  rw [sg_tw, tt_tw]
  intro w; kernel_rfl
theorem pc_2 : ∀ w : World, (fun os => segRunT treeTable PR w 11 tAnn 1 334 (stT T_1 57 271 w os) (piecesOf [stm 9, stm 10] tEnv tCode ⟨76, 0, 76, 8⟩ [topFrame q0])) =
  fun os => some (.next, stT T_2 99 331 w os, tCode, ⟨120, 0, 120, 8⟩) := by
  rw [sg_tw, tt_tw]
  intro w; kernel_rfl
theorem pc_3 : ∀ w : World, (fun os => segRunT treeTable PR w 11 tAnn 1 1000 (stT T_2 99 331 w os) (piecesOf [stm 11] tEnv tCode ⟨120, 0, 120, 8⟩ [topFrame q0])) =
  fun os => some (.next, stT T_3 110 391 w os, tCode, ⟨121, 0, 121, 6⟩) := by
  rw [sg_tw, tt_tw]
  refine byRow2 "set-order" (byRow2 "special-get-raises" ?_ ?_) (byRow2 "special-get-raises" ?_ ?_) <;> (intro w; kernel_rfl)
theorem pc_4 : ∀ w : World, (fun os => segRunT treeTable PR w 11 tAnn 1 31 (stT T_3 110 391 w os) (piecesOf [stm 12] tEnv tCode ⟨121, 0, 121, 6⟩ [topFrame q0])) =
  fun os => some (.next, stT T_4 117 398 w os, tCode, ⟨122, 0, 123, 30⟩) := by
  rw [sg_tw, tt_tw]
  intro w; kernel_rfl
/- the big table -/
noncomputable abbrev dPos : Pos := ⟨124, 16, 124, 8704⟩
noncomputable abbrev aPos : Pos := ⟨124, 0, 124, 8704⟩
noncomputable abbrev xPos : Pos := ⟨124, 0, 124, 13⟩
noncomputable abbrev dName : Str := Str.ofString "b3_exceptions"
theorem pairs_cut : pairs = pC0 ++ (pCs.flatten ++ pL) := by kernel_rfl
noncomputable def incr : List Int → Bool
  | [] => true
  | [_] => true
  | a :: b :: r => decide (a < b) && incr (b :: r)
theorem incr_pairwise : ∀ {l : List Int}, incr l = true → l.Pairwise (· < ·)
  | [], _ => .nil
  | [a], _ => .cons (fun _ h => nomatch h) .nil
  | a :: b :: r, h => by
    rw [incr, Bool.and_eq_true, decide_eq_true_eq] at h
    have ih := incr_pairwise h.2
    refine .cons (fun x hx => ?_) ih
    cases hx with
    | head => exact h.1
    | tail _ hx => exact Int.lt_trans h.1 (List.rel_of_pairwise_cons ih hx)
theorem pairs_nodup : (hs (pC0 ++ (pCs.flatten ++ pL))).Nodup := by
  rw [← pairs_cut]
  exact (incr_pairwise (by kernel_rfl : incr (hs pairs) = true)).imp fun h => Int.ne_of_lt h
theorem its_eq : (evalEachOpt (dKeys (stm 13)) tEnv).zip ((evalEach (dVals (stm 13)) tEnv).map fun v => do let x ← v; standAt dPos; pure x) = pairs.map (item dPos) := by kernel_rfl
noncomputable abbrev dTail (v : Value) : Sem Flow := standAt xPos >>= fun _ => bindName tEnv dName v >>= fun _ => pure .next
theorem dict_exec : exec (stm 13) tEnv = (standAt aPos >>= fun _ => standAt dPos >>= fun _ => dictDisplay (pairs.map (item dPos))) >>= dTail := by
  rw [← its_eq]
  have h : stm 13 = .Assign [.Name dName xPos] (.Dict (dKeys (stm 13)) (dVals (stm 13)) dPos) aPos := by kernel_rfl
  conv => lhs; rw [h]
  rw [exec_Assign_Name _ _ _ _ _ rfl]
  rfl
theorem dict_state : ∀ w : World, (fun os => (⟨Hs (absHeap (T_4 w.params) 117 {}) mainD subsD, ⟨[]⟩, {}, 398 + 51 + 51 * pCs.length + 2 * pL.length + pL.length, os⟩ : Shared)) = fun os => (stT T_d 156 2348 w os).abs := by
  intro w; kernel_rfl
theorem dc_end (p' : Pos) : ∀ w : World, (fun os => segRunT treeTable PR w 11 tAnn 1 20 (stT T_d 156 2348 w os) ⟨(dTail (.ref 117)).wrap doneF deadEnd id id, tCode, p', [topFrame q0]⟩) =
  fun os => some (.next, stT T_5 156 2349 w os, tCode, ⟨124, 0, 124, 13⟩) := by
  rw [sg_tw, tt_tw]; intro w; kernel_rfl
noncomputable abbrev tE (w : World) : TE := ⟨PR, w, 11, tAnn, tCode, q0⟩
theorem dict_run (w : World) (os : OsState) : Op (tE w) 70000 (standAt aPos >>= fun _ => standAt dPos >>= fun _ => dictDisplay (pairs.map (item dPos))) (stT T_4 117 398 w os).abs (.ref 117) (stT T_d 156 2348 w os).abs := by
  have hcs : pCs.length = 37 := by kernel_rfl
  have hsz : (stT T_4 117 398 w os).abs.heap.objs.size = 117 := absHeap_size _ _ _
  have h := Op.display (e := tE w) (s := (stT T_4 117 398 w os).abs) (dp := dPos) (c₀ := pC0) (cs := pCs) (l := pL) rfl (by rw [hsz]; exact (by decide : 11 ≤ 117)) (by rw [hsz]; decide) (by kernel_rfl) (fun c hc => by
    have : pCs.all (fun c => c.length == 17) = true := by kernel_rfl
    exact beq_iff_eq.mp (List.all_eq_true.mp this c hc)) (by have : pL.length = 4 := by kernel_rfl
                                                             omega) (by intro q; have : pL.length = 4 := by kernel_rfl
                                                                        rw [q] at this; cases this) (by omega) pairs_nodup
  rw [← pairs_cut, hsz] at h
  have e : ∀ x : Shared, x = (stT T_d 156 2348 w os).abs → Op (tE w) (3200 + 1600 * pCs.length) (dictDisplay (pairs.map (item dPos))) (stT T_4 117 398 w os).abs (.ref 117) x → Op (tE w) 69000 (dictDisplay (pairs.map (item dPos))) (stT T_4 117 398 w os).abs (.ref 117) (stT T_d 156 2348 w os).abs := fun x hx k => by
    subst hx; exact k.le (by rw [hcs]; decide)
  exact Op.bind Op.standAt (Op.bind Op.standAt ((e _ (congrFun (dict_state w) os) h).le (by decide)))
theorem pc_5 (w : World) (os : OsState) (rest : List Stmt) (N : Nat) (r : Shared) (k : topRun treeTable PR w 11 tAnn N (stT T_5 156 2349 w os).abs (restOf rest tEnv tCode ⟨124, 0, 124, 13⟩ [topFrame q0]) = some r) :
    ∃ n, n ≤ 70100 ∧ topRun treeTable PR w 11 tAnn (n + N) (stT T_4 117 398 w os).abs (restOf (stm 13 :: rest) tEnv tCode ⟨122, 0, 123, 30⟩ [topFrame q0]) = some r := by
  obtain ⟨n, pos', hn, h⟩ := dict_run w os (fun v => (dTail v).wrap (fun f => match f with | .next => (execs rest tEnv).wrap doneF (leaveH tEnv) id id | f => doneF f) (leaveH tEnv) id id) (leaveH tEnv) id id ⟨122, 0, 123, 30⟩
  have hs := segRun_of (congrFun (dc_end pos' w) os)
  obtain ⟨a, ha, hN⟩ := seg_top (res := id) (K' := fun f => match f with | .next => (execs rest tEnv).wrap doneF (leaveH tEnv) id id | f => doneF f) (H' := leaveH tEnv) (B := [topFrame q0]) rfl 20 _ ⟨(dTail (.ref 117)).wrap doneF deadEnd id id, tCode, pos', [topFrame q0]⟩
    ⟨(dTail (.ref 117)).wrap (fun f => match f with | .next => (execs rest tEnv).wrap doneF (leaveH tEnv) id id | f => doneF f) (leaveH tEnv) id id, tCode, pos', [topFrame q0]⟩ _ _ _ _ ⟨rfl, rfl, .inl ⟨rfl, rfl, _, rfl, rfl⟩⟩ hs
  obtain rfl : a = .next := ha
  refine ⟨n + 20, by omega, ?_⟩
  have := h (20 + N) r (hN N r k)
  unfold restOf
  rw [execs_cons_wrap, dict_exec, Sem.bind_eq_wrap', Sem.wrap_wrap, Nat.add_assoc]
  exact this
theorem pc_6 : ∀ w : World, (fun os => segRunT treeTable PR w 11 tAnn 1 286 (stT T_5 156 2349 w os) (piecesOf [stm 14, stm 15, stm 16, stm 17, stm 18, stm 19, stm 20, stm 21, stm 22, stm 23, stm 24] tEnv tCode ⟨124, 0, 124, 13⟩ [topFrame q0])) =
  fun os => some (.next, stT T_6 210 2422 w os, tCode, ⟨203, 0, 208, 62⟩) := by
  rw [sg_tw, tt_tw]
  intro w; kernel_rfl
theorem body_cut : behindTheImports PR = [stm 0, stm 1, stm 2, stm 3, stm 4, stm 5, stm 6, stm 7, stm 8] ++ ([stm 9, stm 10] ++ ([stm 11] ++ ([stm 12] ++ ([stm 13] ++ ([stm 14, stm 15, stm 16, stm 17, stm 18, stm 19, stm 20, stm 21, stm 22, stm 23, stm 24] ++ []))))) := by kernel_rfl
noncomputable def endHeap (P : Params) : Heap := absHeap (T_6 P) 210 {}
theorem fin_run (w : World) (os : OsState) : topRun treeTable PR w 11 tAnn 2 (stT T_6 210 2422 w os).abs (restOf [] tEnv tCode ⟨203, 0, 208, 62⟩ [topFrame q0]) = some (stT T_6 210 2422 w os).abs := by
  have h : ∀ w : World, (fun os => topRun treeTable PR w 11 tAnn 2 (stT T_6 210 2422 w os).abs (restOf [] tEnv tCode ⟨203, 0, 208, 62⟩ [topFrame q0])) = fun os => some (stT T_6 210 2422 w os).abs := by intro w; kernel_rfl
  exact congrFun (h w) os
theorem topRun_to {w : World} {n M : Nat} {s r : Shared} {t : Thread} (h : topRun treeTable PR w 11 tAnn n s t = some r) (hle : n ≤ M) : topRun treeTable PR w 11 tAnn M s t = some r := by
  have := topRun_mono (M - n) _ _ _ _ h
  rwa [Nat.add_sub_cancel' hle] at this
theorem whole_run (w : World) (os : OsState) : topRun treeTable PR w 11 tAnn 72005 ⟨boot_heap w.params, ⟨[]⟩, boot_drawn, boot_toks, os⟩ (topStub PR) = some (stT T_6 210 2422 w os).abs := by
  have k0 := fin_run w os
  have k1 := piece_app (q := q0) (segRun_of (congrFun (pc_6 w) os)) k0
  obtain ⟨n, hn, k2⟩ := pc_5 w os _ _ _ k1
  have k3 := piece_app (q := q0) (segRun_of (congrFun (pc_4 w) os)) k2
  have k4 := piece_app (q := q0) (segRun_of (congrFun (pc_3 w) os)) k3
  have k5 := piece_app (q := q0) (segRun_of (congrFun (pc_2 w) os)) k4
  have k6 := piece_app (q := q0) (segRun_of (congrFun (pc_1 w) os)) k5
  have hb : topRun treeTable PR w 11 tAnn _ (stT T_a 15 187 w os).abs (restOf (behindTheImports PR) tEnv tCode q0 [topFrame q0]) = some (stT T_6 210 2422 w os).abs := (congrArg (fun l => topRun treeTable PR w 11 tAnn _ (stT T_a 15 187 w os).abs (restOf l tEnv tCode q0 [topFrame q0])) body_cut).trans k6
  have kb := piece_block (q := q0) (segRun_of (congrFun (pc_0 w) os)) hb
  have kt := go_top (congrFun (pc_pre w) os) kb
  exact topRun_to kt (by omega)
end
end Mine
end
section
open PySem PySem.W PyProof.Rows
namespace Mine
/-! values: immutable ones by their structure, mutable ones by their place -/
inductive V where
  | none
  | bool (b : Bool)
  | int (i : Int)
  | str (s : List Nat)
  | tup (vs : List V)
  | lst (vs : List V)
  | rng (lo hi st : Int)
  | slc (lo hi st : Option Int)
  | loc (a : Addr)
  | raw (v : Value)
structure FnRec where
  name : Str
  qual : Str
  params : Arguments
  body : FuncBody
  scope : Scope
inductive PObj where
  | list (vs : List V)
  | ns (at_ : List (Str × V))
  | inst (cls : Addr) (d : Addr)
  | cell (v : Option V)
  | func (f : FnRec) (cap : List (Str × Addr)) (d : Option Addr)
  | bound (f : Value) (self : V)
  | citer (f : V) (sent : V)
  | cend
  | riter (vs : List V) (i : Nat)
noncomputable abbrev Store := Addr → Option PObj
noncomputable def upd (σ : Store) (a : Addr) (o : Option PObj) : Store := fun b => if b = a then o else σ b
theorem upd_self (σ : Store) (a : Addr) (o : Option PObj) : upd σ a o a = o := by simp [upd]
theorem upd_ne (σ : Store) {a b : Addr} (o : Option PObj) (h : b ≠ a) : upd σ a o b = σ b := by simp [upd, h]
structure Nest where
  table : Addr
  code : Addr
  defs : List (Pos × Str)
structure Ctx where
  prog : Program
  w : World
  h1 : Heap
  mg : Str → Option Value
  mb : Str → Option Value
  nest : List Nest
  gens : Array GenState
  os : OsState
noncomputable def Ctx.tabs (C : Ctx) : List Addr := C.nest.map (·.table)
noncomputable abbrev tupO (items : Array Value) (n : Nat) : Obj := { cls := .type "tuple", dict := none, data := .seq items n, slots := #[] }
noncomputable abbrev citO (v u e : Value) : Obj := { cls := .type "callable_iterator", dict := none, data := .fields #[v, u, e], slots := #[] }
noncomputable abbrev revO (v : Value) (i : Int) : Obj := { cls := .type "list_reverseiterator", dict := none, data := .fields #[v, .int i 0], slots := #[] }
noncomputable abbrev lstO (items : Array Value) (n : Nat) : Obj := { cls := .type "list", dict := none, data := .seq items n, slots := #[] }
mutual
inductive Rel (C : Ctx) (σ : Store) (h : Heap) : Value → V → Prop
  | none : Rel C σ h .none .none
  | bool (b : Bool) : Rel C σ h (.bool b) (.bool b)
  | int (i : Int) (t : Tok) : Rel C σ h (.int i t) (.int i)
  | str (s : List Nat) (t : Tok) : Rel C σ h (.str ⟨s.toArray⟩ t) (.str s)
  | tup {a : Addr} {items : List Value} {n : Nat} {vs : List V} (ho : h.get? a = some (tupO items.toArray n)) (hσ : σ a = Option.none) (ht : a ∉ C.tabs) (hr : Rels C σ h items vs) : Rel C σ h (.ref a) (.tup vs)
  | lst {a : Addr} {items : List Value} {n : Nat} {vs : List V} (ho : h.get? a = some (lstO items.toArray n)) (hσ : σ a = Option.none) (ht : a ∉ C.tabs) (hr : Rels C σ h items vs) : Rel C σ h (.ref a) (.lst vs)
  | rng {a : Addr} {lo hi st : Int} {t u v : Tok} (ho : IsRange h a lo hi st t u v) (hσ : σ a = Option.none) (ht : a ∉ C.tabs) : Rel C σ h (.ref a) (.rng lo hi st)
  | slc {a : Addr} {l u t : Option (Int × Tok)} (ho : h.get? a = some { cls := .type "slice", dict := none, data := .fields #[partValue l, partValue u, partValue t], slots := #[] }) (hσ : σ a = Option.none) (ht : a ∉ C.tabs) :
      Rel C σ h (.ref a) (.slc (l.map (·.1)) (u.map (·.1)) (t.map (·.1)))
  | loc (a : Addr) : Rel C σ h (.ref a) (.loc a)
  | raw (v : Value) : Rel C σ h v (.raw v)
inductive Rels (C : Ctx) (σ : Store) (h : Heap) : List Value → List V → Prop
  | nil : Rels C σ h [] []
  | cons {v : Value} {pv : V} {l : List Value} {pl : List V} (hv : Rel C σ h v pv) (hl : Rels C σ h l pl) : Rels C σ h (v :: l) (pv :: pl)
end
/-- what a machine's value is, when its pure one is known -/
noncomputable def RelI (C : Ctx) (σ : Store) (h : Heap) (x : Value) : V → Prop
  | .none => x = .none
  | .bool b => x = .bool b
  | .int i => ∃ t, x = .int i t
  | .str s => ∃ t, x = .str ⟨s.toArray⟩ t
  | .loc a => x = .ref a
  | .raw v => x = v
  | .tup vs => ∃ a items n, x = .ref a ∧ h.get? a = some (tupO items n) ∧ σ a = Option.none ∧ a ∉ C.tabs ∧ Rels C σ h items.toList vs
  | .lst vs => ∃ a items n, x = .ref a ∧ h.get? a = some (lstO items n) ∧ σ a = Option.none ∧ a ∉ C.tabs ∧ Rels C σ h items.toList vs
  | .rng lo hi st => ∃ a t u v, x = .ref a ∧ IsRange h a lo hi st t u v ∧ σ a = Option.none ∧ a ∉ C.tabs
  | _ => ∀ _ : Nat, True
theorem Rel.inv {C : Ctx} {σ : Store} {h : Heap} {x : Value} {pv : V} (r : Rel C σ h x pv) : RelI C σ h x pv := by
  cases r <;> first | rfl | exact ⟨_, rfl⟩ | exact ⟨_, _, _, rfl, ‹_›, ‹_›, ‹_›, ‹_›⟩ | exact ⟨_, _, _, _, rfl, ‹_›, ‹_›, ‹_›⟩ | exact fun _ => trivial
noncomputable def RelsI (C : Ctx) (σ : Store) (h : Heap) (l : List Value) : List V → Prop
  | [] => l = []
  | p :: ps => ∃ v l', l = v :: l' ∧ Rel C σ h v p ∧ Rels C σ h l' ps
theorem Rels.inv {C : Ctx} {σ : Store} {h : Heap} {l : List Value} {pl : List V} (r : Rels C σ h l pl) : RelsI C σ h l pl := by
  cases r with
  | nil => rfl
  | cons a b => exact ⟨_, _, rfl, a, b⟩
theorem Rels.ind {C : Ctx} {σ : Store} {h : Heap} {P : List Value → List V → Prop} (n : P [] []) (c : ∀ v pv l pl, Rel C σ h v pv → Rels C σ h l pl → P l pl → P (v :: l) (pv :: pl)) {l : List Value} {pl : List V} (r : Rels C σ h l pl) : P l pl :=
  Rels.rec (motive_1 := fun _ _ _ => True) (motive_2 := fun l pl _ => P l pl) trivial (fun _ => trivial) (fun _ _ => trivial) (fun _ _ => trivial) (fun _ _ _ _ _ => trivial) (fun _ _ _ _ _ => trivial) (fun _ _ _ => trivial) (fun _ _ _ => trivial) (fun _ => trivial) (fun _ => trivial) n (fun hv hl _ ih => c _ _ _ _ hv hl ih) r
/-- an object that never changes: a row, a range -/
noncomputable def Fixed (o : Obj) : Prop := (∃ items n, o.data = .seq items n) ∨ ((o.cls = .type "range" ∨ o.cls = .type "slice") ∧ ∃ vs, o.data = .fields vs)
/-- what a change of heap and store must keep for values to mean the same -/
structure SeqKeep (C : Ctx) (σ : Store) (h : Heap) (σ' : Store) (h' : Heap) : Prop where
  keep : ∀ a o, h.get? a = some o → Fixed o → σ a = none → a ∉ C.tabs → h'.get? a = some o
  free : ∀ a o, h.get? a = some o → Fixed o → σ a = none → a ∉ C.tabs → σ' a = none
theorem Rel.mono {C : Ctx} {σ σ' : Store} {h h' : Heap} (k : SeqKeep C σ h σ' h') {v : Value} {pv : V} (r : Rel C σ h v pv) : Rel C σ' h' v pv :=
  Rel.rec (motive_1 := fun v pv _ => Rel C σ' h' v pv) (motive_2 := fun l pl _ => Rels C σ' h' l pl) .none .bool .int .str
    (fun ho hσ ht _ ih => .tup (k.keep _ _ ho (.inl ⟨_, _, rfl⟩) hσ ht) (k.free _ _ ho (.inl ⟨_, _, rfl⟩) hσ ht) ht ih)
    (fun ho hσ ht _ ih => .lst (k.keep _ _ ho (.inl ⟨_, _, rfl⟩) hσ ht) (k.free _ _ ho (.inl ⟨_, _, rfl⟩) hσ ht) ht ih)
    (fun ho hσ ht => .rng (k.keep _ _ ho (.inr ⟨.inl rfl, _, rfl⟩) hσ ht) (k.free _ _ ho (.inr ⟨.inl rfl, _, rfl⟩) hσ ht) ht)
    (fun ho hσ ht => .slc (k.keep _ _ ho (.inr ⟨.inr rfl, _, rfl⟩) hσ ht) (k.free _ _ ho (.inr ⟨.inr rfl, _, rfl⟩) hσ ht) ht)
    .loc .raw .nil (fun _ _ a b => .cons a b) r
theorem Rels.mono {C : Ctx} {σ σ' : Store} {h h' : Heap} (k : SeqKeep C σ h σ' h') {l : List Value} {pl : List V} (r : Rels C σ h l pl) : Rels C σ' h' l pl := r.ind (P := Rels C σ' h') .nil fun _ _ _ _ hv _ ih => .cons (hv.mono k) ih
theorem Rels.length {C : Ctx} {σ : Store} {h : Heap} {l : List Value} {pl : List V} (r : Rels C σ h l pl) : l.length = pl.length := r.ind (P := fun l pl => l.length = pl.length) rfl fun _ _ _ _ _ _ ih => congrArg (· + 1) ih
theorem Rels.get {C : Ctx} {σ : Store} {h : Heap} {l : List Value} {pl : List V} (r : Rels C σ h l pl) {i : Nat} {pv : V} (e : pl[i]? = some pv) : ∃ v, l[i]? = some v ∧ Rel C σ h v pv :=
  r.ind (P := fun l pl => ∀ i pv, pl[i]? = some pv → ∃ v, l[i]? = some v ∧ Rel C σ h v pv) (fun _ _ e => absurd (List.getElem?_nil.symm.trans e) (Option.some_ne_none _).symm)
    (fun v p l pl hv _ ih i => Nat.casesOn i (fun q e => ⟨v, rfl, Option.some.inj e ▸ hv⟩) (fun i q e => ih i q e)) i pv e
theorem Rels.append {C : Ctx} {σ : Store} {h : Heap} {l l' : List Value} {pl pl' : List V} (r : Rels C σ h l pl) (r' : Rels C σ h l' pl') : Rels C σ h (l ++ l') (pl ++ pl') := r.ind (P := fun l pl => Rels C σ h (l ++ l') (pl ++ pl')) r' fun _ _ _ _ hv _ ih => .cons hv ih
/-- the machine's objects that the store speaks of -/
inductive EntR (C : Ctx) (σ : Store) (h : Heap) : List DictEntry → List (Str × V) → Prop
  | nil : EntR C σ h [] []
  | cons {x : Str} {t : Tok} {hs : Int} {v : Value} {pv : V} {es : List DictEntry} {at_ : List (Str × V)} (hv : Rel C σ h v pv) (hl : EntR C σ h es at_) : EntR C σ h (⟨hs, .str x t, v⟩ :: es) ((x, pv) :: at_)
theorem EntR.mono {C : Ctx} {σ σ' : Store} {h h' : Heap} (k : SeqKeep C σ h σ' h') {es : List DictEntry} {at_ : List (Str × V)} (x : EntR C σ h es at_) : EntR C σ' h' es at_ := by
  induction x with
  | nil => exact .nil
  | cons hv _ ih => exact .cons (hv.mono k) ih
/-- a code object, that nobody owns -/
noncomputable def CodeOk (C : Ctx) (σ : Store) (h : Heap) (cd : Value) (q : Str) : Prop := h.CodeRec cd q ∧ ∀ c, cd = .ref c → σ c = none ∧ c ∉ C.tabs
theorem datN {a b : Data} (h : a = b) (k : Nat.beq a.ctorIdx b.ctorIdx = false) : False := by
  subst h
  rw [Nat.beq_refl] at k
  cases k
inductive FnRel (C : Ctx) (σ : Store) (h : Heap) (a : Addr) (f : FnRec) (cap : List (Str × Addr)) (d : Option Addr) : Prop
  | mk (o : Obj) (fd : FuncData) (h0 : h.get? a = some o) (h1 : o.cls = .type "function") (h2 : o.dict = d) (h3 : o.data = .func fd) (h4 : fd.name = f.name) (h5 : fd.qualname = f.qual) (h6 : fd.params = f.params) (h7 : fd.body = f.body) (h8 : fd.scope = f.scope)
      (h9 : fd.globals = mainGlobals) (h10 : fd.closure = cap) (h11 : fd.defaults = .none) (h12 : fd.kwdefaults = .none) (h13 : fd.builtins = builtinsNs) (h14 : CodeOk C σ h fd.code f.qual)
noncomputable def ObjRel (C : Ctx) (σ : Store) (h : Heap) (a : Addr) : PObj → Prop
  | .list vs => ∃ items n, h.get? a = some (lstO items n) ∧ Rels C σ h items.toList vs
  | .ns at_ => ∃ es n, h.get? a = some (dictOf es n) ∧ EntR C σ h es at_
  | .inst c d => h.get? a = some (instObj c d)
  | .cell none => h.IsCell a none
  | .cell (some pv) => ∃ v, h.IsCell a (some v) ∧ Rel C σ h v pv
  | .func f cap d => FnRel C σ h a f cap d
  | .bound f self => ∃ v, h.get? a = some (methodObj f v) ∧ Rel C σ h v self
  | .citer f sent => ∃ v u, h.get? a = some (citO v u (.bool false)) ∧ Rel C σ h v f ∧ Rel C σ h u sent
  | .cend => h.get? a = some (citO .none .none (.bool true))
  | .riter vs i => ∃ l, h.get? a = some (revO (.ref l) ((i : Int) - 1)) ∧ Rel C σ h (.ref l) (.lst vs)
/-- a code's table of the codes that its defs have made -/
noncomputable def TabOk (C : Ctx) (σ : Store) (h : Heap) (n : Nest) : Prop :=
  ∃ ps, h.get? n.table = some (tabObj ps) ∧ TriplesOk ps.toList ∧ ∀ d ∈ n.defs, ∀ cv, codeAmong d.1 ps.toList = some cv → CodeOk C σ h cv d.2
structure Inv (C : Ctx) (σ : Store) (s : Shared) : Prop where
  base : ∀ a o, C.h1.get? a = some o → a ∉ C.tabs → s.heap.get? a = some o
  top : ∃ o, C.h1.get? (C.h1.objs.size - 1) = some o ∧ C.h1.objs.size - 1 ∉ C.tabs ∧ 0 < C.h1.objs.size
  own : ∀ a o, σ a = some o → C.h1.objs.size ≤ a ∧ ObjRel C σ s.heap a o
  tabLt : ∀ n ∈ C.nest, n.table < C.h1.objs.size
  tabs : ∀ n ∈ C.nest, TabOk C σ s.heap n
  gens : s.gens = C.gens
  os : s.os = C.os
theorem Inv.size {C : Ctx} {σ : Store} {s : Shared} (i : Inv C σ s) : C.h1.objs.size ≤ s.heap.objs.size := by
  refine Classical.byContradiction fun hbc => ?_
  obtain ⟨o, h1, h2, h3⟩ := i.top
  refine hbc ?_
  clear hbc
  have h4 : C.h1.objs.size - 1 < s.heap.objs.size := Heap.lt_size (i.base _ o h1 h2)
  exact Nat.le_of_pred_lt h4
structure Ext (C : Ctx) (σ : Store) (h : Heap) (σ' : Store) (h' : Heap) : Prop where
  keep : ∀ a o, h.get? a = some o → σ a = none → a ∉ C.tabs → h'.get? a = some o
  free : ∀ a o, h.get? a = some o → σ a = none → a ∉ C.tabs → σ' a = none
  cell : ∀ c v, σ c = some (.cell v) → ∃ v', σ' c = some (.cell v')
theorem Ext.seq {C : Ctx} {σ σ' : Store} {h h' : Heap} (x : Ext C σ h σ' h') : SeqKeep C σ h σ' h' := ⟨fun a o ho _ hs ht => x.keep a o ho hs ht, fun a o ho _ hs ht => x.free a o ho hs ht⟩
theorem Ext.refl {C : Ctx} {σ : Store} {h : Heap} : Ext C σ h σ h := ⟨fun _ _ e _ _ => e, fun _ _ _ e _ => e, fun _ v e => ⟨v, e⟩⟩
theorem Ext.trans {C : Ctx} {σ σ₁ σ₂ : Store} {h h₁ h₂ : Heap} (x : Ext C σ h σ₁ h₁) (y : Ext C σ₁ h₁ σ₂ h₂) : Ext C σ h σ₂ h₂ :=
  ⟨fun a o e hs ht => y.keep a o (x.keep a o e hs ht) (x.free a o e hs ht) ht, fun a o e hs ht => y.free a o (x.keep a o e hs ht) (x.free a o e hs ht) ht, fun c v e => let ⟨_, e'⟩ := x.cell c v e; y.cell c _ e'⟩
structure Kx where
  names : List (Str × NameKind)
  qual : Str
  code : Value
  d : Nat
inductive Slot where
  | val (v : V)
  | sh (c : Addr)
  | emp
noncomputable abbrev Fm := List (Str × Slot)
inductive SlotL (C : Ctx) (K : Kx) (env : Env) (σ : Store) (h : Heap) (x : Str) (pv : V) : Prop
  | mk (h1 : K.names.lookup x = some .local) (m : Str → Option Value) (v : Value) (h2 : h.Ns env.locals m) (h3 : m x = some v) (h4 : Rel C σ h v pv)
inductive SlotC (C : Ctx) (K : Kx) (env : Env) (σ : Store) (h : Heap) (x : Str) (pv : V) : Prop
  | mk (h1 : K.names.lookup x = some .cell ∨ K.names.lookup x = some .free) (c : Addr) (v : Value) (h2 : env.cells.lookup x = some c) (h3 : h.IsCell c (some v)) (h4 : Rel C σ h v pv) (h5 : σ c = none) (h6 : c ∉ C.tabs)
structure CellF (C : Ctx) (env : Env) (σ : Store) (h : Heap) (c : Addr) : Prop where
  ne : env.locals ≠ c
  lo : C.h1.objs.size ≤ c
  nt : c ∉ C.tabs
  ex : σ c = none → ∃ v, h.IsCell c v
  cl : ∀ o, σ c = some o → ∃ v, o = .cell v
noncomputable def SlotOk (C : Ctx) (K : Kx) (env : Env) (σ : Store) (h : Heap) (x : Str) : Slot → Prop
  | .val pv => SlotL C K env σ h x pv ∨ SlotC C K env σ h x pv
  | .sh c => (K.names.lookup x = some .cell ∨ K.names.lookup x = some .free) ∧ env.cells.lookup x = some c ∧ ∃ o, σ c = some (.cell o)
  | .emp => K.names.lookup x = some .cell ∧ ∃ c, env.cells.lookup x = some c ∧ (∃ v : { v : Option Value // v = Option.none }, h.IsCell c v) ∧ σ c = none ∧ c ∉ C.tabs
structure Rep (C : Ctx) (K : Kx) (env : Env) (ρ : Fm) (σ : Store) (h : Heap) : Prop where
  kind : env.scope.kind = .function
  names : env.scope.names = K.names
  glob : env.globals = mainGlobals
  blt : env.builtins = builtinsNs
  qual : env.qual = K.qual
  code : env.code = K.code
  loc : ∃ m, h.Ns env.locals m
  locF : σ env.locals = none ∧ env.locals ∉ C.tabs ∧ C.h1.objs.size ≤ env.locals
  cells : ∀ x c, env.cells.lookup x = some c → CellF C env σ h c
  cinj : ∀ x y c, env.cells.lookup x = some c → env.cells.lookup y = some c → x = y
  vars : ∀ p ∈ ρ, SlotOk C K env σ h p.1 p.2
noncomputable def AOk (d : Nat) (A : Around) : Prop := A.handled = none ∧ A.depth + d ≤ 990 ∧ A.units + 10 * d ≤ 9800
theorem Rep.mono {C : Ctx} {K : Kx} {env : Env} {ρ : Fm} {σ σ' : Store} {h h' : Heap} (r : Rep C K env ρ σ h) (x : Ext C σ h σ' h') : Rep C K env ρ σ' h' := by
  have hcell := x.cell
  obtain ⟨m, hm⟩ := r.loc
  have hns : ∀ m, h.Ns env.locals m → h'.Ns env.locals m := fun m ⟨o, es, ep, ho, q⟩ => ⟨o, es, ep, x.keep _ _ ho r.locF.1 r.locF.2.1, q⟩
  have hce : ∀ c v, σ c = none → c ∉ C.tabs → h.IsCell c v → h'.IsCell c v := fun c v hs ht ⟨o, ho, hd⟩ => ⟨o, x.keep _ _ ho hs ht, hd⟩
  refine ⟨r.kind, r.names, r.glob, r.blt, r.qual, r.code, ⟨m, hns m hm⟩, ⟨(let ⟨o, es, ep, ho, q⟩ := hm; x.free _ o ho r.locF.1 r.locF.2.1), r.locF.2⟩, fun y c hc => ?_, r.cinj, fun p hp => ?_⟩
  · refine Classical.byContradiction fun hbc => ?_
    obtain ⟨h1, h2, h3, h4, h5⟩ := r.cells y c hc
    refine hbc ?_
    clear hbc
    refine ⟨h1, h2, h3, fun hs => ?_, fun o hs => ?_⟩
    · cases hq : σ c with
      | none => obtain ⟨v, hv⟩ := h4 hq; exact ⟨v, hce c v hq h3 hv⟩
      | some o =>
        refine Classical.byContradiction fun hbc => ?_
        obtain ⟨v, rfl⟩ := h5 o hq
        obtain ⟨o', e'⟩ := hcell c v hq
        refine hbc ?_
        clear hbc
        (first | obtain rfl := Option.some.inj (e'.symm.trans hs) | exact absurd (e'.symm.trans hs) (Option.some_ne_none _) | exact absurd (e'.symm.trans hs).symm (Option.some_ne_none _) | exact (datN (e'.symm.trans hs) rfl).elim | (rw [e'] at hs; cases hs))
    · cases hq : σ c with
      | none =>
        obtain ⟨v, hv⟩ := h4 hq
        have := (let ⟨o', ho', _⟩ := hv; x.free c o' ho' hq h3)
        (first | obtain rfl := Option.some.inj (this.symm.trans hs) | exact absurd (this.symm.trans hs) (Option.some_ne_none _) | exact absurd (this.symm.trans hs).symm (Option.some_ne_none _) | exact (datN (this.symm.trans hs) rfl).elim | (rw [this] at hs; cases hs))
      | some o₀ =>
        refine Classical.byContradiction fun hbc => ?_
        obtain ⟨v, rfl⟩ := h5 o₀ hq
        obtain ⟨o', e'⟩ := hcell c v hq
        refine hbc ?_
        clear hbc
        (first | obtain rfl := Option.some.inj (e'.symm.trans hs) | exact absurd (e'.symm.trans hs) (Option.some_ne_none _) | exact absurd (e'.symm.trans hs).symm (Option.some_ne_none _) | exact (datN (e'.symm.trans hs) rfl).elim | (rw [e'] at hs; cases hs)); exact ⟨o', rfl⟩
  · have hv := r.vars p hp
    obtain ⟨y, sl⟩ := p
    cases sl with
    | val pv =>
      rcases hv with ⟨h1, m, v, h2, h3, h4⟩ | ⟨h1, c, v, h2, h3, h4, h5, h6⟩
      · exact .inl ⟨h1, m, v, hns m h2, h3, h4.mono x.seq⟩
      · exact .inr ⟨h1, c, v, h2, hce c _ h5 h6 h3, h4.mono x.seq, (let ⟨o', ho', _⟩ := h3; x.free c o' ho' h5 h6), h6⟩
    | sh c =>
      refine Classical.byContradiction fun hbc => ?_
      obtain ⟨h1, h2, o, h3⟩ := hv
      obtain ⟨o', e'⟩ := hcell c o h3
      refine hbc ?_
      clear hbc
      exact ⟨h1, h2, o', e'⟩
    | emp =>
      refine Classical.byContradiction fun hbc => ?_
      obtain ⟨h1, c, h2, ⟨v, h3⟩, h5, h6⟩ := hv
      refine hbc ?_
      clear hbc
      exact ⟨h1, c, h2, ⟨v, hce c _ h5 h6 h3⟩, (let ⟨o', ho', _⟩ := h3; x.free c o' ho' h5 h6), h6⟩

/-! the judgements: each says that the machine's tree, from every state that the pure one tells, ends as the pure one says -/
noncomputable def EvP (C : Ctx) (K : Kx) (ρ : Fm) (σ : Store) (e : Expr) (Q : V → Store → Prop) (X : Value → Shared → Prop) : Prop :=
  ∀ (A : Around) (env : Env) (s : Shared), AOk K.d A → Rep C K env ρ σ s.heap → Inv C σ s → ∀ QM : Value → Shared → Prop,
    (∀ v pv σ' s', Q pv σ' → Inv C σ' s' → Ext C σ s.heap σ' s'.heap → Rel C σ' s'.heap v pv → QM v s') → wpAny (model C.prog C.w) A (eval e env) QM X s
/-- a list of expressions, from left to right -/
noncomputable def EvsP (C : Ctx) (K : Kx) (ρ : Fm) : List Expr → Store → (List V → Store → Prop) → (Value → Shared → Prop) → Prop
  | [], σ, Q, _ => Q [] σ
  | e :: r, σ, Q, X => EvP C K ρ σ e (fun pv σ₁ => EvsP C K ρ r σ₁ (fun pl σ₂ => Q (pv :: pl) σ₂) X) X
noncomputable def TsP (C : Ctx) (K : Kx) (ρ : Fm) (σ : Store) (e : Expr) (Q : Bool → Store → Prop) (X : Value → Shared → Prop) : Prop :=
  ∀ (A : Around) (env : Env) (s : Shared), AOk K.d A → Rep C K env ρ σ s.heap → Inv C σ s → ∀ QM : Bool → Shared → Prop,
    (∀ b σ' s', Q b σ' → Inv C σ' s' → Ext C σ s.heap σ' s'.heap → QM b s') → wpAny (model C.prog C.w) A (isTrue e env (eval e env)) QM X s
inductive Fl where
  | next | brk | cont
  | ret (v : V)
noncomputable def FlRel (C : Ctx) (σ : Store) (h : Heap) : Flow → Fl → Prop
  | .next, .next => True
  | .brk, .brk => True
  | .cont, .cont => True
  | .ret v, .ret pv => Rel C σ h v pv
  | _, _ => False
/-- the frame's own places: its locals, and its own cells that no closure shares -/
noncomputable def Foot (env : Env) (a : Addr) : Prop := a = env.locals ∨ ∃ x, env.scope.names.lookup x = some .cell ∧ env.cells.lookup x = some a
structure ExtF (C : Ctx) (env : Env) (σ : Store) (h : Heap) (σ' : Store) (h' : Heap) : Prop where
  keep : ∀ a o, h.get? a = some o → σ a = none → a ∉ C.tabs → ¬ Foot env a → h'.get? a = some o
  free : ∀ a o, h.get? a = some o → σ a = none → a ∉ C.tabs → ¬ Foot env a → σ' a = none
  cell : ∀ c v, σ c = some (.cell v) → ∃ v', σ' c = some (.cell v')
theorem Ext.toF {C : Ctx} {env : Env} {σ σ' : Store} {h h' : Heap} (x : Ext C σ h σ' h') : ExtF C env σ h σ' h' := ⟨fun a o e hs ht _ => x.keep a o e hs ht, fun a o e hs ht _ => x.free a o e hs ht, x.cell⟩
theorem ExtF.refl {C : Ctx} {env : Env} {σ : Store} {h : Heap} : ExtF C env σ h σ h := Ext.refl.toF
theorem ExtF.trans {C : Ctx} {env : Env} {σ σ₁ σ₂ : Store} {h h₁ h₂ : Heap} (x : ExtF C env σ h σ₁ h₁) (y : ExtF C env σ₁ h₁ σ₂ h₂) : ExtF C env σ h σ₂ h₂ :=
  ⟨fun a o e hs ht hf => y.keep a o (x.keep a o e hs ht hf) (x.free a o e hs ht hf) ht hf, fun a o e hs ht hf => y.free a o (x.keep a o e hs ht hf) (x.free a o e hs ht hf) ht hf, fun c v e => let ⟨_, e'⟩ := x.cell c v e; y.cell c _ e'⟩
noncomputable def ExP (C : Ctx) (K : Kx) (ρ : Fm) (σ : Store) (ss : List Stmt) (Q : Fl → Fm → Store → Prop) (X : Value → Shared → Prop) : Prop :=
  ∀ (A : Around) (env : Env) (s : Shared), AOk K.d A → Rep C K env ρ σ s.heap → Inv C σ s → ∀ QM : Flow → Shared → Prop,
    (∀ f fl ρ' σ' s', Q fl ρ' σ' → FlRel C σ' s'.heap f fl → Rep C K env ρ' σ' s'.heap → Inv C σ' s' → ExtF C env σ s.heap σ' s'.heap → QM f s') → wpAny (model C.prog C.w) A (execs ss env) QM X s
noncomputable def StP (C : Ctx) (K : Kx) (ρ : Fm) (σ : Store) (st : Stmt) (Q : Fl → Fm → Store → Prop) (X : Value → Shared → Prop) : Prop :=
  ∀ (A : Around) (env : Env) (s : Shared), AOk K.d A → Rep C K env ρ σ s.heap → Inv C σ s → ∀ QM : Flow → Shared → Prop,
    (∀ f fl ρ' σ' s', Q fl ρ' σ' → FlRel C σ' s'.heap f fl → Rep C K env ρ' σ' s'.heap → Inv C σ' s' → ExtF C env σ s.heap σ' s'.heap → QM f s') → wpAny (model C.prog C.w) A (exec st env) QM X s
/-- a value is stored into a target -/
noncomputable def AsP (C : Ctx) (K : Kx) (ρ : Fm) (σ : Store) (t : Expr) (pv : V) (Q : Fm → Store → Prop) (X : Value → Shared → Prop) : Prop :=
  ∀ (A : Around) (env : Env) (s : Shared) (v : Value), AOk K.d A → Rep C K env ρ σ s.heap → Inv C σ s → Rel C σ s.heap v pv → ∀ QM : Unit → Shared → Prop,
    (∀ ρ' σ' s', Q ρ' σ' → Rep C K env ρ' σ' s'.heap → Inv C σ' s' → ExtF C env σ s.heap σ' s'.heap → QM () s') → wpAny (model C.prog C.w) A (assign t env v) QM X s
noncomputable def Bot : Value → Shared → Prop := fun _ _ => False
/-! the first rules -/
section
variable {C : Ctx} {K : Kx} {ρ : Fm} {σ : Store} {X : Value → Shared → Prop}
theorem EvP.mono {e : Expr} {Q Q' : V → Store → Prop} (h : EvP C K ρ σ e Q X) (k : ∀ v σ', Q v σ' → Q' v σ') : EvP C K ρ σ e Q' X :=
  fun A env s ha hr hi QM hq => h A env s ha hr hi QM fun v pv σ' s' q => hq v pv σ' s' (k _ _ q)
theorem TsP.mono {e : Expr} {Q Q' : Bool → Store → Prop} (h : TsP C K ρ σ e Q X) (k : ∀ v σ', Q v σ' → Q' v σ') : TsP C K ρ σ e Q' X :=
  fun A env s ha hr hi QM hq => h A env s ha hr hi QM fun b σ' s' q => hq b σ' s' (k _ _ q)
theorem ExP.mono {ss : List Stmt} {Q Q' : Fl → Fm → Store → Prop} (h : ExP C K ρ σ ss Q X) (k : ∀ f ρ' σ', Q f ρ' σ' → Q' f ρ' σ') : ExP C K ρ σ ss Q' X :=
  fun A env s ha hr hi QM hq => h A env s ha hr hi QM fun f fl ρ' σ' s' q => hq f fl ρ' σ' s' (k _ _ _ q)
theorem Inv.toks {s : Shared} {t : Nat} (i : Inv C σ s) : Inv C σ { s with toks := t } := ⟨i.base, i.top, i.own, i.tabLt, i.tabs, i.gens, i.os⟩
theorem ev_none {k : Nat} {pos : Pos} {Q : V → Store → Prop} (h : Q .none σ) : EvP C K ρ σ (.Constant .none k pos) Q X :=
  fun A env s ha hr hi QM hq => wpAny_Constant_none (hq _ _ _ _ h hi .refl .none)
theorem ev_bool {b : Bool} {k : Nat} {pos : Pos} {Q : V → Store → Prop} (h : Q (.bool b) σ) : EvP C K ρ σ (.Constant (.bool b) k pos) Q X :=
  fun A env s ha hr hi QM hq => wpAny_Constant_bool (hq _ _ _ _ h hi .refl (.bool b))
theorem ev_int {i : Int} {k : Nat} {pos : Pos} {Q : V → Store → Prop} (h : Q (.int i) σ) : EvP C K ρ σ (.Constant (.int i) k pos) Q X :=
  fun A env s ha hr hi QM hq => wpAny_Constant_int (hq _ _ _ _ h hi.toks .refl (.int i _))
theorem ev_str {x : Str} {k : Nat} {pos : Pos} {Q : V → Store → Prop} (h : Q (.str x.cps.toList) σ) : EvP C K ρ σ (.Constant (.str x) k pos) Q X :=
  fun A env s ha hr hi QM hq => wpAny_Constant_str (hq _ _ _ _ h hi.toks .refl (.str x.cps.toList _))
/-- a name that the frame holds -/
theorem ev_name {x : Str} {pos : Pos} {v : V} {Q : V → Store → Prop} (hx : (x, Slot.val v) ∈ ρ) (h : Q v σ) (hd : (x == ("__debug__" : Str)) = false := by decide) (hn : (x == ("__classdict__" : Str)) = false := by decide) :
    EvP C K ρ σ (.Name x pos) Q X := fun A env s ha hr hi QM hq => by
  refine wpAny_Name ?_ hd
  rcases hr.vars _ hx with ⟨h1, m, mv, h2, h3, h4⟩ | ⟨h1, c, mv, h2, h3, h4, _, _⟩
  · exact wpAny_loadName_local hr.kind ((congrArg (·.lookup x) hr.names).trans h1) h2 h3 (hq _ _ _ _ h hi .refl h4)
  · rcases h1 with h1 | h1
    · exact wpAny_loadName_cell hr.kind ((congrArg (·.lookup x) hr.names).trans h1) h2 h3 (hq _ _ _ _ h hi .refl h4)
    · exact wpAny_loadName_free hr.kind ((congrArg (·.lookup x) hr.names).trans h1) h2 h3 (hq _ _ _ _ h hi .refl h4) hn
theorem ev_nameC {x : Str} {pos : Pos} {c : Addr} {v : V} {Q : V → Store → Prop} (hx : (x, Slot.sh c) ∈ ρ) (hc : σ c = some (.cell (some v))) (h : Q v σ) (hd : (x == ("__debug__" : Str)) = false := by decide) (hn : (x == ("__classdict__" : Str)) = false := by decide) :
    EvP C K ρ σ (.Name x pos) Q X := fun A env s ha hr hi QM hq => by
  refine wpAny_Name ?_ hd
  refine Classical.byContradiction fun hbc => ?_
  obtain ⟨h1, h2, _⟩ := hr.vars _ hx
  obtain ⟨mv, h3, h4⟩ := (hi.own c _ hc).2
  refine hbc ?_
  clear hbc
  rcases h1 with h1 | h1
  · exact wpAny_loadName_cell hr.kind ((congrArg (·.lookup x) hr.names).trans h1) h2 h3 (hq _ _ _ _ h hi .refl h4)
  · exact wpAny_loadName_free hr.kind ((congrArg (·.lookup x) hr.names).trans h1) h2 h3 (hq _ _ _ _ h hi .refl h4) hn
end
end Mine
end
section
open PySem PySem.W PyProof.Rows PySem.Calls
namespace Mine
noncomputable def M1 (C : Ctx) (d : Nat) (m : Value → Sem Value) (a : V) (σ : Store) (Q : V → Store → Prop) (X : Value → Shared → Prop) : Prop :=
  ∀ (A : Around) (s : Shared) (x : Value), AOk d A → Inv C σ s → Rel C σ s.heap x a → ∀ QM : Value → Shared → Prop,
    (∀ v pv σ' s', Q pv σ' → Inv C σ' s' → Ext C σ s.heap σ' s'.heap → Rel C σ' s'.heap v pv → QM v s') → wpAny (model C.prog C.w) A (m x) QM X s
noncomputable def M2 (C : Ctx) (d : Nat) (m : Value → Value → Sem Value) (a b : V) (σ : Store) (Q : V → Store → Prop) (X : Value → Shared → Prop) : Prop :=
  ∀ (A : Around) (s : Shared) (x y : Value), AOk d A → Inv C σ s → Rel C σ s.heap x a → Rel C σ s.heap y b → ∀ QM : Value → Shared → Prop,
    (∀ v pv σ' s', Q pv σ' → Inv C σ' s' → Ext C σ s.heap σ' s'.heap → Rel C σ' s'.heap v pv → QM v s') → wpAny (model C.prog C.w) A (m x y) QM X s
/-- the truth of a value -/
noncomputable def M1B (C : Ctx) (d : Nat) (a : V) (σ : Store) (Q : Bool → Store → Prop) (X : Value → Shared → Prop) : Prop :=
  ∀ (A : Around) (s : Shared) (x : Value), AOk d A → Inv C σ s → Rel C σ s.heap x a → ∀ QM : Bool → Shared → Prop,
    (∀ b σ' s', Q b σ' → Inv C σ' s' → Ext C σ s.heap σ' s'.heap → QM b s') → wpAny (model C.prog C.w) A (truthy x) QM X s
section
variable {C : Ctx} {K : Kx} {ρ : Fm} {σ : Store} {X : Value → Shared → Prop}
/-- facts of the base heap -/
structure Ctx.Ok (C : Ctx) : Prop where
  g : C.h1.Ns mainGlobals C.mg
  b : C.h1.Ns builtinsNs C.mb
  gt : mainGlobals ∉ C.tabs
  bt : builtinsNs ∉ C.tabs
theorem Inv.ns (i : Inv C σ s) {a : Addr} {m : Str → Option Value} (h : C.h1.Ns a m) (ht : a ∉ C.tabs) : s.heap.Ns a m :=
  let ⟨o, es, ep, e, r⟩ := h; ⟨o, es, ep, i.base a o e ht, r⟩
theorem ev_global (O : C.Ok) {x : Str} {pos : Pos} {v : Value} {Q : V → Store → Prop} (hk : K.names.lookup x = some .globalImplicit) (hv : C.mg x = some v) (h : Q (.raw v) σ) (hd : (x == ("__debug__" : Str)) = false := by decide) :
    EvP C K ρ σ (.Name x pos) Q X := fun A env s ha hr hi QM hq =>
  Name_function_global hr.kind ((congrArg (·.lookup x) hr.names).trans hk) (loadGlobal_global (hr.glob ▸ hi.ns O.g O.gt) hv (hq _ _ _ _ h hi .refl (.raw v))) hd
theorem ev_builtin (O : C.Ok) {x : Str} {pos : Pos} {v : Value} {Q : V → Store → Prop} (hk : K.names.lookup x = some .globalImplicit) (hm : C.mg x = none) (hv : C.mb x = some v) (h : Q (.raw v) σ) (hd : (x == ("__debug__" : Str)) = false := by decide) :
    EvP C K ρ σ (.Name x pos) Q X := fun A env s ha hr hi QM hq =>
  Name_function_global hr.kind ((congrArg (·.lookup x) hr.names).trans hk) (loadGlobal_builtin (hr.glob ▸ hi.ns O.g O.gt) hm (hr.blt ▸ hi.ns O.b O.bt) hv (hq _ _ _ _ h hi .refl (.raw v))) hd
/-! one after the other -/
theorem seq2 {A : Around} {env : Env} {s : Shared} {l r : Expr} {P : V → Store → Prop} {R : V → V → Store → Prop} (ha : AOk K.d A) (hr : Rep C K env ρ σ s.heap) (hi : Inv C σ s)
    (h : EvP C K ρ σ l (fun a σ₁ => EvP C K ρ σ₁ r (fun b σ₂ => R a b σ₂) X) X) {QM : Value → Value → Shared → Prop}
    (k : ∀ x y a b σ₂ s₂, R a b σ₂ → Inv C σ₂ s₂ → Ext C σ s.heap σ₂ s₂.heap → Rel C σ₂ s₂.heap x a → Rel C σ₂ s₂.heap y b → QM x y s₂) :
    wpAny (model C.prog C.w) A (eval l env) (fun x s₁ => wpAny (model C.prog C.w) A (eval r env) (fun y s₂ => QM x y s₂) X s₁) X s :=
  h A env s ha hr hi _ fun x a σ₁ s₁ h₁ i₁ e₁ r₁ => h₁ A env s₁ ha (hr.mono e₁) i₁ _ fun y b σ₂ s₂ h₂ i₂ e₂ r₂ => k x y a b σ₂ s₂ h₂ i₂ (e₁.trans e₂) (r₁.mono e₂.seq) r₂
theorem ev_bin {l r : Expr} {op : Operator} {pos : Pos} {Q : V → Store → Prop} (h : EvP C K ρ σ l (fun a σ₁ => EvP C K ρ σ₁ r (fun b σ₂ => M2 C K.d (binaryOp op) a b σ₂ Q X) X) X) :
    EvP C K ρ σ (.BinOp l op r pos) Q X := fun A env s ha hr hi QM hq =>
  wpAny_BinOp (seq2 (P := fun _ _ => True) ha hr hi h fun x y a b σ₂ s₂ h₂ i₂ e₂ rx ry => h₂ A s₂ x y ha i₂ rx ry _ fun v pv σ₃ s₃ q i₃ e₃ r₃ => hq v pv σ₃ s₃ q i₃ (e₂.trans e₃) r₃)
theorem ev_cmp {l r : Expr} {op : CmpOp} {pos : Pos} {Q : V → Store → Prop} (h : EvP C K ρ σ l (fun a σ₁ => EvP C K ρ σ₁ r (fun b σ₂ => M2 C K.d (compareOp op) a b σ₂ Q X) X) X)
    (hm : behindInMarks op r = false := by with_unfolding_all rfl) : EvP C K ρ σ (.Compare l [op] [r] pos) Q X := fun A env s ha hr hi QM hq =>
  wpAny_Compare1 (seq2 (P := fun _ _ => True) ha hr hi h fun x y a b σ₂ s₂ h₂ i₂ e₂ rx ry => h₂ A s₂ x y ha i₂ rx ry _ fun v pv σ₃ s₃ q i₃ e₃ r₃ => hq v pv σ₃ s₃ q i₃ (e₂.trans e₃) r₃) hm
theorem ts_cmp {l r : Expr} {op : CmpOp} {pos : Pos} {Q : Bool → Store → Prop}
    (h : EvP C K ρ σ l (fun a σ₁ => EvP C K ρ σ₁ r (fun b σ₂ => M2 C K.d (compareOp op) a b σ₂ (fun v σ₃ => ∃ b, v = .bool b ∧ Q b σ₃) X) X) X)
    (hm : behindInMarks op r = false := by with_unfolding_all rfl) : TsP C K ρ σ (.Compare l [op] [r] pos) Q X := fun A env s ha hr hi QM hq =>
  wpAny_isTrue_Compare1 (seq2 (P := fun _ _ => True) ha hr hi h fun x y a b σ₂ s₂ h₂ i₂ e₂ rx ry => h₂ A s₂ x y ha i₂ rx ry _ fun v pv σ₃ s₃ q i₃ e₃ r₃ => by
    obtain ⟨b, rfl, q⟩ := q; cases r₃
    exact wpAny_truthy_bool (hq b σ₃ s₃ q i₃ (e₂.trans e₃))) hm
theorem ev_un {x : Expr} {op : UnaryOp} {pos : Pos} {Q : V → Store → Prop} (h : EvP C K ρ σ x (fun a σ₁ => M1 C K.d (unaryOp op) a σ₁ Q X) X) : EvP C K ρ σ (.UnaryOp op x pos) Q X := fun A env s ha hr hi QM hq =>
  wpAny_UnaryOp (h A env s ha hr hi _ fun v a σ₁ s₁ h₁ i₁ e₁ r₁ => h₁ A s₁ v ha i₁ r₁ _ fun v' pv σ₂ s₂ q i₂ e₂ r₂ => hq v' pv σ₂ s₂ q i₂ (e₁.trans e₂) r₂)
theorem ev_ifexp {t a b : Expr} {pos : Pos} {Q : V → Store → Prop} (h : TsP C K ρ σ t (fun c σ₁ => if c then EvP C K ρ σ₁ a Q X else EvP C K ρ σ₁ b Q X) X) : EvP C K ρ σ (.IfExp t a b pos) Q X := fun A env s ha hr hi QM hq =>
  wpAny_IfExp (h A env s ha hr hi _ fun c σ₁ s₁ h₁ i₁ e₁ => by
    cases c <;> exact h₁ A env s₁ ha (hr.mono e₁) i₁ _ fun v pv σ₂ s₂ q i₂ e₂ r₂ => hq v pv σ₂ s₂ q i₂ (e₁.trans e₂) r₂)
theorem ts_and_nil {pos : Pos} {Q : Bool → Store → Prop} (h : Q true σ) : TsP C K ρ σ (.BoolOp .And [] pos) Q X := fun A env s ha hr hi QM hq => isTrue_and_nil (hq true σ s h hi .refl)
theorem ts_and {x : Expr} {r : List Expr} {pos : Pos} {Q : Bool → Store → Prop} (h : TsP C K ρ σ x (fun c σ₁ => if c then TsP C K ρ σ₁ (.BoolOp .And r pos) Q X else Q false σ₁) X) : TsP C K ρ σ (.BoolOp .And (x :: r) pos) Q X := fun A env s ha hr hi QM hq =>
  isTrue_and (h A env s ha hr hi _ fun c σ₁ s₁ h₁ i₁ e₁ => by
    cases c
    · exact hq false σ₁ s₁ h₁ i₁ e₁
    · exact h₁ A env s₁ ha (hr.mono e₁) i₁ _ fun b σ₂ s₂ q i₂ e₂ => hq b σ₂ s₂ q i₂ (e₁.trans e₂))
/-- a test that is a value's truth -/
theorem ts_val {e : Expr} {Q : Bool → Store → Prop} (h : EvP C K ρ σ e (fun v σ₁ => M1B C K.d v σ₁ Q X) X)
    (he : ∀ env whole, isTrue e env whole = (do let v ← whole; standAt e.pos; holding [v] (truthy v)) := by intro _ _; rfl) : TsP C K ρ σ e Q X := fun A env s ha hr hi QM hq =>
  wpAny_isTrue_value (h A env s ha hr hi _ fun v pv σ₁ s₁ h₁ i₁ e₁ r₁ => h₁ A s₁ v ha i₁ r₁ _ fun b σ₂ s₂ q i₂ e₂ => hq b σ₂ s₂ q i₂ (e₁.trans e₂)) (he env _)
theorem ev_and_one {x : Expr} {op : BoolOp} {pos : Pos} {Q : V → Store → Prop} (h : EvP C K ρ σ x Q X) : EvP C K ρ σ (.BoolOp op [x] pos) Q X := fun A env s ha hr hi QM hq => BoolOp_one (h A env s ha hr hi QM hq)
theorem ev_and {x y : Expr} {r : List Expr} {pos : Pos} {Q : V → Store → Prop}
    (h : EvP C K ρ σ x (fun v σ₁ => M1B C K.d v σ₁ (fun c σ₂ => σ₂ = σ₁ ∧ if c then EvP C K ρ σ₂ (.BoolOp .And (y :: r) pos) Q X else Q v σ₂) X) X) : EvP C K ρ σ (.BoolOp .And (x :: y :: r) pos) Q X := fun A env s ha hr hi QM hq =>
  BoolOp_and (h A env s ha hr hi _ fun v pv σ₁ s₁ h₁ i₁ e₁ r₁ => h₁ A s₁ v ha i₁ r₁ _ fun c σ₂ s₂ q i₂ e₂ => by
    obtain ⟨rfl, q⟩ := q
    cases c
    · exact hq v pv σ₂ s₂ q i₂ (e₁.trans e₂) (r₁.mono e₂.seq)
    · exact q A env s₂ ha (hr.mono (e₁.trans e₂)) i₂ _ fun v pv σ₃ s₃ q i₃ e₃ r₃ => hq v pv σ₃ s₃ q i₃ ((e₁.trans e₂).trans e₃) r₃)
/-! numbers -/
open Builtin in
inductive Bin : Operator → V → V → V → Prop where
  | add (a b : Int) : Bin .Add (.int a) (.int b) (.int (a + b))
  | sub (a b : Int) : Bin .Sub (.int a) (.int b) (.int (a - b))
  | mul (a b : Int) (h : IntMulOk a b) : Bin .Mult (.int a) (.int b) (.int (a * b))
  | fdiv (a b : Int) (h : b ≠ 0) (hp : b.natAbs.log2 < 9000) : Bin .FloorDiv (.int a) (.int b) (.int (a.fdiv b))
  | mod (a b : Int) (h : b ≠ 0) (hp : b.natAbs.log2 < 9000) : Bin .Mod (.int a) (.int b) (.int (a.fmod b))
  | and (a b : Int) : Bin .BitAnd (.int a) (.int b) (.int (bitAnd a b))
  | or (a b : Int) : Bin .BitOr (.int a) (.int b) (.int (bitOr a b))
  | xor (a b : Int) : Bin .BitXor (.int a) (.int b) (.int (bitXor a b))
  | shl (a n : Int) (hn : 0 ≤ n) (h : (Builtin.Int.intBits a : Int) + n ≤ 2 ^ 27) : Bin .LShift (.int a) (.int n) (.int (a * 2 ^ n.toNat))
  | shr (a n : Int) (hn : 0 ≤ n) : Bin .RShift (.int a) (.int n) (.int (a.fdiv (2 ^ n.toNat)))
  | pow (a n : Int) (hn : 0 ≤ n) (h : (Builtin.Int.intBits a : Int) * n ≤ 2 ^ 27) : Bin .Pow (.int a) (.int n) (.int (a ^ n.toNat))
  | cat (x y : List Nat) (h : x.length + y.length ≤ 2 ^ 24) : Bin .Add (.str x) (.str y) (.str (x ++ y))
  | rep (x : List Nat) (n : Nat) (h : n * x.length ≤ 2 ^ 24) (hn : n ≤ 2 ^ 24) : Bin .Mult (.str x) (.int n) (.str (List.replicate n x).flatten)
theorem foldl_app (l : List (Array Nat)) : ∀ a : Array Nat, (l.foldl (· ++ ·) a).toList = a.toList ++ (l.map Array.toList).flatten := by
  induction l with
  | nil => intro a; simp
  | cons x l ih => intro a; simp [ih]
theorem str_of (x : Str) (l : List Nat) (h : x.cps.toList = l) : x = ⟨l.toArray⟩ := by cases x; subst h; rfl
theorem Rel.strOf {C : Ctx} {σ : Store} {h : Heap} {x : Str} {t : Tok} {l : List Nat} (e : x.cps.toList = l) : Rel C σ h (.str x t) (.str l) := by
  rw [str_of x l e]; exact .str l t
/-- two numbers, or two words, and what comes of them -/
theorem m2_ii {d : Nat} {f : Value → Value → Sem Value} {a b c : Int} {Q : V → Store → Prop} (q : Q (.int c) σ) (k : ∀ {A : Around} {s : Shared} {t u : Tok} {QM : Value → Shared → Prop}, (∀ z tk, QM (.int c z) { s with toks := tk }) → wpAny (model C.prog C.w) A (f (.int a t) (.int b u)) QM X s) : M2 C d f (.int a) (.int b) σ Q X := fun A s x y ha hi hx hy QM hq => by
  obtain ⟨t, rfl⟩ := Rel.inv hx; obtain ⟨u, rfl⟩ := Rel.inv hy
  exact k fun z tk => hq _ _ _ _ q hi.toks .refl (.int _ _)
theorem m2_ib {d : Nat} {f : Value → Value → Sem Value} {a b : Int} {c : Bool} {Q : V → Store → Prop} (q : Q (.bool c) σ) (k : ∀ {A : Around} {s : Shared} {t u : Tok} {QM : Value → Shared → Prop}, QM (.bool c) s → wpAny (model C.prog C.w) A (f (.int a t) (.int b u)) QM X s) : M2 C d f (.int a) (.int b) σ Q X := fun A s x y ha hi hx hy QM hq => by
  obtain ⟨t, rfl⟩ := Rel.inv hx; obtain ⟨u, rfl⟩ := Rel.inv hy
  exact k (hq _ _ _ _ q hi .refl (.bool _))
theorem m2_sb {d : Nat} {f : Value → Value → Sem Value} {a b : List Nat} {c : Bool} {Q : V → Store → Prop} (q : Q (.bool c) σ) (k : ∀ {A : Around} {s : Shared} {t u : Tok} {QM : Value → Shared → Prop}, QM (.bool c) s → wpAny (model C.prog C.w) A (f (.str ⟨a.toArray⟩ t) (.str ⟨b.toArray⟩ u)) QM X s) : M2 C d f (.str a) (.str b) σ Q X := fun A s x y ha hi hx hy QM hq => by
  obtain ⟨t, rfl⟩ := Rel.inv hx; obtain ⟨u, rfl⟩ := Rel.inv hy
  exact k (hq _ _ _ _ q hi .refl (.bool _))
theorem m2_ss {d : Nat} {f : Value → Value → Sem Value} {a b : List Nat} {Q : V → Store → Prop} (q : Q (.str (a ++ b)) σ) (k : ∀ {A : Around} {s : Shared} {t u : Tok} {QM : Value → Shared → Prop}, (∀ z tk, QM (.str (⟨a.toArray⟩ ++ ⟨b.toArray⟩) z) { s with toks := tk }) → wpAny (model C.prog C.w) A (f (.str ⟨a.toArray⟩ t) (.str ⟨b.toArray⟩ u)) QM X s) : M2 C d f (.str a) (.str b) σ Q X := fun A s x y ha hi hx hy QM hq => by
  obtain ⟨t, rfl⟩ := Rel.inv hx; obtain ⟨u, rfl⟩ := Rel.inv hy
  exact k fun z tk => hq _ _ _ _ q hi.toks .refl (.strOf (by show (a.toArray ++ b.toArray).toList = _; simp))
theorem m2_rep {d : Nat} {x : List Nat} {n : Nat} {Q : V → Store → Prop} (h : n * x.length ≤ 2 ^ 24) (hn : n ≤ 2 ^ 24) (q : Q (.str (List.replicate n x).flatten) σ) : M2 C d (binaryOp .Mult) (.str x) (.int n) σ Q X := fun A s x' y ha hi hx hy QM hq => by
  obtain ⟨t, rfl⟩ := Rel.inv hx; obtain ⟨u, rfl⟩ := Rel.inv hy
  refine P.mul_str (by simp; lia) (fun h1 h2 => ?_) (fun h1 h2 => ?_) ?_
  · show ¬ ((x.toArray.size : Int) > _)
    have hx : (x.length : Int) ≤ (2 ^ 63 - 1) / (n : Int) := by
      have hn0 : (0 : Int) < n := by lia
      rw [Int.le_ediv_iff_mul_le hn0]
      have : x.length * n ≤ 2 ^ 24 := by rw [Nat.mul_comm]; exact h
      have : ((x.length * n : Nat) : Int) ≤ 2 ^ 24 := by exact_mod_cast this
      simp at this; lia
    simpa using hx
  · show decide (x.toArray.size * (n : Int).toNat > 2 ^ 24) = false
    have : x.length * n ≤ 2 ^ 24 := by rw [Nat.mul_comm]; exact h
    simpa using this
  · have hpost : (∀ v t', v.cps.toList = (List.replicate n x).flatten → QM (.str v t') { s with toks := s.toks + 1 }) := fun v t' e => hq _ _ _ _ q hi.toks .refl (.strOf e)
    by_cases h1 : (n : Int) < 1
    · rw [if_pos h1]
      have : n = 0 := by lia
      subst this
      exact ⟨by decide, hpost _ _ (by simp [PySem.Str.empty])⟩
    · rw [if_neg h1]
      by_cases h2 : ((n : Int) == 1 || PySem.Str.length ⟨x.toArray⟩ == 0) = true
      · rw [if_pos h2]
        have : (List.replicate n x).flatten = x := by
          simp [PySem.Str.length] at h2
          rcases h2 with h2 | h2
          · have : n = 1 := by lia
            subst this; simp
          · subst h2; simp
        rw [this] at q
        exact hq _ _ _ _ q hi .refl (.str x t)
      · rw [if_neg h2]
        have e : ((List.replicate (n : Int).toNat x.toArray).foldl (· ++ ·) #[]).toList = (List.replicate n x).flatten := by rw [foldl_app]; simp
        refine ⟨?_, hpost _ _ e⟩
        show ((List.replicate (n : Int).toNat x.toArray).foldl (· ++ ·) #[]).size ≤ 2 ^ 24
        rw [← Array.length_toList, e]; simpa using h
theorem bin_ {d : Nat} {op : Operator} {a b v : V} {Q : V → Store → Prop} (h : Bin op a b v) (q : Q v σ) : M2 C d (binaryOp op) a b σ Q X :=
  (Bin.casesOn (motive := fun op a b v _ => Q v σ → M2 C d (binaryOp op) a b σ Q X) h
    (fun a b q => m2_ii q fun h => P.add_int (h _ _))
    (fun a b q => m2_ii q fun h => P.sub_int (h _ _))
    (fun a b h' q => m2_ii q fun h => P.mul_int (h _ _) h')
    (fun a b h' hp q => m2_ii q fun h => floordiv_int h' (h _ _) (.inl (PyProof.noPylong_of_log2 hp)))
    (fun a b h' hp q => m2_ii q fun h => mod_int' h' (h _ _))
    (fun a b q => m2_ii q fun h => and_int (h _ _))
    (fun a b q => m2_ii q fun h => or_int (h _ _))
    (fun a b q => m2_ii q fun h => xor_int (h _ _))
    (fun a n hn h' q => m2_ii q fun h => lshift_int hn h' (h _ _))
    (fun a n hn q => m2_ii q fun h => rshift_int hn (h _ _))
    (fun a n hn h' q => m2_ii q fun h => pow_int hn h' (h _ _))
    (fun x y h' q => m2_ss q fun h => add_str h (by show x.toArray.size + y.toArray.size ≤ 2 ^ 24; simpa using h'))
    (fun x n h hn q => m2_rep h hn q)) q
/-! comparing numbers and words -/
inductive Cmp : CmpOp → V → V → Bool → Prop where
  | eq (a b : Int) : Cmp .Eq (.int a) (.int b) (a == b)
  | ne (a b : Int) : Cmp .NotEq (.int a) (.int b) (a != b)
  | lt (a b : Int) : Cmp .Lt (.int a) (.int b) (decide (a < b))
  | le (a b : Int) : Cmp .LtE (.int a) (.int b) (decide (a ≤ b))
  | gt (a b : Int) : Cmp .Gt (.int a) (.int b) (decide (a > b))
  | ge (a b : Int) : Cmp .GtE (.int a) (.int b) (decide (a ≥ b))
  | seq (a b : List Nat) : Cmp .Eq (.str a) (.str b) (a == b)
  | sne (a b : List Nat) : Cmp .NotEq (.str a) (.str b) (a != b)
  | isB (a b : Bool) : Cmp .Is (.bool a) (.bool b) (a == b)
  | isntN_str (a : List Nat) : Cmp .IsNot (.str a) .none true
  | isntN_none : Cmp .IsNot .none .none false
theorem isB_ {d : Nat} {a b : Bool} {Q : V → Store → Prop} (q : Q (.bool (a == b)) σ) : M2 C d (compareOp .Is) (.bool a) (.bool b) σ Q X := fun A s x y ha hi hx hy QM hq => by
  obtain rfl := Rel.inv hx; obtain rfl := Rel.inv hy
  have := hq _ _ _ _ q hi .refl (.bool _)
  cases a <;> cases b <;> exact fun _ _ _ => this
theorem isntS_ {d : Nat} {a : List Nat} {Q : V → Store → Prop} (q : Q (.bool true) σ) : M2 C d (compareOp .IsNot) (.str a) .none σ Q X := fun A s x y ha hi hx hy QM hq => by
  obtain ⟨t, rfl⟩ := Rel.inv hx; obtain rfl := Rel.inv hy
  exact isNot_none (hq _ _ _ _ q hi .refl (.bool _))
theorem isntN_ {d : Nat} {Q : V → Store → Prop} (q : Q (.bool false) σ) : M2 C d (compareOp .IsNot) .none .none σ Q X := fun A s x y ha hi hx hy QM hq => by
  obtain rfl := Rel.inv hx; obtain rfl := Rel.inv hy
  exact isNot_none (hq _ _ _ _ q hi .refl (.bool _))
theorem cmp_ {d : Nat} {op : CmpOp} {a b : V} {r : Bool} {Q : V → Store → Prop} (h : Cmp op a b r) (q : Q (.bool r) σ) : M2 C d (compareOp op) a b σ Q X :=
  (Cmp.casesOn (motive := fun op a b r _ => Q (.bool r) σ → M2 C d (compareOp op) a b σ Q X) h
    (fun a b q => m2_ib q fun h => P.eq_int h)
    (fun a b q => m2_ib q fun h => P.ne_int h)
    (fun a b q => m2_ib q fun h => P.lt_int h)
    (fun a b q => m2_ib q fun h => P.le_int h)
    (fun a b q => m2_ib q fun h => P.gt_int h)
    (fun a b q => m2_ib q fun h => P.ge_int h)
    (fun a b q => m2_sb q fun h => P.eq_str h)
    (fun a b q => m2_sb q fun h => P.ne_str h)
    (fun a b q => isB_ q)
    (fun a q => isntS_ q)
    (fun q => isntN_ q)) q
open Builtin in
inductive Un : UnaryOp → V → V → Prop where
  | neg (a : Int) : Un .USub (.int a) (.int (-a))
  | inv (a : Int) : Un .Invert (.int a) (.int (bitNot a))
  | notB (b : Bool) : Un .Not (.bool b) (.bool (!b))
theorem m1_i {d : Nat} {f : Value → Sem Value} {a c : Int} {Q : V → Store → Prop} (q : Q (.int c) σ) (k : ∀ {A : Around} {s : Shared} {t : Tok} {QM : Value → Shared → Prop}, (∀ z tk, QM (.int c z) { s with toks := tk }) → wpAny (model C.prog C.w) A (f (.int a t)) QM X s) : M1 C d f (.int a) σ Q X := fun A s x ha hi hx QM hq => by
  obtain ⟨t, rfl⟩ := Rel.inv hx
  exact k fun z tk => hq _ _ _ _ q hi.toks .refl (.int _ _)
theorem not_b {d : Nat} {b : Bool} {Q : V → Store → Prop} (q : Q (.bool (!b)) σ) : M1 C d (unaryOp .Not) (.bool b) σ Q X := fun A s x ha hi hx QM hq => by
  obtain rfl := Rel.inv hx
  exact not_value (wpAny_truthy_bool (hq _ _ _ _ q hi .refl (.bool _)))
theorem un_ {d : Nat} {op : UnaryOp} {a v : V} {Q : V → Store → Prop} (h : Un op a v) (q : Q v σ) : M1 C d (unaryOp op) a σ Q X :=
  (Un.casesOn (motive := fun op a v _ => Q v σ → M1 C d (unaryOp op) a σ Q X) h
    (fun a q => m1_i q fun h => P.neg_int (h _ _))
    (fun a q => m1_i q fun h => invert_int (h _ _))
    (fun b q => not_b q)) q
theorem tb_bool {d : Nat} {b : Bool} {Q : Bool → Store → Prop} (q : Q b σ) : M1B C d (.bool b) σ Q X := fun A s x ha hi hx QM hq => by
  (first | obtain ⟨_, rfl⟩ := Rel.inv hx | obtain rfl := Rel.inv hx | cases hx); exact wpAny_truthy_bool (hq _ _ _ q hi .refl)
theorem tb_int {d : Nat} {a : Int} {Q : Bool → Store → Prop} (q : Q (a != 0) σ) : M1B C d (.int a) σ Q X := fun A s x ha hi hx QM hq => by
  (first | obtain ⟨_, rfl⟩ := Rel.inv hx | obtain rfl := Rel.inv hx | cases hx); exact P.truthy_int (hq _ _ _ q hi .refl)
end
end Mine
end
section
open PySem PySem.W PyProof.Rows PySem.Calls
namespace Mine
/-- an object that no value's structure and no code's name reads -/
noncomputable def Loose (o : Obj) : Prop := ¬ Fixed o ∧ ∀ vs, o.data = .fields vs → ∀ q t, vs[1]? ≠ some (.str q t)
/-- a change at one place that nobody owns -/
structure Poke (C : Ctx) (σ : Store) (a : Addr) (h h' : Heap) : Prop where
  keep : ∀ b o, b ≠ a → h.get? b = some o → h'.get? b = some o
  unown : ∀ o, h.get? a = some o → σ a = none ∧ C.h1.objs.size ≤ a ∧ Loose o
theorem Poke.ne {C : Ctx} {σ : Store} {a b : Addr} {h h' : Heap} {o : Obj} {p : PObj} (k : Poke C σ a h h') (hb : h.get? b = some o) (hs : σ b = some p) : b ≠ a := fun e => by
  subst e; have := (k.unown _ hb).1; (first | obtain rfl := Option.some.inj (hs.symm.trans this) | exact absurd (hs.symm.trans this) (Option.some_ne_none _) | exact absurd (hs.symm.trans this).symm (Option.some_ne_none _) | exact (datN (hs.symm.trans this) rfl).elim | (rw [hs] at this; cases this))
theorem Poke.seq {C : Ctx} {σ : Store} {a : Addr} {h h' : Heap} (k : Poke C σ a h h') : SeqKeep C σ h σ h' :=
  ⟨fun b o hb hd _ _ => k.keep b o (fun e => by subst e; exact (k.unown _ hb).2.2.1 hd) hb, fun _ _ _ _ e _ => e⟩
theorem Poke.code {C : Ctx} {σ : Store} {a : Addr} {h h' : Heap} (k : Poke C σ a h h') {cd : Value} {q : Str} (x : CodeOk C σ h cd q) : CodeOk C σ h' cd q :=
  let ⟨⟨c, o, vs, t, e, g, d, r⟩, z⟩ := x; ⟨⟨c, o, vs, t, e, k.keep c o (fun e => by subst e; exact (k.unown _ g).2.2.2 _ d _ _ r) g, d, r⟩, z⟩
theorem ObjRel.poke {C : Ctx} {σ : Store} {a b : Addr} {h h' : Heap} {p : PObj} (k : Poke C σ a h h') (hs : σ b = some p) (x : ObjRel C σ h b p) : ObjRel C σ h' b p := by
  have K : ∀ o, h.get? b = some o → h'.get? b = some o := fun o e => k.keep b o (k.ne e hs) e
  cases p with
  | list vs => obtain ⟨items, n, e, r⟩ := x; exact ⟨items, n, K _ e, r.mono k.seq⟩
  | ns at_ => obtain ⟨es, n, e, r⟩ := x; exact ⟨es, n, K _ e, r.mono k.seq⟩
  | inst c d => exact K _ x
  | cell v => cases v with
    | none => obtain ⟨o, e, r⟩ := x; exact ⟨o, K o e, r⟩
    | some v => obtain ⟨v, ⟨o, e, r⟩, q⟩ := x; exact ⟨v, ⟨o, K o e, r⟩, q.mono k.seq⟩
  | func f cap d => obtain ⟨o, fd, e, c, d, f1, f2, f3, f4, f5, f6, f7, f8, f9, f10, f11, f12⟩ := x; exact ⟨o, fd, K o e, c, d, f1, f2, f3, f4, f5, f6, f7, f8, f9, f10, f11, k.code f12⟩
  | bound f self => obtain ⟨v, e, q⟩ := x; exact ⟨v, K _ e, q.mono k.seq⟩
  | citer f sent => obtain ⟨v, u, e, q, q'⟩ := x; exact ⟨v, u, K _ e, q.mono k.seq, q'.mono k.seq⟩
  | cend => exact K _ x
  | riter vs i => obtain ⟨l, e, q⟩ := x; exact ⟨l, K _ e, q.mono k.seq⟩
theorem TabOk.poke {C : Ctx} {σ : Store} {a : Addr} {h h' : Heap} {n : Nest} (k : Poke C σ a h h') (hn : n.table < C.h1.objs.size) (x : TabOk C σ h n) : TabOk C σ h' n :=
  let ⟨ps, e, t, f⟩ := x; ⟨ps, k.keep _ _ (fun q => by have := (k.unown _ (q ▸ e)).2.1; rw [← q] at this; exact absurd hn (Nat.not_lt.mpr this)) e, t, fun d hd cv hc => k.code (f d hd cv hc)⟩
theorem Inv.poke {C : Ctx} {σ : Store} {a : Addr} {s s' : Shared} (i : Inv C σ s) (k : Poke C σ a s.heap s'.heap) (hg : s'.gens = s.gens) (ho : s'.os = s.os) : Inv C σ s' where
  base := fun b o e ht => k.keep b o (fun q => by subst q; exact absurd (Heap.lt_size e) (Nat.not_lt.mpr (k.unown _ (i.base _ o e ht)).2.1)) (i.base b o e ht)
  top := i.top
  own := fun b p e => ⟨(i.own b p e).1, ObjRel.poke k e (i.own b p e).2⟩
  tabLt := i.tabLt
  tabs := fun n hn => (i.tabs n hn).poke k (i.tabLt n hn)
  gens := hg.trans i.gens
  os := ho.trans i.os
theorem CodeOk.mono {C : Ctx} {σ σ' : Store} {h h' : Heap} (x : Ext C σ h σ' h') {cd : Value} {q : Str} (y : CodeOk C σ h cd q) : CodeOk C σ' h' cd q :=
  let ⟨⟨c, o, vs, t, e, g, d, r⟩, z⟩ := y; ⟨⟨c, o, vs, t, e, x.keep c o g (z c e).1 (z c e).2, d, r⟩, fun c' e' => by
    (first | obtain rfl := Option.some.inj (e.symm.trans e') | exact absurd (e.symm.trans e') (Option.some_ne_none _) | exact absurd (e.symm.trans e').symm (Option.some_ne_none _) | exact (datN (e.symm.trans e') rfl).elim | (rw [e] at e'; cases e')); exact ⟨x.free c o g (z c e).1 (z c e).2, (z c e).2⟩⟩
theorem ObjRel.mono {C : Ctx} {σ σ' : Store} {b : Addr} {h h' : Heap} {p : PObj} (k : Ext C σ h σ' h') (K : ∀ o, h.get? b = some o → h'.get? b = some o) (x : ObjRel C σ h b p) : ObjRel C σ' h' b p := by
  cases p with
  | list vs => obtain ⟨items, n, e, r⟩ := x; exact ⟨items, n, K _ e, r.mono k.seq⟩
  | ns at_ => obtain ⟨es, n, e, r⟩ := x; exact ⟨es, n, K _ e, r.mono k.seq⟩
  | inst c d => exact K _ x
  | cell v => cases v with
    | none => obtain ⟨o, e, r⟩ := x; exact ⟨o, K o e, r⟩
    | some v => obtain ⟨v, ⟨o, e, r⟩, q⟩ := x; exact ⟨v, ⟨o, K o e, r⟩, q.mono k.seq⟩
  | func f cap d => obtain ⟨o, fd, e, c, d, f1, f2, f3, f4, f5, f6, f7, f8, f9, f10, f11, f12⟩ := x; exact ⟨o, fd, K o e, c, d, f1, f2, f3, f4, f5, f6, f7, f8, f9, f10, f11, f12.mono k⟩
  | bound f self => obtain ⟨v, e, q⟩ := x; exact ⟨v, K _ e, q.mono k.seq⟩
  | citer f sent => obtain ⟨v, u, e, q, q'⟩ := x; exact ⟨v, u, K _ e, q.mono k.seq, q'.mono k.seq⟩
  | cend => exact K _ x
  | riter vs i => obtain ⟨l, e, q⟩ := x; exact ⟨l, K _ e, q.mono k.seq⟩
theorem Inv.lo {C : Ctx} {σ : Store} {s : Shared} (i : Inv C σ s) {a : Addr} (h : a < C.h1.objs.size) : σ a = none := by
  cases e : σ a with
  | none => rfl
  | some p => exact absurd h (Nat.not_lt.mpr (i.own a p e).1)
theorem Inv.notTab {C : Ctx} {σ : Store} {s : Shared} (i : Inv C σ s) {a : Addr} (h : C.h1.objs.size ≤ a) : a ∉ C.tabs := fun q => by
  refine Classical.byContradiction fun hbc => ?_
  obtain ⟨n, hn, e⟩ := List.mem_map.mp q
  refine hbc ?_
  clear hbc
  have := i.tabLt n hn
  rw [e] at this
  exact absurd h (Nat.not_le.mpr this)
/-- from one state to another -/
theorem Inv.step {C : Ctx} {σ σ' : Store} {s s' : Shared} (i : Inv C σ s) (e : Ext C σ s.heap σ' s'.heap)
    (own : ∀ a p, σ' a = some p → (σ a = some p ∧ ∀ o, s.heap.get? a = some o → s'.heap.get? a = some o) ∨ (C.h1.objs.size ≤ a ∧ ObjRel C σ' s'.heap a p))
    (tb : ∀ n ∈ C.nest, ∀ o, s.heap.get? n.table = some o → s'.heap.get? n.table = some o) (hg : s'.gens = s.gens) (ho : s'.os = s.os) : Inv C σ' s' where
  base := fun a o g ht => e.keep a o (i.base a o g ht) (i.lo (Heap.lt_size g)) ht
  top := i.top
  own := fun a p g => by
    rcases own a p g with ⟨h1, h2⟩ | h
    · exact ⟨(i.own a p h1).1, ObjRel.mono e h2 (i.own a p h1).2⟩
    · exact h
  tabLt := i.tabLt
  tabs := fun n hn => let ⟨ps, g, t, f⟩ := i.tabs n hn; ⟨ps, tb n hn _ g, t, fun d hd cv hc => (f d hd cv hc).mono e⟩
  gens := hg.trans i.gens
  os := ho.trans i.os
/-- an object of one's own is changed -/
theorem Inv.set {C : Ctx} {σ : Store} {s s' : Shared} {a : Addr} {p p' : PObj} (i : Inv C σ s) (ha : σ a = some p) (hs : ∀ b o, b ≠ a → s.heap.get? b = some o → s'.heap.get? b = some o)
    (hcell : ∀ v, p = .cell v → ∃ v', p' = .cell v') (hp : ObjRel C (upd σ a (some p')) s'.heap a p') (hg : s'.gens = s.gens) (ho : s'.os = s.os) :
    Inv C (upd σ a (some p')) s' ∧ Ext C σ s.heap (upd σ a (some p')) s'.heap := by
  have lo := (i.own a p ha).1
  have ne : ∀ b, σ b = none → b ≠ a := fun b hb q => by rw [q, ha] at hb; cases hb
  have E : Ext C σ s.heap (upd σ a (some p')) s'.heap := ⟨fun b o g hb _ => hs b o (ne b hb) g, fun b o g hb _ => by rw [upd_ne σ _ (ne b hb)]; exact hb, fun c v hc => by
    by_cases hca : c = a
    · subst hca
      (first | obtain rfl := Option.some.inj (ha.symm.trans hc) | exact absurd (ha.symm.trans hc) (Option.some_ne_none _) | exact absurd (ha.symm.trans hc).symm (Option.some_ne_none _) | exact (datN (ha.symm.trans hc) rfl).elim | (rw [ha] at hc; cases hc))
      obtain ⟨v', rfl⟩ := hcell v rfl
      exact ⟨v', upd_self ..⟩
    · exact ⟨v, by rw [upd_ne σ _ hca]; exact hc⟩⟩
  refine ⟨i.step E (fun b q hb => ?_) (fun n hn o g => hs _ o (fun q => ?_) g) hg ho, E⟩
  · by_cases hba : b = a
    · subst hba
      (first | obtain rfl := Option.some.inj (upd_self.symm.trans hb) | exact absurd (upd_self.symm.trans hb) (Option.some_ne_none _) | exact absurd (upd_self.symm.trans hb).symm (Option.some_ne_none _) | exact (datN (upd_self.symm.trans hb) rfl).elim | (rw [upd_self] at hb; cases hb))
      exact .inr ⟨lo, hp⟩
    · rw [upd_ne σ _ hba] at hb
      exact .inl ⟨hb, fun o g => hs b o hba g⟩
  · exact absurd (i.tabLt n hn) (Nat.not_lt.mpr (q ▸ lo))
/-- the frame, after a change at a place that isn't its own -/
theorem Rep.poke {C : Ctx} {K : Kx} {env : Env} {ρ : Fm} {σ : Store} {h h' : Heap} {a : Addr} (r : Rep C K env ρ σ h) (k : Poke C σ a h h')
    (hd : ∀ o, h.get? a = some o → (∀ es ep, o.data ≠ .dict es ep) ∧ ∀ v, o.data ≠ .cell v) : Rep C K env ρ σ h' := by
  have hns : ∀ b m, h.Ns b m → h'.Ns b m := fun b m ⟨o, es, ep, e, d, q⟩ => ⟨o, es, ep, k.keep b o (fun x => by subst x; exact (hd _ e).1 _ _ d) e, d, q⟩
  have hce : ∀ b v, h.IsCell b v → h'.IsCell b v := fun b v ⟨o, e, d⟩ => ⟨o, k.keep b o (fun x => by subst x; exact (hd _ e).2 _ d) e, d⟩
  obtain ⟨m, hm⟩ := r.loc
  refine ⟨r.kind, r.names, r.glob, r.blt, r.qual, r.code, ⟨m, hns _ m hm⟩, r.locF, fun y c hc => ?_, r.cinj, fun p hp => ?_⟩
  · refine Classical.byContradiction fun hbc => ?_
    obtain ⟨h1, h2, h3, h4, h5⟩ := r.cells y c hc
    refine hbc ?_
    clear hbc
    exact ⟨h1, h2, h3, fun e => let ⟨v, q⟩ := h4 e; ⟨v, hce _ _ q⟩, h5⟩
  · have hv := r.vars p hp
    obtain ⟨y, sl⟩ := p
    cases sl with
    | val pv =>
      rcases hv with ⟨h1, m, v, h2, h3, h4⟩ | ⟨h1, c, v, h2, h3, h4, h5, h6⟩
      · exact .inl ⟨h1, m, v, hns _ m h2, h3, h4.mono k.seq⟩
      · exact .inr ⟨h1, c, v, h2, hce c _ h3, h4.mono k.seq, h5, h6⟩
    | sh c => exact hv
    | emp => obtain ⟨h1, c, h2, ⟨v, h3⟩, h5, h6⟩ := hv; exact ⟨h1, c, h2, ⟨v, hce c _ h3⟩, h5, h6⟩
/-! frames -/
noncomputable def Upd (ρ : Fm) (x : Str) (sl : Slot) (ρ' : Fm) : Prop := ∀ p ∈ ρ', p = (x, sl) ∨ (p ∈ ρ ∧ p.1 ≠ x)
noncomputable def Rest (ρ : Fm) (x : Str) (r' : Fm) : Prop := ∀ p ∈ r', p ∈ ρ ∧ p.1 ≠ x
theorem Rest.nil {x : Str} : Rest [] x [] := fun p hp => by cases hp
theorem Rest.keep {ρ r' : Fm} {x y : Str} {s : Slot} (h : Rest ρ x r') (hne : y ≠ x) : Rest ((y, s) :: ρ) x ((y, s) :: r') := fun p hp => by
  rcases List.mem_cons.mp hp with rfl | hp
  · exact ⟨List.mem_cons_self, hne⟩
  · exact ⟨List.mem_cons_of_mem _ (h p hp).1, (h p hp).2⟩
theorem Rest.drop {ρ r' : Fm} {x : Str} {q : Str × Slot} (h : Rest ρ x r') : Rest (q :: ρ) x r' := fun p hp => ⟨List.mem_cons_of_mem _ (h p hp).1, (h p hp).2⟩
theorem Upd.mk {ρ r' : Fm} {x : Str} {s : Slot} (h : Rest ρ x r') : Upd ρ x s ((x, s) :: r') := fun p hp => by
  rcases List.mem_cons.mp hp with rfl | hp
  · exact .inl rfl
  · exact .inr (h p hp)
theorem Rep.sub {C : Ctx} {K : Kx} {env : Env} {ρ ρ' : Fm} {σ : Store} {h : Heap} (r : Rep C K env ρ σ h) (hs : ∀ p ∈ ρ', p ∈ ρ) : Rep C K env ρ' σ h :=
  ⟨r.kind, r.names, r.glob, r.blt, r.qual, r.code, r.loc, r.locF, r.cells, r.cinj, fun p hp => r.vars p (hs p hp)⟩
section
variable {C : Ctx} {K : Kx} {ρ : Fm} {σ : Store} {X : Value → Shared → Prop}
theorem ExP.sub {ρ' : Fm} {ss : List Stmt} {Q : Fl → Fm → Store → Prop} (h : ExP C K ρ' σ ss Q X) (hs : ∀ p ∈ ρ', p ∈ ρ) : ExP C K ρ σ ss Q X :=
  fun A env s ha hr hi QM hq => h A env s ha (hr.sub hs) hi QM hq
/-- a name is given a value: it is a local one, or has a cell that no closure shares -/
noncomputable def Stores (K : Kx) (ρ : Fm) (x : Str) : Prop := K.names.lookup x = some .local ∨ (K.names.lookup x = some .cell ∧ ∃ sl, (x, sl) ∈ ρ ∧ ∀ c, sl ≠ .sh c)
theorem store_name {x : Str} {ρ' : Fm} {v : Value} {pv : V} {A : Around} {env : Env} {s : Shared} (hk : Stores K ρ x)
    (hr : Rep C K env ρ σ s.heap) (hi : Inv C σ s) (hv : Rel C σ s.heap v pv) (hu : Upd ρ x (.val pv) ρ') {QM : Unit → Shared → Prop}
    (hq : ∀ s', Rep C K env ρ' σ s'.heap → Inv C σ s' → ExtF C env σ s.heap σ s'.heap → QM () s') : wpAny (model C.prog C.w) A (storeName env x v) QM X s := by
  obtain ⟨m, hm⟩ := hr.loc
  rcases hk with hk | ⟨hk, sl₀, hsl, hnsh⟩
  · refine wpAny_storeName_local ((congrArg (·.lookup x) hr.names).trans hk) hm (fun h' hn hs => ?_) (by rw [hr.kind]; rfl)
    have k : Poke C σ env.locals s.heap h' := ⟨fun b o hb e => (hs.2 b hb).trans e, fun o e => ⟨hr.locF.1, hr.locF.2.2, by
      refine Classical.byContradiction fun hbc => ?_
      obtain ⟨o', es, ep, e', d, _⟩ := hm
      refine hbc ?_
      clear hbc
      (first | obtain rfl := Option.some.inj (e.symm.trans e') | exact absurd (e.symm.trans e') (Option.some_ne_none _) | exact absurd (e.symm.trans e').symm (Option.some_ne_none _) | exact (datN (e.symm.trans e') rfl).elim | (rw [e] at e'; cases e'))
      exact ⟨fun q => (by rcases q with ⟨_, _, q⟩ | ⟨_, _, q⟩ <;> rw [d] at q <;> cases q), fun vs q => (by (first | obtain rfl := Option.some.inj (d.symm.trans q) | exact absurd (d.symm.trans q) (Option.some_ne_none _) | exact absurd (d.symm.trans q).symm (Option.some_ne_none _) | exact (datN (d.symm.trans q) rfl).elim | (rw [d] at q; cases q)))⟩⟩⟩
    have hce : ∀ c v, env.locals ≠ c → s.heap.IsCell c v → h'.IsCell c v := fun c v hne ⟨o, e, d⟩ => ⟨o, (hs.2 c (fun q => hne q.symm)).trans e, d⟩
    refine hq _ ⟨hr.kind, hr.names, hr.glob, hr.blt, hr.qual, hr.code, ⟨_, hn⟩, hr.locF, fun y c hc => ?_, hr.cinj, fun p hp => ?_⟩ (hi.poke k rfl rfl)
      ⟨fun b o e _ _ hf => k.keep b o (fun q => hf (.inl q)) e, fun b _ _ e _ _ => e, fun c v e => ⟨v, e⟩⟩
    · refine Classical.byContradiction fun hbc => ?_
      obtain ⟨h1, h2, h3, h4, h5⟩ := hr.cells y c hc
      refine hbc ?_
      clear hbc
      exact ⟨h1, h2, h3, fun e => let ⟨v, q⟩ := h4 e; ⟨v, hce _ _ h1 q⟩, h5⟩
    · rcases hu p hp with rfl | ⟨hp, hne⟩
      · exact .inl ⟨hk, _, v, hn, if_pos rfl, hv.mono k.seq⟩
      · have hv' := hr.vars p hp
        obtain ⟨y, sl⟩ := p
        cases sl with
        | val pv' =>
          rcases hv' with ⟨h1, m₀, v', h2, h3, h4⟩ | ⟨h1, c, v', h2, h3, h4, h5, h6⟩
          · refine .inl ⟨h1, _, v', hn, ?_, h4.mono k.seq⟩
            show (if y = x then some v else m y) = _
            rw [if_neg hne, ← h3]
            refine Classical.byContradiction fun hbc => ?_
            obtain ⟨o, es, ep, e, d, _, f⟩ := hm
            obtain ⟨o', es', ep', e', d', _, f'⟩ := h2
            refine hbc ?_
            clear hbc
            (first | obtain rfl := Option.some.inj (e.symm.trans e') | exact absurd (e.symm.trans e') (Option.some_ne_none _) | exact absurd (e.symm.trans e').symm (Option.some_ne_none _) | exact (datN (e.symm.trans e') rfl).elim | (rw [e] at e'; cases e'))
            (first | obtain rfl := Option.some.inj (d.symm.trans d') | exact absurd (d.symm.trans d') (Option.some_ne_none _) | exact absurd (d.symm.trans d').symm (Option.some_ne_none _) | exact (datN (d.symm.trans d') rfl).elim | (rw [d] at d'; cases d'))
            rw [← f y, ← f' y]
          · exact .inr ⟨h1, c, v', h2, hce c _ (hr.cells y c h2).ne h3, h4.mono k.seq, h5, h6⟩
        | sh c => exact hv'
        | emp => obtain ⟨h1, c, h2, ⟨v', h3⟩, h5, h6⟩ := hv'; exact ⟨h1, c, h2, ⟨v', hce c _ (hr.cells y c h2).ne h3⟩, h5, h6⟩
  · have hcc : ∃ c, env.cells.lookup x = some c ∧ σ c = none := by
      have := hr.vars _ hsl
      cases sl₀ with
      | val pv₀ =>
        rcases this with ⟨h1, _⟩ | ⟨_, c, v, h2, _, _, h5, _⟩
        · (first | obtain rfl := Option.some.inj (hk.symm.trans h1) | exact absurd (hk.symm.trans h1) (Option.some_ne_none _) | exact absurd (hk.symm.trans h1).symm (Option.some_ne_none _) | exact (datN (hk.symm.trans h1) rfl).elim | (rw [hk] at h1; cases h1))
        · exact ⟨c, h2, h5⟩
      | sh c => exact absurd rfl (hnsh c)
      | emp => obtain ⟨_, c, h2, _, h5, _⟩ := this; exact ⟨c, h2, h5⟩
    refine Classical.byContradiction fun hbc => ?_
    obtain ⟨c, hcl, hsc⟩ := hcc
    obtain ⟨h1, h2, h3, h4, h5⟩ := hr.cells x c hcl
    obtain ⟨v₀, hv₀⟩ := h4 hsc
    refine hbc ?_
    clear hbc
    refine wpAny_storeName_cell hr.kind ((congrArg (·.lookup x) hr.names).trans hk) hcl hv₀ (fun h' hn hs => ?_)
    have k : Poke C σ c s.heap h' := ⟨fun b o hb e => (hs.2 b hb).trans e, fun o e => ⟨hsc, h2, by
      refine Classical.byContradiction fun hbc => ?_
      obtain ⟨o', e', d⟩ := hv₀
      refine hbc ?_
      clear hbc
      (first | obtain rfl := Option.some.inj (e.symm.trans e') | exact absurd (e.symm.trans e') (Option.some_ne_none _) | exact absurd (e.symm.trans e').symm (Option.some_ne_none _) | exact (datN (e.symm.trans e') rfl).elim | (rw [e] at e'; cases e'))
      exact ⟨fun q => (by rcases q with ⟨_, _, q⟩ | ⟨_, _, q⟩ <;> rw [d] at q <;> cases q), fun vs q => (by (first | obtain rfl := Option.some.inj (d.symm.trans q) | exact absurd (d.symm.trans q) (Option.some_ne_none _) | exact absurd (d.symm.trans q).symm (Option.some_ne_none _) | exact (datN (d.symm.trans q) rfl).elim | (rw [d] at q; cases q)))⟩⟩⟩
    have hns : ∀ m, s.heap.Ns env.locals m → h'.Ns env.locals m := fun m ⟨o, es, ep, e, q⟩ => ⟨o, es, ep, (hs.2 _ h1).trans e, q⟩
    have hce : ∀ c' v, c' ≠ c → s.heap.IsCell c' v → h'.IsCell c' v := fun c v hne ⟨o, e, d⟩ => ⟨o, (hs.2 _ hne).trans e, d⟩
    refine hq _ ⟨hr.kind, hr.names, hr.glob, hr.blt, hr.qual, hr.code, ⟨_, hns m hm⟩, hr.locF, fun y c' hc' => ?_, hr.cinj, fun p hp => ?_⟩ (hi.poke k rfl rfl)
      ⟨fun b o e _ _ hf => k.keep b o (fun q => hf (.inr ⟨x, (congrArg (·.lookup x) hr.names).trans hk, q ▸ hcl⟩)) e, fun b _ _ e _ _ => e, fun c v e => ⟨v, e⟩⟩
    · refine Classical.byContradiction fun hbc => ?_
      obtain ⟨g1, g2, g3, g4, g5⟩ := hr.cells y c' hc'
      refine hbc ?_
      clear hbc
      refine ⟨g1, g2, g3, fun e => ?_, g5⟩
      by_cases hcc : c' = c
      · subst hcc; exact ⟨_, hn⟩
      · obtain ⟨v, q⟩ := g4 e; exact ⟨v, hce _ _ hcc q⟩
    · rcases hu p hp with rfl | ⟨hp, hne⟩
      · exact .inr ⟨.inl hk, c, v, hcl, hn, hv.mono k.seq, hsc, h3⟩
      · have hv' := hr.vars p hp
        obtain ⟨y, sl⟩ := p
        cases sl with
        | val pv' =>
          rcases hv' with ⟨h1, m₀, v', h2, h3, h4⟩ | ⟨h1, c', v', h2, h3, h4, h5, h6⟩
          · exact .inl ⟨h1, m₀, v', hns m₀ h2, h3, h4.mono k.seq⟩
          · exact .inr ⟨h1, c', v', h2, hce c' _ (fun q => hne (hr.cinj y x c' h2 (q ▸ hcl))) h3, h4.mono k.seq, h5, h6⟩
        | sh c' => exact hv'
        | emp => obtain ⟨h1, c', h2, ⟨v', h3⟩, h5, h6⟩ := hv'; exact ⟨h1, c', h2, ⟨v', hce c' _ (fun q => hne (hr.cinj y x c' h2 (q ▸ hcl))) h3⟩, h5, h6⟩
/-! statements -/
noncomputable def Cont (C : Ctx) (K : Kx) (X : Value → Shared → Prop) (rest : List Stmt) (Q : Fl → Fm → Store → Prop) : Fl → Fm → Store → Prop
  | .next, ρ', σ' => ExP C K ρ' σ' rest Q X
  | fl, ρ', σ' => Q fl ρ' σ'
theorem ex_nil {Q : Fl → Fm → Store → Prop} (h : Q .next ρ σ) : ExP C K ρ σ [] Q X := fun A env s ha hr hi QM hq => wpAny_execs_nil (hq .next .next ρ σ s h trivial hr hi .refl)
theorem ex_cons {st : Stmt} {rest : List Stmt} {Q : Fl → Fm → Store → Prop} (h : StP C K ρ σ st (Cont C K X rest Q) X) : ExP C K ρ σ (st :: rest) Q X := fun A env s ha hr hi QM hq =>
  wpAny_execs_cons (h A env s ha hr hi _ fun f fl ρ₁ σ₁ s₁ h₁ r₁ hr₁ i₁ e₁ => by
    cases fl with
    | next => cases f <;> first | exact r₁.elim | exact h₁ A env s₁ ha hr₁ i₁ _ fun f fl ρ₂ σ₂ s₂ h₂ r₂ hr₂ i₂ e₂ => hq f fl ρ₂ σ₂ s₂ h₂ r₂ hr₂ i₂ (e₁.trans e₂)
    | brk => cases f <;> first | exact r₁.elim | exact hq _ _ _ _ _ h₁ r₁ hr₁ i₁ e₁
    | cont => cases f <;> first | exact r₁.elim | exact hq _ _ _ _ _ h₁ r₁ hr₁ i₁ e₁
    | ret v => cases f <;> first | exact r₁.elim | exact hq _ _ _ _ _ h₁ r₁ hr₁ i₁ e₁)
theorem st_if {t : Expr} {b o : List Stmt} {pos : Pos} {Q : Fl → Fm → Store → Prop} (h : TsP C K ρ σ t (fun c σ₁ => if c then ExP C K ρ σ₁ b Q X else ExP C K ρ σ₁ o Q X) X) : StP C K ρ σ (.If t b o pos) Q X := fun A env s ha hr hi QM hq =>
  wpAny_If (h A env s ha hr hi _ fun c σ₁ s₁ h₁ i₁ e₁ => by
    cases c <;> exact h₁ A env s₁ ha (hr.mono e₁) i₁ _ fun f fl ρ₂ σ₂ s₂ h₂ r₂ hr₂ i₂ e₂ => hq f fl ρ₂ σ₂ s₂ h₂ r₂ hr₂ i₂ (e₁.toF.trans e₂))
theorem st_ret {e : Expr} {pos : Pos} {Q : Fl → Fm → Store → Prop} (h : EvP C K ρ σ e (fun v σ₁ => Q (.ret v) ρ σ₁) X) : StP C K ρ σ (.Return (some e) pos) Q X := fun A env s ha hr hi QM hq =>
  wpAny_Return_some (h A env s ha hr hi _ fun v pv σ₁ s₁ h₁ i₁ e₁ r₁ => hq (.ret v) (.ret pv) ρ σ₁ s₁ h₁ r₁ (hr.mono e₁) i₁ e₁.toF)
theorem st_ret0 {pos : Pos} {Q : Fl → Fm → Store → Prop} (h : Q (.ret .none) ρ σ) : StP C K ρ σ (.Return none pos) Q X := fun A env s ha hr hi QM hq =>
  wpAny_Return_none (hq (.ret .none) (.ret .none) ρ σ s h Rel.none hr hi .refl)
theorem st_cont {pos : Pos} {Q : Fl → Fm → Store → Prop} (h : Q .cont ρ σ) : StP C K ρ σ (.Continue pos) Q X := fun A env s ha hr hi QM hq => wpAny_Continue (hq .cont .cont ρ σ s h trivial hr hi .refl)
theorem st_expr {e : Expr} {pos : Pos} {Q : Fl → Fm → Store → Prop} (h : EvP C K ρ σ e (fun _ σ₁ => Q .next ρ σ₁) X) (hs : ∀ env, swapsWith e none pos.line env = pure false := by intro _; rfl) : StP C K ρ σ (.Expr e pos) Q X := fun A env s ha hr hi QM hq =>
  wpAny_Expr_any (h A env s ha hr hi _ fun v pv σ₁ s₁ h₁ i₁ e₁ r₁ => hq .next .next ρ σ₁ s₁ h₁ trivial (hr.mono e₁) i₁ e₁.toF) (by unfold interactive; rw [hr.kind]; rfl) (hs env)
theorem st_assign {x : Str} {e : Expr} {pos' pos : Pos} {Q : Fl → Fm → Store → Prop} (hk : Stores K ρ x) (h : EvP C K ρ σ e (fun v σ₁ => ∃ ρ', Upd ρ x (.val v) ρ' ∧ Q .next ρ' σ₁) X)
    (hs : ∀ env, swapsWith e (some (.Name x pos')) pos.line env = pure false := by intro _; rfl) : StP C K ρ σ (.Assign [.Name x pos'] e pos) Q X := fun A env s ha hr hi QM hq =>
  wpAny_Assign_Name (h A env s ha hr hi _ fun v pv σ₁ s₁ h₁ i₁ e₁ r₁ => by
    refine Classical.byContradiction fun hbc => ?_
    obtain ⟨ρ', hu, h₁⟩ := h₁
    refine hbc ?_
    clear hbc
    exact store_name hk (hr.mono e₁) i₁ r₁ hu fun s₂ hr₂ i₂ e₂ => hq .next .next ρ' σ₁ s₂ h₁ trivial hr₂ i₂ (e₁.toF.trans e₂)) (hs env)
theorem load_name {x : Str} {pv : V} (hx : (x, Slot.val pv) ∈ ρ) {A : Around} {env : Env} {s : Shared} (hr : Rep C K env ρ σ s.heap) {QM : Value → Shared → Prop} (hq : ∀ v, Rel C σ s.heap v pv → QM v s) (hn : (x == ("__classdict__" : Str)) = false := by decide) :
    wpAny (model C.prog C.w) A (loadName env x) QM X s := by
  rcases hr.vars _ hx with ⟨h1, m, mv, h2, h3, h4⟩ | ⟨h1, c, mv, h2, h3, h4, _, _⟩
  · exact wpAny_loadName_local hr.kind ((congrArg (·.lookup x) hr.names).trans h1) h2 h3 (hq _ h4)
  · rcases h1 with h1 | h1
    · exact wpAny_loadName_cell hr.kind ((congrArg (·.lookup x) hr.names).trans h1) h2 h3 (hq _ h4)
    · exact wpAny_loadName_free hr.kind ((congrArg (·.lookup x) hr.names).trans h1) h2 h3 (hq _ h4) hn
theorem st_aug {x : Str} {a : V} {op : Operator} {e : Expr} {pos' pos : Pos} {Q : Fl → Fm → Store → Prop} (hk : Stores K ρ x) (hx : (x, Slot.val a) ∈ ρ)
    (h : EvP C K ρ σ e (fun b σ₂ => M2 C K.d (inplaceOp op) a b σ₂ (fun v σ₃ => ∃ ρ', Upd ρ x (.val v) ρ' ∧ Q .next ρ' σ₃) X) X)
    (hn : (x == ("__classdict__" : Str)) = false := by decide) : StP C K ρ σ (.AugAssign (.Name x pos') op e pos) Q X := fun A env s ha hr hi QM hq =>
  wpAny_AugAssign_Name (load_name hx hr (fun x' r₁ => h A env s ha hr hi _ fun y b σ₂ s₂ h₂ i₂ e₂ r₂ => h₂ A s₂ x' y ha i₂ (r₁.mono e₂.seq) r₂ _ fun v pv σ₃ s₃ q i₃ e₃ r₃ => by
      refine Classical.byContradiction fun hbc => ?_
      obtain ⟨ρ', hu, q⟩ := q
      refine hbc ?_
      clear hbc
      exact store_name hk (hr.mono (e₂.trans e₃)) i₃ r₃ hu fun s₄ hr₄ i₄ e₄ => hq .next .next ρ' σ₃ s₄ q trivial hr₄ i₄ ((e₂.trans e₃).toF.trans e₄)) hn)
theorem EvP.of {e : Expr} {Q : V → Store → Prop} (h : EvP C K ρ σ e Q Bot) : EvP C K ρ σ e Q X := fun A env s ha hr hi QM hq => wpAny_mono (h A env s ha hr hi QM hq) (fun _ _ x => x) fun _ _ x => x.elim
theorem TsP.of {e : Expr} {Q : Bool → Store → Prop} (h : TsP C K ρ σ e Q Bot) : TsP C K ρ σ e Q X := fun A env s ha hr hi QM hq => wpAny_mono (h A env s ha hr hi QM hq) (fun _ _ x => x) fun _ _ x => x.elim
/-- how a loop's turn ends -/
noncomputable def Turn (J : Nat → Fm → Store → Prop) (n : Nat) (Q : Fl → Fm → Store → Prop) : Fl → Fm → Store → Prop
  | .next, ρ₃, σ₃ => ∃ m, m < n ∧ J m ρ₃ σ₃
  | .cont, ρ₃, σ₃ => ∃ m, m < n ∧ J m ρ₃ σ₃
  | .brk, ρ₃, σ₃ => Q .next ρ₃ σ₃
  | .ret v, ρ₃, σ₃ => Q (.ret v) ρ₃ σ₃
inductive WhJ (C : Ctx) (K : Kx) (env : Env) (J : Nat → Fm → Store → Prop) (σ : Store) (h : Heap) (n : Nat) (s' : Shared) : Prop
  | mk (ρ₁ : Fm) (σ₁ : Store) (hJ : J n ρ₁ σ₁) (hr : Rep C K env ρ₁ σ₁ s'.heap) (hi : Inv C σ₁ s') (E : ExtF C env σ h σ₁ s'.heap)
end
end Mine
end
section
open PySem PySem.W PyProof.Rows PySem.Calls
namespace Mine
section
variable {C : Ctx} {K : Kx} {ρ : Fm} {σ : Store} {X : Value → Shared → Prop}
theorem Heap.get?_size (h : Heap) : h.get? h.objs.size = none := by
  cases e : h.get? h.objs.size with
  | none => rfl
  | some o => exact absurd (Heap.lt_size e) (Nat.lt_irrefl _)
theorem Poke.fresh {h h' : Heap} {a : Addr} (k : ∀ b o, h.get? b = some o → h'.get? b = some o) (ha : h.get? a = none) : Poke C σ a h h' :=
  ⟨fun b o _ e => k b o e, fun o e => by (first | obtain rfl := Option.some.inj (ha.symm.trans e) | exact absurd (ha.symm.trans e) (Option.some_ne_none _) | exact absurd (ha.symm.trans e).symm (Option.some_ne_none _) | exact (datN (ha.symm.trans e) rfl).elim | (rw [ha] at e; cases e))⟩
theorem Ext.grow {h h' : Heap} (k : ∀ b o, h.get? b = some o → h'.get? b = some o) : Ext C σ h σ h' := ⟨fun a o e _ _ => k a o e, fun _ _ _ e _ => e, fun _ v e => ⟨v, e⟩⟩
theorem Inv.grow {s s' : Shared} (i : Inv C σ s) (k : ∀ b o, s.heap.get? b = some o → s'.heap.get? b = some o) (hg : s'.gens = s.gens) (ho : s'.os = s.os) : Inv C σ s' :=
  i.poke (Poke.fresh (a := s.heap.objs.size) k (Heap.get?_size _)) hg ho
theorem ExtF.poke {env : Env} {σ' : Store} {h h₁ h₂ : Heap} {it : Addr} (e : ExtF C env σ h σ' h₁) (k : Poke C σ' it h₁ h₂) (hn : h.get? it = none) : ExtF C env σ h σ' h₂ :=
  ⟨fun a o g hs ht hf => k.keep a o (fun q => by subst q; (first | obtain rfl := Option.some.inj (hn.symm.trans g) | exact absurd (hn.symm.trans g) (Option.some_ne_none _) | exact absurd (hn.symm.trans g).symm (Option.some_ne_none _) | exact (datN (hn.symm.trans g) rfl).elim | (rw [hn] at g; cases g))) (e.keep a o g hs ht hf), e.free, e.cell⟩
theorem Inv.off {s : Shared} (i : Inv C σ s) {a : Addr} (h : s.heap.get? a = none) : σ a = none := by
  cases e : σ a with
  | none => rfl
  | some p =>
    have := (i.own a p e).2
    cases p with
    | list vs => obtain ⟨_, _, q, _⟩ := this; (first | obtain rfl := Option.some.inj (h.symm.trans q) | exact absurd (h.symm.trans q) (Option.some_ne_none _) | exact absurd (h.symm.trans q).symm (Option.some_ne_none _) | exact (datN (h.symm.trans q) rfl).elim | (rw [h] at q; cases q))
    | ns at_ => obtain ⟨_, _, q, _⟩ := this; (first | obtain rfl := Option.some.inj (h.symm.trans q) | exact absurd (h.symm.trans q) (Option.some_ne_none _) | exact absurd (h.symm.trans q).symm (Option.some_ne_none _) | exact (datN (h.symm.trans q) rfl).elim | (rw [h] at q; cases q))
    | inst c d => have q : s.heap.get? a = some _ := this; (first | obtain rfl := Option.some.inj (h.symm.trans q) | exact absurd (h.symm.trans q) (Option.some_ne_none _) | exact absurd (h.symm.trans q).symm (Option.some_ne_none _) | exact (datN (h.symm.trans q) rfl).elim | (rw [h] at q; cases q))
    | cell v => cases v with
      | none => obtain ⟨o, q, _⟩ := this; (first | obtain rfl := Option.some.inj (h.symm.trans q) | exact absurd (h.symm.trans q) (Option.some_ne_none _) | exact absurd (h.symm.trans q).symm (Option.some_ne_none _) | exact (datN (h.symm.trans q) rfl).elim | (rw [h] at q; cases q))
      | some v => obtain ⟨v, ⟨o, q, _⟩, _⟩ := this; (first | obtain rfl := Option.some.inj (h.symm.trans q) | exact absurd (h.symm.trans q) (Option.some_ne_none _) | exact absurd (h.symm.trans q).symm (Option.some_ne_none _) | exact (datN (h.symm.trans q) rfl).elim | (rw [h] at q; cases q))
    | func f cap d => obtain ⟨o, fd, q, _⟩ := this; (first | obtain rfl := Option.some.inj (h.symm.trans q) | exact absurd (h.symm.trans q) (Option.some_ne_none _) | exact absurd (h.symm.trans q).symm (Option.some_ne_none _) | exact (datN (h.symm.trans q) rfl).elim | (rw [h] at q; cases q))
    | bound f self => obtain ⟨v, q, _⟩ := this; (first | obtain rfl := Option.some.inj (h.symm.trans q) | exact absurd (h.symm.trans q) (Option.some_ne_none _) | exact absurd (h.symm.trans q).symm (Option.some_ne_none _) | exact (datN (h.symm.trans q) rfl).elim | (rw [h] at q; cases q))
    | citer f sent => obtain ⟨v, u, q, _⟩ := this; (first | obtain rfl := Option.some.inj (h.symm.trans q) | exact absurd (h.symm.trans q) (Option.some_ne_none _) | exact absurd (h.symm.trans q).symm (Option.some_ne_none _) | exact (datN (h.symm.trans q) rfl).elim | (rw [h] at q; cases q))
    | cend => have q : s.heap.get? a = some _ := this; (first | obtain rfl := Option.some.inj (h.symm.trans q) | exact absurd (h.symm.trans q) (Option.some_ne_none _) | exact absurd (h.symm.trans q).symm (Option.some_ne_none _) | exact (datN (h.symm.trans q) rfl).elim | (rw [h] at q; cases q))
    | riter vs i => obtain ⟨l, q, _⟩ := this; (first | obtain rfl := Option.some.inj (h.symm.trans q) | exact absurd (h.symm.trans q) (Option.some_ne_none _) | exact absurd (h.symm.trans q).symm (Option.some_ne_none _) | exact (datN (h.symm.trans q) rfl).elim | (rw [h] at q; cases q))
noncomputable def rngL (x : Int) : Nat → Int → List V
  | 0, _ => []
  | n + 1, st => .int x :: rngL (x + st) n st
inductive Items : V → List V → Prop where
  | lst (vs : List V) : Items (.lst vs) vs
  | tup (vs : List V) : Items (.tup vs) vs
  | str (x : List Nat) : Items (.str x) (x.map fun c => .str [c])
  | rng (lo hi st : Int) (h : Builtin.Range.small lo hi st = true) : Items (.rng lo hi st) (rngL lo (Builtin.Range.rangeSize lo hi st).toNat st)
/-- an iterator, and what it has still to tell -/
inductive ItSt (C : Ctx) (σ : Store) (h : Heap) (it : Addr) : List V → Prop where
  | lst (l : Addr) (vs : List V) (i : Nat) (hi : h.IsListIter it l i) (hr : Rel C σ h (.ref l) (.lst vs)) : ItSt C σ h it (vs.drop i)
  | tup (l : Addr) (vs : List V) (i : Nat) (hi : h.IsTupleIter it l i) (hr : Rel C σ h (.ref l) (.tup vs)) : ItSt C σ h it (vs.drop i)
  | str (ty : String) (hty : ty = "str_ascii_iterator" ∨ ty = "str_iterator") (x : Str) (t : Tok) (i : Nat) (hi : h.IsStrIter it ty x t i) : ItSt C σ h it ((x.cps.toList.drop i).map fun c => .str [c])
  | rng (x : Int) (n : Nat) (st : Int) (hi : IsRangeIter h it x n st) : ItSt C σ h it (rngL x n st)
structure Itr (C : Ctx) (σ : Store) (h : Heap) (it : Addr) (r : List V) : Prop where
  st : ItSt C σ h it r
  un : σ it = none
  lo : C.h1.objs.size ≤ it
  nt : it ∉ C.tabs
theorem Rel.lst_inv {h : Heap} {a : Addr} {vs : List V} (r : Rel C σ h (.ref a) (.lst vs)) : ∃ items n, h.get? a = some (lstO items n) ∧ Rels C σ h items.toList vs := by
  obtain ⟨_, _, _, e, ho, _, _, hr⟩ := r.inv
  cases e
  exact ⟨_, _, ho, hr⟩
theorem Rel.tup_inv {h : Heap} {a : Addr} {vs : List V} (r : Rel C σ h (.ref a) (.tup vs)) : ∃ items n, h.get? a = some (tupO items n) ∧ Rels C σ h items.toList vs := by
  obtain ⟨_, _, _, e, ho, _, _, hr⟩ := r.inv
  cases e
  exact ⟨_, _, ho, hr⟩
theorem Loose.of_fields {o : Obj} {vs : Array Value} (hd : o.data = .fields vs) (hc : ¬ (o.cls = .type "range" ∨ o.cls = .type "slice")) (hv : ∀ q t, vs[1]? ≠ some (.str q t)) : Loose o :=
  ⟨fun q => by
    rcases q with ⟨_, _, q⟩ | ⟨q, _⟩
    · (first | obtain rfl := Option.some.inj (hd.symm.trans q) | exact absurd (hd.symm.trans q) (Option.some_ne_none _) | exact absurd (hd.symm.trans q).symm (Option.some_ne_none _) | exact (datN (hd.symm.trans q) rfl).elim | (rw [hd] at q; cases q))
    · exact hc q, fun vs' q => by (first | obtain rfl := Option.some.inj (hd.symm.trans q) | exact absurd (hd.symm.trans q) (Option.some_ne_none _) | exact absurd (hd.symm.trans q).symm (Option.some_ne_none _) | exact (datN (hd.symm.trans q) rfl).elim | (rw [hd] at q; cases q)); exact hv⟩
theorem ItSt.obj {h : Heap} {it : Addr} {r : List V} (x : ItSt C σ h it r) : ∃ o vs, h.get? it = some o ∧ o.data = .fields vs ∧ Loose o := by
  cases x with
  | lst l vs i hi hr => obtain ⟨o, e, c, d⟩ := hi; exact ⟨o, _, e, d, .of_fields d (by rw [c]; decide) (fun q t => by simp)⟩
  | tup l vs i hi hr => obtain ⟨o, e, c, d⟩ := hi; exact ⟨o, _, e, d, .of_fields d (by rw [c]; decide) (fun q t => by simp)⟩
  | str ty hty x t i hi => obtain ⟨o, e, c, d⟩ := hi; exact ⟨o, _, e, d, .of_fields d (by rw [c]; rcases hty with rfl | rfl <;> decide) (fun q t => by simp)⟩
  | rng x n st hi => exact ⟨_, _, hi, rfl, .of_fields rfl (by show ¬ (Value.type "range_iterator" = _ ∨ Value.type "range_iterator" = _); decide) (fun q t => by simp [rawInt])⟩
theorem ItSt.mono {σ' : Store} {h h' : Heap} {it : Addr} {r : List V} (x : ItSt C σ h it r) (k : ∀ o, h.get? it = some o → h'.get? it = some o) (s : SeqKeep C σ h σ' h') : ItSt C σ' h' it r := by
  cases x with
  | lst l vs i hi hr => obtain ⟨o, e, q⟩ := hi; exact .lst l vs i ⟨o, k o e, q⟩ (hr.mono s)
  | tup l vs i hi hr => obtain ⟨o, e, q⟩ := hi; exact .tup l vs i ⟨o, k o e, q⟩ (hr.mono s)
  | str ty hty x t i hi => obtain ⟨o, e, q⟩ := hi; exact .str ty hty x t i ⟨o, k o e, q⟩
  | rng x n st hi => exact .rng x n st (k _ hi)
theorem Itr.pokeE {h h' : Heap} {it : Addr} {r : List V} (x : Itr C σ h it r) (e : Heap.ExtBut it h h') : Poke C σ it h h' :=
  ⟨fun b o hb q => e b o hb q, fun o q => ⟨x.un, x.lo, by obtain ⟨o', vs, q', d, l⟩ := x.st.obj; (first | obtain rfl := Option.some.inj (q.symm.trans q') | exact absurd (q.symm.trans q') (Option.some_ne_none _) | exact absurd (q.symm.trans q').symm (Option.some_ne_none _) | exact (datN (q.symm.trans q') rfl).elim | (rw [q] at q'; cases q')); exact l⟩⟩
/-- an iterator tells its next -/
theorem itr_next {it : Addr} {r : List V} {A : Around} {s : Shared} {d : Nat} (x : Itr C σ s.heap it r) (ha : AOk d A) {QM : Option Value → Shared → Prop}
    (hq0 : r = [] → ∀ h', Poke C σ it s.heap h' → QM none { s with heap := h' })
    (hq1 : ∀ p r', r = p :: r' → ∀ v h' tk, Poke C σ it s.heap h' → Rel C σ h' v p → Itr C σ h' it r' → QM (some v) { s with heap := h', toks := tk }) :
    wpAny (model C.prog C.w) A (pyNext (.ref it)) QM X s := by
  have hx := x
  obtain ⟨st, un, lo, nt⟩ := x
  revert hx hq0 hq1
  cases st with
  | lst l vs i hi hr =>
    intro hq0 hq1 hx
    obtain ⟨items, n, e, rs⟩ := hr.lst_inv
    have hl : s.heap.IsList l items := ⟨_, e, rfl, n, rfl⟩
    cases hv : vs.drop i with
    | nil =>
      have hlen : vs.length ≤ i := List.drop_eq_nil_iff.mp hv
      have : items[i]? = none := by rw [← Array.getElem?_toList]; exact List.getElem?_eq_none (by rw [rs.length]; exact hlen)
      exact wpAny_pyNext_list_end ha.1 hi hl this fun h' q => hq0 hv h' (hx.pokeE q)
    | cons p r' =>
      have hp : vs[i]? = some p := by rw [← List.head?_drop, hv]; rfl
      obtain ⟨v, gv, rv⟩ := rs.get hp
      refine wpAny_pyNext_list_item hi hl (by rw [← Array.getElem?_toList]; exact gv) fun h' q sb => hq1 p r' hv v h' s.toks (hx.pokeE sb.extBut) (rv.mono (hx.pokeE sb.extBut).seq) ⟨?_, un, lo, nt⟩
      have : r' = vs.drop (i + 1) := by rw [← List.tail_drop, hv]; rfl
      rw [this]
      exact .lst l vs (i + 1) q (hr.mono (hx.pokeE sb.extBut).seq)
  | tup l vs i hi hr =>
    intro hq0 hq1 hx
    obtain ⟨items, n, e, rs⟩ := hr.tup_inv
    have hl : s.heap.IsTuple l items := ⟨_, e, rfl, n, rfl⟩
    cases hv : vs.drop i with
    | nil =>
      have hlen : vs.length ≤ i := List.drop_eq_nil_iff.mp hv
      have : items[i]? = none := by rw [← Array.getElem?_toList]; exact List.getElem?_eq_none (by rw [rs.length]; exact hlen)
      exact wpAny_pyNext_tuple_end ha.1 hi hl this fun h' q => hq0 hv h' (hx.pokeE q)
    | cons p r' =>
      have hp : vs[i]? = some p := by rw [← List.head?_drop, hv]; rfl
      obtain ⟨v, gv, rv⟩ := rs.get hp
      refine wpAny_pyNext_tuple_item hi hl (by rw [← Array.getElem?_toList]; exact gv) fun h' q sb => hq1 p r' hv v h' s.toks (hx.pokeE sb.extBut) (rv.mono (hx.pokeE sb.extBut).seq) ⟨?_, un, lo, nt⟩
      have : r' = vs.drop (i + 1) := by rw [← List.tail_drop, hv]; rfl
      rw [this]
      exact .tup l vs (i + 1) q (hr.mono (hx.pokeE sb.extBut).seq)
  | str ty hty y t i hi =>
    intro hq0 hq1 hx
    cases hv : y.cps.toList.drop i with
    | nil =>
      have hlen : y.cps.toList.length ≤ i := List.drop_eq_nil_iff.mp hv
      have : y.cps[i]? = none := by rw [← Array.getElem?_toList]; exact List.getElem?_eq_none hlen
      rcases hty with rfl | rfl
      · exact wpAny_pyNext_ascii_end ha.1 hi this fun h' q => hq0 (by simp [hv]) h' (hx.pokeE q)
      · exact wpAny_pyNext_wide_end ha.1 hi this fun h' q => hq0 (by simp [hv]) h' (hx.pokeE q)
    | cons p r' =>
      have hp : y.cps[i]? = some p := by rw [← Array.getElem?_toList, ← List.head?_drop, hv]; rfl
      have e : r' = y.cps.toList.drop (i + 1) := by rw [← List.tail_drop, hv]; rfl
      rcases hty with rfl | rfl
      · refine wpAny_pyNext_ascii_item hi hp fun h' q sb => hq1 _ _ (by rw [hv]; rfl) _ h' _ (hx.pokeE sb.extBut) (.str [p] _) ⟨?_, un, lo, nt⟩
        rw [e]; exact .str _ (.inl rfl) y t (i + 1) q
      · refine wpAny_pyNext_wide_item hi hp fun h' q sb => hq1 _ _ (by rw [hv]; rfl) _ h' _ (hx.pokeE sb.extBut) (.str [p] _) ⟨?_, un, lo, nt⟩
        rw [e]; exact .str _ (.inr rfl) y t (i + 1) q
  | rng y n st hi =>
    intro hq0 hq1 hx
    cases n with
    | zero => exact wpAny_pyNext_range_end ha.1 hi (by lia) fun h' q => hq0 rfl h' (hx.pokeE q)
    | succ n =>
      refine wpAny_pyNext_range_item hi (by lia) fun h' q sb => hq1 _ _ rfl _ h' _ (hx.pokeE sb.extBut) (.int y _) ⟨?_, un, lo, nt⟩
      have : ((n + 1 : Nat) : Int) - 1 = n := by lia
      rw [this] at q
      exact .rng (y + st) n st q
/-- a row, a word or a range is gone through -/
theorem itr_iter {v : Value} {pv : V} {items : List V} {A : Around} {s : Shared} {d : Nat} (h : Items pv items) (hr : Rel C σ s.heap v pv) (hi : Inv C σ s) (ha : AOk d A) {QM : Value → Shared → Prop}
    (hq : ∀ it h', s.heap.get? it = none → (∀ b o, s.heap.get? b = some o → h'.get? b = some o) → Itr C σ h' it items → QM (.ref it) { s with heap := h' }) : wpAny (model C.prog C.w) A (pyIter v) QM X s := by
  have un : σ s.heap.objs.size = none := hi.off (Heap.get?_size _)
  have lo : C.h1.objs.size ≤ s.heap.objs.size := hi.size
  have nt : s.heap.objs.size ∉ C.tabs := fun q => by
    obtain ⟨n, hn, e⟩ := List.mem_map.mp q
    have := hi.tabLt n hn
    rw [e] at this
    exact absurd lo (Nat.not_le.mpr this)
  have g : ∀ o b o', s.heap.get? b = some o' → (s.heap.push o).get? b = some o' := fun o b o' e => Heap.get?_push_of_some _ e
  revert hr hq
  cases h with
  | lst vs =>
    intro hr hq
    obtain ⟨a, items, n, e, ho, _, _, _⟩ := hr.inv
    subst e
    exact wpAny_pyIter_list ⟨_, ho, rfl, _, rfl⟩ (hq _ _ (Heap.get?_size _) (g _) ⟨.lst _ _ 0 ⟨_, Heap.get?_push_size _ rfl, rfl, rfl⟩ (hr.mono (Ext.grow (g _)).seq), un, lo, nt⟩)
  | tup vs =>
    intro hr hq
    obtain ⟨a, items, n, e, ho, _, _, _⟩ := hr.inv
    subst e
    exact wpAny_pyIter_tuple ⟨_, ho, rfl, _, rfl⟩ (hq _ _ (Heap.get?_size _) (g _) ⟨.tup _ _ 0 ⟨_, Heap.get?_push_size _ rfl, rfl, rfl⟩ (hr.mono (Ext.grow (g _)).seq), un, lo, nt⟩)
  | str x =>
    intro hr hq
    obtain ⟨t, e⟩ := hr.inv
    subst e
    cases hall : (Str.mk x.toArray).cps.all (· < 128)
    · exact wpAny_pyIter_wide hall (hq _ _ (Heap.get?_size _) (g _) ⟨.str _ (.inr rfl) ⟨x.toArray⟩ t 0 ⟨_, Heap.get?_push_size _ rfl, rfl, rfl⟩, un, lo, nt⟩)
    · exact wpAny_pyIter_ascii hall (hq _ _ (Heap.get?_size _) (g _) ⟨.str _ (.inl rfl) ⟨x.toArray⟩ t 0 ⟨_, Heap.get?_push_size _ rfl, rfl, rfl⟩, un, lo, nt⟩)
  | rng a b c hs =>
    intro hr hq
    obtain ⟨_, t, u, v, e, ho, _, _⟩ := hr.inv
    subst e
    refine wpAny_pyIter_range ho hs (hq _ _ (Heap.get?_size _) (g _) ⟨.rng a _ c ?_, un, lo, nt⟩)
    have h0 : 0 ≤ Builtin.Range.rangeSize a b c := by
      unfold Builtin.Range.rangeSize
      split <;> split
      · have : 0 ≤ (b - a - 1) / c := Int.ediv_nonneg (by lia) (by lia)
        omega
      · lia
      · have : 0 ≤ (a - b - 1) / (-c) := Int.ediv_nonneg (by lia) (by lia)
        omega
      · lia
    show (s.heap.push _).get? _ = _
    rw [Int.toNat_of_nonneg h0]
    exact Heap.get?_push_size _ rfl
/-! targets -/
theorem Foot.notFixed {env : Env} {h : Heap} (hr : Rep C K env ρ σ h) {a : Addr} {o : Obj} (hs : σ a = none) (e : h.get? a = some o) (hF : Fixed o) : ¬ Foot env a := fun f => by
  have dd : ∀ d, o.data = d → (∀ x y, d ≠ .seq x y) → (∀ x, d ≠ .fields x) → False := fun d hd h1 h2 => by
    rcases hF with ⟨_, _, q⟩ | ⟨_, _, q⟩
    · exact h1 _ _ (hd.symm.trans q)
    · exact h2 _ (hd.symm.trans q)
  rcases f with rfl | ⟨x, _, hc⟩
  · refine Classical.byContradiction fun hbc => ?_
    obtain ⟨m, o', es, ep, e', d, _⟩ := hr.loc
    refine hbc ?_
    clear hbc
    (first | obtain rfl := Option.some.inj (e.symm.trans e') | exact absurd (e.symm.trans e') (Option.some_ne_none _) | exact absurd (e.symm.trans e').symm (Option.some_ne_none _) | exact (datN (e.symm.trans e') rfl).elim | (rw [e] at e'; cases e'))
    exact dd _ d (fun _ _ q => by cases q) (fun _ q => by cases q)
  · obtain ⟨v, o', e', d⟩ := (hr.cells x a hc).ex hs
    (first | obtain rfl := Option.some.inj (e.symm.trans e') | exact absurd (e.symm.trans e') (Option.some_ne_none _) | exact absurd (e.symm.trans e').symm (Option.some_ne_none _) | exact (datN (e.symm.trans e') rfl).elim | (rw [e] at e'; cases e'))
    exact dd _ d (fun _ _ q => by cases q) (fun _ q => by cases q)
theorem ExtF.seq {env : Env} {σ' : Store} {h h' : Heap} (hr : Rep C K env ρ σ h) (x : ExtF C env σ h σ' h') : SeqKeep C σ h σ' h' :=
  ⟨fun a o e f hs ht => x.keep a o e hs ht (Foot.notFixed hr hs e f), fun a o e f hs ht => x.free a o e hs ht (Foot.notFixed hr hs e f)⟩
theorem as_name {x : Str} {pos : Pos} {pv : V} {ρ' : Fm} {Q : Fm → Store → Prop} (hk : Stores K ρ x) (hu : Upd ρ x (.val pv) ρ') (h : Q ρ' σ) : AsP C K ρ σ (.Name x pos) pv Q X := fun A env s v ha hr hi hv QM hq =>
  wpAny_assign_Name (store_name hk hr hi hv hu fun s' hr' i' e' => hq ρ' σ s' h hr' i' e')
noncomputable def AssP (C : Ctx) (K : Kx) (X : Value → Shared → Prop) (Q : Fm → Store → Prop) : Fm → Store → List Expr → List V → Prop
  | ρ, σ, [], [] => Q ρ σ
  | ρ, σ, t :: ts, v :: vs => AsP C K ρ σ t v (fun ρ₁ σ₁ => AssP C K X Q ρ₁ σ₁ ts vs) X
  | _, _, _, _ => False
theorem ass_order {A : Around} {env : Env} {Q : Fm → Store → Prop} (ha : AOk K.d A) : ∀ {ts : List Expr} {pl : List V} {vs : List Value} {ρ : Fm} {σ : Store} {s : Shared}, AssP C K X Q ρ σ ts pl → Rep C K env ρ σ s.heap → Inv C σ s → Rels C σ s.heap vs pl →
    ∀ {QM : Unit → Shared → Prop}, (∀ ρ' σ' s', Q ρ' σ' → Rep C K env ρ' σ' s'.heap → Inv C σ' s' → ExtF C env σ s.heap σ' s'.heap → QM () s') → wpAny (model C.prog C.w) A (assignInOrder (ts.map fun t => assign t env) vs) QM X s := by
  intro ts
  induction ts with
  | nil =>
    intro pl vs ρ σ s h hr hi hrs QM hq
    cases pl with
    | nil =>
      cases hrs
      exact wpAny_assignInOrder_none (hq ρ σ s h hr hi .refl)
    | cons p pl => exact h.elim
  | cons t ts ih =>
    intro pl vs ρ σ s h hr hi hrs QM hq
    cases pl with
    | nil => exact h.elim
    | cons p pl =>
      cases hrs with
      | cons hv hl =>
        exact wpAny_assignInOrder_more (h A env s _ ha hr hi hv _ fun ρ₁ σ₁ s₁ h₁ hr₁ i₁ e₁ =>
          ih h₁ hr₁ i₁ (hl.mono (e₁.seq hr)) fun ρ' σ' s' q hr' i' e' => hq ρ' σ' s' q hr' i' (e₁.trans e'))
theorem as_tuple {elts : List Expr} {k : Nat} {pos : Pos} {vs : List V} {Q : Fm → Store → Prop} (h : AssP C K X Q ρ σ elts vs) (hl : elts.length = vs.length)
    (he : ∀ env, assignEach elts env = elts.map fun t => (false, assign t env) := by intro _; rfl) : AsP C K ρ σ (.Tuple elts k pos) (.tup vs) Q X := fun A env s v ha hr hi hv QM hq => by
  obtain ⟨a, items, n, e₀, ho, _, _, hrs⟩ := hv.inv
  subst e₀
  refine wpAny_assign_Tuple ha.1 ⟨_, ho, rfl, _, rfl⟩ ?_ ?_ fun h' e => ?_
  · rw [he]; simpa [hl] using hrs.length.symm
  · rw [he]; simp
  · have k : Poke C σ s.heap.objs.size s.heap h' := ⟨fun b o' hb q => e b o' hb q, fun o' q => by (first | obtain rfl := Option.some.inj (Heap.get?_size.symm.trans q) | exact absurd (Heap.get?_size.symm.trans q) (Option.some_ne_none _) | exact absurd (Heap.get?_size.symm.trans q).symm (Option.some_ne_none _) | exact (datN (Heap.get?_size.symm.trans q) rfl).elim | (rw [Heap.get?_size] at q; cases q))⟩
    have E : Ext C σ s.heap σ h' := Ext.grow fun b o' q => e b o' (fun q' => by subst q'; (first | obtain rfl := Option.some.inj (Heap.get?_size.symm.trans q) | exact absurd (Heap.get?_size.symm.trans q) (Option.some_ne_none _) | exact absurd (Heap.get?_size.symm.trans q).symm (Option.some_ne_none _) | exact (datN (Heap.get?_size.symm.trans q) rfl).elim | (rw [Heap.get?_size] at q; cases q))) q
    rw [he]
    have : ((elts.map fun t => (false, assign t env)).map (·.2)) = elts.map fun t => assign t env := by simp
    rw [this]
    exact ass_order ha h (hr.mono E) (hi.poke (s' := { s with heap := h' }) k rfl rfl) (hrs.mono k.seq) fun ρ' σ' s' q hr' i' e' => hq ρ' σ' s' q hr' i' (E.toF.trans e')
/-- a loop over a row, a word or a range -/
noncomputable def TurnL (J : List V → Fm → Store → Prop) (r : List V) (Q : Fl → Fm → Store → Prop) : Fl → Fm → Store → Prop
  | .next, ρ₃, σ₃ => J r ρ₃ σ₃
  | .cont, ρ₃, σ₃ => J r ρ₃ σ₃
  | .brk, ρ₃, σ₃ => Q .next ρ₃ σ₃
  | .ret v, ρ₃, σ₃ => Q (.ret v) ρ₃ σ₃
theorem Itr.notFoot {env : Env} {h : Heap} {it : Addr} {r : List V} (x : Itr C σ h it r) (hr : Rep C K env ρ σ h) : ¬ Foot env it := fun f => by
  refine Classical.byContradiction fun hbc => ?_
  obtain ⟨o, vs, e, d, _⟩ := x.st.obj
  refine hbc ?_
  clear hbc
  rcases f with rfl | ⟨y, _, hc⟩
  · refine Classical.byContradiction fun hbc => ?_
    obtain ⟨m, o', es, ep, e', d', _⟩ := hr.loc
    refine hbc ?_
    clear hbc
    (first | obtain rfl := Option.some.inj (e.symm.trans e') | exact absurd (e.symm.trans e') (Option.some_ne_none _) | exact absurd (e.symm.trans e').symm (Option.some_ne_none _) | exact (datN (e.symm.trans e') rfl).elim | (rw [e] at e'; cases e')); (first | obtain rfl := Option.some.inj (d.symm.trans d') | exact absurd (d.symm.trans d') (Option.some_ne_none _) | exact absurd (d.symm.trans d').symm (Option.some_ne_none _) | exact (datN (d.symm.trans d') rfl).elim | (rw [d] at d'; cases d'))
  · obtain ⟨v, o', e', d'⟩ := (hr.cells y it hc).ex x.un
    (first | obtain rfl := Option.some.inj (e.symm.trans e') | exact absurd (e.symm.trans e') (Option.some_ne_none _) | exact absurd (e.symm.trans e').symm (Option.some_ne_none _) | exact (datN (e.symm.trans e') rfl).elim | (rw [e] at e'; cases e')); (first | obtain rfl := Option.some.inj (d.symm.trans d') | exact absurd (d.symm.trans d') (Option.some_ne_none _) | exact absurd (d.symm.trans d').symm (Option.some_ne_none _) | exact (datN (d.symm.trans d') rfl).elim | (rw [d] at d'; cases d'))
theorem Itr.keep {env : Env} {σ' : Store} {h h' : Heap} {it : Addr} {r : List V} (x : Itr C σ h it r) (hr : Rep C K env ρ σ h) (e : ExtF C env σ h σ' h') : Itr C σ' h' it r := by
  refine Classical.byContradiction fun hbc => ?_
  obtain ⟨o, vs, g, d, _⟩ := x.st.obj
  refine hbc ?_
  clear hbc
  exact ⟨x.st.mono (fun o' g' => e.keep it o' g' x.un x.nt (x.notFoot hr)) (e.seq hr), e.free it o g x.un x.nt (x.notFoot hr), x.lo, x.nt⟩
theorem ItSt.cls {h : Heap} {it : Addr} {r : List V} (x : ItSt C σ h it r) : ∃ o n vs, h.get? it = some o ∧ o.cls = .type n ∧ o.data = .fields vs ∧ ["enumerate", "zip", "dict_itemiterator", "dict_reverseitemiterator", "odict_iterator", "itertools.zip_longest", "itertools.pairwise"].contains n = false := by
  cases x with
  | lst l vs i hi hr => obtain ⟨o, e, c, d⟩ := hi; exact ⟨o, _, _, e, c, d, by decide +kernel⟩
  | tup l vs i hi hr => obtain ⟨o, e, c, d⟩ := hi; exact ⟨o, _, _, e, c, d, by decide +kernel⟩
  | str ty hty x t i hi => obtain ⟨o, e, c, d⟩ := hi; exact ⟨o, _, _, e, c, d, by rcases hty with rfl | rfl <;> decide +kernel⟩
  | rng x n st hi => exact ⟨_, _, _, hi, rfl, rfl, by decide +kernel⟩
theorem own_go {M : Model} {target : Expr} {it : Addr} {v : Value} {r : List V} {A : Around} {E : Value → Shared → Prop} {s : Shared} {Q : Unit → Shared → Prop} (x : ItSt C σ s.heap it r) (h : Q () s) : wpAny M A (letOwnedTupleGo target (.ref it) v) Q E s := by
  refine Classical.byContradiction fun hbc => ?_
  obtain ⟨o, n, vs, e, c, d, hn⟩ := x.cls
  refine hbc ?_
  clear hbc
  have main : wpAny M A (do
    let (.ref r, .ref a) := ((Value.ref it, v) : Value × Value) | return
    let o ← load r
    match o.cls, o.data with
    | .type n, .fields vs =>
      if ["enumerate", "zip", "dict_itemiterator", "dict_reverseitemiterator", "odict_iterator", "itertools.zip_longest", "itertools.pairwise"].contains n && vs[0]? == some (rawInt a) then
        rule "for.unpacks-the-owned-tuple"
        updateField r 0 .none
    | _, _ => pure ()) Q E s := by
    cases v <;> first | exact wpAny_pure h | skip
    refine wpAny_bind (wpAny_load e ?_)
    rw [c, d]
    simp only [hn, Bool.false_and, Bool.false_eq_true, if_false]
    exact wpAny_pure h
  unfold letOwnedTupleGo
  cases target <;> first | exact wpAny_pure h | exact main
theorem Itr.nd {h : Heap} {it : Addr} {r : List V} (x : Itr C σ h it r) : ∀ o, h.get? it = some o → (∀ es ep, o.data ≠ .dict es ep) ∧ ∀ v, o.data ≠ .cell v := fun o q => by
  refine Classical.byContradiction fun hbc => ?_
  obtain ⟨o', vs, q', d, _⟩ := x.st.obj
  refine hbc ?_
  obtain rfl := Option.some.inj (q.symm.trans q')
  exact ⟨fun _ _ x => (datN (d.symm.trans x) rfl).elim, fun _ x => (datN (d.symm.trans x) rfl).elim⟩
inductive ForJ (C : Ctx) (K : Kx) (env : Env) (J : List V → Fm → Store → Prop) (it : Addr) (σ₁ : Store) (h₁ : Heap) (n : Nat) (s' : Shared) : Prop
  | mk (r : List V) (ρ₁ : Fm) (σ₂ : Store) (e : n = r.length) (hJ : J r ρ₁ σ₂) (hI : Itr C σ₂ s'.heap it r) (hr : Rep C K env ρ₁ σ₂ s'.heap) (hi : Inv C σ₂ s') (E : ExtF C env σ₁ h₁ σ₂ s'.heap)
theorem st_for {target iter : Expr} {b : List Stmt} {pos : Pos} {Q : Fl → Fm → Store → Prop}
    (h : EvP C K ρ σ iter (fun v σ₁ => ∃ items, Items v items ∧ ∃ J : List V → Fm → Store → Prop, J items ρ σ₁ ∧
      (∀ x r ρ₁ σ₂, J (x :: r) ρ₁ σ₂ → AsP C K ρ₁ σ₂ target x (fun ρ₂ σ₃ => ExP C K ρ₂ σ₃ b (TurnL J r Q) Bot) Bot) ∧
      (∀ ρ₁ σ₂, J [] ρ₁ σ₂ → Q .next ρ₁ σ₂)) X)
    (hs : ∀ env x, foldedSetIterable iter env x = pure x := by intro _ _; rfl) : StP C K ρ σ (.For target iter b [] pos) Q X := fun A env s ha hr hi QM hq => by
  refine wpAny_For (h A env s ha hr hi _ fun v pv σ₁ s₁ h₁ i₁ e₁ r₁ => ?_) (hs env)
  refine Classical.byContradiction fun hbc => ?_
  obtain ⟨items, hit, J, hJ, turn, done⟩ := h₁
  refine hbc ?_
  clear hbc
  refine itr_iter hit r₁ i₁ ha fun it h' fr gr hI => ?_
  have E₁ : Ext C σ₁ s₁.heap σ₁ h' := Ext.grow gr
  have hr₁ := (hr.mono e₁).mono E₁
  refine codeAny_forLoop_any (ForJ C K env J it σ₁ s₁.heap) ?_ items.length
    ⟨items, ρ, σ₁, rfl, hJ, hI, hr₁, i₁.grow (s' := { s₁ with heap := h' }) gr rfl rfl, E₁.toF⟩
  rintro n s' ⟨r, ρ₁, σ₂, rfl, hJ, hI, hr', hi', E'⟩
  refine itr_next hI ha (fun e h'' k => ?_) (fun p r' e v h'' tk k rv hI' => ?_)
  · subst e
    have nd := hI.nd
    exact wpAny_execs_nil (hq .next .next ρ₁ σ₂ _ (done ρ₁ σ₂ hJ) trivial (hr'.poke k nd) (hi'.poke (s' := { s' with heap := h'' }) k rfl rfl) (e₁.toF.trans (E'.poke k fr)))
  · subst e
    have nd := hI.nd
    have hr'' := hr'.poke k nd
    have hi'' := hi'.poke (s' := { s' with heap := h'', toks := tk }) k rfl rfl
    have E'' := E'.poke k fr
    refine own_go (s := { s' with heap := h'', toks := tk }) hI'.st ?_
    refine wpAny_mono (turn p r' ρ₁ σ₂ hJ A env { s' with heap := h'', toks := tk } v ha hr'' hi'' rv _ fun ρ₂ σ₃ s₂ q hr₂ hi₂ E₂ => ?_) (fun _ _ h => h) fun _ _ x => x.elim
    have hI₂ := hI'.keep hr'' E₂
    refine wpAny_mono (q A env s₂ ha hr₂ hi₂ _ fun f fl ρ₃ σ₄ s₃ q rf hr₃ hi₃ E₃ => ?_) (fun _ _ h => h) fun _ _ x => x.elim
    have hI₃ := hI₂.keep hr₂ E₃
    have EE := (E''.trans E₂).trans E₃
    cases fl with
    | next => cases f <;> first | exact rf.elim | exact ⟨r'.length, by simp, r', ρ₃, σ₄, rfl, q, hI₃, hr₃, hi₃, EE⟩
    | cont => cases f <;> first | exact rf.elim | exact ⟨r'.length, by simp, r', ρ₃, σ₄, rfl, q, hI₃, hr₃, hi₃, EE⟩
    | brk => cases f <;> first | exact rf.elim | exact hq .next .next ρ₃ σ₄ s₃ q trivial hr₃ hi₃ (e₁.toF.trans EE)
    | ret v => cases f <;> first | exact rf.elim | exact hq _ (.ret v) ρ₃ σ₄ s₃ q rf hr₃ hi₃ (e₁.toF.trans EE)
end
end Mine
end
section
open PySem PySem.W PyProof.Rows PySem.Calls
namespace Mine
section
variable {C : Ctx} {K : Kx} {ρ : Fm} {σ : Store} {X : Value → Shared → Prop}
theorem get?_ge {h : Heap} {a : Addr} (ha : h.objs.size ≤ a) : h.get? a = none := by
  cases e : h.get? a with
  | none => rfl
  | some o => exact absurd (Heap.lt_size e) (Nat.not_lt.mpr ha)
/-- what a call's end owes -/
noncomputable def Back (QM : Value → Shared → Prop) (X : Value → Shared → Prop) : Result → Shared → Prop := fun r s' => match r with | .ok (.ret v) => QM v s' | .ok _ => False | .error e => X e s'
/-- what a call sees of a function -/
structure FnIs (h : Heap) (f : Addr) (R : FnRec) (cap : List (Str × Addr)) (code : Value) : Prop where
  get : ∃ o fd, h.get? f = some o ∧ o.data = .func fd ∧ fd.params = R.params ∧ fd.body = R.body ∧ fd.scope = R.scope ∧ fd.globals = mainGlobals ∧ fd.closure = cap ∧ fd.defaults = .none ∧ fd.kwdefaults = .none ∧
    fd.builtins = builtinsNs ∧ fd.qualname = R.qual ∧ fd.code = code
  cr : h.CodeRec code R.qual
noncomputable def Binds (R : FnRec) (names : List Str) : Prop := ∀ fd : FuncData, fd.params = R.params → fd.defaults = .none → fd.kwdefaults = .none → ∀ vs : List Value, vs.length = names.length → bindArgs fd ⟨vs, []⟩ = pure (names.zip vs)
noncomputable def KxOf (R : FnRec) (code : Value) (d : Nat) : Kx := ⟨R.scope.names, R.qual ++ ".<locals>.", code, d⟩
noncomputable def pslots : List Str → List V → Fm
  | x :: xs, v :: vs => (x, .val v) :: pslots xs vs
  | _, _ => []
noncomputable def RetQ (Q : V → Store → Prop) : Fl → Fm → Store → Prop
  | .ret v, _, σ' => Q v σ'
  | _, _, σ' => Q .none σ'
theorem AOk.call {d : Nat} {A : Around} {env : Env} (h : AOk (d + 1) A) : AOk d (A.deeper env) := by
  refine Classical.byContradiction fun hbc => ?_
  obtain ⟨h1, h2, h3⟩ := h
  refine hbc ?_
  clear hbc
  refine ⟨h1, ?_, ?_⟩
  · show A.depth + 1 + d ≤ 990; lia
  · show A.units + 3 + 10 * d ≤ 9800; lia
theorem AOk.le {d d' : Nat} {A : Around} (h : AOk d A) (hd : d' ≤ d) : AOk d' A := by
  refine Classical.byContradiction fun hbc => ?_
  obtain ⟨h1, h2, h3⟩ := h
  refine hbc ?_
  clear hbc
  exact ⟨h1, by lia, by lia⟩
theorem mem_pslots : ∀ {names : List Str} {args : List V} {p : Str × Slot}, p ∈ pslots names args → ∃ a, p = (p.1, .val a) ∧ p.1 ∈ names
  | x :: xs, v :: vs, p, h => by
    rcases List.mem_cons.mp h with rfl | h
    · exact ⟨v, rfl, List.mem_cons_self⟩
    · obtain ⟨a, e, m⟩ := mem_pslots h; exact ⟨a, e, List.mem_cons_of_mem _ m⟩
theorem lookup_append' {β : Type} {x : Str} : ∀ {l l' : List (Str × β)}, (l ++ l').lookup x = (l.lookup x).or (l'.lookup x)
  | [], l' => by simp
  | (n, v) :: l, l' => by
    simp only [List.cons_append, List.lookup_cons]
    cases hx : x == n <;> simp [lookup_append']
theorem zip_reverse_lookup {σ : Store} {h : Heap} : ∀ {names : List Str} {vs : List Value} {args : List V} {x : Str} {a : V}, names.Nodup → Rels C σ h vs args → (x, Slot.val a) ∈ pslots names args →
    ∃ v, (names.zip vs).reverse.lookup x = some v ∧ Rel C σ h v a := by
  intro names
  induction names with
  | nil => intro _ _ _ _ _ _ hm; cases hm
  | cons n ns ih =>
    intro vs args x a hn hr hm
    cases args with
    | nil => cases hm
    | cons p pl =>
      obtain ⟨w, l, rfl, hv, hl⟩ := hr.inv
      simp only [List.zip_cons_cons, List.reverse_cons, lookup_append']
      rcases List.mem_cons.mp hm with e | hm
      · injection e with e1 e2
        injection e2 with e2
        subst e1; subst e2
        have : ((ns.zip l).reverse).lookup x = none := by
          have hz : ∀ (q : List (Str × Value)), (∀ p ∈ q, p.1 ≠ x) → q.lookup x = none := by
            intro q
            induction q with
            | nil => intro _; rfl
            | cons p q ih =>
              intro hq
              have h1 : (x == p.1) = false := by simp; exact fun e => hq p List.mem_cons_self e.symm
              rw [List.lookup_cons, h1]; exact ih fun p hp => hq p (List.mem_cons_of_mem _ hp)
          refine hz _ fun p hp e => ?_
          have := (List.of_mem_zip (List.mem_reverse.mp hp)).1
          rw [e] at this
          exact (List.nodup_cons.mp hn).1 this
        rw [this]
        exact ⟨_, by simp, hv⟩
      · refine Classical.byContradiction fun hbc => ?_
        obtain ⟨v, e, r⟩ := ih (List.nodup_cons.mp hn).2 hl hm
        refine hbc ?_
        clear hbc
        exact ⟨v, by rw [e]; rfl, r⟩
/-- the facts of the base heap that calls need -/
structure Ctx.Ok2 (C : Ctx) : Prop extends C.Ok where
  nl : C.h1.NoLimit
  st : cStatics ∉ C.tabs
theorem Inv.nolimit {s : Shared} (O : C.Ok2) (i : Inv C σ s) : s.heap.NoLimit := let ⟨mc, h, e⟩ := O.nl; ⟨mc, i.ns h O.st, e⟩
theorem frame_out {env : Env} {s s₀ s' : Shared} {σ' : Store} (hk : ∀ b o, s.heap.get? b = some o → s₀.heap.get? b = some o) (hf : ∀ a o, s.heap.get? a = some o → ¬ Foot env a) (e : ExtF C env σ s₀.heap σ' s'.heap) : Ext C σ s.heap σ' s'.heap :=
  ⟨fun a o g hs ht => e.keep a o (hk a o g) hs ht (hf a o g), fun a o g hs ht => e.free a o (hk a o g) hs ht (hf a o g), e.cell⟩
/-- a call of a function whose names have no cells of their own -/
theorem call_plain (O : C.Ok2) {R : FnRec} {cap : List (Str × Addr)} {code : Value} {body : List Stmt} {names : List Str} {f : Addr} {d : Nat} {args : List V} {caps : Fm} {Q : V → Store → Prop}
    (hb : R.body = .stmts body) (hbind : Binds R names) (hnd : names.Nodup) (hlen : args.length = names.length) (hloc : ∀ x ∈ names, R.scope.names.lookup x = some .local) (hcell : ∀ x ∈ R.scope.names, x.2 ≠ .cell)
    (hcap : ∀ x c, cap.lookup x = some c → ∃ o, σ c = some (.cell o)) (hinj : ∀ x y c, cap.lookup x = some c → cap.lookup y = some c → x = y)
    (hcaps : ∀ p ∈ caps, ∃ c, p.2 = .sh c ∧ cap.lookup p.1 = some c ∧ R.scope.names.lookup p.1 = some .free)
    (hk : R.scope.kind = .function) (hco : R.scope.isCoroutine = false) (hgen : R.scope.isGenerator = false)
    (h : ExP C (KxOf R code d) (pslots names args ++ caps) σ body (RetQ Q) Bot)
    {A : Around} {s : Shared} {vs : List Value} (ha : AOk (d + 1) A) (hi : Inv C σ s) (hr : Rels C σ s.heap vs args) (hf : FnIs s.heap f R cap code) {QM : Value → Shared → Prop}
    (hq : ∀ v pv σ' s', Q pv σ' → Inv C σ' s' → Ext C σ s.heap σ' s'.heap → Rel C σ' s'.heap v pv → QM v s') : codeAny (model C.prog C.w) A (.call (.ref f) ⟨vs, []⟩) (Back QM X) s := by
  refine Classical.byContradiction fun hbc => ?_
  obtain ⟨o, fd, ho, hd, f1, f2, f3, f4, f5, f6, f7, f8, f9, f10⟩ := hf.get
  refine hbc ?_
  clear hbc
  have hvs : vs.length = names.length := hr.length.trans hlen
  have hdep : A.depth < recursionLimit := by
    have := ha.2.1
    show A.depth < 1000
    omega
  refine (codeAny_call_def (fd := fd) (body := body) (binds := names.zip vs) hdep ho hd (hi.nolimit O) (by rw [f10, f9]; exact hf.cr) (f2.trans hb) (.of_eq (hbind fd f1 f6 f7 vs hvs))
    (by rw [f3]; exact hcell) (fun x hx => by rw [f3]; exact hloc _ (List.of_mem_zip hx).1) (fun h₀ hns hk₀ => ?_) (by rw [f3]; exact hco) (by rw [f3]; exact hgen) (by rw [f3]; exact hk))
  have g₀ : ∀ b o, s.heap.get? b = some o → (({ s with heap := h₀, toks := s.toks + (names.zip vs).length } : Shared)).heap.get? b = some o := hk₀
  have i₀ : Inv C σ { s with heap := h₀, toks := s.toks + (names.zip vs).length } := hi.grow g₀ rfl rfl
  have LN : s.heap.get? s.heap.objs.size = none := get?_ge (Nat.le_refl _)
  have hl : ¬ Foot (callEnv fd s.heap.objs.size f) s.heap.objs.size → False := fun x => x (.inl rfl)
  have foot : ∀ a o, s.heap.get? a = some o → ¬ Foot (callEnv fd s.heap.objs.size f) a := fun a o g q => by
    rcases q with q | ⟨x, q, _⟩
    · rw [q] at g; rw [show (callEnv fd s.heap.objs.size f).locals = s.heap.objs.size from rfl, LN] at g; cases g
    · rw [show (callEnv fd s.heap.objs.size f).scope = fd.scope from rfl, f3] at q
      exact hcell _ (mem_of_lookup q) rfl
  have rep : Rep C (KxOf R code d) (callEnv fd s.heap.objs.size f) (pslots names args ++ caps) σ h₀ := by
    refine ⟨by show fd.scope.kind = _; rw [f3]; exact hk, by show fd.scope.names = _; rw [f3]; rfl, f4, f8, by show fd.qualname ++ _ = _; rw [f9]; rfl, f10, ⟨_, hns⟩, ⟨hi.off LN, hi.notTab hi.size, hi.size⟩, fun x c hc => ?_, fun x y c hx hy => ?_, fun p hp => ?_⟩
    · rw [show (callEnv fd s.heap.objs.size f).cells = fd.closure from rfl, f5] at hc
      obtain ⟨oc, hoc⟩ := hcap x c hc
      have lo := (hi.own c _ hoc).1
      refine ⟨fun q => ?_, lo, hi.notTab lo, fun q => (by (first | obtain rfl := Option.some.inj (hoc.symm.trans q) | exact absurd (hoc.symm.trans q) (Option.some_ne_none _) | exact absurd (hoc.symm.trans q).symm (Option.some_ne_none _) | exact (datN (hoc.symm.trans q) rfl).elim | (rw [hoc] at q; cases q))), fun o' q => (by (first | obtain rfl := Option.some.inj (hoc.symm.trans q) | exact absurd (hoc.symm.trans q) (Option.some_ne_none _) | exact absurd (hoc.symm.trans q).symm (Option.some_ne_none _) | exact (datN (hoc.symm.trans q) rfl).elim | (rw [hoc] at q; cases q)); exact ⟨oc, rfl⟩)⟩
      rw [show (callEnv fd s.heap.objs.size f).locals = s.heap.objs.size from rfl] at q
      rw [← q, hi.off LN] at hoc; cases hoc
    · rw [show (callEnv fd s.heap.objs.size f).cells = fd.closure from rfl, f5] at hx hy
      exact hinj x y c hx hy
    · rcases List.mem_append.mp hp with hp | hp
      · refine Classical.byContradiction fun hbc => ?_
        obtain ⟨a, e, m⟩ := mem_pslots hp
        refine hbc ?_
        clear hbc
        rw [e] at hp ⊢
        refine Classical.byContradiction fun hbc => ?_
        obtain ⟨v, hv, rv⟩ := zip_reverse_lookup hnd hr hp
        refine hbc ?_
        clear hbc
        exact .inl ⟨hloc _ m, _, v, hns, hv, rv.mono (Ext.grow hk₀).seq⟩
      · refine Classical.byContradiction fun hbc => ?_
        obtain ⟨c, e1, e2, e3⟩ := hcaps p hp
        refine hbc ?_
        clear hbc
        rw [show p = (p.1, Slot.sh c) from by rw [← e1]]
        exact ⟨.inr e3, by show fd.closure.lookup _ = _; rw [f5]; exact e2, hcap _ _ e2⟩
  refine wpAny_mono (h (A.deeper (callEnv fd s.heap.objs.size f)) (callEnv fd s.heap.objs.size f) _ ha.call rep i₀ (fun fl s' => ∃ pv σ', Q pv σ' ∧ Inv C σ' s' ∧ Ext C σ s.heap σ' s'.heap ∧ Rel C σ' s'.heap (match fl with | .ret v => v | _ => .none) pv)
    fun fl pfl ρ' σ' s' q rf _ i' e' => ?_) (fun fl s' x => ?_) fun _ _ x => x.elim
  · have E := frame_out (s₀ := { s with heap := h₀, toks := s.toks + (names.zip vs).length }) hk₀ foot e'
    cases pfl with
    | ret pv => cases fl <;> first | exact rf.elim | exact ⟨pv, σ', q, i', E, rf⟩
    | next => cases fl <;> first | exact rf.elim | exact ⟨.none, σ', q, i', E, .none⟩
    | brk => cases fl <;> first | exact rf.elim | exact ⟨.none, σ', q, i', E, .none⟩
    | cont => cases fl <;> first | exact rf.elim | exact ⟨.none, σ', q, i', E, .none⟩
  · refine Classical.byContradiction fun hbc => ?_
    obtain ⟨pv, σ', q, i', E, rv⟩ := x
    refine hbc ?_
    clear hbc
    exact hq _ pv σ' s' q i' E rv
theorem bindL_none {kindOf : Str → Option NameKind} {x : Str} : ∀ {names : List Str} {vs : List Value} {m : Str → Option Value}, x ∉ names → bindL kindOf (names.zip vs) m x = m x
  | [], _, _, _ => by simp [bindL]
  | _ :: _, [], _, _ => by simp [bindL]
  | n :: ns, v :: vs, m, h => by
    have h1 : x ≠ n := fun e => h (e ▸ List.mem_cons_self)
    have h2 : x ∉ ns := fun q => h (List.mem_cons_of_mem _ q)
    rw [List.zip_cons_cons, bindL, bindL_none h2]
    split <;> simp [h1]
theorem bindC_none {kindOf : Str → Option NameKind} {x : Str} : ∀ {names : List Str} {vs : List Value} {m : Str → Option Value}, x ∉ names → bindC kindOf (names.zip vs) m x = m x
  | [], _, _, _ => by simp [bindC]
  | _ :: _, [], _, _ => by simp [bindC]
  | n :: ns, v :: vs, m, h => by
    have h1 : x ≠ n := fun e => h (e ▸ List.mem_cons_self)
    have h2 : x ∉ ns := fun q => h (List.mem_cons_of_mem _ q)
    rw [List.zip_cons_cons, bindC, bindC_none h2]
    split <;> simp [h1]
theorem bind_get {kindOf : Str → Option NameKind} {σ : Store} {h : Heap} : ∀ {names : List Str} {vs : List Value} {args : List V} {x : Str} {a : V} {m m' : Str → Option Value}, names.Nodup → Rels C σ h vs args → (x, Slot.val a) ∈ pslots names args →
    ∃ v, (kindOf x = some .local → bindL kindOf (names.zip vs) m x = some v) ∧ (kindOf x ≠ some .local → bindC kindOf (names.zip vs) m' x = some v) ∧ Rel C σ h v a := by
  intro names
  induction names with
  | nil => intro _ _ _ _ _ _ _ _ hm; cases hm
  | cons n ns ih =>
    intro vs args x a m m' hn hr hm
    cases args with
    | nil => cases hm
    | cons p pl =>
      obtain ⟨w, l, rfl, hv, hl⟩ := hr.inv
      rcases List.mem_cons.mp hm with e | hm
      · injection e with e1 e2
        injection e2 with e2
        subst e1; subst e2
        have hx := (List.nodup_cons.mp hn).1
        refine ⟨w, fun hk => ?_, fun hk => ?_, hv⟩
        · rw [List.zip_cons_cons, bindL, bindL_none hx, if_pos hk]; simp
        · rw [List.zip_cons_cons, bindC, bindC_none hx, if_neg hk]; simp
      · refine Classical.byContradiction fun hbc => ?_
        obtain ⟨v, h1, h2, h3⟩ := ih (m := if kindOf n = some .local then fun y => if y = n then some w else m y else m) (m' := if kindOf n = some .local then m' else fun y => if y = n then some w else m' y) (List.nodup_cons.mp hn).2 hl hm
        refine hbc ?_
        clear hbc
        exact ⟨v, h1, h2, h3⟩
/-- a call of a function of whose names some have cells -/
theorem call_cells (O : C.Ok2) {R : FnRec} {code : Value} {body : List Stmt} {names emps : List Str} {f : Addr} {d : Nat} {args : List V} {Q : V → Store → Prop}
    (hb : R.body = .stmts body) (hbind : Binds R names) (hnd : names.Nodup) (hlen : args.length = names.length)
    (hloc : ∀ x ∈ names, R.scope.names.lookup x = some .local ∨ (R.scope.names.lookup x = some .cell ∧ ∀ n, ((cellsFrom n R.scope.names []).lookup x).isSome = true))
    (hemp : ∀ x ∈ emps, x ∉ names ∧ R.scope.names.lookup x = some .cell ∧ ∀ n, ((cellsFrom n R.scope.names []).lookup x).isSome = true)
    (hk : R.scope.kind = .function) (hco : R.scope.isCoroutine = false) (hgen : R.scope.isGenerator = false)
    (h : ExP C (KxOf R code d) (pslots names args ++ emps.map fun x => (x, .emp)) σ body (RetQ Q) Bot)
    {A : Around} {s : Shared} {vs : List Value} (ha : AOk (d + 1) A) (hi : Inv C σ s) (hr : Rels C σ s.heap vs args) (hf : FnIs s.heap f R [] code) {QM : Value → Shared → Prop}
    (hq : ∀ v pv σ' s', Q pv σ' → Inv C σ' s' → Ext C σ s.heap σ' s'.heap → Rel C σ' s'.heap v pv → QM v s') : codeAny (model C.prog C.w) A (.call (.ref f) ⟨vs, []⟩) (Back QM X) s := by
  refine Classical.byContradiction fun hbc => ?_
  obtain ⟨o, fd, ho, hd, f1, f2, f3, f4, f5, f6, f7, f8, f9, f10⟩ := hf.get
  refine hbc ?_
  clear hbc
  have hvs : vs.length = names.length := hr.length.trans hlen
  have hdep : A.depth < recursionLimit := by
    have := ha.2.1
    show A.depth < 1000
    omega
  refine (codeAny_call_cells (fd := fd) (body := body) (binds := names.zip vs) hdep ho hd (hi.nolimit O) (by rw [f10, f9]; exact hf.cr) (f2.trans hb) (hbind fd f1 f6 f7 vs hvs) f5
    (fun x hx => by
      rw [f3]
      rcases hloc _ (List.of_mem_zip hx).1 with q | ⟨q, q'⟩
      · exact .inl q
      · exact .inr ⟨q, q' _⟩) (fun s₁ x => ?_) (by rw [f3]; exact hco) (by rw [f3]; exact hgen) (by rw [f3]; exact hk))
  refine Classical.byContradiction fun hbc => ?_
  obtain ⟨h₁, tk, rfl, hk₁⟩ := x.done
  refine hbc ?_
  clear hbc
  have g₀ : ∀ b o, s.heap.get? b = some o → (({ s with heap := h₁, toks := tk } : Shared)).heap.get? b = some o := hk₁
  have i₀ : Inv C σ { s with heap := h₁, toks := tk } := hi.grow g₀ rfl rfl
  have hge : ∀ n c, (callEnvC fd s.heap.objs.size f).cells.lookup n = some c → s.heap.objs.size < c := fun n c e => x.above n c (mem_of_lookup e)
  have LN : s.heap.get? s.heap.objs.size = none := get?_ge (Nat.le_refl _)
  have cells_eq : (callEnvC fd s.heap.objs.size f).cells = cellsFrom (s.heap.objs.size + 1) R.scope.names [] := by show cellsFrom _ fd.scope.names [] = _; rw [f3]
  have foot : ∀ a o, s.heap.get? a = some o → ¬ Foot (callEnvC fd s.heap.objs.size f) a := fun a o g q => by
    rcases q with q | ⟨x, _, q⟩
    · rw [q] at g; rw [show (callEnvC fd s.heap.objs.size f).locals = s.heap.objs.size from rfl, LN] at g; cases g
    · exact absurd (Heap.lt_size g) (Nat.not_lt.mpr (Nat.le_of_lt (hge _ _ q)))
  have kind_eq : ∀ x, (callEnvC fd s.heap.objs.size f).kindOf x = R.scope.names.lookup x := fun x => by show fd.scope.names.lookup x = _; rw [f3]
  have fresh : ∀ n c, (callEnvC fd s.heap.objs.size f).cells.lookup n = some c → σ c = none ∧ C.h1.objs.size ≤ c ∧ c ∉ C.tabs := fun n c e => by
    have := hge n c e
    have lo : C.h1.objs.size ≤ c := Nat.le_trans hi.size (Nat.le_of_lt this)
    exact ⟨hi.off (get?_ge (Nat.le_of_lt this)), lo, hi.notTab lo⟩
  have rep : Rep C (KxOf R code d) (callEnvC fd s.heap.objs.size f) (pslots names args ++ emps.map fun x => (x, .emp)) σ h₁ := by
    refine ⟨by show fd.scope.kind = _; rw [f3]; exact hk, by show fd.scope.names = _; rw [f3]; rfl, f4, f8, by show fd.qualname ++ _ = _; rw [f9]; rfl, f10, ⟨_, x.toInCall.ns⟩, ⟨hi.off LN, hi.notTab hi.size, hi.size⟩, fun y c hc => ?_, fun y z c hy hz => ?_, fun p hp => ?_⟩
    · refine Classical.byContradiction fun hbc => ?_
      obtain ⟨q1, q2, q3⟩ := fresh y c hc
      refine hbc ?_
      clear hbc
      exact ⟨Nat.ne_of_lt (hge y c hc), q2, q3, fun _ => ⟨_, x.cell y c hc⟩, fun o q => by (first | obtain rfl := Option.some.inj (q1.symm.trans q) | exact absurd (q1.symm.trans q) (Option.some_ne_none _) | exact absurd (q1.symm.trans q).symm (Option.some_ne_none _) | exact (datN (q1.symm.trans q) rfl).elim | (rw [q1] at q; cases q))⟩
    · have ap := x.apart
      have m1 := mem_of_lookup hy
      have m2 := mem_of_lookup hz
      have : ∀ {l : List (Str × Addr)}, l.Pairwise (fun x y => x.2 ≠ y.2) → (y, c) ∈ l → (z, c) ∈ l → y = z := by
        intro l
        induction l with
        | nil => intro _ h; cases h
        | cons p l ih =>
          intro hp h1 h2
          obtain ⟨hp1, hp2⟩ := List.pairwise_cons.mp hp
          rcases List.mem_cons.mp h1 with e1 | h1 <;> rcases List.mem_cons.mp h2 with e2 | h2
          · have := e1.trans e2.symm; injection this
          · exact absurd rfl (by have := hp1 _ h2; rw [← e1] at this; exact this)
          · exact absurd rfl (by have := hp1 _ h1; rw [← e2] at this; exact this)
          · exact ih hp2 h1 h2
      exact this ap m1 m2
    · rcases List.mem_append.mp hp with hp | hp
      · refine Classical.byContradiction fun hbc => ?_
        obtain ⟨a, e, m⟩ := mem_pslots hp
        refine hbc ?_
        clear hbc
        rw [e] at hp ⊢
        refine Classical.byContradiction fun hbc => ?_
        obtain ⟨v, hv1, hv2, rv⟩ := bind_get (kindOf := (callEnvC fd s.heap.objs.size f).kindOf) (m := fun _ => none) (m' := fun _ => none) hnd hr hp
        refine hbc ?_
        clear hbc
        rcases hloc _ m with q | ⟨q, q'⟩
        · exact .inl ⟨q, _, v, x.toInCall.ns, hv1 ((kind_eq _).trans q), rv.mono (Ext.grow hk₁).seq⟩
        · have hs := q' (s.heap.objs.size + 1)
          rw [← cells_eq] at hs
          obtain ⟨c, hc⟩ := Option.isSome_iff_exists.mp hs
          refine .inr ⟨.inl q, c, v, hc, ?_, rv.mono (Ext.grow hk₁).seq, (fresh _ c hc).1, (fresh _ c hc).2.2⟩
          have := x.cell _ c hc
          rw [hv2 (by rw [kind_eq, q]; intro z; cases z)] at this
          exact this
      · refine Classical.byContradiction fun hbc => ?_
        obtain ⟨y, hy, rfl⟩ := List.mem_map.mp hp
        obtain ⟨hyn, q, q'⟩ := hemp y hy
        refine hbc ?_
        clear hbc
        have hs := q' (s.heap.objs.size + 1)
        rw [← cells_eq] at hs
        obtain ⟨c, hc⟩ := Option.isSome_iff_exists.mp hs
        have hce := x.cell _ c hc
        rw [bindC_none hyn] at hce
        exact ⟨q, c, hc, ⟨⟨none, rfl⟩, hce⟩, (fresh _ c hc).1, (fresh _ c hc).2.2⟩
  refine wpAny_mono (h (A.deeper (callEnvC fd s.heap.objs.size f)) (callEnvC fd s.heap.objs.size f) _ ha.call rep i₀ (fun fl s' => ∃ pv σ', Q pv σ' ∧ Inv C σ' s' ∧ Ext C σ s.heap σ' s'.heap ∧ Rel C σ' s'.heap (match fl with | .ret v => v | _ => .none) pv)
    fun fl pfl ρ' σ' s' q rf _ i' e' => ?_) (fun fl s' x => ?_) fun _ _ x => x.elim
  · have E := frame_out (s₀ := { s with heap := h₁, toks := tk }) hk₁ foot e'
    cases pfl with
    | ret pv => cases fl <;> first | exact rf.elim | exact ⟨pv, σ', q, i', E, rf⟩
    | next => cases fl <;> first | exact rf.elim | exact ⟨.none, σ', q, i', E, .none⟩
    | brk => cases fl <;> first | exact rf.elim | exact ⟨.none, σ', q, i', E, .none⟩
    | cont => cases fl <;> first | exact rf.elim | exact ⟨.none, σ', q, i', E, .none⟩
  · refine Classical.byContradiction fun hbc => ?_
    obtain ⟨pv, σ', q, i', E, rv⟩ := x
    refine hbc ?_
    clear hbc
    exact hq _ pv σ' s' q i' E rv
end
end Mine
end
section
open PySem PySem.W PyProof.Rows PySem.Calls
namespace Mine
/-- a call of a value with arguments -/
noncomputable def CallV (C : Ctx) (d : Nat) (fv : V) (args : List V) (σ : Store) (Q : V → Store → Prop) (X : Value → Shared → Prop) : Prop :=
  ∀ (A : Around) (s : Shared) (f : Value) (vs : List Value), AOk d A → Inv C σ s → Rel C σ s.heap f fv → Rels C σ s.heap vs args → ∀ QM : Value → Shared → Prop,
    (∀ v pv σ' s', Q pv σ' → Inv C σ' s' → Ext C σ s.heap σ' s'.heap → Rel C σ' s'.heap v pv → QM v s') → wpAny (model C.prog C.w) A (PySem.call f vs) QM X s
/-- who keeps a callee's arguments can be told -/
noncomputable def KeepOk (C : Ctx) (σ : Store) (fv : V) : Prop := ∀ (s : Shared) (f : Value), Inv C σ s → Rel C σ s.heap f fv → ∀ (M : Model) (A : Around) (E : Value → Shared → Prop) (Q : Keeper → Shared → Prop), (∀ k, Q k s) → wpAny M A (keeperOf f) Q E s
section
variable {C : Ctx} {K : Kx} {ρ : Fm} {σ : Store} {X : Value → Shared → Prop}
theorem CallV.of {d : Nat} {f : V} {args : List V} {Q : V → Store → Prop} (h : CallV C d f args σ Q Bot) : CallV C d f args σ Q X :=
  fun A s f vs ha hi hf hr QM hq => wpAny_mono (h A s f vs ha hi hf hr QM hq) (fun _ _ x => x) fun _ _ x => x.elim
theorem CallV.le {d d' : Nat} {f : V} {args : List V} {Q : V → Store → Prop} (h : CallV C d f args σ Q X) (hd : d ≤ d') : CallV C d' f args σ Q X :=
  fun A s f vs ha hi hf hr QM hq => h A s f vs (ha.le hd) hi hf hr QM hq
theorem keep_builtin {id : String} : KeepOk C σ (.raw (.builtin id)) := fun s f hi hr M A E Q h => by (first | obtain ⟨_, rfl⟩ := Rel.inv hr | obtain rfl := Rel.inv hr | cases hr); exact wpAny_pure (h _)
theorem keep_type {id : String} : KeepOk C σ (.raw (.type id)) := fun s f hi hr M A E Q h => by (first | obtain ⟨_, rfl⟩ := Rel.inv hr | obtain rfl := Rel.inv hr | cases hr); exact wpAny_pure (h _)
theorem keep_fn {a : Addr} {o : Obj} {fd : FuncData} (ho : C.h1.get? a = some o) (ht : a ∉ C.tabs) (hd : o.data = .func fd) : KeepOk C σ (.raw (.ref a)) := fun s f hi hr M A E Q h => by
  (first | obtain ⟨_, rfl⟩ := Rel.inv hr | obtain rfl := Rel.inv hr | cases hr)
  unfold keeperOf
  refine wpAny_bind (wpAny_load (hi.base a o ho ht) ?_)
  rw [hd]; exact wpAny_pure (h _)
theorem keep_loc {a : Addr} {f : FnRec} {cap : List (Str × Addr)} {d : Option Addr} (hs : σ a = some (.func f cap d)) : KeepOk C σ (.loc a) := fun s v hi hr M A E Q h => by
  (first | obtain ⟨_, rfl⟩ := Rel.inv hr | obtain rfl := Rel.inv hr | cases hr)
  obtain ⟨o, fd, ho, _, _, hd, _⟩ := (hi.own a _ hs).2
  unfold keeperOf
  refine wpAny_bind (wpAny_load ho ?_)
  rw [hd]; exact wpAny_pure (h _)
theorem callWith_any {M : Model} {A : Around} {E : Value → Shared → Prop} {s : Shared} {pos : Pos} {f : Value} {first : List Value} {args : List (Bool × Sem Value)} {Q : Value → Shared → Prop}
    (h : wpAny M A (evalArgs f true args []) (fun a s₁ => (∀ (E : Value → Shared → Prop) (Q : Keeper → Shared → Prop), (∀ k, Q k s₁) → wpAny M A (keeperOf f) Q E s₁) ∧ wpAny M A (PySem.call f (first ++ a.pos) a.kw) Q E s₁) E s) :
    wpAny M A (callWith pos f first args []) Q E s := by
  unfold callWith
  refine wpAny_bind (wpAny_holding (wpAny_mono h (fun a s₁ h₁ => wpAny_bind (wpAny_standAt ?_)) fun _ _ x => x))
  have tail : ∀ {t : Sem Value}, wpAny M A t Q E s₁ → wpAny M A (t >>= fun r => holding [r] point >>= fun _ => pure r) Q E s₁ :=
    fun ht => wpAny_bind (wpAny_mono ht (fun r s₂ hr => wpAny_bind (wpAny_holding (wpAny_point (wpAny_pure hr)))) fun _ _ x => x)
  dsimp only
  refine wpAny_bind (h₁.1 E _ fun k => ?_)
  have c := h₁.2
  have ck : ∀ l, wpAny M A ((PySem.call f (first ++ a.pos) a.kw).keep l) Q E s₁ := fun l => Calls.wpAny_keep c
  have co : ∀ l, wpAny M A (operate l (PySem.call f (first ++ a.pos) a.kw)) Q E s₁ := fun l => wpAny_operating c
  cases k <;> cases (args.any (·.1) || ([] : List (Option Str × Sem Value)).any (·.1.isNone)) <;> dsimp only <;>
    first
      | exact tail c
      | exact tail (ck _)
      | exact tail (co _)
      | (split <;> first | exact tail c | exact tail (ck _) | exact tail (co _))
theorem evs_spliced {A : Around} {env : Env} (ha : AOk K.d A) : ∀ {args : List Expr} {σ : Store} {s : Shared} {Q : List V → Store → Prop}, EvsP C K ρ args σ Q X → Rep C K env ρ σ s.heap → Inv C σ s →
    ∀ {QM : List Value → Shared → Prop}, (∀ vs pl σ' s', Q pl σ' → Inv C σ' s' → Ext C σ s.heap σ' s'.heap → Rels C σ' s'.heap vs pl → QM vs s') → wpAny (model C.prog C.w) A (spliced (args.map fun e => (false, eval e env))) QM X s
  | [], σ, s, Q, h, hr, hi, QM, hq => Calls.spliced_nil (hq [] [] σ s h hi .refl .nil)
  | e :: r, σ, s, Q, h, hr, hi, QM, hq => Calls.spliced_cons (h A env s ha hr hi _ fun v pv σ₁ s₁ h₁ i₁ e₁ r₁ => evs_spliced ha h₁ (hr.mono e₁) i₁ fun vs pl σ₂ s₂ h₂ i₂ e₂ r₂ =>
      hq (v :: vs) (pv :: pl) σ₂ s₂ h₂ i₂ (e₁.trans e₂) (.cons (r₁.mono e₂.seq) r₂))
theorem evalArgs_all {M : Model} {A : Around} {E : Value → Shared → Prop} {s : Shared} {f : Value} {Q : Args → Shared → Prop} : ∀ {l : List (Bool × Sem Value)}, l.any (·.1) = false → wpAny M A (spliced l) (fun vs s' => Q ⟨vs, []⟩ s') E s → wpAny M A (evalArgs f true l []) Q E s
  | [], _, h => by
    unfold evalArgs
    show wpAny M A (spliced [] >>= _) Q E s
    refine wpAny_bind (wpAny_mono h (fun vs s' h' => ?_) fun _ _ x => x)
    exact wpAny_bind (wpAny_pure (wpAny_holding (wpAny_bind (wpAny_pure (wpAny_bind (wpAny_pure (wpAny_pure (by simpa using h'))))))))
  | (false, x) :: r, _, h => Calls.evalArgs_plain h
  | (true, x) :: r, e, _ => by simp at e
/-- the arguments, then the call -/
theorem callWith_ {env : Env} {args : List Expr} {pos : Pos} {fv : V} {pre : List V} {Q : V → Store → Prop} {A : Around} {s : Shared} {f : Value} {first : List Value} (hse : backTo pos (starEach args env) = args.map fun e => (false, eval e env))
    (h : EvsP C K ρ args σ (fun pl σ₁ => KeepOk C σ₁ fv ∧ CallV C K.d fv (pre ++ pl) σ₁ Q X) X) (ha : AOk K.d A) (hr : Rep C K env ρ σ s.heap) (hi : Inv C σ s) (hf : Rel C σ s.heap f fv) (hp : Rels C σ s.heap first pre) {QM : Value → Shared → Prop}
    (hq : ∀ v pv σ' s', Q pv σ' → Inv C σ' s' → Ext C σ s.heap σ' s'.heap → Rel C σ' s'.heap v pv → QM v s') : wpAny (model C.prog C.w) A (callWith pos f first (backTo pos (starEach args env)) []) QM X s := by
  rw [hse]
  refine callWith_any (evalArgs_all (by simp) (evs_spliced ha h hr hi fun vs pl σ₁ s₁ h₁ i₁ e₁ r₁ => ⟨fun E Q hk => h₁.1 s₁ f i₁ (hf.mono e₁.seq) _ A E Q hk, ?_⟩))
  exact h₁.2 A s₁ f (first ++ vs) ha i₁ (hf.mono e₁.seq) ((hp.mono e₁.seq).append r₁) QM fun v pv σ₂ s₂ q i₂ e₂ r₂ => hq v pv σ₂ s₂ q i₂ (e₁.trans e₂) r₂
theorem ev_call {x : Str} {np pos : Pos} {args : List Expr} {Q : V → Store → Prop} (h : EvP C K ρ σ (.Name x np) (fun fv σ₁ => EvsP C K ρ args σ₁ (fun pl σ₂ => KeepOk C σ₂ fv ∧ CallV C K.d fv pl σ₂ Q X) X) X)
    (hse : ∀ env, backTo pos (starEach args env) = args.map fun e => (false, eval e env) := by intro _; rfl) : EvP C K ρ σ (.Call (.Name x np) args [] pos) Q X := fun A env s ha hr hi QM hq =>
  wpAny_Call_NameR (h A env s ha hr hi _ fun f fv σ₁ s₁ h₁ i₁ e₁ r₁ => callWith_ (pre := []) (hse env) h₁ ha (hr.mono e₁) i₁ r₁ .nil fun v pv σ₂ s₂ q i₂ e₂ r₂ => hq v pv σ₂ s₂ q i₂ (e₁.trans e₂) r₂)
theorem EvsP.mono : ∀ {args : List Expr} {σ : Store} {Q Q' : List V → Store → Prop}, (∀ pl σ', Q pl σ' → Q' pl σ') → EvsP C K ρ args σ Q X → EvsP C K ρ args σ Q' X
  | [], σ, Q, Q', k, h => k _ _ h
  | e :: r, σ, Q, Q', k, h => EvP.mono h fun v σ' q => EvsP.mono (fun pl σ'' => k _ _) q
/-- a builtin's method -/
structure Meth (T : String) (name : Str) (id : String) : Prop where
  pa : PlainAttrs T
  slot : PySem.Slot T name id
  ty : typeOf (.builtin id) = pure (.type "method_descriptor")
/-- an immutable value's or an owned row's type -/
inductive TyOf (σ : Store) : V → String → Prop where
  | str (x : List Nat) : TyOf σ (.str x) "str"
  | int (i : Int) : TyOf σ (.int i) "int"
  | lstO {a : Addr} {vs : List V} (h : σ a = some (.list vs)) : TyOf σ (.loc a) "list"
theorem TyOf.at {pv : V} {T : String} (h : TyOf σ pv T) {s : Shared} {v : Value} (hi : Inv C σ s) (hr : Rel C σ s.heap v pv) : s.TypeIs v T ∧ ∀ a, v = .ref a → ∃ ob, s.heap.get? a = some ob ∧ ob.dict = none := by
  revert hr
  cases h with
  | str x => intro hr; obtain ⟨_, rfl⟩ := Rel.inv hr; exact ⟨typeIs_str _ _ _, fun a e => by cases e⟩
  | int i => intro hr; obtain ⟨_, rfl⟩ := Rel.inv hr; exact ⟨typeIs_int _ _ _, fun a e => by cases e⟩
  | lstO h =>
    intro hr
    obtain rfl := Rel.inv hr
    obtain ⟨items, n, ho, _⟩ := (hi.own _ _ h).2
    exact ⟨⟨_, ho, rfl⟩, fun a e => by cases e; exact ⟨_, ho, rfl⟩⟩
theorem ev_meth {T id : String} {o : Expr} {name : Str} {apos pos : Pos} {args : List Expr} {Q : V → Store → Prop} (m : Meth T name id)
    (h : EvP C K ρ σ o (fun ov σ₁ => TyOf σ₁ ov T ∧ EvsP C K ρ args σ₁ (fun pl σ₂ => CallV C K.d (.raw (.builtin id)) (ov :: pl) σ₂ Q X) X) X)
    (hbase : ∀ env, attributeBase o name env (eval o env) = eval o env := by intro _; rfl)
    (hfew : ∀ env, ((backTo pos (starEach args env)).all (fun x => !x.1) && (backToKw pos (keywordEach [] env)).all (fun x => x.1.isSome)
      && decide (args.length + ([] : List Keyword).length + (if ([] : List Keyword).isEmpty then 0 else 1) < 30)) = true := by intro _; rfl)
    (hline : (apos.endLine == pos.line) = true := by rfl)
    (hse : ∀ env, backTo pos (starEach args env) = args.map fun e => (false, eval e env) := by intro _; rfl) : EvP C K ρ σ (.Call (.Attribute o name apos) args [] pos) Q X := fun A env s ha hr hi QM hq =>
  wpAny_Call_method (hbase env) (hfew env) hline m.pa m.slot m.ty (h A env s ha hr hi _ fun v pv σ₁ s₁ h₁ i₁ e₁ r₁ => by
    obtain ⟨t, h₁⟩ := h₁
    obtain ⟨t1, t2⟩ := t.at i₁ r₁
    refine ⟨t1, t2, ?_⟩
    refine callWith_ (fv := .raw (.builtin id)) (pre := [pv]) (hse env) ?_ ha (hr.mono e₁) i₁ (.raw _) (.cons r₁ .nil) fun v pv σ₂ s₂ q i₂ e₂ r₂ => hq v pv σ₂ s₂ q i₂ (e₁.trans e₂) r₂
    exact EvsP.mono (fun pl σ' q => ⟨keep_builtin, q⟩) h₁)
end
end Mine
end
section
open PySem PySem.W PyProof.Rows PySem.Calls
namespace Mine
section
variable {C : Ctx} {K : Kx} {ρ : Fm} {σ : Store} {X : Value → Shared → Prop} {d : Nat} {Q : V → Store → Prop}
/-- a new object becomes one's own -/
theorem Inv.new {s s' : Shared} {a : Addr} {p : PObj} (i : Inv C σ s) (hn : s.heap.get? a = none) (lo : C.h1.objs.size ≤ a) (hs : ∀ b o, s.heap.get? b = some o → s'.heap.get? b = some o)
    (hp : ObjRel C (upd σ a (some p)) s'.heap a p) (hg : s'.gens = s.gens) (ho : s'.os = s.os) : Inv C (upd σ a (some p)) s' ∧ Ext C σ s.heap (upd σ a (some p)) s'.heap := by
  have ne : ∀ b o, s.heap.get? b = some o → b ≠ a := fun b o g q => by rw [q, hn] at g; cases g
  have na := i.off hn
  have E : Ext C σ s.heap (upd σ a (some p)) s'.heap := ⟨fun b o g _ _ => hs b o g, fun b o g hb _ => by rw [upd_ne σ _ (ne b o g)]; exact hb, fun c v hc => ⟨v, by
    rw [upd_ne σ _ (fun q => by rw [q, na] at hc; cases hc)]; exact hc⟩⟩
  refine ⟨i.step E (fun b q hb => ?_) (fun n hn o g => hs _ o g) hg ho, E⟩
  by_cases hba : b = a
  · subst hba
    (first | obtain rfl := Option.some.inj (upd_self.symm.trans hb) | exact absurd (upd_self.symm.trans hb) (Option.some_ne_none _) | exact absurd (upd_self.symm.trans hb).symm (Option.some_ne_none _) | exact (datN (upd_self.symm.trans hb) rfl).elim | (rw [upd_self] at hb; cases hb))
    exact .inr ⟨lo, hp⟩
  · rw [upd_ne σ _ hba] at hb
    exact .inl ⟨hb, fun o g => hs b o g⟩
/-- a row, told or one's own -/
inductive LV (σ : Store) : V → List V → Prop where
  | fr (vs : List V) : LV σ (.lst vs) vs
  | ow {a : Addr} {vs : List V} (h : σ a = some (.list vs)) : LV σ (.loc a) vs
theorem LV.at {pv : V} {vs : List V} (h : LV σ pv vs) {s : Shared} {v : Value} (hi : Inv C σ s) (hr : Rel C σ s.heap v pv) : ∃ a items n, v = .ref a ∧ s.heap.get? a = some (lstO items n) ∧ Rels C σ s.heap items.toList vs := by
  revert hr
  cases h with
  | fr => exact fun hr => let ⟨_, _, _, e, ho, _, _, hrs⟩ := hr.inv; ⟨_, _, _, e, ho, hrs⟩
  | ow h => exact fun hr => let ⟨_, _, ho, hrs⟩ := (hi.own _ _ h).2; ⟨_, _, _, hr.inv, ho, hrs⟩
/-- a new row, nobody's -/
theorem new_lst {s : Shared} {items : List Value} {n : Nat} {vs : List V} (hi : Inv C σ s) (hr : Rels C σ s.heap items vs) {a : Addr} {h' : Heap} (hn : s.heap.get? a = none) (lo : C.h1.objs.size ≤ a) (hs : ∀ b o, s.heap.get? b = some o → h'.get? b = some o)
    (ho : h'.get? a = some (lstO items.toArray n)) : Rel C σ h' (.ref a) (.lst vs) := .lst ho (hi.off hn) (hi.notTab lo) (hr.mono (Ext.grow hs).seq)
theorem new_tup {s : Shared} {items : List Value} {n : Nat} {vs : List V} (hi : Inv C σ s) (hr : Rels C σ s.heap items vs) {a : Addr} {h' : Heap} (hn : s.heap.get? a = none) (lo : C.h1.objs.size ≤ a) (hs : ∀ b o, s.heap.get? b = some o → h'.get? b = some o)
    (ho : h'.get? a = some (tupO items.toArray n)) : Rel C σ h' (.ref a) (.tup vs) := .tup ho (hi.off hn) (hi.notTab lo) (hr.mono (Ext.grow hs).seq)
theorem rels1 {h : Heap} {vs : List Value} {a : V} (hr : Rels C σ h vs [a]) : ∃ x, vs = [x] ∧ Rel C σ h x a := by
  refine Classical.byContradiction fun hbc => ?_
  obtain ⟨x, l, rfl, hv, hl⟩ := hr.inv
  refine hbc ?_
  clear hbc
  exact ⟨x, congrArg _ hl.inv, hv⟩
theorem rels2 {h : Heap} {vs : List Value} {a b : V} (hr : Rels C σ h vs [a, b]) : ∃ x y, vs = [x, y] ∧ Rel C σ h x a ∧ Rel C σ h y b := by
  refine Classical.byContradiction fun hbc => ?_
  obtain ⟨x, l, rfl, hv, hl⟩ := hr.inv
  obtain ⟨y, e, hy⟩ := rels1 hl
  refine hbc ?_
  clear hbc
  exact ⟨x, y, congrArg _ e, hv, hy⟩
theorem bi_len_list {a : V} {vs : List V} (h : LV σ a vs) (hn : vs.length < 2 ^ 24) (q : Q (.int vs.length) σ) : CallV C d (.raw (.builtin "len")) [a] σ Q X := fun A s f l ha hi hf hr QM hq => by
  refine Classical.byContradiction fun hbc => ?_
  obtain ⟨x, rfl, hx⟩ := rels1 hr
  (first | obtain ⟨_, rfl⟩ := Rel.inv hf | obtain rfl := Rel.inv hf | cases hf)
  obtain ⟨b, items, n, rfl, ho, hrs⟩ := h.at hi hx
  refine hbc ?_
  clear hbc
  have e : items.size = vs.length := by rw [← hrs.length]; simp
  exact call_len_list ⟨_, ho, rfl, _, rfl⟩ (by rw [e]; lia) (hq _ _ _ _ q hi.toks .refl (by rw [e]; exact .int _ _))
theorem bi_divmod {a b : Int} (hb : b ≠ 0) (hp : b.natAbs.log2 < 9000) (q : Q (.tup [.int (a.fdiv b), .int (a.fmod b)]) σ) : CallV C d (.raw (.builtin "divmod")) [.int a, .int b] σ Q X := fun A s f l ha hi hf hr QM hq => by
  refine Classical.byContradiction fun hbc => ?_
  obtain ⟨x, y, rfl, hx, hy⟩ := rels2 hr
  refine hbc ?_
  clear hbc
  (first | obtain ⟨_, rfl⟩ := Rel.inv hf | obtain rfl := Rel.inv hf | cases hf); (first | obtain ⟨_, rfl⟩ := Rel.inv hx | obtain rfl := Rel.inv hx | cases hx); (first | obtain ⟨_, rfl⟩ := Rel.inv hy | obtain rfl := Rel.inv hy | cases hy)
  have g : ∀ o b o', s.heap.get? b = some o' → (s.heap.push o).get? b = some o' := fun o b o' e => Heap.get?_push_of_some _ e
  exact divmod_int hb (hq _ _ _ _ q (hi.grow (s' := { s with heap := _, toks := _ }) (g _) rfl rfl) (Ext.grow (g _))
    (new_tup hi (.cons (.int _ _) (.cons (.int _ _) .nil)) (get?_ge (Nat.le_refl _)) hi.size (g _) (Heap.get?_push_size _ rfl))) (.inl (PyProof.noPylong_of_log2 hp))
theorem bi_ord {c : Nat} (q : Q (.int c) σ) : CallV C d (.raw (.builtin "ord")) [.str [c]] σ Q X := fun A s f l ha hi hf hr QM hq => by
  obtain ⟨x, rfl, hx⟩ := rels1 hr
  (first | obtain ⟨_, rfl⟩ := Rel.inv hf | obtain rfl := Rel.inv hf | cases hf); (first | obtain ⟨_, rfl⟩ := Rel.inv hx | obtain rfl := Rel.inv hx | cases hx)
  exact P.ord_of_char (hq _ _ _ _ q hi.toks .refl (.int _ _))
theorem bi_chr {c : Nat} (hc : c ≤ 1114111) (q : Q (.str [c]) σ) : CallV C d (.raw (.builtin "chr")) [.int c] σ Q X := fun A s f l ha hi hf hr QM hq => by
  obtain ⟨x, rfl, hx⟩ := rels1 hr
  (first | obtain ⟨_, rfl⟩ := Rel.inv hf | obtain rfl := Rel.inv hf | cases hf); (first | obtain ⟨_, rfl⟩ := Rel.inv hx | obtain rfl := Rel.inv hx | cases hx)
  exact chr_of_range (by lia) (by lia) (hq _ _ _ _ q hi.toks .refl (.str [c] _))
theorem ints_of {h : Heap} : ∀ {items : List Value} {xs : List Int}, Rels C σ h items (xs.map V.int) → ∃ ts : List (Int × Tok), items = ts.map (fun p => .int p.1 p.2) ∧ ts.map (·.1) = xs := by
  intro items xs
  induction xs generalizing items with
  | nil => intro h; exact ⟨[], h.inv, rfl⟩
  | cons x xs ih =>
    intro h
    obtain ⟨v, l, rfl, hv, hl⟩ := h.inv
    obtain ⟨ts, rfl, rfl⟩ := ih hl
    obtain ⟨t, rfl⟩ := hv.inv
    exact ⟨(x, t) :: ts, rfl, rfl⟩
end
end Mine
end
section
open PySem PySem.W PyProof.Rows PySem.Calls
namespace Mine
section
variable {C : Ctx} {K : Kx} {ρ : Fm} {σ : Store} {X : Value → Shared → Prop} {d : Nat} {Q : V → Store → Prop}
theorem bi_range1 {n : Int} (q : Q (.rng 0 n 1) σ) : CallV C d (.raw (.type "range")) [.int n] σ Q X := fun A s f l ha hi hf hr QM hq => by
  obtain ⟨x, rfl, hx⟩ := rels1 hr
  (first | obtain ⟨_, rfl⟩ := Rel.inv hf | obtain rfl := Rel.inv hf | cases hf); (first | obtain ⟨_, rfl⟩ := Rel.inv hx | obtain rfl := Rel.inv hx | cases hx)
  have g : ∀ o b o', s.heap.get? b = some o' → (s.heap.push o).get? b = some o' := fun o b o' e => Heap.get?_push_of_some _ e
  exact call_range_1 (hq _ _ _ _ q (hi.grow (s' := { s with heap := _, toks := _ }) (g _) rfl rfl) (Ext.grow (g _)) (.rng (Heap.get?_push_size _ rfl) (hi.off (get?_ge (Nat.le_refl _))) (hi.notTab hi.size)))
theorem bi_range2 {a b : Int} (q : Q (.rng a b 1) σ) : CallV C d (.raw (.type "range")) [.int a, .int b] σ Q X := fun A s f l ha hi hf hr QM hq => by
  obtain ⟨x, y, rfl, hx, hy⟩ := rels2 hr
  (first | obtain ⟨_, rfl⟩ := Rel.inv hf | obtain rfl := Rel.inv hf | cases hf); (first | obtain ⟨_, rfl⟩ := Rel.inv hx | obtain rfl := Rel.inv hx | cases hx); (first | obtain ⟨_, rfl⟩ := Rel.inv hy | obtain rfl := Rel.inv hy | cases hy)
  have g : ∀ o b o', s.heap.get? b = some o' → (s.heap.push o).get? b = some o' := fun o b o' e => Heap.get?_push_of_some _ e
  exact call_range_2 (hq _ _ _ _ q (hi.grow (s' := { s with heap := _, toks := _ }) (g _) rfl rfl) (Ext.grow (g _)) (.rng (Heap.get?_push_size _ rfl) (hi.off (get?_ge (Nat.le_refl _))) (hi.notTab hi.size)))
theorem bi_sum {a : V} {xs : List Int} (h : LV σ a (xs.map V.int)) (q : Q (.int xs.sum) σ) : CallV C d (.raw (.builtin "sum")) [a] σ Q X := fun A s f l ha hi hf hr QM hq => by
  obtain ⟨x, rfl, hx⟩ := rels1 hr
  (first | obtain ⟨_, rfl⟩ := Rel.inv hf | obtain rfl := Rel.inv hf | cases hf)
  obtain ⟨b, items, n, rfl, ho, hrs⟩ := h.at hi hx
  obtain ⟨ts, he, rfl⟩ := ints_of hrs
  have hl : s.heap.IsList b (intItems ts.toArray) := ⟨_, ho, rfl, n, by show Data.seq items n = _; rw [show items = intItems ts.toArray from by rw [← Array.toList_inj, he]; simp [intItems]]⟩
  refine sum_intListG ha.1 hl fun h' tk t' g => hq _ _ _ _ q (hi.grow (s' := { s with heap := h', toks := tk }) g rfl rfl) (Ext.grow g) ?_
  have e : preSum (numAt ts.toArray) ts.toArray.size = (ts.map (·.1)).sum := by rw [preSum_eq, List.take_of_length_le (by simp)]
  rw [e]; exact .int _ _
theorem bi_max {a : V} {xs : List Int} {m : Int} (h : LV σ a (xs.map V.int)) (hm : m ∈ xs) (hle : ∀ y ∈ xs, y ≤ m) (q : Q (.int m) σ) : CallV C d (.raw (.builtin "max")) [a] σ Q X := fun A s f l ha hi hf hr QM hq => by
  obtain ⟨x, rfl, hx⟩ := rels1 hr
  (first | obtain ⟨_, rfl⟩ := Rel.inv hf | obtain rfl := Rel.inv hf | cases hf)
  obtain ⟨b, items, n, rfl, ho, hrs⟩ := h.at hi hx
  obtain ⟨ts, he, rfl⟩ := ints_of hrs
  have hl : s.heap.IsList b (intItems ts.toArray) := ⟨_, ho, rfl, n, by show Data.seq items n = _; rw [show items = intItems ts.toArray from by rw [← Array.toList_inj, he]; simp [intItems]]⟩
  have hpos : 0 < ts.length := by
    cases ts with
    | nil => simp at hm
    | cons => simp
  refine max_intList ha.1 hl (by simpa using hpos) fun v h' tk hv g => ?_
  obtain ⟨t, rfl⟩ := intItems_at hv
  obtain ⟨b1, b2⟩ := argBest_gt (numAt ts.toArray) (ts.toArray.size - 1)
  have e : numAt ts.toArray (argBest (fun i j => decide (numAt ts.toArray i > numAt ts.toArray j)) (ts.toArray.size - 1)) = m := by
    refine Int.le_antisymm ?_ ?_
    · generalize hk : argBest (fun i j => decide (numAt ts.toArray i > numAt ts.toArray j)) (ts.toArray.size - 1) = k at b1 hv ⊢
      have hk' : k < ts.length := by simp at b1; lia
      refine hle _ (List.mem_map.mpr ⟨ts[k], List.getElem_mem hk', ?_⟩)
      simp [numAt, hk']
    · obtain ⟨p, hp, rfl⟩ := List.mem_map.mp hm
      obtain ⟨k, hk, rfl⟩ := List.getElem_of_mem hp
      have := b2 k (by simp; lia)
      have e2 : numAt ts.toArray k = ts[k].1 := by simp [numAt, hk]
      rw [e2] at this
      exact this
  rw [e]
  exact hq _ _ _ _ q (hi.grow (s' := { s with heap := h', toks := tk }) g rfl rfl) (Ext.grow g) (.int _ _)
theorem rels_of_items {h : Heap} {items : List Value} : ∀ {vs : List V}, items.length = vs.length → (∀ (j : Nat) (v : Value) (pv : V), items[j]? = some v → vs[j]? = some pv → Rel C σ h v pv) → Rels C σ h items vs := by
  induction items with
  | nil => intro vs hl _; cases vs <;> first | exact .nil | simp at hl
  | cons x xs ih =>
    intro vs hl h
    cases vs with
    | nil => simp at hl
    | cons y ys => exact .cons (h 0 x y rfl rfl) (ih (by simpa using hl) fun j v pv e1 e2 => h (j + 1) v pv (by simpa using e1) (by simpa using e2))
/-- list of a word: a row of one's own -/
theorem bi_list_strO {x : List Nat} (hx : x.length ≤ 2 ^ 24) (q : ∀ a, σ a = none → Q (.loc a) (upd σ a (some (.list (x.map fun c => .str [c]))))) : CallV C d (.raw (.type "list")) [.str x] σ Q X := fun A s f l ha hi hf hr QM hq => by
  obtain ⟨y, rfl, hy⟩ := rels1 hr
  (first | obtain ⟨_, rfl⟩ := Rel.inv hf | obtain rfl := Rel.inv hf | cases hf); (first | obtain ⟨_, rfl⟩ := Rel.inv hy | obtain rfl := Rel.inv hy | cases hy)
  rename_i t
  have hn := get?_ge (Nat.le_refl s.heap.objs.size)
  refine call_list_str ha.1 ⟨x.toArray⟩ t (fun h' tk acc c' g ho hit => ?_) (by show x.toArray.size ≤ 2 ^ 24; simpa using hx)
  have hrs : Rels C σ s.heap acc.toList (x.map fun c => V.str [c]) := by
    refine rels_of_items ?_ fun j v pv e1 e2 => ?_
    · have := hit.1; simp at this; simp [this]
    · obtain ⟨c, u, ec, rfl⟩ := hit.2 j v (by rw [← Array.getElem?_toList]; exact e1)
      have : x[j]? = some c := by simpa using ec
      rw [List.getElem?_map, this] at e2
      cases e2
      exact .str [c] u
  have := hi.new (s' := { s with heap := h', toks := tk }) hn hi.size g (p := .list (x.map fun c => V.str [c])) ⟨acc, c', ho, hrs.mono ⟨fun b o e _ _ _ => g b o e, fun b o e _ hb _ => by
    rw [upd_ne σ _ (fun z => by rw [z, hn] at e; cases e)]; exact hb⟩⟩ rfl rfl
  exact hq _ _ _ _ (q _ (hi.off hn)) this.1 this.2 (.loc _)
/-- the same of a range -/
theorem bi_list_rng {a b c : Int} {n : Nat} (hs : Builtin.Range.small a b c = true) (hn : Builtin.Range.rangeSize a b c = n) (hlen : n ≤ 2 ^ 24) (q : Q (.lst ((List.range n).map fun i : Nat => V.int (a + i * c))) σ) : CallV C d (.raw (.type "list")) [.rng a b c] σ Q X := fun A s f l ha hi hf hr QM hq => by
  obtain ⟨y, rfl, hy⟩ := rels1 hr
  obtain rfl := Rel.inv hf
  obtain ⟨ad, t, u, v, e₀, ho, hσ, ht⟩ := Rel.inv hy
  subst e₀
  have hnn := get?_ge (Nat.le_refl s.heap.objs.size)
  refine call_list_range ha.1 ho hs hn hlen fun h' tk acc c' g hS hit => ?_
  have hrs : Rels C σ s.heap acc.toList ((List.range n).map fun i : Nat => V.int (a + i * c)) := by
    refine rels_of_items ?_ fun j v pv e1 e2 => ?_
    · have := hit.1; simp [this]
    · obtain ⟨u, rfl⟩ := hit.2 j v (by rw [← Array.getElem?_toList]; exact e1)
      have hj : j < n := by
        rcases Nat.lt_or_ge j n with h | h
        · exact h
        · (first | obtain rfl := Option.some.inj ((List.getElem?_eq_none (by simpa using h)).symm.trans e2) | exact absurd ((List.getElem?_eq_none (by simpa using h)).symm.trans e2) (Option.some_ne_none _) | exact absurd ((List.getElem?_eq_none (by simpa using h)).symm.trans e2).symm (Option.some_ne_none _) | exact absurd (congrArg Data.ctorIdx ((List.getElem?_eq_none (by simpa using h)).symm.trans e2)) (by decide) | (rw [List.getElem?_eq_none (by simpa using h)] at e2; cases e2))
      rw [List.getElem?_map, List.getElem?_range hj] at e2
      cases e2
      exact .int _ _
  exact hq _ _ _ _ q (hi.grow (s' := { s with heap := h', toks := tk }) g rfl rfl) (Ext.grow g) (new_lst hi hrs hnn hi.size g hS)
theorem meth_append : Meth "list" "append" "list.append" := ⟨F.plainAttrs_list, F.slot_list_append, F.type_list_append⟩
theorem meth_pop : Meth "list" "pop" "list.pop" := ⟨F.plainAttrs_list, F.slot_list_pop, F.type_list_pop⟩
theorem meth_reverse : Meth "list" "reverse" "list.reverse" := ⟨F.plainAttrs_list, F.slot_list_reverse, F.type_list_reverse⟩
theorem meth_join : Meth "str" "join" "str.join" := ⟨F.plainAttrs_str, F.slot_str_join, F.type_str_join⟩
theorem meth_find : Meth "str" "find" "str.find" := ⟨F.plainAttrs_str, F.slot_str_find, F.type_str_find⟩
theorem meth_count : Meth "str" "count" "str.count" := ⟨F.plainAttrs_str, F.slot_str_count, F.type_str_count⟩
theorem meth_lower : Meth "str" "lower" "str.lower" := ⟨F.plainAttrs_str, F.slot_str_lower, F.type_str_lower⟩
theorem set_list {s : Shared} {a : Addr} {vs vs' : List V} {items' : Array Value} {n' tk : Nat} {h' : Heap} (hi : Inv C σ s) (hs : σ a = some (.list vs)) (hsb : ∀ b o, b ≠ a → s.heap.get? b = some o → h'.get? b = some o)
    (ho : h'.get? a = some (lstO items' n')) (hrs : Rels C σ s.heap items'.toList vs') :
    Inv C (upd σ a (some (.list vs'))) { s with heap := h', toks := tk } ∧ Ext C σ s.heap (upd σ a (some (.list vs'))) h' :=
  hi.set (s' := { s with heap := h', toks := tk }) hs hsb (fun v e => by cases e) ⟨items', n', ho, hrs.mono ⟨fun b o e _ hb _ => hsb b o (fun z => by rw [z, hs] at hb; cases hb) e, fun b o e _ hb _ => by
    rw [upd_ne σ _ (fun z => by rw [z, hs] at hb; cases hb)]; exact hb⟩⟩ rfl rfl
theorem bi_append {a : Addr} {vs : List V} {x : V} (hs : σ a = some (.list vs)) (hl : vs.length < 2 ^ 24) (q : Q .none (upd σ a (some (.list (vs ++ [x]))))) : CallV C d (.raw (.builtin "list.append")) [.loc a, x] σ Q X := fun A s f l ha hi hf hr QM hq => by
  obtain ⟨y, z, rfl, hy, hz⟩ := rels2 hr
  (first | obtain ⟨_, rfl⟩ := Rel.inv hf | obtain rfl := Rel.inv hf | cases hf); (first | obtain ⟨_, rfl⟩ := Rel.inv hy | obtain rfl := Rel.inv hy | cases hy)
  obtain ⟨items, n, ho, hrs⟩ := (hi.own _ _ hs).2
  have hsz : items.size ≤ 2 ^ 24 := by have := hrs.length; simp at this; lia
  refine append_at ho (fun h' sb ho' => ?_) hsz
  obtain ⟨i', e'⟩ := set_list (tk := s.toks) hi hs sb.extBut ho' (vs' := vs ++ [x]) (by simpa using hrs.append (.cons hz .nil))
  exact hq _ _ _ _ q i' e' .none
theorem bi_pop0 {a : Addr} {x : V} {vs : List V} (hs : σ a = some (.list (x :: vs))) (hl : vs.length < 2 ^ 24) (q : Q x (upd σ a (some (.list vs)))) : CallV C d (.raw (.builtin "list.pop")) [.loc a, .int 0] σ Q X := fun A s f l ha hi hf hr QM hq => by
  obtain ⟨y, z, rfl, hy, hz⟩ := rels2 hr
  (first | obtain ⟨_, rfl⟩ := Rel.inv hf | obtain rfl := Rel.inv hf | cases hf); (first | obtain ⟨_, rfl⟩ := Rel.inv hy | obtain rfl := Rel.inv hy | cases hy); obtain ⟨_, rfl⟩ := Rel.inv hz
  obtain ⟨items, n, ho, hrs⟩ := (hi.own _ _ hs).2
  obtain ⟨items⟩ := items
  obtain ⟨v, l, e₀, hv, hr2⟩ := hrs.inv
  clear hrs
  dsimp only at e₀
  subst e₀
  have hsz : l.length + 1 ≤ 2 ^ 24 := by have := hr2.length; lia
  refine call_meets F.slot_list_pop ⟨_, ho, rfl⟩ F.entry_list_pop (F.args_list_pop_2 _ _) (MeetsSeq.list_pop_at a ⟨v :: l⟩ n 0 _ 0 v (by decide) (by simp [seqIndex?]) rfl (by show l.length + 1 ≤ 2 ^ 24; exact hsz)) ⟨ho, ?_⟩
  have hu : IsL (s.heap.update a (Obj.mapSeq fun xs => xs.eraseIdxIfInBounds 0)) a _ _ := IsL.update ho _
  have e0 : ((⟨v :: l⟩ : Array Value).eraseIdxIfInBounds 0).toList = l := by simp
  obtain ⟨i', e'⟩ := set_list (tk := s.toks) hi hs (Heap.SameBut.update s.heap a _).extBut hu (vs' := vs) (by rw [e0]; exact hr2)
  exact hq v x _ { s with heap := _ } q i' e' (hv.mono e'.seq)
theorem bi_reverse {a : Addr} {vs : List V} (hs : σ a = some (.list vs)) (hl : vs.length ≤ 2 ^ 24) (q : Q .none (upd σ a (some (.list vs.reverse)))) : CallV C d (.raw (.builtin "list.reverse")) [.loc a] σ Q X := fun A s f l ha hi hf hr QM hq => by
  obtain ⟨y, rfl, hy⟩ := rels1 hr
  (first | obtain ⟨_, rfl⟩ := Rel.inv hf | obtain rfl := Rel.inv hf | cases hf); (first | obtain ⟨_, rfl⟩ := Rel.inv hy | obtain rfl := Rel.inv hy | cases hy)
  obtain ⟨items, n, ho, hrs⟩ := (hi.own _ _ hs).2
  have hsz : items.size ≤ 2 ^ 24 := by have := hrs.length; simp at this; lia
  refine call_meets F.slot_list_reverse ⟨_, ho, rfl⟩ F.entry_list_reverse (F.args_list_reverse_1 _) (AutoSeq1.list_reverse_list_0 a items n hsz) ⟨ho, ?_⟩
  have hu : IsL (s.heap.update a (Obj.mapSeq fun x => x.reverse)) a _ _ := IsL.update ho _
  have hrev : ∀ {l : List Value} {pl : List V}, Rels C σ s.heap l pl → Rels C σ s.heap l.reverse pl.reverse := by
    intro l
    induction l with
    | nil => intro pl h; cases h; exact .nil
    | cons v l ih => intro pl h; cases h with | cons hv hl => simpa using (ih hl).append (.cons hv .nil)
  obtain ⟨i', e'⟩ := set_list (tk := s.toks) hi hs (Heap.SameBut.update s.heap a _).extBut hu (vs' := vs.reverse) (by simpa using hrev hrs)
  exact hq _ _ _ { s with heap := _ } q i' e' .none
theorem strs_of {h : Heap} : ∀ {items : List Value} {xs : List (List Nat)}, Rels C σ h items (xs.map V.str) → ∃ ts : List (Str × Tok), items = strValues ts ∧ ts.map (fun p => p.1.cps.toList) = xs := by
  intro items xs
  induction xs generalizing items with
  | nil => intro h; exact ⟨[], h.inv, rfl⟩
  | cons x xs ih =>
    intro h
    obtain ⟨v, l, rfl, hv, hl⟩ := h.inv
    obtain ⟨ts, rfl, rfl⟩ := ih hl
    obtain ⟨t, rfl⟩ := hv.inv
    exact ⟨(⟨x.toArray⟩, t) :: ts, rfl, rfl⟩
/-- a join behind the empty word -/
theorem bi_join0 {a : V} {xs : List (List Nat)} (h : LV σ a (xs.map V.str)) (hl : xs.flatten.length ≤ 2 ^ 24) (q : Q (.str xs.flatten) σ) : CallV C d (.raw (.builtin "str.join")) [.str [], a] σ Q X := fun A s f l ha hi hf hr QM hq => by
  obtain ⟨y, z, rfl, hy, hz⟩ := rels2 hr
  (first | obtain ⟨_, rfl⟩ := Rel.inv hf | obtain rfl := Rel.inv hf | cases hf); (first | obtain ⟨_, rfl⟩ := Rel.inv hy | obtain rfl := Rel.inv hy | cases hy)
  obtain ⟨b, items, n, rfl, ho, hrs⟩ := h.at hi hz
  obtain ⟨ts, he, rfl⟩ := strs_of hrs
  have hlist : s.heap.IsList b (strValues ts).toArray := ⟨_, ho, rfl, n, by rw [← he]⟩
  have hlen : ∀ (l : List (Str × Tok)) (k : Nat), (l.map (·.1)).foldl (fun (a : Nat) (x : Str) => a + x.length + (Str.mk #[]).length) k = k + (l.map (fun p => p.1.cps.toList)).flatten.length := by
    intro l
    induction l with
    | nil => intro k; rfl
    | cons p l ih =>
      intro k
      rw [List.map_cons, List.foldl_cons, ih]
      simp only [List.map_cons, List.flatten_cons, List.length_append]
      have e0 : (Str.mk #[]).length = 0 := rfl
      have e1 : p.1.length = p.1.cps.toList.length := by simp [PySem.Str.length]
      rw [e0, e1, Nat.add_zero, Nat.add_assoc]
  have hg : ∀ (l : List Str) (a : Array Nat), (l.foldl (fun acc p => acc ++ p.cps) a).toList = a.toList ++ (l.map (fun p => p.cps.toList)).flatten := by
    intro l
    induction l with
    | nil => intro a; simp
    | cons p l ih => intro a; rw [List.foldl_cons, ih]; simp
  have hglue : ∀ l : List (Str × Tok), (Builtin.Str.glued ⟨#[]⟩ (l.map (·.1))).cps.toList = (l.map (fun p => p.1.cps.toList)).flatten := by
    intro l
    unfold Builtin.Str.glued
    cases l with
    | nil => rfl
    | cons p l =>
      simp only [Array.append_empty, List.map_cons, List.drop_succ_cons, List.drop_zero, List.headD_cons, hg, List.flatten_cons, List.map_map, Function.comp_def]
  refine call_meets F.slot_str_join (typeIs_str _ _ _) F.entry_str_join (F.args_str_join_2 _ _) (meets_str_join_list ⟨#[]⟩ _ b ts ?_) ⟨hlist, ?_⟩
  · have := hlen ts 0
    rw [← Array.foldl_toList, List.toList_toArray]
    unfold Builtin.Str.tooLong
    rw [this]
    simp only [Nat.zero_add, decide_eq_false_iff_not, Nat.not_lt, gt_iff_lt]
    exact hl
  · have fin : ∀ l : List (Str × Tok), (l.map (fun p => p.1.cps.toList)).flatten = (ts.map (fun p => p.1.cps.toList)).flatten → (∀ x t tk, x.cps.toList = (ts.map (fun p => p.1.cps.toList)).flatten → QM (.str x t) { s with toks := tk }) → (joinMade ⟨#[]⟩ l).post (fun v s' => wants QM X (.ok (.ret v)) s') s := by
      intro l hf hq'
      have big : (Made.str (Builtin.Str.glued ⟨#[]⟩ (l.map (·.1)))).post (fun v s' => wants QM X (.ok (.ret v)) s') s := by
        refine ⟨?_, hq' _ _ _ ((hglue l).trans hf)⟩
        show (Builtin.Str.glued ⟨#[]⟩ (l.map (·.1))).cps.size ≤ 2 ^ 24
        rw [← Array.length_toList, hglue l, hf]; exact hl
      match l, hf, big with
      | [p], hf, _ => exact hq' p.1 p.2 s.toks (by simpa using hf)
      | [], _, big => exact big
      | _ :: _ :: _, _, big => exact big
    exact fin ts rfl fun x t tk e => hq _ _ _ _ q hi.toks .refl (.strOf e)
theorem bi_find {x y : List Nat} (q : Q (.int (Txt.find ⟨x.toArray⟩ ⟨y.toArray⟩)) σ) : CallV C d (.raw (.builtin "str.find")) [.str x, .str y] σ Q X := fun A s f l ha hi hf hr QM hq => by
  obtain ⟨y, z, rfl, hy, hz⟩ := rels2 hr
  (first | obtain ⟨_, rfl⟩ := Rel.inv hf | obtain rfl := Rel.inv hf | cases hf); (first | obtain ⟨_, rfl⟩ := Rel.inv hy | obtain rfl := Rel.inv hy | cases hy); cases hz
  exact SC.find (hq _ _ _ _ q hi.toks .refl (.int _ _))
theorem bi_count {x y : List Nat} (q : Q (.int (Txt.count ⟨x.toArray⟩ ⟨y.toArray⟩)) σ) : CallV C d (.raw (.builtin "str.count")) [.str x, .str y] σ Q X := fun A s f l ha hi hf hr QM hq => by
  obtain ⟨y, z, rfl, hy, hz⟩ := rels2 hr
  (first | obtain ⟨_, rfl⟩ := Rel.inv hf | obtain rfl := Rel.inv hf | cases hf); (first | obtain ⟨_, rfl⟩ := Rel.inv hy | obtain rfl := Rel.inv hy | cases hy); cases hz
  exact SC.count (hq _ _ _ _ q hi.toks .refl (.int _ _))
theorem bi_lower {x : List Nat} (hl : x.length ≤ 5592405) (q : Q (.str (Txt.lower ⟨x.toArray⟩).cps.toList) σ) : CallV C d (.raw (.builtin "str.lower")) [.str x] σ Q X := fun A s f l ha hi hf hr QM hq => by
  obtain ⟨y, rfl, hy⟩ := rels1 hr
  (first | obtain ⟨_, rfl⟩ := Rel.inv hf | obtain rfl := Rel.inv hf | cases hf); (first | obtain ⟨_, rfl⟩ := Rel.inv hy | obtain rfl := Rel.inv hy | cases hy)
  exact PyProof.Rows.SCL.lower (by show x.toArray.size ≤ _; simpa using hl) fun _ => hq _ _ _ _ q hi.toks .refl (.strOf rfl)
theorem meth_bitlen : Meth "int" "bit_length" "int.bit_length" := ⟨F.plainAttrs_int, slot_int_bit_length, type_int_bit_length⟩
theorem bi_bitlen {a : Int} (q : Q (.int (Builtin.Int.intBits a)) σ) : CallV C d (.raw (.builtin "int.bit_length")) [.int a] σ Q X := fun A s f l ha hi hf hr QM hq => by
  obtain ⟨y, rfl, hy⟩ := rels1 hr
  (first | obtain ⟨_, rfl⟩ := Rel.inv hf | obtain rfl := Rel.inv hf | cases hf); (first | obtain ⟨_, rfl⟩ := Rel.inv hy | obtain rfl := Rel.inv hy | cases hy)
  exact call_int_bit_length (hq _ _ _ _ q hi.toks .refl (.int _ _))
end
end Mine
end
section
open PySem PySem.W PyProof.Rows PySem.Calls
namespace Mine
section
variable {C : Ctx} {K : Kx} {ρ : Fm} {σ : Store} {X : Value → Shared → Prop} {d : Nat} {Q : V → Store → Prop}
theorem rels_le {h : Heap} {items : List Value} {vs : List V} (r : Rels C σ h items vs) (hl : vs.length ≤ 2 ^ 24) : items.length ≤ sizeLine := by rw [r.length]; exact hl
theorem ev_tuple {elts : List Expr} {k : Nat} {pos : Pos} (h : EvsP C K ρ elts σ (fun vs σ₁ => vs.length ≤ 2 ^ 24 ∧ Q (.tup vs) σ₁) X)
    (hse : ∀ env, backTo pos (starEach elts env) = elts.map fun e => (false, eval e env) := by intro _; rfl) : EvP C K ρ σ (.Tuple elts k pos) Q X := fun A env s ha hr hi QM hq =>
  wpAny_Tuple (by
    rw [hse]
    refine evs_spliced ha h hr hi fun vs pl σ₁ s₁ h₁ i₁ e₁ r₁ => ⟨rels_le r₁ h₁.1, ?_⟩
    have g : ∀ o b o', s₁.heap.get? b = some o' → (s₁.heap.push o).get? b = some o' := fun o b o' e => Heap.get?_push_of_some _ e
    exact hq _ _ _ _ h₁.2 (i₁.grow (s' := { s₁ with heap := _ }) (g _) rfl rfl) (e₁.trans (Ext.grow (g _))) (new_tup i₁ r₁ (get?_ge (Nat.le_refl _)) i₁.size (g _) (Heap.get?_push_size _ rfl)))
theorem ev_list {elts : List Expr} {pos : Pos} (h : EvsP C K ρ elts σ (fun vs σ₁ => vs.length ≤ 2 ^ 24 ∧ Q (.lst vs) σ₁) X)
    (hse : ∀ env, backTo pos (starEach elts env) = elts.map fun e => (false, eval e env) := by intro _; rfl) : EvP C K ρ σ (.List elts pos) Q X := fun A env s ha hr hi QM hq =>
  wpAny_List (by
    rw [hse]
    refine evs_spliced ha h hr hi fun vs pl σ₁ s₁ h₁ i₁ e₁ r₁ => ⟨rels_le r₁ h₁.1, ?_⟩
    have g : ∀ o b o', s₁.heap.get? b = some o' → (s₁.heap.push o).get? b = some o' := fun o b o' e => Heap.get?_push_of_some _ e
    exact hq _ _ _ _ h₁.2 (i₁.grow (s' := { s₁ with heap := _ }) (g _) rfl rfl) (e₁.trans (Ext.grow (g _))) (new_lst i₁ r₁ (get?_ge (Nat.le_refl _)) i₁.size (g _) (Heap.get?_push_size _ rfl)))
/-- a display, one's own -/
theorem ev_listO {elts : List Expr} {pos : Pos} (h : EvsP C K ρ elts σ (fun vs σ₁ => vs.length ≤ 2 ^ 24 ∧ ∀ a, σ₁ a = none → Q (.loc a) (upd σ₁ a (some (.list vs)))) X)
    (hse : ∀ env, backTo pos (starEach elts env) = elts.map fun e => (false, eval e env) := by intro _; rfl) : EvP C K ρ σ (.List elts pos) Q X := fun A env s ha hr hi QM hq =>
  wpAny_List (by
    rw [hse]
    refine evs_spliced ha h hr hi fun vs pl σ₁ s₁ h₁ i₁ e₁ r₁ => ⟨rels_le r₁ h₁.1, ?_⟩
    have g : ∀ o b o', s₁.heap.get? b = some o' → (s₁.heap.push o).get? b = some o' := fun o b o' e => Heap.get?_push_of_some _ e
    have hn := get?_ge (Nat.le_refl s₁.heap.objs.size)
    have := i₁.new (s' := { s₁ with heap := s₁.heap.push (lstO vs.toArray 0) }) hn i₁.size (g _) (p := .list pl) ⟨vs.toArray, 0, Heap.get?_push_size _ rfl, by
      show Rels _ _ _ vs pl
      exact r₁.mono ⟨fun b o e _ _ _ => g _ b o e, fun b o e _ hb _ => by rw [upd_ne σ₁ _ (fun z => by rw [z, hn] at e; cases e)]; exact hb⟩⟩ rfl rfl
    exact hq _ _ _ _ (h₁.2 _ (i₁.off hn)) this.1 (e₁.trans this.2) (.loc _))
/-- a part of a slice -/
noncomputable def EvO (C : Ctx) (K : Kx) (ρ : Fm) (σ : Store) : Option Expr → (V → Store → Prop) → (Value → Shared → Prop) → Prop
  | none, Q, _ => Q .none σ
  | some e, Q, X => EvP C K ρ σ e Q X
theorem evo_ {A : Around} {env : Env} {s : Shared} {e : Option Expr} (ha : AOk K.d A) (hr : Rep C K env ρ σ s.heap) (hi : Inv C σ s) (h : EvO C K ρ σ e Q X) {QM : Value → Shared → Prop}
    (hq : ∀ v pv σ' s', Q pv σ' → Inv C σ' s' → Ext C σ s.heap σ' s'.heap → Rel C σ' s'.heap v pv → QM v s') : wpAny (model C.prog C.w) A (evalPart e env) QM X s := by
  cases e with
  | none => exact wpAny_pure (hq _ _ _ _ h hi .refl .none)
  | some e => exact h A env s ha hr hi QM hq
inductive PartV : V → Option Int → Prop where
  | none : PartV .none none
  | int (i : Int) : PartV (.int i) (some i)
theorem PartV.at {pv : V} {p : Option Int} (x : PartV pv p) {h : Heap} {v : Value} (r : Rel C σ h v pv) : ∃ q : Option (Int × Tok), v = partValue q ∧ q.map (·.1) = p := by
  revert r
  cases x with
  | none => exact fun r => ⟨Option.none, r.inv, rfl⟩
  | int i => exact fun r => let ⟨t, e⟩ := r.inv; ⟨some (i, t), e, rfl⟩
theorem ev_slc {l u t : Option Expr} {p : Pos} (h : EvO C K ρ σ l (fun a σ₁ => EvO C K ρ σ₁ u (fun b σ₂ => EvO C K ρ σ₂ t (fun c σ₃ => ∃ lo hi st, PartV a lo ∧ PartV b hi ∧ PartV c st ∧ Q (.slc lo hi st) σ₃) X) X) X) :
    EvP C K ρ σ (.Slice l u t p) Q X := fun A env s ha hr hi QM hq =>
  wpAny_Slice (evo_ ha hr hi h fun v₁ a σ₁ s₁ h₁ i₁ e₁ r₁ => evo_ ha (hr.mono e₁) i₁ h₁ fun v₂ b σ₂ s₂ h₂ i₂ e₂ r₂ => evo_ ha (hr.mono (e₁.trans e₂)) i₂ h₂ fun v₃ c σ₃ s₃ h₃ i₃ e₃ r₃ => by
    refine Classical.byContradiction fun hbc => ?_
    obtain ⟨lo, hi', st, p1, p2, p3, q⟩ := h₃
    obtain ⟨q1, rfl, rfl⟩ := p1.at (r₁.mono (e₂.trans e₃).seq)
    obtain ⟨q2, rfl, rfl⟩ := p2.at (r₂.mono e₃.seq)
    obtain ⟨q3, rfl, rfl⟩ := p3.at r₃
    refine hbc ?_
    clear hbc
    have g : ∀ o b o', s₃.heap.get? b = some o' → (s₃.heap.push o).get? b = some o' := fun o b o' e => Heap.get?_push_of_some _ e
    exact hq _ _ _ _ q (i₃.grow (s' := { s₃ with heap := _ }) (g _) rfl rfl) ((e₁.trans e₂).trans (e₃.trans (Ext.grow (g _)))) (.slc (Heap.get?_push_size _ rfl) (i₃.off (get?_ge (Nat.le_refl _))) (i₃.notTab i₃.size)))
/-- types whose items a builtin gives -/
noncomputable def SubTy (C : Ctx) (σ : Store) (pv : V) : Prop := ∃ T id, typeLookup (.type T) "__getitem__" = pure (some (.builtin id)) ∧ ∀ (s : Shared) (v : Value), Inv C σ s → Rel C σ s.heap v pv → s.TypeIs v T
theorem sub_lst {pv : V} {vs : List V} (h : LV σ pv vs) : SubTy C σ pv := ⟨"list", _, F.slot_list_getitem.lookup, fun s v hi hr => by
  obtain ⟨a, items, n, rfl, ho, _⟩ := h.at hi hr; exact ⟨_, ho, rfl⟩⟩
theorem sub_tup {vs : List V} : SubTy C σ (.tup vs) := ⟨"tuple", _, F.slot_tuple_getitem.lookup, fun s v hi hr => by cases hr with | tup ho => exact ⟨_, ho, rfl⟩⟩
theorem ev_sub {value slice : Expr} {pos : Pos} (h : EvP C K ρ σ value (fun o σ₁ => EvP C K ρ σ₁ slice (fun i σ₂ => SubTy C σ₂ o ∧ M2 C K.d getItem o i σ₂ Q X) X) X) : EvP C K ρ σ (.Subscript value slice pos) Q X := fun A env s ha hr hi QM hq => by
  rw [eval_Subscript]
  refine wpAny_bind (h A env s ha hr hi _ fun o po σ₁ s₁ h₁ i₁ e₁ r₁ => wpAny_bind (wpAny_holding (h₁ A env s₁ ha (hr.mono e₁) i₁ _ fun i pi σ₂ s₂ h₂ i₂ e₂ r₂ => wpAny_bind (wpAny_standAt ?_))))
  refine Classical.byContradiction fun hbc => ?_
  obtain ⟨⟨T, id, hl, hT⟩, g⟩ := h₂
  refine hbc ?_
  clear hbc
  have hT' := hT s₂ o i₂ (r₁.mono e₂.seq)
  refine wpAny_bind ?_
  rw [getitemInPython_of_ne hT'.not_modules]
  refine wpAny_bind (wpAny_specialOf hT' hl ?_)
  refine wpAny_pure (wpAny_bind ?_)
  have fin : ∀ l, wpAny (model C.prog C.w) A (operate l (getItem o i)) (fun r s₃ => wpAny (model C.prog C.w) A (letTemporaryGo value o r >>= fun _ => pure r) QM X s₃) X s₂ := fun l =>
    wpAny_operating (g A s₂ o i ha i₂ (r₁.mono e₂.seq) r₂ _ fun r pr σ₃ s₃ q i₃ e₃ r₃ => wpAny_bind (wpAny_letTemporaryGo (wpAny_pure (hq r pr σ₃ s₃ q i₃ ((e₁.trans e₂).trans e₃) r₃))))
  unfold subscripted
  split
  · exact fin _
  · rename_i hh; cases hh
  · exact fin _
theorem seqIx {i : Int} {n : Nat} (h0 : 0 ≤ i) (h : i.toNat < n) : seqIndex? i n = some i.toNat := by
  unfold seqIndex?
  have : ¬ i < 0 := by lia
  simp [this]; lia
theorem gi_lst {pv : V} {vs : List V} {i : Int} {x : V} (h : LV σ pv vs) (h0 : 0 ≤ i) (hx : vs[i.toNat]? = some x) (hl : vs.length < 2 ^ 25) (q : Q x σ) : M2 C d getItem pv (.int i) σ Q X := fun A s a b ha hi ra rb QM hq => by
  refine Classical.byContradiction fun hbc => ?_
  obtain ⟨l, items, n, rfl, ho, rs⟩ := h.at hi ra
  (first | obtain ⟨_, rfl⟩ := Rel.inv rb | obtain rfl := Rel.inv rb | cases rb)
  obtain ⟨v, gv, rv⟩ := rs.get hx
  refine hbc ?_
  clear hbc
  have : i.toNat < vs.length := by
    rcases Nat.lt_or_ge i.toNat vs.length with h | h
    · exact h
    · exact absurd ((List.getElem?_eq_none h).symm.trans hx) (Option.some_ne_none _).symm
  exact wpAny_getItem_list ⟨_, ho, rfl, _, rfl⟩ h0 (by lia) (by rw [← Array.getElem?_toList]; exact gv) (hq _ _ _ _ q hi .refl rv)
theorem gi_tup {vs : List V} {i : Int} {x : V} (h0 : 0 ≤ i) (hx : vs[i.toNat]? = some x) (hl : vs.length < 2 ^ 25) (q : Q x σ) : M2 C d getItem (.tup vs) (.int i) σ Q X := fun A s a b ha hi ra rb QM hq => by
  (first | obtain ⟨_, rfl⟩ := Rel.inv rb | obtain rfl := Rel.inv rb | cases rb)
  obtain ⟨items, n, ho, rs⟩ : ∃ (items : Array Value) (n : Nat), (∃ l, a = .ref l ∧ s.heap.get? l = some (tupO items n)) ∧ Rels C σ s.heap items.toList vs := by
    exact let ⟨_, _, _, e, ho, _, _, hr⟩ := ra.inv; ⟨_, _, ⟨_, e, ho⟩, hr⟩
  refine Classical.byContradiction fun hbc => ?_
  obtain ⟨l, rfl, ho⟩ := ho
  obtain ⟨v, gv, rv⟩ := rs.get hx
  refine hbc ?_
  clear hbc
  have hlt : i.toNat < vs.length := by
    rcases Nat.lt_or_ge i.toNat vs.length with h | h
    · exact h
    · exact absurd ((List.getElem?_eq_none h).symm.trans hx) (Option.some_ne_none _).symm
  have hsz : items.size = vs.length := by rw [← rs.length]; simp
  refine PyProof.Rows.getItem_tuple (j := i.toNat) ⟨_, ho, rfl, _, rfl⟩ (by lia) (by lia) (seqIx h0 (by rw [hsz]; exact hlt)) (by rw [← Array.getElem?_toList]; exact gv) (hq _ _ _ _ q hi .refl rv)
/-- what a slice picks -/
noncomputable def picks (lo hi st : Option Int) (n : Nat) : List Nat := sliceRange (sliceBounds lo hi st n).1 (sliceBounds lo hi st n).2.1 (sliceBounds lo hi st n).2.2
theorem gi_lst_slc {pv : V} {vs : List V} {lo hi' st : Option Int} (h : LV σ pv vs) (h0 : st ≠ some 0) (hl : vs.length ≤ 2 ^ 24) (q : Q (.lst ((picks lo hi' st vs.length).filterMap (vs[·]?))) σ) : M2 C d getItem pv (.slc lo hi' st) σ Q X := fun A s a b ha hi ra rb QM hq => by
  refine Classical.byContradiction fun hbc => ?_
  obtain ⟨l, items, n, rfl, ho, rs⟩ := h.at hi ra
  refine hbc ?_
  clear hbc
  have g : ∀ o b o', s.heap.get? b = some o' → (s.heap.push o).get? b = some o' := fun o b o' e => Heap.get?_push_of_some _ e
  have part : ∀ p : Option (Int × Tok), IsPart (partValue p) (p.map (·.1)) := fun p => by
    cases p with
    | none => exact .none
    | some p => exact .int _ _
  have hsz : items.size = vs.length := by rw [← rs.length]; simp
  cases rb with
  | slc hso hσ ht =>
    refine wpAny_getItem_list_slice ⟨_, ho, rfl, _, rfl⟩ ⟨_, hso, rfl, rfl⟩ (part _) (part _) (part _) h0 ?_ (by rw [hsz]; exact hl)
    have key : ∀ ix : List Nat, Rels C σ s.heap (ix.filterMap (items[·]?)) (ix.filterMap (vs[·]?)) := by
      intro ix
      induction ix with
      | nil => exact .nil
      | cons j ix ih =>
        rw [List.filterMap_cons, List.filterMap_cons]
        cases hj : vs[j]? with
        | some x =>
          refine Classical.byContradiction fun hbc => ?_
          obtain ⟨v, gv, rv⟩ := rs.get hj
          refine hbc ?_
          clear hbc
          rw [Array.getElem?_toList] at gv
          rw [gv]; exact .cons rv ih
        | none =>
          have : items[j]? = none := by
            rw [← Array.getElem?_toList]
            refine List.getElem?_eq_none ?_
            rw [rs.length]
            rcases Nat.lt_or_ge j vs.length with h | h
            · (first | obtain rfl := Option.some.inj ((List.getElem?_eq_getElem h).symm.trans hj) | exact absurd ((List.getElem?_eq_getElem h).symm.trans hj) (Option.some_ne_none _) | exact absurd ((List.getElem?_eq_getElem h).symm.trans hj).symm (Option.some_ne_none _) | exact (datN ((List.getElem?_eq_getElem h).symm.trans hj) rfl).elim | (rw [List.getElem?_eq_getElem h] at hj; cases hj))
            · exact h
          rw [this]; exact ih
    exact hq _ _ _ _ q (hi.grow (s' := { s with heap := _ }) (g _) rfl rfl) (Ext.grow (g _)) (new_lst hi (by unfold picks; rw [← hsz]; exact key _) (get?_ge (Nat.le_refl _)) hi.size (g _) (Heap.get?_push_size _ rfl))
end
end Mine
end
section
open PySem PySem.W PyProof.Rows PySem.Calls PySem.Spec PySem.SeqAt
namespace Mine
mutual
inductive Dat (σ : Store) : V → PyData → Prop
  | none : Dat σ .none .none
  | bool (b : Bool) : Dat σ (.bool b) (.bool b)
  | int (i : Int) : Dat σ (.int i) (.int i)
  | str (x : List Nat) : Dat σ (.str x) (.str ⟨x.toArray⟩)
  | tup {vs : List V} {ds : List PyData} (h : Dats σ vs ds) : Dat σ (.tup vs) (.tuple ds)
  | lst {vs : List V} {ds : List PyData} (h : Dats σ vs ds) : Dat σ (.lst vs) (.list ds)
  | own {a : Addr} {vs : List V} {ds : List PyData} (hs : σ a = some (.list vs)) (h : Dats σ vs ds) : Dat σ (.loc a) (.list ds)
inductive Dats (σ : Store) : List V → List PyData → Prop
  | nil : Dats σ [] []
  | cons {v : V} {p : PyData} {vs : List V} {ds : List PyData} (h : Dat σ v p) (hs : Dats σ vs ds) : Dats σ (v :: vs) (p :: ds)
end
section
variable {C : Ctx} {K : Kx} {ρ : Fm} {σ : Store} {X : Value → Shared → Prop} {d : Nat} {Q : V → Store → Prop}
theorem Dat.reads {s : Shared} (hi : Inv C σ s) {pv : V} {p : PyData} {v : Value} (d : Dat σ pv p) (r : Rel C σ s.heap v pv) : ∃ as, Reads s.heap v p as :=
  Dat.rec (motive_1 := fun pv p _ => ∀ v, Rel C σ s.heap v pv → ∃ as, Reads s.heap v p as) (motive_2 := fun pl ds _ => ∀ vs, Rels C σ s.heap vs pl → ∃ as, ReadsAll s.heap vs ds as)
    (fun v r => by have e := r.inv; subst e; exact ⟨_, .none⟩) (fun b v r => by have e := r.inv; subst e; exact ⟨_, .bool b⟩)
    (fun i v r => by obtain ⟨_, e⟩ := r.inv; subst e; exact ⟨_, .int i _⟩) (fun x v r => by obtain ⟨_, e⟩ := r.inv; subst e; exact ⟨_, .str _ _⟩)
    (fun _ ih v r => by obtain ⟨a, items, n, e, ho, _, _, hr⟩ := r.inv; subst e; obtain ⟨as, q⟩ := ih _ hr; exact ⟨_, .tuple ho rfl rfl q⟩)
    (fun _ ih v r => by obtain ⟨a, items, n, e, ho, _, _, hr⟩ := r.inv; subst e; obtain ⟨as, q⟩ := ih _ hr; exact ⟨_, .list ho rfl rfl q⟩)
    (fun hs _ ih v r => by have e := r.inv; subst e; obtain ⟨items, n, ho, hr⟩ := (hi.own _ _ hs).2; obtain ⟨as, q⟩ := ih _ hr; exact ⟨_, .list ho rfl rfl q⟩)
    (fun vs r => by have e := r.inv; subst e; exact ⟨_, .nil⟩)
    (fun _ _ i1 i2 vs r => by obtain ⟨v, l, e, hv, hl⟩ := r.inv; subst e; obtain ⟨a, q⟩ := i1 _ hv; obtain ⟨b, q'⟩ := i2 _ hl; exact ⟨_, .cons q q'⟩) d v r
theorem AOk.units {A : Around} (h : AOk d A) : A.units + 65 < cLine := by have := h.2.2; show A.units + 65 < 9900; lia
theorem cmp_eq {a b : V} {da db : PyData} (ha : Dat σ a da) (hb : Dat σ b db) (sa : shaped da = true) (sb : shaped db = true) (hm : noMix da db = true) (q : Q (.bool (same da db)) σ) : M2 C d (compareOp .Eq) a b σ Q X := fun A s x y hA hi hx hy QM hq => by
  obtain ⟨as, ra⟩ := ha.reads hi hx
  obtain ⟨bs, rb⟩ := hb.reads hi hy
  exact eq_dataH_same ra rb sa sb (by have := hA.units; lia) hm (hq _ _ _ _ q hi .refl (.bool _))
theorem cmp_ne {a b : V} {da db : PyData} (ha : Dat σ a da) (hb : Dat σ b db) (sa : shaped da = true) (sb : shaped db = true) (hm : noMix da db = true) (q : Q (.bool (!same da db)) σ) : M2 C d (compareOp .NotEq) a b σ Q X := fun A s x y hA hi hx hy QM hq => by
  obtain ⟨as, ra⟩ := ha.reads hi hx
  obtain ⟨bs, rb⟩ := hb.reads hi hy
  exact ne_dataH_same ra rb sa sb (by have := hA.units; lia) hm (hq _ _ _ _ q hi .refl (.bool _))
end
end Mine
end
section
open PySem PySem.W PyProof.Rows PySem.Calls
namespace Mine
/-- only the frame's own dictionary changes -/
structure ExtL (C : Ctx) (L : Addr) (σ : Store) (h h' : Heap) : Prop where
  keep : ∀ a o, a ≠ L → h.get? a = some o → h'.get? a = some o
section
variable {C : Ctx} {K : Kx} {ρ : Fm} {σ : Store} {X : Value → Shared → Prop} {d : Nat}
theorem ExtL.refl {L : Addr} {h : Heap} : ExtL C L σ h h := ⟨fun _ _ _ e => e⟩
theorem ExtL.trans {L : Addr} {h h₁ h₂ : Heap} (x : ExtL C L σ h h₁) (y : ExtL C L σ h₁ h₂) : ExtL C L σ h h₂ := ⟨fun a o n e => y.keep a o n (x.keep a o n e)⟩
/-- a local name is given a value -/
theorem store_local {x : Str} {ρ' : Fm} {v : Value} {pv : V} {A : Around} {env : Env} {s : Shared} (hk : K.names.lookup x = some .local)
    (hr : Rep C K env ρ σ s.heap) (hi : Inv C σ s) (hv : Rel C σ s.heap v pv) (hu : Upd ρ x (.val pv) ρ') {QM : Unit → Shared → Prop}
    (hq : ∀ s', Rep C K env ρ' σ s'.heap → Inv C σ s' → ExtL C env.locals σ s.heap s'.heap → QM () s') : wpAny (model C.prog C.w) A (storeName env x v) QM X s := by
  obtain ⟨m, hm⟩ := hr.loc
  refine wpAny_storeName_local ((congrArg (·.lookup x) hr.names).trans hk) hm (fun h' hn hs => ?_) (by rw [hr.kind]; rfl)
  have k : Poke C σ env.locals s.heap h' := ⟨fun b o hb e => (hs.2 b hb).trans e, fun o e => ⟨hr.locF.1, hr.locF.2.2, by
    refine Classical.byContradiction fun hbc => ?_
    obtain ⟨o', es, ep, e', d, _⟩ := hm
    refine hbc ?_
    clear hbc
    (first | obtain rfl := Option.some.inj (e.symm.trans e') | exact absurd (e.symm.trans e') (Option.some_ne_none _) | exact absurd (e.symm.trans e').symm (Option.some_ne_none _) | exact (datN (e.symm.trans e') rfl).elim | (rw [e] at e'; cases e'))
    exact ⟨fun q => (by rcases q with ⟨_, _, q⟩ | ⟨_, _, q⟩ <;> rw [d] at q <;> cases q), fun vs q => (by (first | obtain rfl := Option.some.inj (d.symm.trans q) | exact absurd (d.symm.trans q) (Option.some_ne_none _) | exact absurd (d.symm.trans q).symm (Option.some_ne_none _) | exact (datN (d.symm.trans q) rfl).elim | (rw [d] at q; cases q)))⟩⟩⟩
  have hce : ∀ c v, env.locals ≠ c → s.heap.IsCell c v → h'.IsCell c v := fun c v hne ⟨o, e, d⟩ => ⟨o, (hs.2 c (fun q => hne q.symm)).trans e, d⟩
  refine hq _ ⟨hr.kind, hr.names, hr.glob, hr.blt, hr.qual, hr.code, ⟨_, hn⟩, hr.locF, fun y c hc => ?_, hr.cinj, fun p hp => ?_⟩ (hi.poke k rfl rfl) ⟨fun a o n e => (hs.2 a n).trans e⟩
  · refine Classical.byContradiction fun hbc => ?_
    obtain ⟨h1, h2, h3, h4, h5⟩ := hr.cells y c hc
    refine hbc ?_
    clear hbc
    exact ⟨h1, h2, h3, fun e => let ⟨v, q⟩ := h4 e; ⟨v, hce _ _ h1 q⟩, h5⟩
  · rcases hu p hp with rfl | ⟨hp, hne⟩
    · exact .inl ⟨hk, _, v, hn, if_pos rfl, hv.mono k.seq⟩
    · have hv' := hr.vars p hp
      obtain ⟨y, sl⟩ := p
      cases sl with
      | val pv' =>
        rcases hv' with ⟨h1, m₀, v', h2, h3, h4⟩ | ⟨h1, c, v', h2, h3, h4, h5, h6⟩
        · refine .inl ⟨h1, _, v', hn, ?_, h4.mono k.seq⟩
          show (if y = x then some v else m y) = _
          rw [if_neg hne, ← h3]
          refine Classical.byContradiction fun hbc => ?_
          obtain ⟨o, es, ep, e, d, _, f⟩ := hm
          obtain ⟨o', es', ep', e', d', _, f'⟩ := h2
          refine hbc ?_
          clear hbc
          (first | obtain rfl := Option.some.inj (e.symm.trans e') | exact absurd (e.symm.trans e') (Option.some_ne_none _) | exact absurd (e.symm.trans e').symm (Option.some_ne_none _) | exact (datN (e.symm.trans e') rfl).elim | (rw [e] at e'; cases e'))
          (first | obtain rfl := Option.some.inj (d.symm.trans d') | exact absurd (d.symm.trans d') (Option.some_ne_none _) | exact absurd (d.symm.trans d').symm (Option.some_ne_none _) | exact (datN (d.symm.trans d') rfl).elim | (rw [d] at d'; cases d'))
          rw [← f y, ← f' y]
        · exact .inr ⟨h1, c, v', h2, hce c _ (hr.cells y c h2).ne h3, h4.mono k.seq, h5, h6⟩
      | sh c => exact hv'
      | emp => obtain ⟨h1, c, h2, ⟨v', h3⟩, h5, h6⟩ := hv'; exact ⟨h1, c, h2, ⟨v', hce c _ (hr.cells y c h2).ne h3⟩, h5, h6⟩
theorem ExtL.seq {env : Env} {h h' : Heap} (hr : Rep C K env ρ σ h) (x : ExtL C env.locals σ h h') : SeqKeep C σ h σ h' :=
  ⟨fun a o e f hs _ => x.keep a o (fun q => Foot.notFixed hr hs e f (.inl q)) e, fun a o e f hs _ => hs⟩
/-- a target of local names, and the frame that it makes -/
inductive TgtP (K : Kx) : Expr → V → Fm → Prop where
  | name (x : Str) (pos : Pos) (v : V) (h : K.names.lookup x = some .local) : TgtP K (.Name x pos) v [(x, .val v)]
  | tup (xs : List (Str × Pos)) (k : Nat) (pos : Pos) (vs : List V) (hl : vs.length = xs.length) (h : ∀ x ∈ xs, K.names.lookup x.1 = some .local) (hn : (xs.map (·.1)).Nodup) :
      TgtP K (.Tuple (xs.map fun p => .Name p.1 p.2) k pos) (.tup vs) (pslots (xs.map (·.1)) vs)
theorem order_local {A : Around} {env : Env} : ∀ {xs : List (Str × Pos)} {vs : List V} {vals : List Value} {ρ : Fm} {s : Shared}, vs.length = xs.length → (∀ x ∈ xs, K.names.lookup x.1 = some .local) → (xs.map (·.1)).Nodup → (∀ p ∈ ρ, p.1 ∉ xs.map (·.1)) →
    Rep C K env ρ σ s.heap → Inv C σ s → Rels C σ s.heap vals vs →
    ∀ {QM : Unit → Shared → Prop}, (∀ s', Rep C K env (pslots (xs.map (·.1)) vs ++ ρ) σ s'.heap → Inv C σ s' → ExtL C env.locals σ s.heap s'.heap → QM () s') → wpAny (model C.prog C.w) A (assignInOrder (xs.map fun p => assign (.Name p.1 p.2) env) vals) QM X s := by
  intro xs
  induction xs with
  | nil =>
    intro vs vals ρ s hl _ _ _ hr hi hrs QM hq
    obtain rfl := List.length_eq_zero_iff.mp hl
    obtain rfl := hrs.inv
    exact wpAny_assignInOrder_none (hq s (by simpa [pslots] using hr) hi .refl)
  | cons x xs ih =>
    intro vs vals ρ s hl hk hn hd hr hi hrs QM hq
    obtain ⟨v, vs, rfl⟩ := List.exists_cons_of_length_eq_add_one hl
    obtain ⟨w, vals, rfl, hv, hrs⟩ := hrs.inv
    refine wpAny_assignInOrder_more (wpAny_assign_Name (store_local (ρ' := (x.1, .val v) :: ρ) (hk x List.mem_cons_self) hr hi hv ?_ fun s' hr' hi' e' => ?_))
    · intro p hp
      rcases List.mem_cons.mp hp with rfl | hp
      · exact .inl rfl
      · exact .inr ⟨hp, fun q => hd p hp (by rw [q]; exact List.mem_cons_self)⟩
    · have hn' := List.nodup_cons.mp hn
      refine ih (by simpa using hl) (fun y hy => hk y (List.mem_cons_of_mem _ hy)) hn'.2 ?_ hr' hi' (hrs.mono (e'.seq hr)) fun s'' hr'' hi'' e'' => hq s'' ?_ hi'' (e'.trans e'')
      · intro p hp
        rcases List.mem_cons.mp hp with rfl | hp
        · exact hn'.1
        · exact fun q => hd p hp (List.mem_cons_of_mem _ q)
      · refine hr''.sub fun p hp => ?_
        rcases List.mem_append.mp hp with hp | hp
        · rcases List.mem_cons.mp hp with rfl | hp
          · exact List.mem_append_right _ List.mem_cons_self
          · exact List.mem_append_left _ hp
        · exact List.mem_append_right _ (List.mem_cons_of_mem _ hp)
theorem eachNames {env : Env} : ∀ xs : List (Str × Pos), assignEach (xs.map fun p => Expr.Name p.1 p.2) env = xs.map fun p => (false, assign (.Name p.1 p.2) env)
  | [] => rfl
  | x :: xs => by
    show (false, assign (.Name x.1 x.2) env) :: assignEach _ env = _
    rw [eachNames xs]; rfl
theorem as_local {A : Around} {env : Env} {s : Shared} {t : Expr} {v : Value} {pv : V} {fr : Fm} (ht : TgtP K t pv fr) (ha : AOk d A) (hd : ∀ p ∈ ρ, ∀ q ∈ fr, p.1 ≠ q.1) (hr : Rep C K env ρ σ s.heap) (hi : Inv C σ s) (hv : Rel C σ s.heap v pv) {QM : Unit → Shared → Prop}
    (hq : ∀ s', Rep C K env (fr ++ ρ) σ s'.heap → Inv C σ s' → ExtL C env.locals σ s.heap s'.heap → QM () s') : wpAny (model C.prog C.w) A (assign t env v) QM X s := by
  revert hd hv hq
  cases ht with
  | name x pos v hk =>
    intro hd hv hq
    refine wpAny_assign_Name (store_local hk hr hi hv ?_ hq)
    intro p hp
    rcases List.mem_cons.mp hp with rfl | hp
    · exact .inl rfl
    · exact .inr ⟨hp, hd p hp _ List.mem_cons_self⟩
  | tup xs k pos vs hl hk hn =>
    intro hd hv hq
    obtain ⟨a, items, n, e₀, ho, _, _, hrs⟩ := hv.inv
    subst e₀
    refine wpAny_assign_Tuple ha.1 ⟨_, ho, rfl, _, rfl⟩ ?_ ?_ fun h' e => ?_
    · rw [eachNames]; simpa [hl] using hrs.length.symm
    · rw [eachNames]; simp
    · have g : ∀ b o', s.heap.get? b = some o' → h'.get? b = some o' := fun b o' q => e b o' (fun q' => by subst q'; (first | obtain rfl := Option.some.inj (Heap.get?_size.symm.trans q) | exact absurd (Heap.get?_size.symm.trans q) (Option.some_ne_none _) | exact absurd (Heap.get?_size.symm.trans q).symm (Option.some_ne_none _) | exact (datN (Heap.get?_size.symm.trans q) rfl).elim | (rw [Heap.get?_size] at q; cases q))) q
      have E : Ext C σ s.heap σ h' := Ext.grow g
      rw [eachNames]
      have : ((xs.map fun p => (false, assign (.Name p.1 p.2) env)).map (·.2)) = xs.map fun p => assign (.Name p.1 p.2) env := by simp
      rw [this]
      have hdis : ∀ p ∈ ρ, p.1 ∉ xs.map (·.1) := fun p hp q => by
        obtain ⟨j, hj, ej⟩ := List.getElem_of_mem q
        have hps : ∀ {l : List Str} {vs : List V}, vs.length = l.length → ∀ x ∈ l, ∃ q ∈ pslots l vs, q.1 = x := by
          intro l
          induction l with
          | nil => intro vs _ x hx; (first | obtain ⟨_, rfl⟩ := Rel.inv hx | obtain rfl := Rel.inv hx | cases hx)
          | cons y l ih =>
            intro vs hl x hx
            cases vs with
            | nil => simp at hl
            | cons w vs =>
              rcases List.mem_cons.mp hx with rfl | hx
              · exact ⟨_, List.mem_cons_self, rfl⟩
              · obtain ⟨q, hq, e⟩ := ih (by simpa using hl) x hx
                exact ⟨q, List.mem_cons_of_mem _ hq, e⟩
        obtain ⟨r, hr, er⟩ := hps (vs := vs) (by simpa using hl) p.1 q
        exact hd p hp r hr er.symm
      exact order_local (s := { s with heap := h' }) hl hk hn hdis (hr.mono E) (hi.grow (s' := { s with heap := h' }) g rfl rfl) (hrs.mono E.seq) fun s' hr' hi' e' => hq s' hr' hi' ⟨fun a o n q => e'.keep a o n (g a o q)⟩
end
end Mine
end
section
open PySem PySem.W PyProof.Rows PySem.Calls
namespace Mine
noncomputable def closL (cells : List (Str × Addr)) : List (Str × NameKind) → List (Str × Addr) → List (Str × Addr)
  | [], cs => cs
  | (n, k) :: r, cs => if k == .free then closL cells r ((n, (cells.lookup n).getD 0) :: cs) else closL cells r cs
theorem closL_mem {cells : List (Str × Addr)} {n : Str} {c : Addr} : ∀ {names : List (Str × NameKind)} {cs : List (Str × Addr)}, (n, c) ∈ closL cells names cs → (n, c) ∈ cs ∨ ((n, NameKind.free) ∈ names ∧ c = (cells.lookup n).getD 0)
  | [], cs, h => .inl h
  | (m, k) :: r, cs, h => by
    unfold closL at h
    split at h
    · rename_i hk
      have hk' : k = .free := by simpa using hk
      rcases closL_mem h with h | ⟨h, e⟩
      · rcases List.mem_cons.mp h with e | h
        · injection e with e1 e2
          subst e1; subst hk'
          exact .inr ⟨List.mem_cons_self, e2⟩
        · exact .inl h
      · exact .inr ⟨List.mem_cons_of_mem _ h, e⟩
    · rcases closL_mem h with h | ⟨h, e⟩
      · exact .inl h
      · exact .inr ⟨List.mem_cons_of_mem _ h, e⟩
theorem closL_has {cells : List (Str × Addr)} {n : Str} : ∀ {names : List (Str × NameKind)} {cs : List (Str × Addr)}, ((n, NameKind.free) ∈ names ∨ ∃ c, (n, c) ∈ cs) → ∃ c, (n, c) ∈ closL cells names cs
  | [], cs, h => by
    rcases h with h | h
    · cases h
    · exact h
  | (m, k) :: r, cs, h => by
    unfold closL
    split
    · refine closL_has ?_
      rcases h with h | ⟨c, h⟩
      · rcases List.mem_cons.mp h with e | h
        · injection e with e1 e2
          subst e1
          exact .inr ⟨_, List.mem_cons_self⟩
        · exact .inl h
      · exact .inr ⟨c, List.mem_cons_of_mem _ h⟩
    · rename_i hk
      refine closL_has ?_
      rcases h with h | h
      · rcases List.mem_cons.mp h with e | h
        · injection e with e1 e2
          subst e2; simp at hk
        · exact .inl h
      · exact .inr h
theorem closureFor_ok {env : Env} : ∀ (scope : Scope), (∀ x ∈ scope.names, x.2 = .free → ∃ c, env.cells.lookup x.1 = some c) → closureFor scope env = pure (closL env.cells scope.names []) := by
  intro scope h
  have key : ∀ (names : List (Str × NameKind)) (cs : List (Str × Addr)), (∀ x ∈ names, x.2 = .free → ∃ c, env.cells.lookup x.1 = some c) →
      (forIn names cs fun (x : Str × NameKind) (r : List (Str × Addr)) => (if (x.2 == .free) = true then do let c ← cellOf env x.1; pure (ForInStep.yield ((x.1, c) :: r)) else pure (ForInStep.yield r) : Sem (ForInStep (List (Str × Addr))))) = pure (closL env.cells names cs) := by
    intro names
    induction names with
    | nil => intro cs _; rfl
    | cons p r ih =>
      intro cs hh
      obtain ⟨n, k⟩ := p
      have hr := fun x hx => hh x (List.mem_cons_of_mem _ hx)
      rw [List.forIn_cons]
      unfold closL
      by_cases hk : (k == NameKind.free) = true
      · obtain ⟨c, hc⟩ := hh (n, k) List.mem_cons_self (by simpa using hk)
        simp only [hk, if_true, cellOf, hc, pure_bind, Option.getD_some]
        exact ih _ hr
      · simp only [hk, if_false, pure_bind, Bool.false_eq_true]
        exact ih _ hr
  have := key scope.names [] h
  unfold closureFor
  simp only [bind_pure]
  exact this
section
variable {C : Ctx} {K : Kx} {ρ : Fm} {σ : Store} {X : Value → Shared → Prop} {d : Nat} {Q : V → Store → Prop}
/-- the names of a comprehension within a frame -/
noncomputable def relN (K : Kx) (names : List (Str × NameKind)) : List (Str × NameKind) := names.map fun p => if (p.2 == .free && K.names.lookup p.1 == some .cell) then (p.1, .cell) else p
noncomputable def KxC (K : Kx) (scope : Scope) : Kx := ⟨relN K scope.names, K.qual, K.code, K.d⟩
theorem relabel_names {env : Env} {h : Heap} (hr : Rep C K env ρ σ h) (scope : Scope) : (relabel scope env).names = relN K scope.names := by
  unfold relabel relN
  refine List.map_congr_left fun p _ => ?_
  obtain ⟨n, k⟩ := p
  have e : env.kindOf n = K.names.lookup n := congrArg (·.lookup n) hr.names
  simp only [hr.kind, e, beq_self_eq_true, Bool.and_true]
theorem relN_lookup_ne {K : Kx} {x : Str} : ∀ {names : List (Str × NameKind)}, (relN K names).lookup x = (names.lookup x).map fun k => if (k == .free && K.names.lookup x == some .cell) then .cell else k
  | [] => rfl
  | (n, k) :: r => by
    have ih := @relN_lookup_ne K x r
    have e : relN K ((n, k) :: r) = (n, if (k == .free && K.names.lookup n == some .cell) then NameKind.cell else k) :: relN K r := by
      show (if (k == NameKind.free && K.names.lookup n == some NameKind.cell) = true then (n, NameKind.cell) else (n, k)) :: _ = _
      split <;> rfl
    rw [e, List.lookup_cons, List.lookup_cons, ih]
    by_cases hx : x = n
    · subst hx
      simp only [beq_self_eq_true, Option.map_some]
    · have h1 : (x == n) = false := by simpa using hx
      simp only [h1]
noncomputable def IfsP (C : Ctx) (K : Kx) (ρ : Fm) (X : Value → Shared → Prop) : List Expr → Store → (Bool → Store → Prop) → Prop
  | [], σ, Q => Q true σ
  | c :: r, σ, Q => TsP C K ρ σ c (fun b σ₁ => if b then IfsP C K ρ X r σ₁ Q else Q false σ₁) X
theorem ifs_ {A : Around} {env : Env} (ha : AOk K.d A) : ∀ {ifs : List Expr} {σ : Store} {s : Shared} {Q : Bool → Store → Prop}, IfsP C K ρ X ifs σ Q → Rep C K env ρ σ s.heap → Inv C σ s → ∀ {QM : Bool → Shared → Prop},
    (∀ b σ' s', Q b σ' → Inv C σ' s' → Ext C σ s.heap σ' s'.heap → QM b s') →
    wpAny (model C.prog C.w) A (forIn ifs true fun c r => if r = true then do let ok ← isTrue c env (eval c env); pure (ForInStep.yield ok) else pure (ForInStep.yield r)) QM X s
  | [], σ, s, Q, h, hr, hi, QM, hq => wpAny_pure (hq true σ s h hi .refl)
  | c :: r, σ, s, Q, h, hr, hi, QM, hq => by
    rw [List.forIn_cons]
    simp only [if_true]
    refine wpAny_bind (wpAny_bind (h A env s ha hr hi _ fun b σ₁ s₁ h₁ i₁ e₁ => wpAny_pure ?_))
    cases b with
    | true => exact ifs_ ha h₁ (hr.mono e₁) i₁ fun b σ₂ s₂ q i₂ e₂ => hq b σ₂ s₂ q i₂ (e₁.trans e₂)
    | false =>
      have : ∀ l : List Expr, (forIn l false fun c r => if r = true then do let ok ← isTrue c env (eval c env); pure (ForInStep.yield ok) else pure (ForInStep.yield r) : Sem Bool) = pure false := by
        intro l
        induction l with
        | nil => rfl
        | cons c l ih => rw [List.forIn_cons]; simp only [Bool.false_eq_true, if_false, pure_bind]; exact ih
      show wpAny _ _ (forIn r false _) _ _ _
      rw [this]; exact wpAny_pure (hq false σ₁ s₁ h₁ i₁ e₁)
theorem compLoop_any {R : Result → Shared → Prop} {A : Around} {s : Shared} {elt target iter : Expr} {ifs : List Expr} {scope : Scope} {pos : Pos} {it acc : Value} {env : Env} {prog : Program} {w : World} (I : Nat → Shared → Prop)
    (turn : ∀ n s, I n s → wpAny (model prog w) A (pyNext it) (fun r s₁ => match r with
      | none => R (.ok .next) s₁
      | some v => wpAny (model prog w) A (letOwnedTupleGo target it v) (fun _ s₁' => wpAny (model prog w) A (assign target env v) (fun _ s₂ =>
          wpAny (model prog w) A (forIn ifs true fun c r => if r = true then do let ok ← isTrue c env (eval c env); pure (ForInStep.yield ok) else pure (ForInStep.yield r)) (fun ok s₃ =>
            if ok = true then wpAny (model prog w) A (eval elt env) (fun x s₄ =>
              wpAny (model prog w) A (PySem.call (.builtin "list.append") [acc, x]) (fun _ s₅ => ∃ m, m < n ∧ I m s₅) Bot s₄) Bot s₃
            else ∃ m, m < n ∧ I m s₃) Bot s₂) Bot s₁') Bot s₁) Bot s)
    (n : Nat) (h : I n s) : codeAny (model prog w) A (.compLoop (.ListComp elt [⟨target, iter, ifs, 0⟩] scope pos) 0 it acc env) R s := by
  have bot : ∀ {α : Type} {t : Sem α} {Q : α → Shared → Prop} {E : Value → Shared → Prop} {s : Shared}, wpAny (model prog w) A t Q Bot s → wpAny (model prog w) A t Q E s := fun h => wpAny_mono h (fun _ _ x => x) fun _ _ x => x.elim
  refine codeAny_loop rfl I (fun n s hI => ?_) n h
  show wpAny _ A ((compTurn (.ListComp elt [⟨target, iter, ifs, 0⟩] scope pos) 0 it acc env).onRaise (fun x => do noteFrame x env; theTreesLotGoes x)) _ _ s
  refine wpAny_noted ?_
  rw [compTurn_list]
  refine wpAny_bind (wpAny_standAt (wpAny_bind (wpAny_mono (turn n s hI) (fun r s₁ h₁ => ?_) fun _ _ x => x.elim)))
  cases r with
  | none => exact wpAny_pure h₁
  | some v =>
    refine wpAny_bind (wpAny_mono h₁ (fun _ s₁' h₁' => ?_) fun _ _ x => x.elim)
    refine wpAny_bind (wpAny_mono h₁' (fun _ s₂ h₂ => wpAny_bind (wpAny_mono h₂ (fun ok s₃ h₃ => ?_) fun _ _ x => x.elim)) fun _ _ x => x.elim)
    cases ok with
    | false => exact wpAny_pure ⟨rfl, h₃⟩
    | true =>
      exact wpAny_bind (wpAny_bind (wpAny_mono h₃ (fun x s₄ h₄ => wpAny_bind (wpAny_mono h₄ (fun _ s₅ h₅ => wpAny_pure (wpAny_pure ⟨rfl, h₅⟩)) fun _ _ x => x.elim)) fun _ _ x => x.elim))
theorem itr_self {it : Addr} {r : List V} {A : Around} {s : Shared} (x : ItSt C σ s.heap it r) {QM : Value → Shared → Prop} (hq : QM (.ref it) s) : wpAny (model C.prog C.w) A (pyIter (.ref it)) QM X s := by
  cases x with
  | lst l vs i hi hr => exact wpAny_pyIter_listiter hi hq
  | tup l vs i hi hr => exact wpAny_pyIter_tupleiter hi hq
  | str ty hty x t i hi =>
    rcases hty with rfl | rfl
    · exact wpAny_pyIter_striter_ascii hi hq
    · exact wpAny_pyIter_striter_wide hi hq
  | rng x n st hi => exact wpAny_pyIter_rangeiter hi hq
theorem Inv.drop {s : Shared} {a : Addr} {p : PObj} (i : Inv C (upd σ a (some p)) s) (hn : σ a = none) (hc : ∀ v, p ≠ .cell v) : Inv C σ s ∧ Ext C (upd σ a (some p)) s.heap σ s.heap := by
  have E : Ext C (upd σ a (some p)) s.heap σ s.heap := ⟨fun _ _ e _ _ => e, fun b o e hb _ => by
    by_cases h : b = a
    · subst h; exact hn
    · rw [upd_ne σ _ h] at hb; exact hb, fun c v e => by
    by_cases h : c = a
    · subst h; (first | obtain rfl := Option.some.inj (upd_self.symm.trans e) | exact absurd (upd_self.symm.trans e) (Option.some_ne_none _) | exact absurd (upd_self.symm.trans e).symm (Option.some_ne_none _) | exact (datN (upd_self.symm.trans e) rfl).elim | (rw [upd_self] at e; cases e)); exact absurd rfl (hc v)
    · rw [upd_ne σ _ h] at e; exact ⟨v, e⟩⟩
  exact ⟨i.step E (fun b q e => .inl ⟨by
    by_cases h : b = a
    · subst h; (first | obtain rfl := Option.some.inj (hn.symm.trans e) | exact absurd (hn.symm.trans e) (Option.some_ne_none _) | exact absurd (hn.symm.trans e).symm (Option.some_ne_none _) | exact (datN (hn.symm.trans e) rfl).elim | (rw [hn] at e; cases e))
    · rw [upd_ne σ _ h]; exact e, fun o g => g⟩) (fun _ _ _ g => g) rfl rfl, E⟩
end
end Mine
end
section
open PySem PySem.W PyProof.Rows PySem.Calls
namespace Mine
section
variable {C : Ctx} {K : Kx} {ρ : Fm} {σ : Store} {X : Value → Shared → Prop} {d : Nat} {Q : V → Store → Prop}
noncomputable abbrev accS (σ : Store) (D : Addr) (acc : List V) : Store := upd σ D (some (.list acc))
theorem Rep.cellEx {env : Env} {s : Shared} (hr : Rep C K env ρ σ s.heap) (i : Inv C σ s) {x : Str} {c : Addr} (h : env.cells.lookup x = some c) : s.heap.get? c ≠ none := fun e => by
  refine Classical.byContradiction fun hbc => ?_
  obtain ⟨_, _, _, h4, _⟩ := hr.cells x c h
  obtain ⟨v, o, g, _⟩ := h4 (i.off e)
  refine hbc ?_
  clear hbc
  (first | obtain rfl := Option.some.inj (e.symm.trans g) | exact absurd (e.symm.trans g) (Option.some_ne_none _) | exact absurd (e.symm.trans g).symm (Option.some_ne_none _) | exact (datN (e.symm.trans g) rfl).elim | (rw [e] at g; cases g))
/-- a name that a comprehension may take along -/
noncomputable def Freed (K : Kx) (ρ : Fm) (x : Str) : Prop := ∃ sl, (x, sl) ∈ ρ ∧ K.names.lookup x ≠ some .local
theorem Freed.cell {env : Env} {h : Heap} (hr : Rep C K env ρ σ h) {x : Str} (f : Freed K ρ x) : ∃ c, env.cells.lookup x = some c := by
  refine Classical.byContradiction fun hbc => ?_
  obtain ⟨sl, hm, hl⟩ := f
  refine hbc ?_
  clear hbc
  have := hr.vars _ hm
  cases sl with
  | val v =>
    rcases this with ⟨h1, _⟩ | ⟨_, c, _, h2, _⟩
    · exact absurd h1 hl
    · exact ⟨c, h2⟩
  | sh c => exact ⟨c, this.2.1⟩
  | emp => obtain ⟨_, c, h2, _⟩ := this; exact ⟨c, h2⟩
noncomputable abbrev cenvOf (env : Env) (scope : Scope) (L : Addr) : Env := { scope := relabel scope env, locals := L, globals := env.globals, cells := closL env.cells scope.names [], qual := env.qual, func := none, code := env.code, frame := env.frame, builtins := env.builtins }
/-- the frame of a comprehension as it begins -/
theorem comp_rep {env : Env} {scope : Scope} {caps : Fm} {h : Heap} {L : Addr} (hr : Rep C K env ρ σ h)
    (hk : scope.kind = .function) (hfree : ∀ x ∈ scope.names, x.2 = .free → Freed K ρ x.1)
    (hcaps : ∀ p ∈ caps, p ∈ ρ ∧ scope.names.lookup p.1 = some .free ∧ p.2 ≠ .emp)
    (hns : h.Ns L fun _ => none) (hσ : σ L = none) (lo : C.h1.objs.size ≤ L) (nt : L ∉ C.tabs) (hLc : ∀ x c, env.cells.lookup x = some c → L ≠ c) :
    Rep C (KxC K scope) (cenvOf env scope L) caps σ h := by
  have look : ∀ x c, (closL env.cells scope.names []).lookup x = some c → env.cells.lookup x = some c := fun x c hc => by
    rcases closL_mem (mem_of_lookup hc) with q | ⟨m, q⟩
    · cases q
    · obtain ⟨c', hc'⟩ := (hfree _ m rfl).cell hr
      rw [hc'] at q ⊢; exact congrArg some q.symm
  have look' : ∀ x c, scope.names.lookup x = some .free → env.cells.lookup x = some c → (closL env.cells scope.names []).lookup x = some c := fun x c hx hc => by
    obtain ⟨c', hm⟩ := closL_has (cells := env.cells) (n := x) (names := scope.names) (cs := []) (.inl (mem_of_lookup hx))
    cases q : (closL env.cells scope.names []).lookup x with
    | none =>
      exfalso
      have : ∀ {l : List (Str × Addr)}, (x, c') ∈ l → l.lookup x ≠ none := by
        intro l
        induction l with
        | nil => intro h; cases h
        | cons p l ih =>
          intro h
          rw [List.lookup_cons]
          rcases List.mem_cons.mp h with e | h
          · rw [← e]; simp
          · cases (x == p.1) <;> first | exact ih h | simp
      exact this hm q
    | some c'' =>
      have := look x c'' q
      rw [hc] at this; exact this.symm
  refine ⟨hk, relabel_names hr scope, hr.glob, hr.blt, hr.qual, hr.code, ⟨_, hns⟩, ⟨hσ, nt, lo⟩, fun x c hc => ?_, fun x y c hx hy => hr.cinj x y c (look x c hx) (look y c hy), fun p hp => ?_⟩
  · refine Classical.byContradiction fun hbc => ?_
    obtain ⟨h1, h2, h3, h4, h5⟩ := hr.cells x c (look x c hc)
    refine hbc ?_
    clear hbc
    exact ⟨hLc x c (look x c hc), h2, h3, h4, h5⟩
  · refine Classical.byContradiction fun hbc => ?_
    obtain ⟨hm, hl, hne⟩ := hcaps p hp
    have hv := hr.vars p hm
    obtain ⟨x, sl⟩ := p
    refine hbc ?_
    clear hbc
    have kind : (KxC K scope).names.lookup x = some .cell ∨ (KxC K scope).names.lookup x = some .free := by
      show (relN K scope.names).lookup x = _ ∨ (relN K scope.names).lookup x = _
      rw [relN_lookup_ne, show scope.names.lookup x = some .free from hl]
      simp only [Option.map_some]
      split <;> first | exact .inl rfl | exact .inr rfl
    have fr : Freed K ρ x := hfree _ (mem_of_lookup hl) rfl
    cases sl with
    | val v =>
      rcases hv with ⟨h1, m, mv, h2, h3, h4⟩ | ⟨h1, c, mv, h2, h3, h4, h5, h6⟩
      · refine Classical.byContradiction fun hbc => ?_
        obtain ⟨sl', hm', hl'⟩ := fr
        refine hbc ?_
        clear hbc
        exact absurd h1 hl'
      · exact .inr ⟨kind, c, mv, look' x c hl h2, h3, h4, h5, h6⟩
    | sh c => obtain ⟨h1, h2, h3⟩ := hv; exact ⟨kind, look' x c hl h2, h3⟩
    | emp => exact absurd rfl hne
theorem accS_ne {D b : Addr} {acc : List V} (h : b ≠ D) : accS σ D acc b = σ b := upd_ne σ _ h
theorem accS_self {D : Addr} {acc : List V} : accS σ D acc D = some (.list acc) := upd_self ..
theorem accS_accS {D : Addr} {acc acc' : List V} : upd (accS σ D acc) D (some (.list acc')) = accS σ D acc' := by
  funext b
  by_cases h : b = D
  · subst h; rw [upd_self, accS_self]
  · rw [upd_ne _ _ h, accS_ne h, accS_ne h]
theorem accExt {σ₁ σ₂ σ₅ : Store} {h₁ h' h'' : Heap} {D : Addr} {acc acc' : List V} (E : Ext C σ₁ h₁ σ₂ h') (F : Ext C (accS σ₂ D acc) h' (accS σ₅ D acc') h'') (hD : h₁.get? D = none) (h2 : σ₂ D = none) (h5 : σ₅ D = none) : Ext C σ₁ h₁ σ₅ h'' := by
  have ne : ∀ a o, h₁.get? a = some o → a ≠ D := fun a o e q => by rw [q, hD] at e; cases e
  refine ⟨fun a o e hs ht => F.keep a o (E.keep a o e hs ht) ((accS_ne (ne a o e)).trans (E.free a o e hs ht)) ht, fun a o e hs ht => ?_, fun c v e => ?_⟩
  · have := F.free a o (E.keep a o e hs ht) ((accS_ne (ne a o e)).trans (E.free a o e hs ht)) ht
    rwa [accS_ne (ne a o e)] at this
  · refine Classical.byContradiction fun hbc => ?_
    obtain ⟨v', e'⟩ := E.cell c v e
    have hc : c ≠ D := fun q => by rw [q, h2] at e'; cases e'
    obtain ⟨v'', e''⟩ := F.cell c v' ((accS_ne hc).trans e')
    refine hbc ?_
    clear hbc
    exact ⟨v'', by rwa [accS_ne hc] at e''⟩
theorem Ext.but {σ' : Store} {h h₁ h₂ : Heap} {a : Addr} (e : Ext C σ h σ' h₁) (k : ∀ b o, b ≠ a → h₁.get? b = some o → h₂.get? b = some o) (hn : h.get? a = none) : Ext C σ h σ' h₂ :=
  ⟨fun b o g hs ht => k b o (fun q => by rw [q, hn] at g; cases g) (e.keep b o g hs ht), e.free, e.cell⟩
/-- a comprehension of one clause: what its turns do -/
noncomputable def CompTurn (C : Ctx) (K : Kx) (scope : Scope) (caps : Fm) (target elt : Expr) (ifs : List Expr) (J : List V → List V → Store → Prop) : Prop :=
  ∀ x r acc σ₂ D, J (x :: r) acc σ₂ → σ₂ D = none → ∃ fr, TgtP (KxC K scope) target x fr ∧ (∀ p ∈ caps, ∀ q ∈ fr, p.1 ≠ q.1) ∧
        IfsP C (KxC K scope) (fr ++ caps) Bot ifs (accS σ₂ D acc) (fun ok σ₃ => if ok = true then EvP C (KxC K scope) (fr ++ caps) σ₃ elt (fun v σ₄ => acc.length < 2 ^ 24 ∧ ∃ σ₅, σ₄ = accS σ₅ D acc ∧ σ₅ D = none ∧ J r (acc ++ [v]) σ₅) Bot
          else ∃ σ₅, σ₃ = accS σ₅ D acc ∧ σ₅ D = none ∧ J r acc σ₅)
/-- how a comprehension's names lie in its frame -/
structure CompOk (K : Kx) (ρ : Fm) (scope : Scope) (caps : Fm) : Prop where
  kind : scope.kind = .function
  cell : ∀ x ∈ scope.names, x.2 ≠ .cell
  names : ∀ x ∈ scope.names, x.2 = .local → scope.names.lookup x.1 = some .local
  free : ∀ x ∈ scope.names, x.2 = .free → Freed K ρ x.1
  caps : ∀ p ∈ caps, p ∈ ρ ∧ scope.names.lookup p.1 = some .free ∧ p.2 ≠ .emp
inductive CompJ (C : Ctx) (K : Kx) (env : Env) (caps : Fm) (J : List V → List V → Store → Prop) (D it : Addr) (σ : Store) (h₁ : Heap) (n : Nat) (s' : Shared) : Prop
  | mk (r acc : List V) (σ₂ : Store) (e : n = r.length) (hJ : J r acc σ₂) (hd : σ₂ D = none) (hI : Itr C (accS σ₂ D acc) s'.heap it r) (hr : Rep C K env caps (accS σ₂ D acc) s'.heap) (hi : Inv C (accS σ₂ D acc) s') (E : Ext C σ h₁ σ₂ s'.heap)
theorem comp_core {elt target iter : Expr} {ifs : List Expr} {scope : Scope} {pos : Pos} (caps : Fm) (ok : CompOk K ρ scope caps) {A : Around} {env : Env} {s₁ : Shared} (ha : AOk K.d A) (hr₁ : Rep C K env ρ σ s₁.heap) (i₁ : Inv C σ s₁)
    {items : List V} {pv : V} {v : Value} (hit : Items pv items) (r₁ : Rel C σ s₁.heap v pv) (J : List V → List V → Store → Prop) (hJ : J items [] σ) (turn : CompTurn C K scope caps target elt ifs J) {RR : Value → Addr → Result → Shared → Prop}
    (fin : ∀ D L acc σ₂ s', J [] acc σ₂ → σ₂ D = none → Inv C (accS σ₂ D acc) s' → Rep C (KxC K scope) (cenvOf env scope L) caps (accS σ₂ D acc) s'.heap → Ext C σ s₁.heap σ₂ s'.heap → s₁.heap.get? L = none → D ≠ L → C.h1.objs.size ≤ D → RR (.ref D) L (.ok .next) s') :
    wpAny (model C.prog C.w) A (pyIter v) (fun it s₂ => wpAny (model C.prog C.w) A (newList []) (fun acc s₃ => wpAny (model C.prog C.w) A (newFunctionEnv scope env.globals (closL env.cells scope.names []) [] env.qual none .none (some env)) (fun cenv s₄ =>
      codeAny (model C.prog C.w) A (.compStart (.ListComp elt [⟨target, iter, ifs, 0⟩] scope pos) 0 it acc { cenv with scope := relabel scope env }) (RR acc cenv.locals) s₄) X s₃) X s₂) X s₁ := by
  refine Classical.byContradiction fun hbc => ?_
  obtain ⟨hk, hcell, hnames, hfree, hcaps⟩ := ok
  refine hbc ?_
  clear hbc
  refine itr_iter hit r₁ i₁ ha fun it h₂ fr₂ g₂ hI => ?_
  have i₂ : Inv C σ { s₁ with heap := h₂ } := i₁.grow (s' := { s₁ with heap := h₂ }) g₂ rfl rfl
  have hr₂ : Rep C K env ρ σ h₂ := hr₁.mono (Ext.grow g₂)
  refine wpAny_newObj_type (wpAny_newFunctionEnv hcell (by intro y hy; simp at hy) (fun h₄ hns hsb => ?_) hk)
  dsimp only at hns hsb ⊢
  generalize hH3 : h₂.push { cls := .type "list", dict := none, data := .seq ([] : List Value).toArray } = H3 at hns hsb ⊢
  have hD : h₂.get? h₂.objs.size = none := get?_ge (Nat.le_refl _)
  have hC : H3.objs.size = h₂.objs.size + 1 := by rw [← hH3, Heap.size_push]
  have hDC : h₂.objs.size ≠ H3.objs.size := by rw [hC]; exact Nat.ne_of_lt (Nat.lt_succ_self _)
  have hCn : h₂.get? H3.objs.size = none := get?_ge (by rw [hC]; exact Nat.le_succ _)
  have g₄ : ∀ b o, h₂.get? b = some o → h₄.get? b = some o := fun b o e => hsb.extBut b o (fun q => by rw [q, hCn] at e; cases e) (Heap.get?_push_of_some _ (hH3 ▸ Heap.get?_push_of_some _ e))
  have hDo : h₄.get? h₂.objs.size = some (lstO #[] 0) := hsb.extBut _ _ hDC (Heap.get?_push_of_some _ (hH3 ▸ Heap.get?_push_size _ rfl))
  obtain ⟨i₄, E₄⟩ := i₂.new (s' := { s₁ with heap := h₄ }) (p := .list []) hD i₂.size g₄ ⟨#[], 0, hDo, .nil⟩ rfl rfl
  have i₄' : Inv C (accS σ h₂.objs.size []) { s₁ with heap := h₄, toks := s₁.toks + ([] : List (Str × Value)).length } := i₄.toks
  have hr₄ : Rep C K env ρ (accS σ h₂.objs.size []) h₄ := hr₂.mono E₄
  have hLs : σ H3.objs.size = none := i₂.off hCn
  have hL : (accS σ h₂.objs.size []) H3.objs.size = none := (upd_ne σ _ (Ne.symm hDC)).trans hLs
  have hlo : C.h1.objs.size ≤ H3.objs.size := by rw [hC]; exact Nat.le_trans i₂.size (Nat.le_succ _)
  have rc : Rep C (KxC K scope) (cenvOf env scope H3.objs.size) caps (accS σ h₂.objs.size []) h₄ :=
    comp_rep hr₄ hk hfree hcaps (by simpa using hns) hL hlo (i₂.notTab hlo) fun x c hc q => hr₂.cellEx i₂ hc (q ▸ hCn)
  have hitD : it ≠ h₂.objs.size := fun q => by obtain ⟨o, _, e, _⟩ := hI.st.obj; rw [q, hD] at e; cases e
  have hitC : it ≠ H3.objs.size := fun q => by obtain ⟨o, _, e, _⟩ := hI.st.obj; rw [q, hCn] at e; cases e
  have hI₄ : Itr C (accS σ h₂.objs.size []) h₄ it items := ⟨hI.st.mono (fun o e => g₄ it o e) E₄.seq, (upd_ne σ _ hitD).trans hI.un, hI.lo, hI.nt⟩
  have hfresh : ∀ a o, s₁.heap.get? a = some o → a ≠ it ∧ a ≠ h₂.objs.size ∧ a ≠ H3.objs.size := fun a o e =>
    ⟨fun q => (by rw [q, fr₂] at e; cases e), fun q => (by have := g₂ a o e; rw [q, hD] at this; cases this), fun q => (by have := g₂ a o e; rw [q, hCn] at this; cases this)⟩
  have n1 : s₁.heap.get? h₂.objs.size = none := by
    cases q : s₁.heap.get? h₂.objs.size with
    | none => rfl
    | some o => exact absurd rfl (hfresh _ o q).2.1
  have n2 : s₁.heap.get? H3.objs.size = none := by
    cases q : s₁.heap.get? H3.objs.size with
    | none => rfl
    | some o => exact absurd rfl (hfresh _ o q).2.2
  have d0 : σ h₂.objs.size = none := i₂.off hD
  have hDlo : C.h1.objs.size ≤ h₂.objs.size := i₂.size
  have E₁₄ : Ext C σ s₁.heap σ h₄ := Ext.grow fun b o e => g₄ b o (g₂ b o e)
  revert i₄' rc hI₄ d0 E₁₄ hDlo hitD hitC n1 n2 hDC
  generalize h₂.objs.size = D
  generalize H3.objs.size = L
  intro hDC i₄' rc hitD hitC hI₄ n1 n2 d0 hDlo E₁₄
  have loop : codeAny (model C.prog C.w) A (.compLoop (.ListComp elt [⟨target, iter, ifs, 0⟩] scope pos) 0 (.ref it) (.ref D) (cenvOf env scope L))
      (RR (.ref D) L) { s₁ with heap := h₄, toks := s₁.toks + ([] : List (Str × Value)).length } := by
    refine compLoop_any (CompJ C (KxC K scope) (cenvOf env scope L) caps J D it σ s₁.heap) ?_ items.length ⟨items, [], σ, rfl, hJ, d0, hI₄, rc, i₄', E₁₄⟩
    rintro n s' ⟨r, acc, σ₂, rfl, hJ, hd, hI, hrc, hi', hE⟩
    refine itr_next hI ha (fun e h'' k => ?_) (fun x r' e v h'' tk k rv hI' => ?_)
    · subst e
      have nd := hI.nd
      exact fin D L acc σ₂ { s' with heap := h'' } hJ hd (hi'.poke (s' := { s' with heap := h'' }) k rfl rfl) (hrc.poke k nd) (hE.but k.keep fr₂) n2 hDC hDlo
    · subst e
      have nd := hI.nd
      have hrc' := hrc.poke k nd
      have hi'' := hi'.poke (s' := { s' with heap := h'', toks := tk }) k rfl rfl
      have hE' := hE.but k.keep fr₂
      refine Classical.byContradiction fun hbc => ?_
      obtain ⟨fr, ht, hdis, body⟩ := turn x r' acc σ₂ D hJ hd
      refine hbc ?_
      clear hbc
      refine own_go (s := { s' with heap := h'', toks := tk }) hI'.st ?_
      refine as_local (s := { s' with heap := h'', toks := tk }) (d := K.d) ht ha hdis hrc' hi'' rv fun s₂ hrc₂ hi₂ eL => ?_
      have hE₂ : Ext C σ s₁.heap σ₂ s₂.heap := hE'.but eL.keep n2
      have hI₂ : Itr C (accS σ₂ D acc) s₂.heap it r' := ⟨hI'.st.mono (fun o e => eL.keep it o hitC e) (eL.seq hrc'), hI'.un, hI'.lo, hI'.nt⟩
      refine ifs_ (K := KxC K scope) ha body hrc₂ hi₂ fun ok σ₃ s₃ q₃ i₃ e₃ => ?_
      cases ok with
      | false =>
        refine Classical.byContradiction fun hbc => ?_
        obtain ⟨σ₅, rfl, h5, hJ'⟩ := q₃
        refine hbc ?_
        clear hbc
        exact ⟨r'.length, by simp, r', acc, σ₅, rfl, hJ', h5, hI₂.keep hrc₂ e₃.toF, (hrc₂.mono e₃).sub (fun p hp => List.mem_append_right _ hp), i₃, accExt hE₂ e₃ n1 hd h5⟩
      | true =>
        refine q₃ A (cenvOf env scope L) s₃ ha (hrc₂.mono e₃) i₃ _ fun v pv σ₄ s₄ q₄ i₄ e₄ r₄ => ?_
        refine Classical.byContradiction fun hbc => ?_
        obtain ⟨hlen, σ₅, rfl, h5, hJ'⟩ := q₄
        refine hbc ?_
        clear hbc
        refine bi_append (d := K.d) (Q := fun v σ' => σ' = accS σ₅ D (acc ++ [pv])) (X := Bot) accS_self hlen accS_accS A s₄ _ _ ha i₄ (.raw _) (.cons (.loc D) (.cons r₄ .nil)) _ fun v' pv' σ₆ s₆ q₆ i₆ e₆ r₆ => ?_
        subst q₆
        have EE := (e₃.trans e₄).trans e₆
        exact ⟨r'.length, by simp, r', acc ++ [pv], σ₅, rfl, hJ', h5, hI₂.keep hrc₂ EE.toF, (hrc₂.mono EE).sub (fun p hp => List.mem_append_right _ hp), i₆, accExt hE₂ EE n1 hd h5⟩
  exact codeAny_compStart_list loop (itr_self (C := C) (s := { s₁ with heap := h₄, toks := s₁.toks + ([] : List (Str × Value)).length }) hI₄.st loop)
theorem Rep.pokeNe {C : Ctx} {K : Kx} {env : Env} {ρ : Fm} {σ : Store} {h h' : Heap} {a : Addr} (r : Rep C K env ρ σ h) (k : Poke C σ a h h') (hL : env.locals ≠ a) (hc : ∀ x c, env.cells.lookup x = some c → c ≠ a) : Rep C K env ρ σ h' := by
  have hns : ∀ m, h.Ns env.locals m → h'.Ns env.locals m := fun m ⟨o, es, ep, e, d, q⟩ => ⟨o, es, ep, k.keep _ o hL e, d, q⟩
  have hce : ∀ b v, b ≠ a → h.IsCell b v → h'.IsCell b v := fun b v n ⟨o, e, d⟩ => ⟨o, k.keep b o n e, d⟩
  obtain ⟨m, hm⟩ := r.loc
  refine ⟨r.kind, r.names, r.glob, r.blt, r.qual, r.code, ⟨m, hns m hm⟩, r.locF, fun y c hc' => ?_, r.cinj, fun p hp => ?_⟩
  · refine Classical.byContradiction fun hbc => ?_
    obtain ⟨h1, h2, h3, h4, h5⟩ := r.cells y c hc'
    refine hbc ?_
    clear hbc
    exact ⟨h1, h2, h3, fun e => let ⟨v, q⟩ := h4 e; ⟨v, hce _ _ (hc y c hc') q⟩, h5⟩
  · have hv := r.vars p hp
    obtain ⟨y, sl⟩ := p
    cases sl with
    | val pv =>
      rcases hv with ⟨h1, m, v, h2, h3, h4⟩ | ⟨h1, c, v, h2, h3, h4, h5, h6⟩
      · exact .inl ⟨h1, m, v, hns m h2, h3, h4.mono k.seq⟩
      · exact .inr ⟨h1, c, v, h2, hce c _ (hc y c h2) h3, h4.mono k.seq, h5, h6⟩
    | sh c => exact hv
    | emp => obtain ⟨h1, c, h2, ⟨v, h3⟩, h5, h6⟩ := hv; exact ⟨h1, c, h2, ⟨v, hce c _ (hc y c h2) h3⟩, h5, h6⟩
theorem Poke.ofNs {env : Env} {h h' : Heap} {m : Str → Option Value} (hm : h.Ns env.locals m) (hf : σ env.locals = none) (lo : C.h1.objs.size ≤ env.locals) (sb : ∀ b o, b ≠ env.locals → h.get? b = some o → h'.get? b = some o) : Poke C σ env.locals h h' :=
  ⟨sb, fun o e => ⟨hf, lo, by
    refine Classical.byContradiction fun hbc => ?_
    obtain ⟨o', es, ep, e', d, _⟩ := hm
    refine hbc ?_
    clear hbc
    (first | obtain rfl := Option.some.inj (e.symm.trans e') | exact absurd (e.symm.trans e') (Option.some_ne_none _) | exact absurd (e.symm.trans e').symm (Option.some_ne_none _) | exact (datN (e.symm.trans e') rfl).elim | (rw [e] at e'; cases e'))
    exact ⟨fun q => (by rcases q with ⟨_, _, q⟩ | ⟨_, _, q⟩ <;> rw [d] at q <;> cases q), fun vs q => (by (first | obtain rfl := Option.some.inj (d.symm.trans q) | exact absurd (d.symm.trans q) (Option.some_ne_none _) | exact absurd (d.symm.trans q).symm (Option.some_ne_none _) | exact (datN (d.symm.trans q) rfl).elim | (rw [d] at q; cases q)))⟩⟩⟩
theorem ev_comp {elt target iter : Expr} {ifs : List Expr} {scope : Scope} {pos : Pos} (caps : Fm) (ok : CompOk K ρ scope caps)
    (h : EvP C K ρ σ iter (fun v σ₁ => ∃ items, Items v items ∧ ∃ J : List V → List V → Store → Prop, J items [] σ₁ ∧ CompTurn C K scope caps target elt ifs J ∧ (∀ acc σ₂, J [] acc σ₂ → Q (.lst acc) σ₂)) X)
    (hs : ∀ env x, foldedSetIterable iter env x = pure x := by intro _ _; rfl) : EvP C K ρ σ (.ListComp elt [⟨target, iter, ifs, 0⟩] scope pos) Q X := fun A env s ha hr hi QM hq => by
  rw [eval_ListComp]
  have hclos : closureFor scope env = pure (closL env.cells scope.names []) := closureFor_ok scope fun x hx hf => (ok.free x hx hf).cell hr
  refine wpAny_comprehension_free (use := none) (g := ⟨target, iter, ifs, 0⟩) (gs := []) rfl (hs env) hclos ok.kind ok.names ?_
  refine h A env s ha hr hi _ fun v pv σ₁ s₁ h₁ i₁ e₁ r₁ => ?_
  refine Classical.byContradiction fun hbc => ?_
  obtain ⟨items, hit, J, hJ, turn, done⟩ := h₁
  refine hbc ?_
  clear hbc
  refine comp_core caps ok ha (hr.mono e₁) i₁ hit r₁ J hJ turn fun D L acc σ₂ s' hJ hd hi' hrc hE n2 hDC hDlo => ?_
  obtain ⟨m, hm⟩ := hrc.loc
  refine ⟨m, hm, fun h3 sb => ?_⟩
  have k2 := Poke.ofNs (env := cenvOf env scope L) hm hrc.locF.1 hrc.locF.2.2 sb.extBut
  have hi3 := hi'.poke (s' := { s' with heap := h3 }) k2 rfl rfl
  refine Classical.byContradiction fun hbc => ?_
  obtain ⟨hi4, E4⟩ := hi3.drop hd (fun v e => by cases e)
  obtain ⟨its, n, ho, hrs⟩ := (hi3.own D _ accS_self).2
  obtain ⟨its⟩ := its
  refine hbc ?_
  clear hbc
  exact hq _ _ σ₂ _ (done acc σ₂ hJ) hi4 (e₁.trans (hE.but k2.keep n2)) (.lst ho hd (hi4.notTab hDlo) (hrs.mono E4.seq))
/-- a name of the frame's own is given a comprehension's row -/
theorem st_assign_comp {y : Str} {elt target iter : Expr} {ifs : List Expr} {scope : Scope} {pos py spos : Pos} {Q : Fl → Fm → Store → Prop} (caps : Fm) (ok : CompOk K ρ scope caps) (hy : K.names.lookup y = some .local)
    (h : EvP C K ρ σ iter (fun v σ₁ => ∃ items, Items v items ∧ ∃ J : List V → List V → Store → Prop, J items [] σ₁ ∧ CompTurn C K scope caps target elt ifs J ∧ (∀ acc σ₂, J [] acc σ₂ → ∃ ρ', Upd ρ y (.val (.lst acc)) ρ' ∧ Q .next ρ' σ₂)) X)
    (hline : (py.line == pos.line) = true := by rfl) (hnot : (scope.names.any fun (n, k) => n == y && (k == .local || k == .cell)) = false := by decide +kernel)
    (hs : ∀ env x, foldedSetIterable iter env x = pure x := by intro _ _; rfl) : StP C K ρ σ (.Assign [.Name y py] (.ListComp elt [⟨target, iter, ifs, 0⟩] scope pos) spos) Q X := fun A env s ha hr hi QM hq => by
  have hsw : swapsWith (.ListComp elt [⟨target, iter, ifs, 0⟩] scope pos) (some (.Name y py)) spos.line env = pure true := by
    have hk : env.kindOf y = some .local := (congrArg (·.lookup y) hr.names).trans hy
    have hb : env.blockKind = .function := by unfold Env.blockKind; rw [hr.kind]; rfl
    have hl : (py.line == (Expr.ListComp elt [⟨target, iter, ifs, 0⟩] scope pos).pos.line) = true := hline
    show (pure (env.blockKind == .function && env.kindOf y == some .local && py.line == (Expr.ListComp elt [⟨target, iter, ifs, 0⟩] scope pos).pos.line && !(scope.names.any fun (n, k) => n == y && (k == .local || k == .cell))) : Sem Bool) = _
    rw [hk, hb, hl, hnot]; rfl
  rw [exec_Assign_Name_used _ _ _ _ hsw]
  refine wpAny_bind (wpAny_standAt (wpAny_bind ?_))
  show wpAny _ A (do let _ ← comprehension (.ListComp elt [⟨target, iter, ifs, 0⟩] scope pos) scope env _ (newList []) false (eval iter env) (some (assign (.Name y py) env))) _ _ s
  have hclos : closureFor scope env = pure (closL env.cells scope.names []) := closureFor_ok scope fun x hx hf => (ok.free x hx hf).cell hr
  refine wpAny_bind (wpAny_mono (wpAny_comprehension_free (g := ⟨target, iter, ifs, 0⟩) (gs := []) (use := some (assign (.Name y py) env)) (Q := fun _ s' => QM .next s') rfl (hs env) hclos ok.kind ok.names ?_) (fun _ s' hq => wpAny_pure (wpAny_pure hq)) fun _ _ e => e)
  refine h A env s ha hr hi _ fun v pv σ₁ s₁ h₁ i₁ e₁ r₁ => ?_
  refine Classical.byContradiction fun hbc => ?_
  obtain ⟨items, hit, J, hJ, turn, done⟩ := h₁
  refine hbc ?_
  clear hbc
  have hr₁ := hr.mono e₁
  refine comp_core caps ok ha hr₁ i₁ hit r₁ J hJ turn fun D L acc σ₂ s' hJ hd hi' hrc hE n2 hDC hDlo => ?_
  refine Classical.byContradiction fun hbc => ?_
  obtain ⟨hi4, E4⟩ := hi'.drop hd (fun v e => by cases e)
  obtain ⟨its, n, ho, hrs⟩ := (hi'.own D _ accS_self).2
  obtain ⟨its⟩ := its
  obtain ⟨ρ', hu, hQ⟩ := done acc σ₂ hJ
  refine hbc ?_
  clear hbc
  have hLs : σ₂ L = none := by have := hrc.locF.1; rwa [accS_ne (Ne.symm hDC)] at this
  have nL : env.locals ≠ L := fun q => by obtain ⟨m, o, _, _, e, _⟩ := hr₁.loc; rw [q, n2] at e; cases e
  have nc : ∀ x c, env.cells.lookup x = some c → c ≠ L := fun x c hc q => hr₁.cellEx i₁ hc (q ▸ n2)
  obtain ⟨m, hm⟩ := hrc.loc
  show wpAny _ A (assign (.Name y py) env (.ref D)) _ _ _
  refine wpAny_assign_Name (store_local hy (hr₁.mono hE) hi4 (.lst ho hd (hi4.notTab hDlo) (hrs.mono E4.seq)) hu fun s₂ hr₂ hi₂ eL => ?_)
  have hm2 : s₂.heap.Ns L m := by
    refine Classical.byContradiction fun hbc => ?_
    obtain ⟨o, es, ep, e, q⟩ := hm
    refine hbc ?_
    clear hbc
    exact ⟨o, es, ep, eL.keep L o (Ne.symm nL) e, q⟩
  refine ⟨m, hm2, fun h3 sb => ?_⟩
  have k2 := Poke.ofNs (C := C) (σ := σ₂) (env := cenvOf env scope L) hm2 hLs hrc.locF.2.2 sb.extBut
  have E1 : ExtF C env σ₁ s₁.heap σ₂ s₂.heap := ⟨fun a o e hs ht hf => eL.keep a o (fun q => hf (.inl q)) (hE.keep a o e hs ht), fun a o e hs ht _ => hE.free a o e hs ht, hE.cell⟩
  exact hq .next .next ρ' σ₂ { s₂ with heap := h3 } hQ trivial (hr₂.pokeNe k2 nL nc) (hi₂.poke (s' := { s₂ with heap := h3 }) k2 rfl rfl) (e₁.toF.trans (E1.poke k2 n2))
end
end Mine
end
section
open PySem PySem.W PyProof.Rows PySem.Calls
namespace Mine
noncomputable abbrev mkFd (name qual : Str) (params : Arguments) (body : FuncBody) (scope : Scope) (cl : List (Str × Addr)) (pm cdv ct : Value) : FuncData :=
  { name, qualname := qual, params, body, scope, globals := mainGlobals, closure := cl, defaults := .none, kwdefaults := .none, doc := .none, pyModule := pm, annotations := none, code := cdv, closureTuple := ct, builtins := builtinsNs }
section
variable {M : Model} {A : Around} {E : Value → Shared → Prop} {s : Shared} {name qual : Str} {params : Arguments} {body : FuncBody} {scope : Scope} {env : Env} {c P : Addr} {ps : Array Value} {pos : Pos} {firstLine : Nat} {mg : Str → Option Value}
  {clos : List (Str × Addr)} {Q : Value → Shared → Prop}
noncomputable def NoDoc (body : FuncBody) : Prop := ∀ b, body = .stmts b → docOf b = none
/-- a function is made: its code is new, or was made before -/
theorem mk_tail (hd : NoDoc body) (hcl : closureFor scope env = pure clos) (hge0 : env.globals = mainGlobals) (hg : s.heap.Ns mainGlobals mg) (hcode : env.code = .ref c) (CH : CodeHd s.heap c P) (hP : s.heap.get? P = some (tabObj ps)) (ht : TriplesOk ps.toList)
    (hgP : mainGlobals ≠ P) (hb : s.heap.BuiltinsAt mg P)
    (h : ∀ cv ctv h' tk ps', Heap.ExtBut P s.heap h' → s.heap.objs.size ≤ h'.objs.size → h'.get? P = some (tabObj ps') →
      ((ps' = ps ∧ codeAmong pos ps.toList = some cv) ∨ (codeAmong pos ps.toList = none ∧ ∃ c', cv = .ref c' ∧ s.heap.objs.size ≤ c' ∧ ps' = ps ++ #[rawInt pos.line, rawInt pos.col, .ref c'] ∧ h'.CodeRec (.ref c') qual)) →
      Q (.ref h'.objs.size) { s with heap := h'.push { cls := .type "function", data := .func (mkFd name qual params body scope clos ((mg "__name__").getD .none) cv ctv) }, toks := tk }) :
    wpAny M A (makeTail name qual params body scope env .none .none none pos firstLine) Q E s := by
  obtain ⟨bm, ob, hbm, hne0, _, hneP, hbo, hcls, hdict, hdata⟩ := hb
  unfold makeTail
  rw [hcl, hge0]
  refine wpAny_bind (wpAny_pure ?_)
  cases clos with
  | nil =>
    simp only [List.isEmpty_nil, if_true]
    refine wpAny_bind (wpAny_pure ?_)
    have k₀ : ∀ b o, s.heap.get? b = some o → s.heap.get? b = some o := fun _ _ e => e
    have hP₀ := k₀ _ _ hP
    have sz : s.heap.objs.size ≤ s.heap.objs.size := Nat.le_refl _
    cases hf : codeAmong pos ps.toList with
    | some cv =>
      refine wpAny_bind (wpAny_functionCode_hit hcode ((CH.keeps k₀).code hP₀ ht) hf ?_)
      refine wpAny_bind (wpAny_builtinsFor (hg.keeps k₀) hbm hne0 (k₀ _ _ hbo) hcls hdict hdata ?_)
      cases body with
      | stmts b =>
        have hd' : docOf b = none := hd b rfl
        refine wpAny_bind (wpAny_nsGet (hg.keeps k₀) ?_)
        simp only [hd']
        exact wpAny_bind (wpAny_pure (wpAny_newObj_type (h cv .none _ s.toks ps (fun b o _ e => k₀ b o e) sz hP₀ (.inl ⟨rfl, hf⟩)) (by size_fits)))
      | expr e =>
        refine wpAny_bind (wpAny_nsGet (hg.keeps k₀) ?_)
        exact wpAny_bind (wpAny_pure (wpAny_newObj_type (h cv .none _ s.toks ps (fun b o _ e => k₀ b o e) sz hP₀ (.inl ⟨rfl, hf⟩)) (by size_fits)))
    | none =>
      refine wpAny_bind (wpAny_functionCodeX hcode ((CH.keeps k₀).code hP₀ ht) ((CH.keeps k₀).tab hP₀) hf fun c' h' tk hx hge hlt _ hrec htb _ => ?_)
      have hg' := (hg.keeps k₀).extBut hx hgP
      refine wpAny_bind (wpAny_builtinsFor hg' hbm hne0 (hx _ _ hneP (k₀ _ _ hbo)) hcls hdict hdata ?_)
      cases body with
      | stmts b =>
        have hd' : docOf b = none := hd b rfl
        refine wpAny_bind (wpAny_nsGet hg' ?_)
        simp only [hd']
        exact wpAny_bind (wpAny_pure (wpAny_newObj_type (h (.ref c') .none h' tk _ (fun b o hb e => hx b o hb (k₀ b o e)) (Nat.le_trans sz (Nat.le_trans hge (Nat.le_of_lt hlt))) htb.2 (.inr ⟨hf, c', rfl, Nat.le_trans sz hge, rfl, hrec⟩)) (by size_fits)))
      | expr e =>
        refine wpAny_bind (wpAny_nsGet hg' ?_)
        exact wpAny_bind (wpAny_pure (wpAny_newObj_type (h (.ref c') .none h' tk _ (fun b o hb e => hx b o hb (k₀ b o e)) (Nat.le_trans sz (Nat.le_trans hge (Nat.le_of_lt hlt))) htb.2 (.inr ⟨hf, c', rfl, Nat.le_trans sz hge, rfl, hrec⟩)) (by size_fits)))
  | cons q r =>
    simp only [List.isEmpty_cons, Bool.false_eq_true, if_false]
    refine wpAny_bind (wpAny_newTextTuple ?_)
    generalize hO : ({ cls := Value.type "tuple", data := Data.seq _ } : Obj) = oT
    have k₀ : ∀ b o, s.heap.get? b = some o → (s.heap.push oT).get? b = some o := fun _ _ e => Heap.get?_push_of_some _ e
    have hP₀ := k₀ _ _ hP
    have sz : s.heap.objs.size ≤ (s.heap.push oT).objs.size := by rw [Heap.size_push]; omega
    cases hf : codeAmong pos ps.toList with
    | some cv =>
      refine wpAny_bind (wpAny_functionCode_hit hcode ((CH.keeps k₀).code hP₀ ht) hf ?_)
      refine wpAny_bind (wpAny_builtinsFor (hg.keeps k₀) hbm hne0 (k₀ _ _ hbo) hcls hdict hdata ?_)
      cases body with
      | stmts b =>
        have hd' : docOf b = none := hd b rfl
        refine wpAny_bind (wpAny_nsGet (hg.keeps k₀) ?_)
        simp only [hd']
        exact wpAny_bind (wpAny_pure (wpAny_newObj_type (h cv _ _ s.toks ps (fun b o _ e => k₀ b o e) sz hP₀ (.inl ⟨rfl, hf⟩)) (by size_fits)))
      | expr e =>
        refine wpAny_bind (wpAny_nsGet (hg.keeps k₀) ?_)
        exact wpAny_bind (wpAny_pure (wpAny_newObj_type (h cv _ _ s.toks ps (fun b o _ e => k₀ b o e) sz hP₀ (.inl ⟨rfl, hf⟩)) (by size_fits)))
    | none =>
      refine wpAny_bind (wpAny_functionCodeX hcode ((CH.keeps k₀).code hP₀ ht) ((CH.keeps k₀).tab hP₀) hf fun c' h' tk hx hge hlt _ hrec htb _ => ?_)
      have hg' := (hg.keeps k₀).extBut hx hgP
      refine wpAny_bind (wpAny_builtinsFor hg' hbm hne0 (hx _ _ hneP (k₀ _ _ hbo)) hcls hdict hdata ?_)
      cases body with
      | stmts b =>
        have hd' : docOf b = none := hd b rfl
        refine wpAny_bind (wpAny_nsGet hg' ?_)
        simp only [hd']
        exact wpAny_bind (wpAny_pure (wpAny_newObj_type (h (.ref c') _ h' tk _ (fun b o hb e => hx b o hb (k₀ b o e)) (Nat.le_trans sz (Nat.le_trans hge (Nat.le_of_lt hlt))) htb.2 (.inr ⟨hf, c', rfl, Nat.le_trans sz hge, rfl, hrec⟩)) (by size_fits)))
      | expr e =>
        refine wpAny_bind (wpAny_nsGet hg' ?_)
        exact wpAny_bind (wpAny_pure (wpAny_newObj_type (h (.ref c') _ h' tk _ (fun b o hb e => hx b o hb (k₀ b o e)) (Nat.le_trans sz (Nat.le_trans hge (Nat.le_of_lt hlt))) htb.2 (.inr ⟨hf, c', rfl, Nat.le_trans sz hge, rfl, hrec⟩)) (by size_fits)))
end
end Mine
end
section
open PySem PySem.W PyProof.Rows PySem.Calls
namespace Mine
section
variable {C : Ctx} {K : Kx} {ρ : Fm} {σ : Store} {X : Value → Shared → Prop} {d : Nat}
theorem ObjRel.swap {σ' : Store} {h : Heap} {b : Addr} {p : PObj} (hs : SeqKeep C σ h σ' h) (hc : ∀ cd q, CodeOk C σ h cd q → CodeOk C σ' h cd q) (x : ObjRel C σ h b p) : ObjRel C σ' h b p := by
  cases p with
  | list vs => obtain ⟨items, n, e, r⟩ := x; exact ⟨items, n, e, r.mono hs⟩
  | ns at_ => obtain ⟨es, n, e, r⟩ := x; exact ⟨es, n, e, r.mono hs⟩
  | inst c d => exact x
  | cell v => cases v with
    | none => exact x
    | some v => obtain ⟨v, n, q⟩ := x; exact ⟨v, n, q.mono hs⟩
  | func f cap d => obtain ⟨o, fd, e, c, d, f1, f2, f3, f4, f5, f6, f7, f8, f9, f10, f11, f12⟩ := x; exact ⟨o, fd, e, c, d, f1, f2, f3, f4, f5, f6, f7, f8, f9, f10, f11, hc _ _ f12⟩
  | bound f self => obtain ⟨v, e, q⟩ := x; exact ⟨v, e, q.mono hs⟩
  | citer f sent => obtain ⟨v, u, e, q, q'⟩ := x; exact ⟨v, u, e, q.mono hs, q'.mono hs⟩
  | cend => exact x
  | riter vs i => obtain ⟨l, e, q⟩ := x; exact ⟨l, e, q.mono hs⟩
/-- a private cell becomes a shared one -/
theorem share_cell {s : Shared} {env : Env} {x : Str} {c : Addr} {ov : Option V} {r' : Fm} (hi : Inv C σ s) (hr : Rep C K env ρ σ s.heap) (hl : env.cells.lookup x = some c) (hk : K.names.lookup x = some .cell) (hσ : σ c = none)
    (ho : ObjRel C (upd σ c (some (.cell ov))) s.heap c (.cell ov)) (hrest : Rest ρ x r') :
    Inv C (upd σ c (some (.cell ov))) s ∧ Rep C K env ((x, .sh c) :: r') (upd σ c (some (.cell ov))) s.heap ∧ ∀ σ' h', ExtF C env (upd σ c (some (.cell ov))) s.heap σ' h' → ExtF C env σ s.heap σ' h' := by
  refine Classical.byContradiction fun hbc => ?_
  obtain ⟨h1, h2, h3, h4, h5⟩ := hr.cells x c hl
  obtain ⟨v0, oc, hoc, hod⟩ := h4 hσ
  refine hbc ?_
  clear hbc
  have nf : ∀ o, s.heap.get? c = some o → o.data = .cell v0 := fun o e => by (first | obtain rfl := Option.some.inj (hoc.symm.trans e) | exact absurd (hoc.symm.trans e) (Option.some_ne_none _) | exact absurd (hoc.symm.trans e).symm (Option.some_ne_none _) | exact (datN (hoc.symm.trans e) rfl).elim | (rw [hoc] at e; cases e)); exact hod
  have hs : SeqKeep C σ s.heap (upd σ c (some (.cell ov))) s.heap := ⟨fun _ _ e _ _ _ => e, fun b o e f hb _ => by
    rw [upd_ne σ _ (fun q => by
      subst q
      have := nf o e
      rcases f with ⟨_, _, f⟩ | ⟨_, _, f⟩ <;> rw [this] at f <;> cases f)]
    exact hb⟩
  have hcode : ∀ cd q, CodeOk C σ s.heap cd q → CodeOk C (upd σ c (some (.cell ov))) s.heap cd q := fun cd q ⟨⟨c', o, vs, t, e, g, dd, r⟩, z⟩ => ⟨⟨c', o, vs, t, e, g, dd, r⟩, fun c'' e' => ⟨by
    rw [upd_ne σ _ (fun q => by
      subst q
      (first | obtain rfl := Option.some.inj (e.symm.trans e') | exact absurd (e.symm.trans e') (Option.some_ne_none _) | exact absurd (e.symm.trans e').symm (Option.some_ne_none _) | exact (datN (e.symm.trans e') rfl).elim | (rw [e] at e'; cases e'))
      have := nf o g
      (first | obtain rfl := Option.some.inj (dd.symm.trans this) | exact absurd (dd.symm.trans this) (Option.some_ne_none _) | exact absurd (dd.symm.trans this).symm (Option.some_ne_none _) | exact (datN (dd.symm.trans this) rfl).elim | (rw [dd] at this; cases this)))]
    exact (z c'' e').1, (z c'' e').2⟩⟩
  refine ⟨⟨hi.base, hi.top, fun a p e => ?_, hi.tabLt, fun n hn => ?_, hi.gens, hi.os⟩, ⟨hr.kind, hr.names, hr.glob, hr.blt, hr.qual, hr.code, hr.loc, ⟨?_, hr.locF.2⟩, fun y c' hc' => ?_, hr.cinj, fun p hp => ?_⟩, fun σ' h' e => ?_⟩
  · by_cases ha : a = c
    · subst ha
      (first | obtain rfl := Option.some.inj (upd_self.symm.trans e) | exact absurd (upd_self.symm.trans e) (Option.some_ne_none _) | exact absurd (upd_self.symm.trans e).symm (Option.some_ne_none _) | exact (datN (upd_self.symm.trans e) rfl).elim | (rw [upd_self] at e; cases e))
      exact ⟨h2, ho⟩
    · rw [upd_ne σ _ ha] at e
      exact ⟨(hi.own a p e).1, (hi.own a p e).2.swap hs hcode⟩
  · refine Classical.byContradiction fun hbc => ?_
    obtain ⟨ps, g, t, f⟩ := hi.tabs n hn
    refine hbc ?_
    clear hbc
    exact ⟨ps, g, t, fun dd hd cv hc => hcode _ _ (f dd hd cv hc)⟩
  · rw [upd_ne σ _ h1]; exact hr.locF.1
  · refine Classical.byContradiction fun hbc => ?_
    obtain ⟨g1, g2, g3, g4, g5⟩ := hr.cells y c' hc'
    refine hbc ?_
    clear hbc
    refine ⟨g1, g2, g3, fun e => ?_, fun o e => ?_⟩
    · by_cases hcc : c' = c
      · subst hcc; (first | obtain rfl := Option.some.inj (upd_self.symm.trans e) | exact absurd (upd_self.symm.trans e) (Option.some_ne_none _) | exact absurd (upd_self.symm.trans e).symm (Option.some_ne_none _) | exact (datN (upd_self.symm.trans e) rfl).elim | (rw [upd_self] at e; cases e))
      · rw [upd_ne σ _ hcc] at e; exact g4 e
    · by_cases hcc : c' = c
      · subst hcc; (first | obtain rfl := Option.some.inj (upd_self.symm.trans e) | exact absurd (upd_self.symm.trans e) (Option.some_ne_none _) | exact absurd (upd_self.symm.trans e).symm (Option.some_ne_none _) | exact (datN (upd_self.symm.trans e) rfl).elim | (rw [upd_self] at e; cases e)); exact ⟨_, rfl⟩
      · rw [upd_ne σ _ hcc] at e; exact g5 o e
  · rcases List.mem_cons.mp hp with rfl | hp
    · exact ⟨.inl hk, hl, _, upd_self ..⟩
    · refine Classical.byContradiction fun hbc => ?_
      obtain ⟨hp, hne⟩ := hrest p hp
      have hv := hr.vars p hp
      obtain ⟨y, sl⟩ := p
      refine hbc ?_
      clear hbc
      have nec : ∀ c', env.cells.lookup y = some c' → c' ≠ c := fun c' e q => hne (hr.cinj y x c' e (q ▸ hl))
      cases sl with
      | val pv =>
        rcases hv with ⟨g1, m, v, g2, g3, g4⟩ | ⟨g1, c', v, g2, g3, g4, g5, g6⟩
        · exact .inl ⟨g1, m, v, g2, g3, g4.mono hs⟩
        · exact .inr ⟨g1, c', v, g2, g3, g4.mono hs, (upd_ne σ _ (nec c' g2)).trans g5, g6⟩
      | sh c' =>
        refine Classical.byContradiction fun hbc => ?_
        obtain ⟨g1, g2, o, g3⟩ := hv
        refine hbc ?_
        clear hbc
        exact ⟨g1, g2, o, (upd_ne σ _ (nec c' g2)).trans g3⟩
      | emp =>
        refine Classical.byContradiction fun hbc => ?_
        obtain ⟨g1, c', g2, g3, g5, g6⟩ := hv
        refine hbc ?_
        clear hbc
        exact ⟨g1, c', g2, g3, (upd_ne σ _ (nec c' g2)).trans g5, g6⟩
  · have foot : Foot env c := .inr ⟨x, (congrArg (·.lookup x) hr.names).trans hk, hl⟩
    have ne : ∀ a, ¬ Foot env a → a ≠ c := fun a ha q => ha (q ▸ foot)
    exact ⟨fun a o g hs' ht hf => e.keep a o g ((upd_ne σ _ (ne a hf)).trans hs') ht hf, fun a o g hs' ht hf => e.free a o g ((upd_ne σ _ (ne a hf)).trans hs') ht hf, fun c' v hc' => e.cell c' v (by
      rw [upd_ne σ _ (fun q => by rw [q, hσ] at hc'; cases hc')]; exact hc')⟩
theorem ex_share {x : Str} {v : V} {r' : Fm} {ss : List Stmt} {Q : Fl → Fm → Store → Prop} (hx : (x, Slot.val v) ∈ ρ) (hk : K.names.lookup x = some .cell) (hrest : Rest ρ x r')
    (h : ∀ c, σ c = none → ExP C K ((x, .sh c) :: r') (upd σ c (some (.cell (some v)))) ss Q X) : ExP C K ρ σ ss Q X := fun A env s ha hr hi QM hq => by
  rcases hr.vars _ hx with ⟨h1, _⟩ | ⟨_, c, mv, h2, h3, h4, h5, h6⟩
  · (first | obtain rfl := Option.some.inj (hk.symm.trans h1) | exact absurd (hk.symm.trans h1) (Option.some_ne_none _) | exact absurd (hk.symm.trans h1).symm (Option.some_ne_none _) | exact (datN (hk.symm.trans h1) rfl).elim | (rw [hk] at h1; cases h1))
  · have nf : ∀ o, s.heap.get? c = some o → o.data = .cell (some mv) := fun o e => by obtain ⟨o', e', d'⟩ := h3; (first | obtain rfl := Option.some.inj (e'.symm.trans e) | exact absurd (e'.symm.trans e) (Option.some_ne_none _) | exact absurd (e'.symm.trans e).symm (Option.some_ne_none _) | exact (datN (e'.symm.trans e) rfl).elim | (rw [e'] at e; cases e)); exact d'
    obtain ⟨i', r'', e'⟩ := share_cell (ov := some v) hi hr h2 hk h5 ⟨mv, h3, h4.mono ⟨fun _ _ e _ _ _ => e, fun b o e f hb _ => by
      rw [upd_ne σ _ (fun q => by
        subst q
        have := nf o e
        rcases f with ⟨_, _, f⟩ | ⟨_, _, f⟩ <;> rw [this] at f <;> cases f)]
      exact hb⟩⟩ hrest
    exact h c h5 A env s ha r'' i' QM fun f fl ρ' σ' s' q a b cc e => hq f fl ρ' σ' s' q a b cc (e' _ _ e)
theorem ex_share0 {x : Str} {r' : Fm} {ss : List Stmt} {Q : Fl → Fm → Store → Prop} (hx : (x, Slot.emp) ∈ ρ) (hrest : Rest ρ x r')
    (h : ∀ c, σ c = none → ExP C K ((x, .sh c) :: r') (upd σ c (some (.cell none))) ss Q X) : ExP C K ρ σ ss Q X := fun A env s ha hr hi QM hq => by
  refine Classical.byContradiction fun hbc => ?_
  obtain ⟨hk, c, h2, ⟨⟨_, rfl⟩, h3⟩, h5, h6⟩ := hr.vars _ hx
  obtain ⟨i', r'', e'⟩ := share_cell (ov := none) hi hr h2 hk h5 h3 hrest
  refine hbc ?_
  clear hbc
  exact h c h5 A env s ha r'' i' QM fun f fl ρ' σ' s' q a b cc e => hq f fl ρ' σ' s' q a b cc (e' _ _ e)
/-- what one owns is let go -/
theorem Inv.letgo {s : Shared} {a : Addr} {p : PObj} (i : Inv C σ s) (ha : σ a = some p) (hc : ∀ v, p ≠ .cell v) : Inv C (upd σ a none) s ∧ Ext C σ s.heap (upd σ a none) s.heap := by
  have E : Ext C σ s.heap (upd σ a none) s.heap := ⟨fun _ _ e _ _ => e, fun b o e hb _ => by
    by_cases h : b = a
    · subst h; exact upd_self ..
    · rw [upd_ne σ _ h]; exact hb, fun c v e => by
    by_cases h : c = a
    · subst h; (first | obtain rfl := Option.some.inj (ha.symm.trans e) | exact absurd (ha.symm.trans e) (Option.some_ne_none _) | exact absurd (ha.symm.trans e).symm (Option.some_ne_none _) | exact (datN (ha.symm.trans e) rfl).elim | (rw [ha] at e; cases e)); exact absurd rfl (hc v)
    · exact ⟨v, by rw [upd_ne σ _ h]; exact e⟩⟩
  exact ⟨i.step E (fun b q e => .inl ⟨by
    by_cases h : b = a
    · subst h; (first | obtain rfl := Option.some.inj (upd_self.symm.trans e) | exact absurd (upd_self.symm.trans e) (Option.some_ne_none _) | exact absurd (upd_self.symm.trans e).symm (Option.some_ne_none _) | exact (datN (upd_self.symm.trans e) rfl).elim | (rw [upd_self] at e; cases e))
    · rw [upd_ne σ _ h] at e; exact e, fun o g => g⟩) (fun _ _ _ g => g) rfl rfl, E⟩
theorem frzRel {s : Shared} {a : Addr} {vs : List V} {v : Value} (i : Inv C σ s) (ha : σ a = some (.list vs)) (r : Rel C σ s.heap v (.loc a)) : Rel C (upd σ a none) s.heap v (.lst vs) := by
  cases r
  refine Classical.byContradiction fun hbc => ?_
  obtain ⟨⟨items⟩, n, ho, hr⟩ := (i.own a _ ha).2
  refine hbc ?_
  clear hbc
  exact .lst ho (upd_self ..) (i.notTab (i.own a _ ha).1) (hr.mono (i.letgo ha (fun v e => by cases e)).2.seq)
theorem ex_freeze {x : Str} {a : Addr} {vs : List V} {r' : Fm} {ss : List Stmt} {Q : Fl → Fm → Store → Prop} (ha : σ a = some (.list vs)) (hx : (x, Slot.val (.loc a)) ∈ ρ) (hrest : Rest ρ x r')
    (h : ExP C K ((x, .val (.lst vs)) :: r') (upd σ a none) ss Q X) : ExP C K ρ σ ss Q X := fun A env s hA hr hi QM hq => by
  obtain ⟨i', E⟩ := hi.letgo ha (fun v e => by cases e)
  have hr' := hr.mono E
  refine h A env s hA ⟨hr'.kind, hr'.names, hr'.glob, hr'.blt, hr'.qual, hr'.code, hr'.loc, hr'.locF, hr'.cells, hr'.cinj, fun p hp => ?_⟩ i' QM fun f fl ρ' σ' s' q a b cc e => hq f fl ρ' σ' s' q a b cc (E.toF.trans e)
  rcases List.mem_cons.mp hp with rfl | hp
  · rcases hr.vars _ hx with ⟨h1, m, v, h2, h3, h4⟩ | ⟨h1, c, v, h2, h3, h4, h5, h6⟩
    · exact .inl ⟨h1, m, v, h2, h3, frzRel hi ha h4⟩
    · refine .inr ⟨h1, c, v, h2, h3, frzRel hi ha h4, ?_, h6⟩
      rw [upd_ne σ _ (fun q => by rw [q, ha] at h5; cases h5)]; exact h5
  · exact hr'.vars p (hrest p hp).1
/-- a shared cell is given a value -/
theorem store_shared {x : Str} {c : Addr} {ov : Option V} {v : Value} {pv : V} {A : Around} {env : Env} {s : Shared} (hx : (x, Slot.sh c) ∈ ρ) (hk : K.names.lookup x = some .cell) (hc : σ c = some (.cell ov))
    (hr : Rep C K env ρ σ s.heap) (hi : Inv C σ s) (hv : Rel C σ s.heap v pv) {QM : Unit → Shared → Prop}
    (hq : ∀ s', Inv C (upd σ c (some (.cell (some pv)))) s' → Ext C σ s.heap (upd σ c (some (.cell (some pv)))) s'.heap → QM () s') : wpAny (model C.prog C.w) A (storeName env x v) QM X s := by
  refine Classical.byContradiction fun hbc => ?_
  obtain ⟨_, hl, _⟩ := hr.vars _ hx
  refine hbc ?_
  clear hbc
  obtain ⟨v₀, hcell⟩ : ∃ v₀, s.heap.IsCell c v₀ := by
    have := (hi.own c _ hc).2
    cases ov with
    | none => exact ⟨_, this⟩
    | some w => obtain ⟨mv, q, _⟩ := this; exact ⟨_, q⟩
  refine wpAny_storeName_cell hr.kind ((congrArg (·.lookup x) hr.names).trans hk) hl hcell fun h' hn hs => ?_
  have hsq : SeqKeep C σ s.heap (upd σ c (some (.cell (some pv)))) h' := ⟨fun b o e _ hb _ => (hs.2 b (fun q => by rw [q, hc] at hb; cases hb)).trans e, fun b o e _ hb _ => by
    rw [upd_ne σ _ (fun q => by rw [q, hc] at hb; cases hb)]; exact hb⟩
  obtain ⟨i', E⟩ := hi.set (s' := { s with heap := h' }) (p' := .cell (some pv)) hc hs.extBut (fun v e => ⟨_, rfl⟩) ⟨v, hn, hv.mono hsq⟩ rfl rfl
  exact hq _ i' E
end
end Mine
end
section
open PySem PySem.W PyProof.Rows PySem.Calls
namespace Mine
/-- the facts of the base heap that making functions needs -/
structure Ctx.Ok3 (C : Ctx) : Prop extends C.Ok2 where
  heads : ∀ n ∈ C.nest, CodeHd C.h1 n.code n.table ∧ n.code ∉ C.tabs
  inj : ∀ n ∈ C.nest, ∀ n' ∈ C.nest, n.table = n'.table → n = n'
  bi : ∃ bm o, C.mg "__builtins__" = some (.ref bm) ∧ bm ≠ builtinsNs ∧ bm ≠ mainGlobals ∧ bm ∉ C.tabs ∧ C.h1.get? bm = some o ∧ o.cls = .type "module" ∧ o.dict = some builtinsNs ∧ o.data = .plain
  apart : ∀ n ∈ C.nest, ∀ d ∈ n.defs, ∀ d' ∈ n.defs, d.1.line = d'.1.line → d.1.col = d'.1.col → d = d'
section
variable {C : Ctx} {K : Kx} {ρ : Fm} {σ : Store} {X : Value → Shared → Prop} {d : Nat}
theorem codeAmong_app {p : Pos} {a b : Int} {t u : Tok} {cv : Value} : ∀ (l : List Value), TriplesOk l → codeAmong p (l ++ [.int a t, .int b u, cv]) = (codeAmong p l).or (if a == p.line && b == p.col then some cv else none) := by
  intro l h
  fun_induction TriplesOk l with
  | case1 => simp [codeAmong]
  | case2 a' t' b' u' x rest ih =>
    simp only [List.cons_append, codeAmong]
    split
    · rfl
    · exact ih h
  | case3 l h1 h2 => exact h.elim
inductive CapL (ρ : Fm) : List (Str × NameKind) → List (Str × Addr) → List (Str × Addr) → Prop where
  | nil (cs : List (Str × Addr)) : CapL ρ [] cs cs
  | free {n : Str} {c : Addr} {r : List (Str × NameKind)} {cs out : List (Str × Addr)} (h : (n, Slot.sh c) ∈ ρ) (t : CapL ρ r ((n, c) :: cs) out) : CapL ρ ((n, .free) :: r) cs out
  | other {n : Str} {k : NameKind} {r : List (Str × NameKind)} {cs out : List (Str × Addr)} (h : k ≠ .free) (t : CapL ρ r cs out) : CapL ρ ((n, k) :: r) cs out
theorem CapL.closL {env : Env} {h : Heap} (hr : Rep C K env ρ σ h) {names : List (Str × NameKind)} {cs out : List (Str × Addr)} (x : CapL ρ names cs out) : closL env.cells names cs = out := by
  induction x with
  | nil cs => rfl
  | free hm t ih =>
    refine Classical.byContradiction fun hbc => ?_
    obtain ⟨_, hl, _⟩ := hr.vars _ hm
    refine hbc ?_
    clear hbc
    unfold Mine.closL
    simp only [beq_self_eq_true, if_true, hl, Option.getD_some]
    exact ih
  | other hk t ih =>
    unfold Mine.closL
    rw [if_neg (by simpa using hk)]
    exact ih
theorem CapL.tot {env : Env} {h : Heap} (hr : Rep C K env ρ σ h) {names : List (Str × NameKind)} {cs out : List (Str × Addr)} (x : CapL ρ names cs out) : ∀ y ∈ names, y.2 = .free → ∃ c, env.cells.lookup y.1 = some c := by
  induction x with
  | nil cs => intro y hy; (first | obtain ⟨_, rfl⟩ := Rel.inv hy | obtain rfl := Rel.inv hy | cases hy)
  | free hm t ih =>
    intro y hy hf
    rcases List.mem_cons.mp hy with rfl | hy
    · obtain ⟨_, hl, _⟩ := hr.vars _ hm; exact ⟨_, hl⟩
    · exact ih y hy hf
  | other hk t ih =>
    intro y hy hf
    rcases List.mem_cons.mp hy with rfl | hy
    · exact absurd hf hk
    · exact ih y hy hf
/-- a function is made within a frame -/
theorem mk_fn (O : C.Ok3) {n : Nest} (hn : n ∈ C.nest) {name qual : Str} {params : Arguments} {body : FuncBody} {scope : Scope} {cap : List (Str × Addr)} {pos : Pos} {firstLine : Nat} (hd : NoDoc body) (hdef : (pos, qual) ∈ n.defs) (hcode : K.code = .ref n.code)
    (hcap : CapL ρ scope.names [] cap) {A : Around} {env : Env} {s : Shared} (hr : Rep C K env ρ σ s.heap) (hi : Inv C σ s) {QM : Value → Shared → Prop}
    (hq : ∀ a s', σ a = none → Inv C (upd σ a (some (.func ⟨name, qual, params, body, scope⟩ cap none))) s' → Ext C σ s.heap (upd σ a (some (.func ⟨name, qual, params, body, scope⟩ cap none))) s'.heap → QM (.ref a) s') :
    wpAny (model C.prog C.w) A (makeTail name qual params body scope env .none .none none pos firstLine) QM X s := by
  refine Classical.byContradiction fun hbc => ?_
  obtain ⟨ps, hP, ht, hdefs⟩ := hi.tabs n hn
  have tm : n.table ∈ C.tabs := List.mem_map.mpr ⟨n, hn, rfl⟩
  obtain ⟨CH, hct⟩ := O.heads n hn
  refine hbc ?_
  clear hbc
  have CHs : CodeHd s.heap n.code n.table := by
    refine Classical.byContradiction fun hbc => ?_
    obtain ⟨o, vs, file, tf, flags, tg, inF, text, tt, e, r⟩ := CH
    refine hbc ?_
    clear hbc
    exact ⟨o, vs, file, tf, flags, tg, inF, text, tt, hi.base _ o e hct, r⟩
  have hb : s.heap.BuiltinsAt C.mg n.table := by
    refine Classical.byContradiction fun hbc => ?_
    obtain ⟨bm, o, b1, b2, b3, b4, b5, b6⟩ := O.bi
    refine hbc ?_
    clear hbc
    exact ⟨bm, o, b1, b2, b3, fun q => b4 (q ▸ tm), hi.base _ o b5 b4, b6⟩
  have hclos : closureFor scope env = pure cap := by rw [closureFor_ok scope (hcap.tot hr), hcap.closL hr]
  refine mk_tail hd hclos hr.glob (hi.ns O.g O.gt) (hr.code.trans hcode) CHs hP ht (fun q => O.gt (q ▸ tm)) hb fun cv ctv h' tk ps' hx hsz hP' hcv => ?_
  have low : n.table < C.h1.objs.size := hi.tabLt n hn
  generalize hF : ({ cls := .type "function", data := .func (mkFd name qual params body scope cap ((C.mg "__name__").getD .none) cv ctv) } : Obj) = fo
  have hsn : s.heap.get? h'.objs.size = none := get?_ge hsz
  have lo : C.h1.objs.size ≤ h'.objs.size := Nat.le_trans hi.size hsz
  have ne : ∀ b o, s.heap.get? b = some o → b ≠ h'.objs.size := fun b o e q => by rw [q, hsn] at e; cases e
  have kk : ∀ b o, b ≠ n.table → s.heap.get? b = some o → (h'.push fo).get? b = some o := fun b o hb e => Heap.get?_push_of_some _ (hx b o hb e)
  let p : PObj := .func ⟨name, qual, params, body, scope⟩ cap none
  have E : Ext C σ s.heap (upd σ h'.objs.size (some p)) (h'.push fo) := ⟨fun b o e _ hb => kk b o (fun q => hb (q ▸ tm)) e, fun b o e hb _ => by rw [upd_ne σ _ (ne b o e)]; exact hb, fun c v e => ⟨v, by
    rw [upd_ne σ _ (fun q => by rw [q, hi.off hsn] at e; cases e)]; exact e⟩⟩
  have codeOk : CodeOk C (upd σ h'.objs.size (some p)) (h'.push fo) cv qual := by
    rcases hcv with ⟨_, hf⟩ | ⟨_, c', rfl, hge, _, hrec⟩
    · exact (hdefs _ hdef cv hf).mono E
    · refine ⟨hrec.push _, fun c e => ?_⟩
      cases e
      refine Classical.byContradiction fun hbc => ?_
      obtain ⟨c, o, vs, t, e, g, _⟩ := hrec
      refine hbc ?_
      clear hbc
      cases e
      have nc : c' ≠ h'.objs.size := fun q => by have := Heap.lt_size g; rw [q] at this; exact Nat.lt_irrefl _ this
      exact ⟨by rw [upd_ne σ _ nc]; exact hi.off (get?_ge hge), hi.notTab (Nat.le_trans hi.size hge)⟩
  refine hq h'.objs.size { s with heap := h'.push fo, toks := tk } (hi.off hsn) ⟨fun a o e hta => kk a o (fun q => hta (q ▸ tm)) (hi.base a o e hta), hi.top, fun a q e => ?_, hi.tabLt, fun m hm => ?_, hi.gens, hi.os⟩ E
  · by_cases ha : a = h'.objs.size
    · subst ha
      (first | obtain rfl := Option.some.inj (upd_self.symm.trans e) | exact absurd (upd_self.symm.trans e) (Option.some_ne_none _) | exact absurd (upd_self.symm.trans e).symm (Option.some_ne_none _) | exact (datN (upd_self.symm.trans e) rfl).elim | (rw [upd_self] at e; cases e))
      exact ⟨lo, fo, _, Heap.get?_push_size _ (by rw [← hF]; rfl), by rw [← hF], by rw [← hF], by rw [← hF], rfl, rfl, rfl, rfl, rfl, rfl, rfl, rfl, rfl, rfl, codeOk⟩
    · rw [upd_ne σ _ ha] at e
      exact ⟨(hi.own a q e).1, (hi.own a q e).2.mono E (fun o g => kk a o (fun z => absurd low (Nat.not_lt.mpr (z ▸ (hi.own a q e).1))) g)⟩
  · by_cases hmn : m.table = n.table
    · have := O.inj m hm n hn hmn
      subst this
      refine ⟨ps', Heap.get?_push_of_some _ hP', ?_, fun dd hdd cv' hc' => ?_⟩
      · rcases hcv with ⟨rfl, _⟩ | ⟨_, c', _, _, rfl, _⟩
        · exact ht
        · simpa using TriplesOk_snoc pos.line pos.col (.ref c') ps.toList ht
      · rcases hcv with ⟨rfl, _⟩ | ⟨hnone, c', rfl, _, rfl, _⟩
        · exact (hdefs dd hdd cv' hc').mono E
        · have e0 : (ps ++ #[rawInt (pos.line : Int), rawInt (pos.col : Int), Value.ref c']).toList = ps.toList ++ [.int pos.line 0, .int pos.col 0, .ref c'] := by simp [rawInt]
          rw [e0, codeAmong_app ps.toList ht] at hc'
          cases hq' : codeAmong dd.1 ps.toList with
          | some w =>
            rw [hq'] at hc'
            have : w = cv' := by simpa using hc'
            subst this
            exact (hdefs dd hdd w hq').mono E
          | none =>
            rw [hq'] at hc'
            simp only [Option.none_or] at hc'
            split at hc'
            · rename_i hcc
              cases hc'
              simp only [Bool.and_eq_true, beq_iff_eq] at hcc
              have := O.apart m hm (pos, qual) hdef dd hdd (by have := hcc.1; exact_mod_cast this) (by have := hcc.2; exact_mod_cast this)
              rw [← this]; exact codeOk
            · cases hc'
    · refine Classical.byContradiction fun hbc => ?_
      obtain ⟨qs, g, t, f⟩ := hi.tabs m hm
      refine hbc ?_
      clear hbc
      exact ⟨qs, kk _ _ hmn g, t, fun dd hdd cv' hc' => (f dd hdd cv' hc').mono E⟩
theorem ev_lambda (O : C.Ok3) {n : Nest} (hn : n ∈ C.nest) {params : Arguments} {body : Expr} {scope : Scope} {cap : List (Str × Addr)} {pos : Pos} {Q : V → Store → Prop} (hdef : (pos, K.qual ++ "<lambda>") ∈ n.defs) (hcode : K.code = .ref n.code)
    (hcap : CapL ρ scope.names [] cap) (h0 : params.defaults = []) (h1 : params.kw_defaults = [])
    (h : ∀ a, σ a = none → Q (.loc a) (upd σ a (some (.func ⟨"<lambda>", K.qual ++ "<lambda>", params, .expr body, scope⟩ cap none)))) : EvP C K ρ σ (.Lambda params body scope pos) Q X := fun A env s ha hr hi QM hq => by
  rw [arm_eval_Lambda, defaultsOf_eq, h0, h1]
  show wpAny _ _ (do let dv ← evalAll []; let kdv ← holding dv (evalAllOpt []); makeFunction "<lambda>" (env.qual ++ "<lambda>") params (.expr body) scope env dv kdv [] pos pos.line) _ _ _
  refine wpAny_bind (wpAny_evalAll_nil (wpAny_bind (wpAny_holding (wpAny_pure ?_))))
  rw [makeFunction_eq]
  simp only [List.zip_nil_right, List.filterMap_nil, List.isEmpty_nil, if_true, pure_bind]
  rw [hr.qual]
  exact mk_fn O hn (fun b e => by cases e) hdef hcode hcap hr hi fun a s' hs i' e' => hq _ _ _ s' (h a hs) i' e' (.loc a)
/-- a def within a frame, whose name has a shared cell -/
theorem st_def (O : C.Ok3) {n : Nest} (hn : n ∈ C.nest) {name : Str} {params : Arguments} {body : List Stmt} {scope : Scope} {cap : List (Str × Addr)} {pos : Pos} {c : Addr} {Q : Fl → Fm → Store → Prop} (hdef : (pos, K.qual ++ name) ∈ n.defs) (hcode : K.code = .ref n.code)
    (hcap : CapL ρ scope.names [] cap) (hdoc : docOf body = none) (h0 : params.defaults = []) (h1 : params.kw_defaults = []) (h2 : params.kwonlyargs = []) (hann : ∀ env, annTrees params none env = [])
    (hx : (name, Slot.sh c) ∈ ρ) (hk : K.names.lookup name = some .cell) {ov : Option V} (hc : σ c = some (.cell ov))
    (h : ∀ a, σ a = none → Q .next ρ (upd (upd σ a (some (.func ⟨name, K.qual ++ name, params, .stmts body, scope⟩ cap none))) c (some (.cell (some (.loc a)))))) : StP C K ρ σ (.FunctionDef name params body [] none [] scope none name pos) Q X := fun A env s ha hr hi QM hq => by
  have hqn : qualnameIn env name name = K.qual ++ name := by
    unfold qualnameIn
    have : env.kindOf name = some .cell := (congrArg (·.lookup name) hr.names).trans hk
    rw [this, hr.qual]; rfl
  rw [exec_def, defaultsOf_eq, h0, h1, hann env, hqn]
  refine wpAny_bind (wpAny_standAt (wpAny_bind (wpAny_holding ?_)))
  refine wpAny_bind (wpAny_evalAll_nil (wpAny_bind (wpAny_holding (wpAny_pure ?_))))
  refine wpAny_holding ?_
  show wpAny _ _ (do let ann ← evalNamed []; makeFunction name (K.qual ++ name) params (.stmts body) scope env [] [] ann pos pos.line) _ _ _
  refine wpAny_bind (wpAny_pure ?_)
  rw [makeFunction_eq, h2]
  simp only [List.zip_nil_right, List.filterMap_nil, List.isEmpty_nil, if_true, pure_bind]
  refine mk_fn O hn (fun b e => by cases e; exact hdoc) hdef hcode hcap hr hi fun a s' hs i' e' => ?_
  have nca : c ≠ a := fun q => by rw [q, hs] at hc; cases hc
  refine wpAny_bind (wpAny_standAt (wpAny_bind (wpAny_bindName (store_shared hx hk ((upd_ne σ _ nca).trans hc) (hr.mono e') i' (.loc a) fun s'' i'' e'' => wpAny_pure ?_))))
  exact hq .next .next ρ _ s'' (h a hs) trivial (hr.mono (e'.trans e'')) i'' (e'.trans e'').toF
end
end Mine
end
section
open PySem PySem.W PyProof.Rows PySem.Calls
namespace Mine
/-- a function of the base heap -/
structure FnB (C : Ctx) (f : Addr) (R : FnRec) (code : Value) : Prop where
  nt : f ∉ C.tabs
  is : FnIs C.h1 f R [] code
  ct : ∀ c, code = .ref c → c ∉ C.tabs
section
variable {C : Ctx} {K : Kx} {ρ : Fm} {σ : Store} {X : Value → Shared → Prop} {d : Nat} {Q : V → Store → Prop}
theorem FnB.at {f : Addr} {R : FnRec} {code : Value} (x : FnB C f R code) {s : Shared} (i : Inv C σ s) : FnIs s.heap f R [] code := by
  refine Classical.byContradiction fun hbc => ?_
  obtain ⟨nt, ⟨⟨o, fd, e, r⟩, c, oc, vs, t, ec, g, q⟩, ct⟩ := x
  refine hbc ?_
  clear hbc
  exact ⟨⟨o, fd, i.base _ _ e nt, r⟩, c, oc, vs, t, ec, i.base _ _ g (ct c ec), q⟩
theorem FnB.keep {f : Addr} {R : FnRec} {code : Value} (x : FnB C f R code) : KeepOk C σ (.raw (.ref f)) := by
  refine Classical.byContradiction fun hbc => ?_
  obtain ⟨nt, ⟨⟨o, fd, e, hd, _⟩, _⟩, _⟩ := x
  refine hbc ?_
  clear hbc
  exact keep_fn e nt hd
theorem cv_fn (O : C.Ok2) {f : Addr} {R : FnRec} {code : Value} {body : List Stmt} {names : List Str} {args : List V} (hf : FnB C f R code) (hb : R.body = .stmts body) (hbind : Binds R names) (hnd : names.Nodup) (hlen : args.length = names.length)
    (hloc : ∀ x ∈ names, R.scope.names.lookup x = some .local) (hcell : ∀ x ∈ R.scope.names, x.2 ≠ .cell) (hk : R.scope.kind = .function) (hco : R.scope.isCoroutine = false) (hgen : R.scope.isGenerator = false)
    (h : ExP C (KxOf R code d) (pslots names args) σ body (RetQ Q) Bot) : CallV C (d + 1) (.raw (.ref f)) args σ Q X := fun A s v vs ha hi hv hr QM hq => by
  (first | obtain ⟨_, rfl⟩ := Rel.inv hv | obtain rfl := Rel.inv hv | cases hv)
  exact wpAny_call (call_plain O (caps := []) (cap := []) hb hbind hnd hlen hloc hcell (fun x c e => by simp at e) (fun x y c e => by simp at e) (fun p hp => by cases hp) hk hco hgen (by simpa using h) ha hi hr (hf.at hi) hq)
theorem cv_fnC (O : C.Ok2) {f : Addr} {R : FnRec} {code : Value} {body : List Stmt} {names emps : List Str} {args : List V} (hf : FnB C f R code) (hb : R.body = .stmts body) (hbind : Binds R names) (hnd : names.Nodup) (hlen : args.length = names.length)
    (hloc : ∀ x ∈ names, R.scope.names.lookup x = some .local ∨ (R.scope.names.lookup x = some .cell ∧ ∀ n, ((cellsFrom n R.scope.names []).lookup x).isSome = true))
    (hemp : ∀ x ∈ emps, x ∉ names ∧ R.scope.names.lookup x = some .cell ∧ ∀ n, ((cellsFrom n R.scope.names []).lookup x).isSome = true)
    (hk : R.scope.kind = .function) (hco : R.scope.isCoroutine = false) (hgen : R.scope.isGenerator = false)
    (h : ExP C (KxOf R code d) (pslots names args ++ emps.map fun x => (x, .emp)) σ body (RetQ Q) Bot) : CallV C (d + 1) (.raw (.ref f)) args σ Q X := fun A s v vs ha hi hv hr QM hq => by
  (first | obtain ⟨_, rfl⟩ := Rel.inv hv | obtain rfl := Rel.inv hv | cases hv)
  exact wpAny_call (call_cells O hb hbind hnd hlen hloc hemp hk hco hgen h ha hi hr (hf.at hi) hq)
theorem func_is {s : Shared} (i : Inv C σ s) {a : Addr} {R : FnRec} {cap : List (Str × Addr)} {dd : Option Addr} (h : σ a = some (.func R cap dd)) : ∃ code, FnIs s.heap a R cap code := by
  refine Classical.byContradiction fun hbc => ?_
  obtain ⟨o, fd, e, c, dct, hd, f1, f2, f3, f4, f5, f6, f7, f8, f9, f10, f11, f12⟩ := (i.own a _ h).2
  refine hbc ?_
  clear hbc
  exact ⟨fd.code, ⟨o, fd, e, hd, f3, f4, f5, f6, f7, f8, f9, f10, f2, rfl⟩, f11⟩
theorem cv_loc (O : C.Ok2) {a : Addr} {R : FnRec} {cap : List (Str × Addr)} {dd : Option Addr} {body : List Stmt} {names : List Str} {args : List V} {caps : Fm} (hf : σ a = some (.func R cap dd)) (hb : R.body = .stmts body) (hbind : Binds R names) (hnd : names.Nodup)
    (hlen : args.length = names.length) (hloc : ∀ x ∈ names, R.scope.names.lookup x = some .local) (hcell : ∀ x ∈ R.scope.names, x.2 ≠ .cell) (hcap : ∀ x c, cap.lookup x = some c → ∃ o, σ c = some (.cell o))
    (hinj : ∀ x y c, cap.lookup x = some c → cap.lookup y = some c → x = y) (hcaps : ∀ p ∈ caps, ∃ c, p.2 = .sh c ∧ cap.lookup p.1 = some c ∧ R.scope.names.lookup p.1 = some .free)
    (hk : R.scope.kind = .function) (hco : R.scope.isCoroutine = false) (hgen : R.scope.isGenerator = false)
    (h : ∀ code, ExP C (KxOf R code d) (pslots names args ++ caps) σ body (RetQ Q) Bot) : CallV C (d + 1) (.loc a) args σ Q X := fun A s v vs ha hi hv hr QM hq => by
  (first | obtain ⟨_, rfl⟩ := Rel.inv hv | obtain rfl := Rel.inv hv | cases hv)
  obtain ⟨code, hfi⟩ := func_is hi hf
  exact wpAny_call (call_plain O hb hbind hnd hlen hloc hcell hcap hinj hcaps hk hco hgen (h code) ha hi hr hfi hq)
/-- a call of a lambda -/
theorem cv_lam (O : C.Ok2) {a : Addr} {R : FnRec} {cap : List (Str × Addr)} {dd : Option Addr} {body : Expr} {names : List Str} {args : List V} {caps : Fm} (hfn : σ a = some (.func R cap dd)) (hb : R.body = .expr body) (hbind : Binds R names) (hnd : names.Nodup)
    (hlen : args.length = names.length) (hloc : ∀ x ∈ names, R.scope.names.lookup x = some .local) (hcell : ∀ x ∈ R.scope.names, x.2 ≠ .cell) (hcap : ∀ x c, cap.lookup x = some c → ∃ o, σ c = some (.cell o))
    (hinj : ∀ x y c, cap.lookup x = some c → cap.lookup y = some c → x = y) (hcaps : ∀ p ∈ caps, ∃ c, p.2 = .sh c ∧ cap.lookup p.1 = some c ∧ R.scope.names.lookup p.1 = some .free)
    (hk : R.scope.kind = .function) (hco : R.scope.isCoroutine = false) (hgen : R.scope.isGenerator = false)
    (h : ∀ code, EvP C (KxOf R code d) (pslots names args ++ caps) σ body Q Bot) : CallV C (d + 1) (.loc a) args σ Q X := fun A s v vs ha hi hv hr QM hq => by
  (first | obtain ⟨_, rfl⟩ := Rel.inv hv | obtain rfl := Rel.inv hv | cases hv)
  refine Classical.byContradiction fun hbc => ?_
  obtain ⟨code, hf⟩ := func_is hi hfn
  obtain ⟨o, fd, ho, hd, f1, f2, f3, f4, f5, f6, f7, f8, f9, f10⟩ := hf.get
  refine hbc ?_
  clear hbc
  have hvs : vs.length = names.length := hr.length.trans hlen
  have hdep : A.depth < recursionLimit := by
    have := ha.2.1
    show A.depth < 1000
    omega
  refine wpAny_call (kla_callFunE (fd := fd) (body := body) hdep ho hd (by rw [f3]; exact hco) (by rw [f3]; exact hgen) (f2.trans hb) (by rw [f10, f9]; exact hf.cr) ?_)
  rw [hbind fd f1 f6 f7 vs hvs]
  refine wpAny_pure (wpAny_newFunctionEnv (by rw [f3]; exact hcell) (fun x hx => by rw [f3]; exact hloc _ (List.of_mem_zip hx).1) (fun h₀ hns hsb => ⟨(hi.nolimit O).fresh _ hsb, kla_codeExpr ?_⟩) (by rw [f3]; exact hk))
  have LN : s.heap.get? s.heap.objs.size = none := get?_ge (Nat.le_refl _)
  have hk₀ : ∀ b o, s.heap.get? b = some o → h₀.get? b = some o := fun b o e => hsb.extBut b o (fun q => by rw [q, LN] at e; cases e) (Heap.get?_push_of_some _ e)
  have g₀ : ∀ b o, s.heap.get? b = some o → (({ s with heap := h₀, toks := s.toks + (names.zip vs).length } : Shared)).heap.get? b = some o := hk₀
  have i₀ : Inv C σ { s with heap := h₀, toks := s.toks + (names.zip vs).length } := hi.grow g₀ rfl rfl
  have rep : Rep C (KxOf R code d) (callEnv fd s.heap.objs.size a) (pslots names args ++ caps) σ h₀ := by
    refine ⟨by show fd.scope.kind = _; rw [f3]; exact hk, by show fd.scope.names = _; rw [f3]; rfl, f4, f8, by show fd.qualname ++ _ = _; rw [f9]; rfl, f10, ⟨_, hns⟩, ⟨hi.off LN, hi.notTab hi.size, hi.size⟩, fun x c hc => ?_, fun x y c hx hy => ?_, fun p hp => ?_⟩
    · rw [show (callEnv fd s.heap.objs.size a).cells = fd.closure from rfl, f5] at hc
      obtain ⟨oc, hoc⟩ := hcap x c hc
      have lo := (hi.own c _ hoc).1
      refine ⟨fun q => ?_, lo, hi.notTab lo, fun q => (by (first | obtain rfl := Option.some.inj (hoc.symm.trans q) | exact absurd (hoc.symm.trans q) (Option.some_ne_none _) | exact absurd (hoc.symm.trans q).symm (Option.some_ne_none _) | exact (datN (hoc.symm.trans q) rfl).elim | (rw [hoc] at q; cases q))), fun o' q => (by (first | obtain rfl := Option.some.inj (hoc.symm.trans q) | exact absurd (hoc.symm.trans q) (Option.some_ne_none _) | exact absurd (hoc.symm.trans q).symm (Option.some_ne_none _) | exact (datN (hoc.symm.trans q) rfl).elim | (rw [hoc] at q; cases q)); exact ⟨oc, rfl⟩)⟩
      rw [show (callEnv fd s.heap.objs.size a).locals = s.heap.objs.size from rfl] at q
      rw [← q, hi.off LN] at hoc; cases hoc
    · rw [show (callEnv fd s.heap.objs.size a).cells = fd.closure from rfl, f5] at hx hy
      exact hinj x y c hx hy
    · rcases List.mem_append.mp hp with hp | hp
      · refine Classical.byContradiction fun hbc => ?_
        obtain ⟨b, e, m⟩ := mem_pslots hp
        refine hbc ?_
        clear hbc
        rw [e] at hp ⊢
        refine Classical.byContradiction fun hbc => ?_
        obtain ⟨v, hv, rv⟩ := zip_reverse_lookup hnd hr hp
        refine hbc ?_
        clear hbc
        exact .inl ⟨hloc _ m, _, v, hns, hv, rv.mono (Ext.grow hk₀).seq⟩
      · refine Classical.byContradiction fun hbc => ?_
        obtain ⟨c, e1, e2, e3⟩ := hcaps p hp
        refine hbc ?_
        clear hbc
        rw [show p = (p.1, Slot.sh c) from by rw [← e1]]
        exact ⟨.inr e3, by show fd.closure.lookup _ = _; rw [f5]; exact e2, hcap _ _ e2⟩
  exact wpAny_mono (h code (A.deeper (callEnv fd s.heap.objs.size a)) (callEnv fd s.heap.objs.size a) _ ha.call rep i₀ (fun v s' => ∃ pv σ', Q pv σ' ∧ Inv C σ' s' ∧ Ext C σ s.heap σ' s'.heap ∧ Rel C σ' s'.heap v pv)
    fun v pv σ' s' q i' e' r' => ⟨pv, σ', q, i', (Ext.grow hk₀).trans e', r'⟩) (fun v s' x => by obtain ⟨pv, σ', q, i', E, rv⟩ := x; exact hq _ pv σ' s' q i' E rv) fun _ _ x => x.elim
end
end Mine
end
section
open PySem PySem.W PyProof.Rows PySem.Calls PySem.Spec PySem.SeqAt
namespace Mine
section
variable {C : Ctx} {K : Kx} {ρ : Fm} {σ : Store} {X : Value → Shared → Prop} {d : Nat} {Q : V → Store → Prop}
/-! in and not in -/
theorem cmp_notIn {a b : V} {da : PyData} {ds : List PyData} (ha : Dat σ a da) (hb : Dat σ b (.list ds)) (sa : shaped da = true) (sb : shaped (.list ds) = true) (hm : ∀ y ∈ ds, noMix y da = true) (q : Q (.bool (!decide (countIn da ds ≠ 0))) σ) : M2 C d (compareOp .NotIn) a b σ Q X := fun A s x y hA hi hx hy QM hq => by
  refine Classical.byContradiction fun hbc => ?_
  obtain ⟨as, ra⟩ := ha.reads hi hx
  obtain ⟨bs, rb⟩ := hb.reads hi hy
  refine hbc ?_
  clear hbc
  exact notIn_list_dataH rb ra sb sa hA.units hm (hq _ _ _ _ q hi .refl (.bool _))
theorem cmp_inS {x y : List Nat} (q : Q (.bool (Txt.contains ⟨y.toArray⟩ ⟨x.toArray⟩)) σ) : M2 C d (compareOp .In) (.str x) (.str y) σ Q X := fun A s a b hA hi hx hy QM hq => by
  (first | obtain ⟨_, rfl⟩ := Rel.inv hx | obtain rfl := Rel.inv hx | cases hx); (first | obtain ⟨_, rfl⟩ := Rel.inv hy | obtain rfl := Rel.inv hy | cases hy)
  exact P.in_str (hq _ _ _ _ q hi .refl (.bool _))
/-! rows added, rows repeated -/
theorem bin_cat {a b : V} {xs ys : List V} (ha : LV σ a xs) (hb : LV σ b ys) (hl : xs.length + ys.length ≤ 2 ^ 24) (q : Q (.lst (xs ++ ys)) σ) : M2 C d (binaryOp .Add) a b σ Q X := fun A s x y hA hi hx hy QM hq => by
  refine Classical.byContradiction fun hbc => ?_
  obtain ⟨p, i1, n1, rfl, h1, r1⟩ := ha.at hi hx
  obtain ⟨p', i2, n2, rfl, h2, r2⟩ := hb.at hi hy
  refine hbc ?_
  clear hbc
  have g : ∀ o b o', s.heap.get? b = some o' → (s.heap.push o).get? b = some o' := fun o b o' e => Heap.get?_push_of_some _ e
  have e1 : i1.size = xs.length := by rw [← r1.length]; simp
  have e2 : i2.size = ys.length := by rw [← r2.length]; simp
  refine P.add_list h1 h2 (hq _ _ _ _ q (hi.grow (s' := { s with heap := _ }) (g _) rfl rfl) (Ext.grow (g _)) (new_lst (items := i1.toList ++ i2.toList) (n := 0) hi (r1.append r2) (get?_ge (Nat.le_refl _)) hi.size (g _) ?_)) (by rw [e1, e2]; exact hl)
  have : (i1.toList ++ i2.toList).toArray = i1 ++ i2 := by simp
  rw [this]; exact Heap.get?_push_size _ rfl
theorem rels_rep {h : Heap} {items : List Value} {vs : List V} (r : Rels C σ h items vs) : ∀ n : Nat, Rels C σ h (List.replicate n items).flatten (List.replicate n vs).flatten
  | 0 => .nil
  | n + 1 => by rw [List.replicate_succ, List.replicate_succ, List.flatten_cons, List.flatten_cons]; exact r.append (rels_rep r n)
theorem foldl_appV (l : List (Array Value)) : ∀ a : Array Value, (l.foldl (fun x1 x2 => x1 ++ x2) a).toList = a.toList ++ (l.map Array.toList).flatten := by
  induction l with
  | nil => intro a; simp
  | cons x l ih => intro a; simp [ih]
/-- a row times a number: what is made, in a new place -/
theorem mul_row {a : V} {xs : List V} {n : Nat} (ha : LV σ a xs) (hl : n * xs.length ≤ 2 ^ 24) (hn : n ≤ 2 ^ 24) {A : Around} {s : Shared} {x y : Value} (hi : Inv C σ s) (hx : Rel C σ s.heap x a) (hy : Rel C σ s.heap y (.int n)) {QM : Value → Shared → Prop}
    (hq : ∀ items : Array Value, Rels C σ s.heap items.toList (List.replicate n xs).flatten → QM (.ref s.heap.objs.size) { s with heap := s.heap.push { cls := .type "list", data := .seq items } }) : wpAny (model C.prog C.w) A (binaryOp .Mult x y) QM X s := by
  refine Classical.byContradiction fun hbc => ?_
  obtain ⟨p, it, k, rfl, h1, r1⟩ := ha.at hi hx
  refine hbc ?_
  clear hbc
  (first | obtain ⟨_, rfl⟩ := Rel.inv hy | obtain rfl := Rel.inv hy | cases hy)
  rename_i u
  have e1 : it.size = xs.length := by rw [← r1.length]; simp
  have hsz : it.size * (n : Int).toNat ≤ 2 ^ 24 := by rw [e1, Nat.mul_comm]; simpa using hl
  have q1 : (n : Int).toNat = n := by simp
  have q2 : it.size * (n : Int).toNat ≤ 16777216 := hsz
  generalize hz : (n : Int) = z at *
  have b1 : -(9223372036854775808 : Int) ≤ z := by lia
  have b2 : z < 9223372036854775808 := by lia
  have key := AutoListH.list___mul___list_int_3 p it k z u (by simp [Builtin.List.listFitsIndex]; lia) (by lia) (by simp [Builtin.List.listTooLong, sizeLine]; lia)
  refine wpAny_binaryOp_repeat_ref (T := "list") (U := "int") (by decide) ⟨_, h1, rfl⟩ (fun s' => typeIs_int s' z u) noFill_list_mul F.fills_int_mul F.slot_int_rmul repeat_list F.slot_int_index.lookup
    (call_meets F.slot_int_rmul (typeIs_int s z u) F.entry_int_rmul (F.args_int_rmul_2 _ _) (int___rmul___int_list z u p it k)
      ⟨h1, rfl, ⟨_, h1, rfl⟩, call_meets F.slot_list_mul ⟨_, h1, rfl⟩ F.entry_list_mul (F.args_list_mul_2 _ _)
        key ⟨h1, ?_⟩⟩)
  refine hq _ ?_
  rw [foldl_appV]
  have : ((List.replicate (if it.isEmpty = true then 0 else z.toNat) it).map Array.toList).flatten = (List.replicate n it.toList).flatten := by
    by_cases he : it.isEmpty = true
    · have h0 : it = #[] := by simpa using he
      subst h0
      simp
    · rw [if_neg he, q1]; simp
  rw [this]
  simpa using rels_rep r1 n
theorem bin_mulO {a : V} {xs : List V} {n : Nat} (ha : LV σ a xs) (hl : n * xs.length ≤ 2 ^ 24) (hn : n ≤ 2 ^ 24) (q : ∀ p, σ p = none → Q (.loc p) (upd σ p (some (.list (List.replicate n xs).flatten)))) : M2 C d (binaryOp .Mult) a (.int n) σ Q X := fun A s x y hA hi hx hy QM hq => by
  have g : ∀ o b o', s.heap.get? b = some o' → (s.heap.push o).get? b = some o' := fun o b o' e => Heap.get?_push_of_some _ e
  refine mul_row ha hl hn hi hx hy fun items r => ?_
  have hne := get?_ge (Nat.le_refl s.heap.objs.size)
  have := hi.new (s' := { s with heap := s.heap.push (lstO items 0) }) (p := .list (List.replicate n xs).flatten) hne hi.size (g _) ⟨items, 0, Heap.get?_push_size _ rfl, r.mono ⟨fun b o e _ _ _ => g _ b o e, fun b o e _ hb _ => by
    rw [upd_ne σ _ (fun z => by rw [z, hne] at e; cases e)]; exact hb⟩⟩ rfl rfl
  exact hq _ _ _ _ (q _ (hi.off hne)) this.1 this.2 (.loc _)
/-! in place -/
open Builtin in
inductive Ibin : Operator → V → V → V → Prop where
  | add (a b : Int) : Ibin .Add (.int a) (.int b) (.int (a + b))
  | sub (a b : Int) : Ibin .Sub (.int a) (.int b) (.int (a - b))
  | shl (a n : Int) (hn : 0 ≤ n) (h : (Builtin.Int.intBits a : Int) + n ≤ 2 ^ 27) : Ibin .LShift (.int a) (.int n) (.int (a * 2 ^ n.toNat))
  | shr (a n : Int) (hn : 0 ≤ n) : Ibin .RShift (.int a) (.int n) (.int (a.fdiv (2 ^ n.toNat)))
  | cat (x y : List Nat) (h : x.length + y.length ≤ 2 ^ 24) : Ibin .Add (.str x) (.str y) (.str (x ++ y))
theorem ibin_ {op : Operator} {a b v : V} (h : Ibin op a b v) (q : Q v σ) : M2 C d (inplaceOp op) a b σ Q X :=
  (Ibin.casesOn (motive := fun op a b v _ => Q v σ → M2 C d (inplaceOp op) a b σ Q X) h
    (fun a b q => m2_ii q fun h => P.iadd_int (h _ _))
    (fun a b q => m2_ii q fun h => P.isub_int (h _ _))
    (fun a n hn h' q => m2_ii q fun h => ilshift_int hn h' (h _ _))
    (fun a n hn q => m2_ii q fun h => irshift_int hn (h _ _))
    (fun x y h' q => m2_ss q fun h => iadd_str h (by show x.toArray.size + y.toArray.size ≤ 2 ^ 24; simpa using h'))) q
/-! targets -/
theorem setItem_own {s : Shared} {A : Around} {a : Addr} {vs : List V} {k : Int} {t : Tok} {v : Value} {pv : V} (hi : Inv C σ s) (hs : σ a = some (.list vs)) (h0 : 0 ≤ k) (hk : k.toNat < vs.length) (hl : vs.length < 2 ^ 25) (hv : Rel C σ s.heap v pv) {QM : Unit → Shared → Prop}
    (hq : ∀ s', Inv C (upd σ a (some (.list (vs.set k.toNat pv)))) s' → Ext C σ s.heap (upd σ a (some (.list (vs.set k.toNat pv)))) s'.heap → QM () s') : wpAny (model C.prog C.w) A (setItem (.ref a) (.int k t) v) QM X s := by
  refine Classical.byContradiction fun hbc => ?_
  obtain ⟨items, n, ho, hrs⟩ := (hi.own _ _ hs).2
  refine hbc ?_
  clear hbc
  have hl' : s.heap.IsList a items := ⟨_, ho, rfl, n, rfl⟩
  have hsz : items.size = vs.length := by rw [← hrs.length]; simp
  unfold setItem
  try with_reducible refine wpAny_holding ?_
  first | refine wpAny_bind (wpAny_pure ?_) | skip
  refine wpAny_bind (wpAny_sequenceKey hl'.typeIs (by decide) ?_)
  refine wpAny_bind (wpAny_callSpecial?_slot (name := Str.ofString "__setitem__") hl'.typeIs slot_list_setitem
    (wpAny_call_entry slot_list_setitem hl'.typeIs entry_list_setitem ?_ (args_list_setitem _ _ _)))
  show wpAny _ _ (Builtin.List.listSubscript? (.int k t) >>= _) _ _ s
  refine wpAny_bind (wpAny_listSubscript_int (fitsIndex_of h0 (by lia)) ?_)
  obtain ⟨j, rfl⟩ := Int.eq_ofNat_of_zero_le h0
  have hj : j < items.size := by rw [hsz]; simpa using hk
  have hx' : items[j]? = some items[j] := Array.getElem?_eq_getElem hj
  show wpAny _ _ ((seqItemAt a j >>= fun r => pure (r.map (j, ·))) >>= _) _ _ s
  refine wpAny_bind (wpAny_bind (wpAny_seqItemAt ho rfl (wpAny_pure ?_)))
  rw [hx']
  show wpAny _ _ (setSeqItemAt a j v >>= _) _ _ s
  have hu : IsL (s.heap.update a (Obj.mapSeq (·.setIfInBounds j v))) a _ _ := IsL.update ho _
  have hset : ∀ {l : List Value} {pl : List V} (j : Nat), Rels C σ s.heap l pl → Rels C σ s.heap (l.set j v) (pl.set j pv) := fun j r =>
    r.ind (P := fun l pl => ∀ j, Rels C σ s.heap (l.set j v) (pl.set j pv)) (fun _ => .nil) (fun _ _ _ _ h1 h2 ih j => j.casesOn (.cons hv h2) fun j => .cons h1 (ih j)) j
  obtain ⟨i', e'⟩ := set_list (tk := s.toks) hi hs (Heap.SameBut.update s.heap a _).extBut hu (vs' := vs.set (j : Int).toNat pv) (by
    have : (items.setIfInBounds j v).toList = items.toList.set j v := by simp
    rw [this]; exact hset j hrs)
  refine wpAny_bind (wpAny_setSeqItemAt ho rfl ?_)
  first
    | exact wpAny_bind (wpAny_pure (wpAny_pure ⟨.none, rfl, wpAny_pure (hq { s with heap := _ } i' e')⟩))
    | exact wpAny_pure ⟨.none, rfl, wpAny_pure (hq { s with heap := _ } i' e')⟩
theorem as_item {o i : Expr} {pos : Pos} {pv : V} {Q : Fm → Store → Prop}
    (h : EvP C K ρ σ o (fun ov σ₁ => EvP C K ρ σ₁ i (fun iv σ₂ => ∃ a vs k, ov = .loc a ∧ iv = .int k ∧ σ₂ a = some (.list vs) ∧ 0 ≤ k ∧ k.toNat < vs.length ∧ vs.length < 2 ^ 25 ∧ Q ρ (upd σ₂ a (some (.list (vs.set k.toNat pv))))) X) X) :
    AsP C K ρ σ (.Subscript o i pos) pv Q X := fun A env s v ha hr hi hv QM hq => by
  rw [arm_assign_Subscript]
  refine wpAny_bind (wpAny_holding (h A env s ha hr hi _ fun x ox σ₁ s₁ h₁ i₁ e₁ r₁ => wpAny_bind (wpAny_holding (h₁ A env s₁ ha (hr.mono e₁) i₁ _ fun y oy σ₂ s₂ h₂ i₂ e₂ r₂ => wpAny_bind (wpAny_standAt ?_)))))
  refine Classical.byContradiction fun hbc => ?_
  obtain ⟨a, vs, k, rfl, rfl, hs, h0, hk, hl, q⟩ := h₂
  refine hbc ?_
  clear hbc
  (first | obtain ⟨_, rfl⟩ := Rel.inv r₁ | obtain rfl := Rel.inv r₁ | cases r₁); cases r₂
  refine wpAny_bind (wpAny_holding (setItem_own i₂ hs h0 hk hl (hv.mono (e₁.trans e₂).seq) fun s₃ i₃ e₃ => ?_))
  have E := (e₁.trans e₂).trans e₃
  exact wpAny_release' (hq ρ _ s₃ q (hr.mono E) i₃ E.toF)
/-- an assignment to any one target -/
theorem st_assignT {t e : Expr} {pos : Pos} {Q : Fl → Fm → Store → Prop} (h : EvP C K ρ σ e (fun v σ₁ => AsP C K ρ σ₁ t v (fun ρ' σ' => Q .next ρ' σ') X) X)
    (he : ∀ env, (assignEach [t] env).map (·.2) = [assign t env] := by intro _; rfl)
    (hs : ∀ env, swapsWithSole [t] e pos.line env = pure false := by intro _; rfl) (hw : ∀ env : Env, env.scope.kind = .function → env.scope.names = K.names → swappedStores [t] e env = pure none := by intro _ _ _; rfl) : StP C K ρ σ (.Assign [t] e pos) Q X := fun A env s ha hr hi QM hq =>
  wpAny_Assign_stores (h A env s ha hr hi _ fun v pv σ₁ s₁ h₁ i₁ e₁ r₁ => by
    rw [he env]
    show wpAny _ A (assign t env v) _ _ s₁
    exact h₁ A env s₁ v ha (hr.mono e₁) i₁ r₁ _ fun ρ' σ' s' q hr' i' e' => hq .next .next ρ' σ' s' q trivial hr' i' (e₁.toF.trans e')) (hs env) (hw env hr.kind hr.names)
/-- names stored from the last to the first -/
noncomputable def SwapP (C : Ctx) (K : Kx) (Q : Fm → Prop) : Fm → List Str → List V → Prop
  | ρ, [], [] => Q ρ
  | ρ, x :: xs, v :: vs => Stores K ρ x ∧ ∃ ρ', Upd ρ x (.val v) ρ' ∧ SwapP C K Q ρ' xs vs
  | _, _, _ => False
theorem swap_order {A : Around} {env : Env} {Q : Fm → Prop} : ∀ {xs : List Str} {pl : List V} {vs : List Value} {ρ : Fm} {s : Shared}, SwapP C K Q ρ xs pl → Rep C K env ρ σ s.heap → Inv C σ s → Rels C σ s.heap vs pl →
    ∀ {QM : Unit → Shared → Prop}, (∀ ρ' s', Q ρ' → Rep C K env ρ' σ s'.heap → Inv C σ s' → ExtF C env σ s.heap σ s'.heap → QM () s') → wpAny (model C.prog C.w) A (assignInOrder (xs.map fun n => bindName env n) vs) QM X s := by
  intro xs
  induction xs with
  | nil =>
    intro pl vs ρ s h hr hi hrs QM hq
    cases pl with
    | nil =>
      obtain rfl := hrs.inv
      exact wpAny_assignInOrder_none (hq ρ s h hr hi .refl)
    | cons => exact h.elim
  | cons x xs ih =>
    intro pl vs ρ s h hr hi hrs QM hq
    cases pl with
    | nil => exact h.elim
    | cons p pl =>
      obtain ⟨v, vs, rfl, hv, hl⟩ := hrs.inv
      obtain ⟨hk, ρ', hu, h'⟩ := h
      exact wpAny_assignInOrder_more (wpAny_bindName (store_name hk hr hi hv hu fun s' hr' hi' e' => ih h' hr' hi' (hl.mono (e'.seq hr)) fun ρ'' s'' q hr'' hi'' e'' => hq ρ'' s'' q hr'' hi'' (e'.trans e'')))
theorem Rels.rev {h : Heap} {l : List Value} {pl : List V} (r : Rels C σ h l pl) : Rels C σ h l.reverse pl.reverse :=
  r.ind (P := fun l pl => Rels C σ h l.reverse pl.reverse) .nil fun v p l pl hv _ ih => by rw [List.reverse_cons, List.reverse_cons]; exact ih.append (.cons hv .nil)
theorem st_assign_swap {t e : Expr} {names : List Str} {pos : Pos} {Q : Fl → Fm → Store → Prop} (h : EvP C K ρ σ e (fun v σ₁ => ∃ vs, v = .tup vs ∧ vs.length = names.length ∧ SwapP C K (fun ρ' => Q .next ρ' σ₁) ρ names.reverse vs.reverse) X)
    (hw : ∀ env : Env, env.scope.kind = .function → env.scope.names = K.names → swappedStores [t] e env = pure (some names))
    (hs : ∀ env, swapsWithSole [t] e pos.line env = pure false := by intro _; rfl) : StP C K ρ σ (.Assign [t] e pos) Q X := fun A env s ha hr hi QM hq => by
  rw [exec_Assign_arm]
  refine wpAny_bind (wpAny_standAt ?_)
  rw [hs env]
  refine wpAny_bind (wpAny_pure ?_)
  rw [if_neg (by decide)]
  refine wpAny_bind (h A env s ha hr hi _ fun v pv σ₁ s₁ h₁ i₁ e₁ r₁ => ?_)
  refine Classical.byContradiction fun hbc => ?_
  obtain ⟨vs, rfl, hlen, sw⟩ := h₁
  refine hbc ?_
  clear hbc
  rw [hw env hr.kind hr.names]
  refine wpAny_bind (wpAny_pure ?_)
  cases r₁ with
  | tup ho hσ ht hrs =>
    rename_i a items n
    have hl : names.length = items.toArray.size := by rw [List.size_toArray, hrs.length, hlen]
    show wpAny (model C.prog C.w) A (do
        rule "assign.swapped-stores"
        let items ← unpackItems (.ref a) names.length none
        assignInOrder (names.reverse.map fun n => bindName env n) items.reverse
        (pure Flow.next : Sem Flow)) QM X s₁
    refine wpAny_bind (wpAny_rule (wpAny_bind ?_))
    rw [hl]
    refine wpAny_unpackItems_tuple ha.1 ⟨_, ho, rfl, n, rfl⟩ fun h' e => ?_
    have g : ∀ b o', s₁.heap.get? b = some o' → h'.get? b = some o' := fun b o' q => e b o' (fun q' => by subst q'; (first | obtain rfl := Option.some.inj (Heap.get?_size.symm.trans q) | exact absurd (Heap.get?_size.symm.trans q) (Option.some_ne_none _) | exact absurd (Heap.get?_size.symm.trans q).symm (Option.some_ne_none _) | exact (datN (Heap.get?_size.symm.trans q) rfl).elim | (rw [Heap.get?_size] at q; cases q))) q
    have E : Ext C σ₁ s₁.heap σ₁ h' := Ext.grow g
    refine wpAny_bind (swap_order (s := { s₁ with heap := h' }) sw ((hr.mono e₁).mono E) (i₁.grow (s' := { s₁ with heap := h' }) g rfl rfl) (by simpa using (hrs.mono E.seq).rev) fun ρ' s' q hr' hi' e' => wpAny_pure ?_)
    exact hq .next .next ρ' σ₁ s' q trivial hr' hi' ((e₁.trans E).toF.trans e')
end
end Mine
end
section
open PySem PySem.W PyProof.Rows PySem.Calls
namespace Mine
/-- a part of the base heap that classes are read from -/
structure FragOk (C : Ctx) (F : Frag) : Prop where
  inn : F.In C.h1
  nt : ∀ a o, F.lookup a = some o → a ∉ C.tabs
section
variable {C : Ctx} {K : Kx} {ρ : Fm} {σ : Store} {X : Value → Shared → Prop} {d : Nat} {Q : V → Store → Prop} {F : Frag}
theorem FragOk.at (x : FragOk C F) {s : Shared} (i : Inv C σ s) : F.In s.heap := fun a o e => i.base a o (x.inn a o e) (x.nt a o e)
theorem EntR.find {h : Heap} {es : List DictEntry} {at_ : List (Str × V)} (x : EntR C σ h es at_) (name : Str) : match at_.lookup name with
    | some pv => ∃ v, getL name es = some (some v) ∧ Rel C σ h v pv
    | none => getL name es = some none := by
  induction x with
  | nil => rfl
  | @cons y t hs v pv es at_ hv hl ih =>
    rw [List.lookup_cons]
    have key : (DictEntry.mk hs (.str y t) v).key.isStr name = (name == y) := by
      show (y == name) = (name == y)
      exact BEq.comm
    cases hy : name == y with
    | true =>
      simp only
      refine ⟨v, ?_, hv⟩
      unfold getL
      rw [List.find?_cons, key, hy]
    | false =>
      simp only
      have : getL name (⟨hs, .str y t, v⟩ :: es) = getL name es := by
        unfold getL
        rw [List.find?_cons, key, hy]
        simp only [List.any_cons]
        rfl
      rw [this]; exact ih
/-- an instance, as the library's rules want it -/
theorem inst_at {s : Shared} {x dx c : Addr} {at_ : List (Str × V)} (i : Inv C σ s) (hx : σ x = some (.inst c dx)) (hd : σ dx = some (.ns at_)) : ∃ es n, InstAt s.heap x (instObj c dx) c (some (dictOf es n)) ∧ EntR C σ s.heap es at_ := by
  refine Classical.byContradiction fun hbc => ?_
  obtain ⟨es, n, e, r⟩ := (i.own dx _ hd).2
  refine hbc ?_
  clear hbc
  exact ⟨es, n, ⟨(i.own x _ hx).2, rfl, rfl, e⟩, r⟩
/-- an attribute of one's own instance -/
theorem get_inst (O : FragOk C F) {x dx c : Addr} {at_ : List (Str × V)} {name : Str} {pv : V} {expr : Bool} (hx : σ x = some (.inst c dx)) (hd : σ dx = some (.ns at_)) (hl : at_.lookup name = some pv) (hg : plainGet F c name = true) (hh : hasDictIn F c = true)
    (ha : findIn F (.ref c) name = some none) (hv : ∀ v h, Rel C σ h v pv → handedIn v = true) (q : Q pv σ) : M1 C d (fun o => getAttr o name expr) (.loc x) σ Q X := fun A s o hA hi hr QM hq => by
  (first | obtain ⟨_, rfl⟩ := Rel.inv hr | obtain rfl := Rel.inv hr | cases hr)
  refine Classical.byContradiction fun hbc => ?_
  obtain ⟨es, n, I, r⟩ := inst_at hi hx hd
  refine hbc ?_
  clear hbc
  have fd := r.find name
  rw [hl] at fd
  refine Classical.byContradiction fun hbc => ?_
  obtain ⟨v, e, rv⟩ := fd
  refine hbc ?_
  clear hbc
  exact get_value (O.at hi) I (plainGet_of hg).1 (findObj_own (attr := none) hh ha rfl e) (hv v _ rv) (hq v pv σ { s with toks := s.toks + 1 } q hi.toks .refl rv)
theorem ev_attr {value : Expr} {attr : Str} {pos : Pos} (h : EvP C K ρ σ value (fun o σ₁ => M1 C K.d (fun o => getAttr o attr true) o σ₁ Q X) X) (hbase : ∀ env, attributeBase value attr env (eval value env) = eval value env := by intro _; rfl) :
    EvP C K ρ σ (.Attribute value attr pos) Q X := fun A env s ha hr hi QM hq => by
  show wpAny _ _ (do
    let o ← attributeBase value attr env (eval value env)
    standAt pos.atName
    let r ← holding [o] (getAttr o attr true)
    letTemporaryGo value o r
    pure r) _ _ _
  rw [hbase]
  exact wpAny_bind (h A env s ha hr hi _ fun o po σ₁ s₁ h₁ i₁ e₁ r₁ => wpAny_bind (wpAny_standAt (wpAny_bind (wpAny_holding (h₁ A s₁ o ha i₁ r₁ _ fun v pv σ₂ s₂ q i₂ e₂ r₂ =>
    wpAny_bind (wpAny_letTemporaryGo (wpAny_pure (hq v pv σ₂ s₂ q i₂ (e₁.trans e₂) r₂))))))))
/-- a method of the class, read from an instance: a new bound method, one's own -/
theorem get_method (O : FragOk C F) {x dx c f : Addr} {at_ : List (Str × V)} {name : Str} {expr : Bool} (hx : σ x = some (.inst c dx)) (hd : σ dx = some (.ns at_)) (hl : at_.lookup name = none) (hg : plainGet F c name = true) (hh : hasDictIn F c = true)
    (ha : findIn F (.ref c) name = some (some (.ref f))) (hf : typeIn F (.ref f) = some (.type "function")) (hfo : findObj F c none name = some (.bind (.builtin "function.__get__") (.ref f)))
    (q : ∀ a, σ a = none → Q (.loc a) (upd σ a (some (.bound (.ref f) (.loc x))))) : M1 C d (fun o => getAttr o name expr) (.loc x) σ Q X := fun A s o hA hi hr QM hq => by
  (first | obtain ⟨_, rfl⟩ := Rel.inv hr | obtain rfl := Rel.inv hr | cases hr)
  refine Classical.byContradiction fun hbc => ?_
  obtain ⟨es, n, I, r⟩ := inst_at hi hx hd
  refine hbc ?_
  clear hbc
  have fd := r.find name
  rw [hl] at fd
  have hfo' : findObj F c (some (dictOf es n)) name = some (.bind (.builtin "function.__get__") (.ref f)) := by
    refine Classical.byContradiction fun hbc => ?_
    obtain ⟨cd, hc, hd'⟩ := any_some hh
    refine hbc ?_
    clear hbc
    have o1 : W.ownOf cd (some (dictOf es n)) name = some none := by unfold W.ownOf; rw [if_pos hd']; exact fd
    have o2 : W.ownOf cd none name = some none := by unfold W.ownOf; rw [if_pos hd']
    unfold findObj at hfo ⊢
    rw [hc] at hfo ⊢
    simp only [Option.bind_some] at hfo ⊢
    rw [o1]; rw [o2] at hfo; exact hfo
  have hne := get?_ge (Nat.le_refl s.heap.objs.size)
  have g : ∀ b o', s.heap.get? b = some o' → (s.heap.push (methodObj (.ref f) (.ref x))).get? b = some o' := fun b o' e => Heap.get?_push_of_some _ e
  obtain ⟨i', e'⟩ := hi.new (s' := { s with heap := s.heap.push (methodObj (.ref f) (.ref x)), toks := s.toks + 1 }) (p := .bound (.ref f) (.loc x)) hne hi.size g ⟨.ref x, Heap.get?_push_size _ rfl, .loc x⟩ rfl rfl
  refine get_bind (O.at hi) I (plainGet_of hg).1 hfo' (plainGet_of hg).2 (wpAny_call (fn_get (s := { s with toks := s.toks + 1 }) (O.at (s := { s with toks := s.toks + 1 }) hi.toks) hf ?_))
  exact wpAny_pure (hq (.ref s.heap.objs.size) _ _ { s with heap := s.heap.push (methodObj (.ref f) (.ref x)), toks := s.toks + 1 } (q _ (hi.off hne)) i' e' (.loc _))
/-- a call, as a code -/
noncomputable def CodeV (C : Ctx) (d : Nat) (f : Value) (args : List V) (σ : Store) (Q : V → Store → Prop) (X : Value → Shared → Prop) : Prop :=
  ∀ (A : Around) (s : Shared) (vs : List Value), AOk d A → Inv C σ s → Rels C σ s.heap vs args → ∀ QM : Value → Shared → Prop,
    (∀ v pv σ' s', Q pv σ' → Inv C σ' s' → Ext C σ s.heap σ' s'.heap → Rel C σ' s'.heap v pv → QM v s') → codeAny (model C.prog C.w) A (.call f ⟨vs, []⟩) (Back QM X) s
theorem CodeV.call {f : Value} {args : List V} (h : CodeV C d f args σ Q X) : CallV C d (.raw f) args σ Q X := fun A s fv vs ha hi hf hr QM hq => by
  (first | obtain ⟨_, rfl⟩ := Rel.inv hf | obtain rfl := Rel.inv hf | cases hf); exact wpAny_call (h A s vs ha hi hr QM hq)
theorem code_fn (O : C.Ok2) {f : Addr} {R : FnRec} {code : Value} {body : List Stmt} {names : List Str} {args : List V} (hf : FnB C f R code) (hb : R.body = .stmts body) (hbind : Binds R names) (hnd : names.Nodup) (hlen : args.length = names.length)
    (hloc : ∀ x ∈ names, R.scope.names.lookup x = some .local) (hcell : ∀ x ∈ R.scope.names, x.2 ≠ .cell) (hk : R.scope.kind = .function) (hco : R.scope.isCoroutine = false) (hgen : R.scope.isGenerator = false)
    (h : ExP C (KxOf R code d) (pslots names args) σ body (RetQ Q) Bot) : CodeV C (d + 1) (.ref f) args σ Q X := fun A s vs ha hi hr QM hq =>
  call_plain O (caps := []) (cap := []) hb hbind hnd hlen hloc hcell (fun x c e => by simp at e) (fun x y c e => by simp at e) (fun p hp => by cases hp) hk hco hgen (by simpa using h) ha hi hr (hf.at hi) hq
/-- a call of a bound method -/
theorem cv_bound {a : Addr} {f : Value} {self : V} {args : List V} (hb : σ a = some (.bound f self)) (h : CodeV C d f (self :: args) σ Q X) : CallV C d (.loc a) args σ Q X := fun A s fv vs ha hi hf hr QM hq => by
  (first | obtain ⟨_, rfl⟩ := Rel.inv hf | obtain rfl := Rel.inv hf | cases hf)
  refine Classical.byContradiction fun hbc => ?_
  obtain ⟨v, e, rv⟩ := (hi.own a _ hb).2
  refine hbc ?_
  clear hbc
  exact wpAny_call (method_call e (h A s (v :: vs) ha hi (.cons rv hr) QM hq))
theorem keep_cls (O : FragOk C F) {c : Addr} (hk : keepIn F (.ref c) = true) : KeepOk C σ (.raw (.ref c)) := fun s f hi hr M A E Q h => by
  (first | obtain ⟨_, rfl⟩ := Rel.inv hr | obtain rfl := Rel.inv hr | cases hr)
  refine Classical.byContradiction fun hbc => ?_
  obtain ⟨k, _, L⟩ := looks_keep (M := M) hk (O.at hi)
  refine hbc ?_
  clear hbc
  exact L.here (h k)
theorem AOk.under {A : Around} {c : Addr} {vs : List Value} (h : AOk (d + 1) A) : AOk d (A.under (.builtin "type.__call__" ⟨.ref c :: vs, []⟩)) := by
  refine Classical.byContradiction fun hbc => ?_
  obtain ⟨h1, h2, h3⟩ := h
  refine hbc ?_
  clear hbc
  refine ⟨h1, ?_, ?_⟩
  · rw [depth_under_kw]; lia
  · have : (A.under (.builtin "type.__call__" ⟨.ref c :: vs, []⟩)).units ≤ A.units + 9 := by
      show A.units + (Code.builtin "type.__call__" ⟨.ref c :: vs, []⟩).cUnits ≤ _
      have : (Code.builtin "type.__call__" ⟨.ref c :: vs, []⟩).cUnits ≤ 9 := by
        simp only [Code.cUnits]
        have : (Code.builtin "type.__call__" ⟨.ref c :: vs, []⟩).frames ≤ 2 := by first | exact Nat.le_of_ble_eq_true rfl | (show (0 : Nat) ≤ 2; lia) | (show (1 : Nat) ≤ 2; lia)
        omega
      omega
    omega
/-- an instance is made -/
theorem cv_make (O : FragOk C F) {c fI : Addr} {args : List V} (hm : makesIn F c = true) (hi0 : findIn F (.ref c) "__init__" = some (some (.ref fI))) (hf : typeIn F (.ref fI) = some (.type "function"))
    (h : ∀ x dx, σ x = none → σ dx = none → x ≠ dx → CodeV C d (.ref fI) (.loc x :: args) (upd (upd σ dx (some (.ns []))) x (some (.inst c dx))) (fun v σ' => v = .none ∧ Q (.loc x) σ') X) : CallV C (d + 1) (.raw (.ref c)) args σ Q X := fun A s fv vs ha hi hfv hr QM hq => by
  cases hfv
  refine Classical.byContradiction fun hbc => ?_
  obtain ⟨hh, g, dr, t, os⟩ := s
  refine hbc ?_
  clear hbc
  refine wpAny_call (make_core (makes_of (O.at hi) hm) (looks_findIn (O.at hi) hi0) (fun self => bind_fn (O.at hi) self hf) (.inl rfl) ?_)
  have n1 : hh.get? hh.objs.size = none := get?_ge (Nat.le_refl _)
  have n2 : hh.get? (hh.objs.size + 1) = none := get?_ge (Nat.le_succ _)
  obtain ⟨i1, e1⟩ := hi.new (s' := ⟨hh.push emptyDict, g, dr, t, os⟩) (p := .ns []) n1 hi.size (fun b o e => Heap.get?_push_of_some _ e) ⟨[], 0, Heap.get?_push_size _ rfl, .nil⟩ rfl rfl
  have hx : ((hh.push emptyDict).push (instObj c hh.objs.size)).get? (hh.objs.size + 1) = some (instObj c hh.objs.size) := by
    have : ((hh.push emptyDict).push (instObj c hh.objs.size)).get? (hh.push emptyDict).objs.size = some (instObj c hh.objs.size) := Heap.get?_push_size _ rfl
    rwa [Heap.size_push] at this
  have n3 : (hh.push emptyDict).get? (hh.objs.size + 1) = none := get?_ge (by rw [Heap.size_push]; exact Nat.le_refl _)
  obtain ⟨i2, e2⟩ := i1.new (s' := ⟨(hh.push emptyDict).push (instObj c hh.objs.size), g, dr, t, os⟩) (a := hh.objs.size + 1) (p := .inst c hh.objs.size) n3 (Nat.le_trans hi.size (Nat.le_succ _)) (fun b o e => Heap.get?_push_of_some _ e) hx rfl rfl
  refine codeAny_mono (h (hh.objs.size + 1) hh.objs.size (hi.off n2) (hi.off n1) (Nat.succ_ne_self _) _ _ _ ha.under i2 (.cons (.loc _) (hr.mono (e1.trans e2).seq)) (fun v s' => v = .none ∧ QM (.ref (hh.objs.size + 1)) s') fun v pv σ' s' q i' e' r' => ?_) fun r s' z => ?_
  · obtain ⟨rfl, q⟩ := q
    cases r'
    exact ⟨rfl, hq _ _ σ' s' q i' ((e1.trans e2).trans e') (.loc _)⟩
  · rcases r with e | (v | _ | _ | _) <;> exact z
end
end Mine
end
section
open PySem PySem.W PyProof.Rows PySem.Calls
namespace Mine
section
variable {C : Ctx} {K : Kx} {ρ : Fm} {σ : Store} {X : Value → Shared → Prop} {d : Nat} {Q : V → Store → Prop} {F : Frag}
noncomputable def putA (name : Str) (pv : V) : List (Str × V) → List (Str × V)
  | [] => [(name, pv)]
  | (m, w) :: r => if m == name then (m, pv) :: r else (m, w) :: putA name pv r
theorem EntR.put {h : Heap} {es : List DictEntry} {at_ : List (Str × V)} {name : Str} {t : Tok} {hs : Int} {v : Value} {pv : V} (x : EntR C σ h es at_) (hv : Rel C σ h v pv) : EntR C σ h (putL name hs (.str name t) v es) (putA name pv at_) := by
  induction x with
  | nil => exact .cons hv .nil
  | @cons y u hs' w pw es at_ hw hl ih =>
    unfold putL putA
    show EntR C σ h (if (y == name) = true then _ else _) _
    cases hy : y == name with
    | true => exact .cons hv hl
    | false => exact .cons hw ih
theorem EntR.len {h : Heap} {es : List DictEntry} {at_ : List (Str × V)} (x : EntR C σ h es at_) : es.length = at_.length := by
  induction x with
  | nil => rfl
  | cons _ _ ih => simp [ih]
theorem putL_len (name : Str) (hs : Int) (k v : Value) : ∀ es : List DictEntry, (putL name hs k v es).length ≤ es.length + 1
  | [] => by simp [putL]
  | e :: r => by
    unfold putL
    split
    · simp
    · simpa using putL_len name hs k v r
/-- an attribute of one's own instance is stored -/
theorem set_inst (O : FragOk C F) {x dx c : Addr} {at_ : List (Str × V)} {name : Str} {pv : V} {A : Around} {s : Shared} {v : Value} (hx : σ x = some (.inst c dx)) (hd : σ dx = some (.ns at_)) (hi : Inv C σ s) (hv : Rel C σ s.heap v pv)
    (hs : findIn F (.ref c) "__setattr__" = some (some (.builtin "object.__setattr__"))) (hp : plainOver F c = true) (ht : takerIn F c name = some none) (hh : hasDictIn F c = true) (hl : at_.length < 900) {QM : Unit → Shared → Prop}
    (hq : ∀ s', Inv C (upd σ dx (some (.ns (putA name pv at_)))) s' → Ext C σ s.heap (upd σ dx (some (.ns (putA name pv at_)))) s'.heap → QM () s') : wpAny (model C.prog C.w) A (setAttr (.ref x) name v) QM X s := by
  refine Classical.byContradiction fun hbc => ?_
  obtain ⟨es, n, I, r⟩ := inst_at hi hx hd
  refine hbc ?_
  clear hbc
  have len := r.len
  have fd := r.find name
  have gl : (getL name es).isSome = true := by
    cases hq' : at_.lookup name with
    | none => rw [hq'] at fd; rw [fd]; rfl
    | some w => rw [hq'] at fd; obtain ⟨v', e, _⟩ := fd; rw [e]; rfl
  refine set_plain (O.at hi) I hs (osa_open (s := { s with toks := s.toks + 1 }) (O.at (s := { s with toks := s.toks + 1 }) hi.toks) I hp ht fun b => ?_)
  refine Classical.byContradiction fun hbc => ?_
  obtain ⟨cd, hc, hd'⟩ := any_some hh
  refine hbc ?_
  clear hbc
  have D : s.heap.get? dx = some (dictOf es n) := by
    refine Classical.byContradiction fun hbc => ?_
    obtain ⟨es', n', e, r'⟩ := (hi.own dx _ hd).2
    refine hbc ?_
    clear hbc
    have := I.dict
    exact this
  have hxx := (hi.own x _ hx).2
  let f := Obj.putName name (PyData.keyHash C.w.params name) (.str name (s.toks + 1)) v
  have D' : (s.heap.update dx f).get? dx = some (dictOf (putL name (PyData.keyHash C.w.params name) (.str name (s.toks + 1)) v es) (putN name es n)) := by
    rw [Heap.get?_update_self f D (by show (Obj.putName _ _ _ _ _).isFreed = false; rw [putName_dict]; rfl)]
    show some (Obj.putName _ _ _ _ _) = _
    rw [putName_dict]
  have hz : (putL name (PyData.keyHash C.w.params name) (.str name (s.toks + 1)) v es).length ≤ 1000 := by
    have := putL_len name (PyData.keyHash C.w.params name) (.str name (s.toks + 1)) v es
    rw [len] at this; lia
  have hsq : SeqKeep C σ s.heap (upd σ dx (some (.ns (putA name pv at_)))) (s.heap.update dx f) := ⟨fun b o e _ hb _ => ((Heap.SameBut.update s.heap dx f).2 b (fun q => by rw [q, hd] at hb; cases hb)).trans e, fun b o e _ hb _ => by
    rw [upd_ne σ _ (fun q => by rw [q, hd] at hb; cases hb)]; exact hb⟩
  refine wpAny_bind (wpAny_pure (wpAny_bind (wpAny_bind (wpAny_loadPart hxx (wpAny_bind ((looks_clsIn (O.at (s := { s with toks := s.toks + 1 }) hi.toks) hc).here ?_))))))
  rw [hd']
  refine wpAny_pure (a := some dx) (wpAny_bind (wpAny_pure (wpAny_bind ?_)))
  unfold nsSet
  refine wpAny_bind (wpAny_bind (wpAny_askSetting (wpAny_pure (wpAny_bind (wpAny_mkText (wpAny_bind (wpAny_loadPart D ?_)))))))
  dsimp only
  have c : (!es.toArray.any (·.key.isStr name) && es.toArray.any (·.refKey)) = false := by
    rw [← Array.any_toList, ← Array.any_toList]
    unfold getL at gl
    split at gl
    · rename_i en he
      rw [List.any_eq_true.mpr ⟨en, List.mem_of_find?_eq_some he, List.find?_some he⟩]; rfl
    · split at gl
      · cases gl
      · rename_i z; rw [Bool.not_eq_true] at z; rw [z, Bool.and_false]
  rw [aRefKeyMayBeTheName_at, c]
  refine wpAny_updatePart D ?_
  refine wpAny_bind (wpAny_lookBehind D' (pastItsLine_dict (by rw [List.size_toArray, sizeLine_eq]; lia)) ?_)
  obtain ⟨i', e'⟩ := hi.set (s' := { s with heap := s.heap.update dx f, toks := s.toks + 1 + 1 }) (p' := .ns (putA name pv at_)) hd (Heap.SameBut.update s.heap dx f).extBut (fun v e => by cases e) ⟨_, _, D', (r.put hv).mono hsq⟩ rfl rfl
  exact wpAny_pure (hq _ i' e')
/-- what storing an attribute of one's own instance asks of its class -/
structure Stor (F : Frag) (c : Addr) (name : Str) : Prop where
  set : findIn F (.ref c) "__setattr__" = some (some (.builtin "object.__setattr__"))
  over : plainOver F c = true
  taker : takerIn F c name = some none
  dict : hasDictIn F c = true
theorem as_attr (O : FragOk C F) {o : Expr} {attr : Str} {pos : Pos} {pv : V} {Q : Fm → Store → Prop}
    (h : EvP C K ρ σ o (fun ov σ₁ => ∃ x dx c at_, ov = .loc x ∧ σ₁ x = some (.inst c dx) ∧ σ₁ dx = some (.ns at_) ∧ Stor F c attr ∧ at_.length < 900 ∧ Q ρ (upd σ₁ dx (some (.ns (putA attr pv at_))))) X) :
    AsP C K ρ σ (.Attribute o attr pos) pv Q X := fun A env s v ha hr hi hv QM hq => by
  rw [arm_assign_Attribute]
  refine wpAny_bind (wpAny_holding (h A env s ha hr hi _ fun ov po σ₁ s₁ h₁ i₁ e₁ r₁ => wpAny_bind (wpAny_standAt ?_)))
  refine Classical.byContradiction fun hbc => ?_
  obtain ⟨x, dx, c, at_, rfl, hx, hd, S, hl, q⟩ := h₁
  refine hbc ?_
  clear hbc
  (first | obtain ⟨_, rfl⟩ := Rel.inv r₁ | obtain rfl := Rel.inv r₁ | cases r₁)
  refine wpAny_bind (wpAny_holding (set_inst O hx hd i₁ (hv.mono e₁.seq) S.set S.over S.taker S.dict hl fun s₂ i₂ e₂ => ?_))
  exact wpAny_release' (hq ρ _ s₂ q (hr.mono (e₁.trans e₂)) i₂ (e₁.trans e₂).toF)
theorem st_augAttr (O : FragOk C F) {o value : Expr} {attr : Str} {tpos pos : Pos} {op : Operator} {Q : Fl → Fm → Store → Prop}
    (h : EvP C K ρ σ o (fun ov σ₁ => M1 C K.d (fun o => getAttr o attr true) ov σ₁ (fun a σ₂ => EvP C K ρ σ₂ value (fun b σ₃ => M2 C K.d (inplaceOp op) a b σ₃ (fun r σ₄ => ∃ x dx c at_, ov = .loc x ∧ σ₄ x = some (.inst c dx) ∧ σ₄ dx = some (.ns at_) ∧ Stor F c attr ∧ at_.length < 900 ∧
      Q .next ρ (upd σ₄ dx (some (.ns (putA attr r at_))))) X) X) X) X) : StP C K ρ σ (.AugAssign (.Attribute o attr tpos) op value pos) Q X := fun A env s ha hr hi QM hq => by
  rw [arm_exec_AugAssign_2]
  refine wpAny_bind (wpAny_standAt (wpAny_bind (h A env s ha hr hi _ fun ov po σ₁ s₁ h₁ i₁ e₁ r₁ => wpAny_bind (wpAny_holding (wpAny_bind (wpAny_standAt (wpAny_bind (h₁ A s₁ ov ha i₁ r₁ _ fun old po' σ₂ s₂ h₂ i₂ e₂ r₂ =>
    wpAny_bind (wpAny_holding (h₂ A env s₂ ha (hr.mono (e₁.trans e₂)) i₂ _ fun v pv σ₃ s₃ h₃ i₃ e₃ r₃ => wpAny_bind (wpAny_standAt (wpAny_operating (h₃ A s₃ old v ha i₃ (r₂.mono e₃.seq) r₃ _ fun r pr σ₄ s₄ q i₄ e₄ r₄ => ?_)))))))))))))
  refine Classical.byContradiction fun hbc => ?_
  obtain ⟨x, dx, c, at_, rfl, hx, hd, S, hl, q⟩ := q
  refine hbc ?_
  clear hbc
  (first | obtain ⟨_, rfl⟩ := Rel.inv r₁ | obtain rfl := Rel.inv r₁ | cases r₁)
  have E := ((e₁.trans e₂).trans e₃).trans e₄
  refine wpAny_bind (wpAny_standAt (wpAny_bind (wpAny_holding (set_inst O hx hd i₄ r₄ S.set S.over S.taker S.dict hl fun s₅ i₅ e₅ => wpAny_bind (wpAny_release' (wpAny_pure ?_))))))
  exact hq .next .next ρ _ s₅ q trivial (hr.mono (E.trans e₅)) i₅ (E.trans e₅).toF
end
end Mine
end
section
open PySem PySem.W PyProof.Rows PySem.Calls
namespace Mine
section
variable {C : Ctx} {K : Kx} {ρ : Fm} {σ : Store} {X : Value → Shared → Prop} {d : Nat} {Q : V → Store → Prop}
theorem cont_next {rest : List Stmt} {Q : Fl → Fm → Store → Prop} (h : ExP C K ρ σ rest Q X) : Cont C K X rest Q .next ρ σ := h
theorem cont_ret {rest : List Stmt} {Q : Fl → Fm → Store → Prop} {v : V} (h : Q (.ret v) ρ σ) : Cont C K X rest Q (.ret v) ρ σ := h
theorem cont_cont {rest : List Stmt} {Q : Fl → Fm → Store → Prop} (h : Q .cont ρ σ) : Cont C K X rest Q .cont ρ σ := h
theorem retq_ret {v : V} (h : Q v σ) : RetQ Q (.ret v) ρ σ := h
theorem retq_next (h : Q .none σ) : RetQ Q .next ρ σ := h
theorem evs_nil {Q : List V → Store → Prop} (h : Q [] σ) : EvsP C K ρ [] σ Q X := h
theorem evs_cons {e : Expr} {r : List Expr} {Q : List V → Store → Prop} (h : EvP C K ρ σ e (fun pv σ₁ => EvsP C K ρ r σ₁ (fun pl σ₂ => Q (pv :: pl) σ₂) X) X) : EvsP C K ρ (e :: r) σ Q X := h
theorem evo_none (h : Q .none σ) : EvO C K ρ σ none Q X := h
theorem evo_some {e : Expr} (h : EvP C K ρ σ e Q X) : EvO C K ρ σ (some e) Q X := h
theorem ass_nil {Q : Fm → Store → Prop} (h : Q ρ σ) : AssP C K X Q ρ σ [] [] := h
theorem ass_cons {Q : Fm → Store → Prop} {t : Expr} {ts : List Expr} {v : V} {vs : List V} (h : AsP C K ρ σ t v (fun ρ₁ σ₁ => AssP C K X Q ρ₁ σ₁ ts vs) X) : AssP C K X Q ρ σ (t :: ts) (v :: vs) := h
theorem ifs_nil' {Q : Bool → Store → Prop} (h : Q true σ) : IfsP C K ρ X [] σ Q := h
theorem ifs_cons' {c : Expr} {r : List Expr} {Q : Bool → Store → Prop} (h : TsP C K ρ σ c (fun b σ₁ => if b then IfsP C K ρ X r σ₁ Q else Q false σ₁) X) : IfsP C K ρ X (c :: r) σ Q := h
theorem swap_nil {Q : Fm → Prop} (h : Q ρ) : SwapP C K Q ρ [] [] := h
theorem swap_cons {Q : Fm → Prop} {x : Str} {xs : List Str} {v : V} {vs : List V} {ρ' : Fm} (hk : Stores K ρ x) (hu : Upd ρ x (.val v) ρ') (h : SwapP C K Q ρ' xs vs) : SwapP C K Q ρ (x :: xs) (v :: vs) := ⟨hk, ρ', hu, h⟩
theorem ite_true' {A B : Prop} (h : A) : if true = true then A else B := by simpa using h
theorem ite_false' {A B : Prop} (h : B) : if false = true then A else B := by simpa using h
theorem ite_dec {p : Prop} [Decidable p] {A B : Prop} (h1 : p → A) (h2 : ¬ p → B) : if decide p = true then A else B := by
  by_cases h : p
  · simpa [h] using h1 h
  · simpa [h] using h2 h
theorem ite_beq {α : Type} [BEq α] [LawfulBEq α] {a b : α} {A B : Prop} (h1 : a = b → A) (h2 : a ≠ b → B) : if (a == b) = true then A else B := by
  by_cases h : a = b
  · simpa [h] using h1 h
  · simpa [h] using h2 h
theorem ite_bne {α : Type} [BEq α] [LawfulBEq α] {a b : α} {A B : Prop} (h1 : a ≠ b → A) (h2 : a = b → B) : if (a != b) = true then A else B := by
  by_cases h : a = b
  · simpa [h] using h2 h
  · simpa [h] using h1 h
theorem ite_gen {b : Bool} {A B : Prop} (h1 : b = true → A) (h2 : b = false → B) : if b = true then A else B := by
  cases b
  · simpa using h2 rfl
  · simpa using h1 rfl
theorem stores_local {x : Str} (h : K.names.lookup x = some .local) : Stores K ρ x := .inl h
theorem stores_cell {x : Str} {sl : Slot} (h : K.names.lookup x = some .cell) (hm : (x, sl) ∈ ρ) (hs : ∀ c, sl ≠ .sh c) : Stores K ρ x := .inr ⟨h, sl, hm, hs⟩
theorem st_assign' {x : Str} {e : Expr} {pos' pos : Pos} {Q : Fl → Fm → Store → Prop} (hk : Stores K ρ x) (h : EvP C K ρ σ e (fun v σ₁ => ∃ ρ', Upd ρ x (.val v) ρ' ∧ Q .next ρ' σ₁) X)
    (hs : ∀ env, swapsWith e (some (.Name x pos')) pos.line env = pure false := by intro _; rfl) : StP C K ρ σ (.Assign [.Name x pos'] e pos) Q X := st_assign hk h hs
theorem upd_ex {x : Str} {v : V} {r' : Fm} {P : Fm → Prop} (hr : Rest ρ x r') (h : P ((x, .val v) :: r')) : ∃ ρ', Upd ρ x (.val v) ρ' ∧ P ρ' := ⟨_, .mk hr, h⟩
theorem tsb {P : Bool → Prop} {b : Bool} (h : P b) : ∃ b', V.bool b = .bool b' ∧ P b' := ⟨b, rfl, h⟩
theorem tb_lst {a : V} {vs : List V} {Q : Bool → Store → Prop} (h : LV σ a vs) (hl : vs.length < 2 ^ 25) (q : Q (!vs.isEmpty) σ) : M1B C d a σ Q X := fun A s x ha hi hx QM hq => by
  refine Classical.byContradiction fun hbc => ?_
  obtain ⟨b, items, n, rfl, ho, hrs⟩ := h.at hi hx
  refine hbc ?_
  clear hbc
  have hlen := hrs.length
  simp only [Array.length_toList] at hlen
  refine wpAny_truthy_list ⟨_, ho, rfl, _, rfl⟩ (by lia) ?_
  have e : (!items.isEmpty) = !vs.isEmpty := by
    unfold Array.isEmpty
    cases vs with
    | nil => simp at hlen; simp [hlen]
    | cons => simp at hlen; simp [hlen]
  rw [e]; exact hq _ _ _ q hi.toks .refl
/-! a comprehension whose element changes nothing -/
noncomputable def compB (kn : List (Str × NameKind)) (rn : List Str) (scope : Scope) (cn : List Str) : Bool :=
  (scope.kind == .function) && scope.names.all (fun x => x.2 != .cell) && scope.names.all (fun x => x.2 != .local || scope.names.lookup x.1 == some .local) &&
  scope.names.all (fun x => x.2 != .free || (rn.contains x.1 && kn.lookup x.1 != some .local)) && cn.all (fun x => scope.names.lookup x == some .free)
theorem CompOk.mk' {scope : Scope} {caps : Fm} (h : compB K.names (ρ.map (·.1)) scope (caps.map (·.1)) = true) (hc : ∀ p ∈ caps, p ∈ ρ ∧ p.2 ≠ .emp) : CompOk K ρ scope caps := by
  unfold compB at h
  simp only [Bool.and_eq_true, List.all_eq_true, Bool.or_eq_true, bne_iff_ne, beq_iff_eq, List.contains_iff_mem] at h
  refine Classical.byContradiction fun hbc => ?_
  obtain ⟨⟨⟨⟨h1, h2⟩, h3⟩, h4⟩, h5⟩ := h
  refine hbc ?_
  clear hbc
  refine ⟨h1, h2, fun x hx e => ?_, fun x hx e => ?_, fun p hp => ⟨(hc p hp).1, h5 _ (List.mem_map_of_mem hp), (hc p hp).2⟩⟩
  · rcases h3 x hx with h | h
    · exact absurd e h
    · exact h
  · rcases h4 x hx with h | ⟨h, h'⟩
    · exact absurd e h
    · refine Classical.byContradiction fun hbc => ?_
      obtain ⟨⟨y, sl⟩, hp, rfl⟩ := List.mem_map.mp h
      refine hbc ?_
      clear hbc
      exact ⟨sl, hp, h'⟩
end
end Mine
end
section
open PySem PySem.W PyProof.Rows PySem.Calls
namespace Mine
/-! the machine's side: reversed rows, iterators that call -/
theorem slot_rev_next : PySem.Slot "list_reverseiterator" "__next__" "list_reverseiterator.__next__" :=
  .of (owner := "list_reverseiterator") (n := "__next__") (by rw [typeLookup_type, builtinLookup_eq_fast]; kernel_rfl) (by decide +kernel) (by decide +kernel) (by decide +kernel)
    (by first | exact .inl (by decide +kernel) | exact .inr (by decide +kernel)) (by rw [isSubtype_type]; kernel_rfl)
theorem entry_rev_next : entryFor table "list_reverseiterator.__next__" = some Builtin.«list_reverseiterator.__next__» := entryFor_of_tree (by kernel_rfl)
theorem args_rev_next (a : Value) : argsOk "list_reverseiterator.__next__" ⟨[a], []⟩ := by unfold argsOk; kernel_rfl
theorem slot_rev_iter : PySem.Slot "list_reverseiterator" "__iter__" "list_reverseiterator.__iter__" :=
  .of (owner := "list_reverseiterator") (n := "__iter__") (by rw [typeLookup_type, builtinLookup_eq_fast]; kernel_rfl) (by decide +kernel) (by decide +kernel) (by decide +kernel)
    (by first | exact .inl (by decide +kernel) | exact .inr (by decide +kernel)) (by rw [isSubtype_type]; kernel_rfl)
theorem entry_rev_iter : entryFor table "list_reverseiterator.__iter__" = some Builtin.«dict_keyiterator.__iter__» :=
  entryFor_alias (id' := "dict_keyiterator.__iter__") (by kernel_rfl) (by first | rfl | decide +kernel | (unfold String.splitOn; simp +decide [String.splitOnAux])) (by decide +kernel) (by kernel_rfl)
theorem args_rev_iter (a : Value) : argsOk "list_reverseiterator.__iter__" ⟨[a], []⟩ := by unfold argsOk; kernel_rfl
theorem slot_cit_next : PySem.Slot "callable_iterator" "__next__" "callable_iterator.__next__" :=
  .of (owner := "callable_iterator") (n := "__next__") (by rw [typeLookup_type, builtinLookup_eq_fast]; kernel_rfl) (by decide +kernel) (by decide +kernel) (by decide +kernel)
    (by first | exact .inl (by decide +kernel) | exact .inr (by decide +kernel)) (by rw [isSubtype_type]; kernel_rfl)
theorem entry_cit_next : entryFor table "callable_iterator.__next__" = some Builtin.«callable_iterator.__next__» := entryFor_of_tree (by kernel_rfl)
theorem args_cit_next (a : Value) : argsOk "callable_iterator.__next__" ⟨[a], []⟩ := by unfold argsOk; kernel_rfl
theorem slot_cit_iter : PySem.Slot "callable_iterator" "__iter__" "callable_iterator.__iter__" :=
  .of (owner := "callable_iterator") (n := "__iter__") (by rw [typeLookup_type, builtinLookup_eq_fast]; kernel_rfl) (by decide +kernel) (by decide +kernel) (by decide +kernel)
    (by first | exact .inl (by decide +kernel) | exact .inr (by decide +kernel)) (by rw [isSubtype_type]; kernel_rfl)
theorem entry_cit_iter : entryFor table "callable_iterator.__iter__" = some Builtin.«dict_keyiterator.__iter__» :=
  entryFor_alias (id' := "dict_keyiterator.__iter__") (by kernel_rfl) (by first | rfl | decide +kernel | (unfold String.splitOn; simp +decide [String.splitOnAux])) (by decide +kernel) (by kernel_rfl)
theorem args_cit_iter (a : Value) : argsOk "callable_iterator.__iter__" ⟨[a], []⟩ := by unfold argsOk; kernel_rfl
section
variable {prog : Program} {w : World} {A : Around} {E : Value → Shared → Prop} {s : Shared}
theorem pyIter_rev {it : Addr} {o : Obj} {Q : Value → Shared → Prop} (ho : s.heap.get? it = some o) (hc : o.cls = .type "list_reverseiterator") (h : Q (.ref it) s) : wpAny (model prog w) A (pyIter (.ref it)) Q E s := by
  have hT : s.TypeIs (.ref it) "list_reverseiterator" := ⟨o, ho, hc⟩
  refine wpAny_pyIter_slot hT slot_rev_iter (wpAny_call_entry slot_rev_iter hT entry_rev_iter ?_ (args_rev_iter _))
  show wpAny _ _ (do ret (.ref it)) _ _ s
  exact wpAny_pure ⟨_, rfl, "list_reverseiterator", _, hT, slot_rev_next.lookup, h⟩
theorem pyIter_cit {it : Addr} {o : Obj} {Q : Value → Shared → Prop} (ho : s.heap.get? it = some o) (hc : o.cls = .type "callable_iterator") (h : Q (.ref it) s) : wpAny (model prog w) A (pyIter (.ref it)) Q E s := by
  have hT : s.TypeIs (.ref it) "callable_iterator" := ⟨o, ho, hc⟩
  refine wpAny_pyIter_slot hT slot_cit_iter (wpAny_call_entry slot_cit_iter hT entry_cit_iter ?_ (args_cit_iter _))
  show wpAny _ _ (do ret (.ref it)) _ _ s
  exact wpAny_pure ⟨_, rfl, "callable_iterator", _, hT, slot_cit_next.lookup, h⟩
/-- the stop of an iterator -/
theorem stop_iter {α : Type} {P : α → Shared → Prop} {h₁ : Heap} {Q : Option Value → Shared → Prop} (hh : A.handled = none) (hQ : ∀ h', (∀ b o, h₁.get? b = some o → h'.get? b = some o) → Q none { s with heap := h' }) :
    wpAny (model prog w) A.in1 (Builtin.SmallTypes.stopIteration : Sem α) P (fun e s' => wpAny (model prog w) A (do if ← isInstance e (.type "StopIteration") then pure none else throw e) Q E s') { s with heap := h₁ } := by
  show wpAny _ _ (newExc (.type "StopIteration") [] >>= _) _ _ _
  refine wpAny_bind ?_
  simp only [newExc, newTuple]
  refine wpAny_bind (wpAny_newObj_type ?_ (by size_fits))
  refine wpAny_bind (m := firstArgMember _ _) (wpAny_of_eq (a := Value.none) (by first | rfl | (simp only [firstArgMember]; rfl)) ?_)
  refine wpAny_newObj_type ?_ (by size_fits)
  simp only [raiseNew]
  refine wpAny_bind (wpAny_handled ?_)
  rw [show A.in1.handled = none from hh]
  refine wpAny_bind (wpAny_pure (wpAny_throw ?_))
  refine wpAny_bind (wpAny_isInstance (T := "StopIteration") (b := true) ⟨_, Heap.get?_push_size _ rfl, rfl⟩ isSubtype_stop ?_)
  exact wpAny_pure (hQ _ fun b o e => Heap.get?_push_of_some _ (Heap.get?_push_of_some _ e))
theorem rev_item {it l : Addr} {i : Nat} {items : Array Value} {n : Nat} {x : Value} {Q : Option Value → Shared → Prop} (ho : s.heap.get? it = some (revO (.ref l) i)) (hl : s.heap.get? l = some (lstO items n)) (hx : items[i]? = some x)
    (hQ : ∀ h', h'.get? it = some (revO (.ref l) (i - 1)) → Heap.SameBut it s.heap h' → Q (some x) { s with heap := h' }) : wpAny (model prog w) A (pyNext (.ref it)) Q E s := by
  have hT : s.TypeIs (.ref it) "list_reverseiterator" := ⟨_, ho, rfl⟩
  unfold pyNext
  refine wpAny_bind (wpAny_attempt (wpAny_callSpecial?_slot (name := Str.ofString "__next__") hT slot_rev_next (wpAny_call_entry slot_rev_next hT entry_rev_next ?_ (args_rev_next _))))
  show wpAny _ _ (field (.ref it) 1 >>= _) _ _ s
  refine wpAny_bind (wpAny_field ho rfl (x := .int i 0) rfl ?_)
  show wpAny _ _ (if (i : Int) < 0 then _ else _) _ _ s
  rw [if_neg (by lia)]
  show wpAny _ _ (field (.ref it) 0 >>= _) _ _ s
  refine wpAny_bind (wpAny_field ho rfl (x := .ref l) rfl ?_)
  show wpAny _ _ (seqItems? (.ref l) >>= _) _ _ s
  refine wpAny_bind (wpAny_seqItems hl rfl ?_)
  simp only [Int.toNat_natCast, hx]
  refine wpAny_bind (wpAny_setField ho rfl (by simp) (wpAny_pure ⟨x, rfl, wpAny_pure (hQ _ ?_ (Heap.SameBut.update ..))⟩))
  exact Heap.get?_update_self _ ho (Obj.isFreed_of_fields (Obj.data_mapFields rfl _))
theorem rev_end {it : Addr} {v : Value} {Q : Option Value → Shared → Prop} (hh : A.handled = none) (ho : s.heap.get? it = some (revO v (-1)))
    (hQ : ∀ h', (∀ b o, s.heap.get? b = some o → h'.get? b = some o) → Q none { s with heap := h' }) : wpAny (model prog w) A (pyNext (.ref it)) Q E s := by
  have hT : s.TypeIs (.ref it) "list_reverseiterator" := ⟨_, ho, rfl⟩
  unfold pyNext
  refine wpAny_bind (wpAny_attempt (wpAny_callSpecial?_slot (name := Str.ofString "__next__") hT slot_rev_next (wpAny_call_entry slot_rev_next hT entry_rev_next ?_ (args_rev_next _))))
  show wpAny _ _ (field (.ref it) 1 >>= _) _ _ s
  refine wpAny_bind (wpAny_field ho rfl (x := .int (-1) 0) rfl ?_)
  show wpAny _ _ (if (-1 : Int) < 0 then _ else _) _ _ s
  rw [if_pos (by lia)]
  refine wpAny_bind (wpAny_rule ?_)
  exact wpAny_bind (stop_iter (s := s) (h₁ := s.heap) (Q := Q) (E := E) hh hQ)
end
end Mine
namespace Mine
section
variable {prog : Program} {w : World} {A : Around} {E : Value → Shared → Prop} {s : Shared}
theorem borrowed_eq (f : Value) (pos : List Value) : callBorrowed f pos = (call f pos).keep [borrowed] := by
  unfold callBorrowed call runValue run
  simp only [bind, Sem.bind, Sem.keep]
  congr 1
  funext r
  cases r with
  | error e => rfl
  | ok f => cases f <;> rfl
theorem bor_meth {b fn : Addr} {fo : Obj} {fd : FuncData} {v : Value} {Q : Bool → Shared → Prop} (hb : s.heap.get? b = some (methodObj (.ref fn) v)) (hf : s.heap.get? fn = some fo) (hfd : fo.data = .func fd) (h : Q true s) :
    wpAny (model prog w) A (borrowsExactly (.ref b)) Q E s := by
  unfold borrowsExactly
  refine wpAny_bind (wpAny_load hb ?_)
  show wpAny _ _ (if (Value.type "method" == Value.type "method") = true then _ else _) _ _ s
  rw [if_pos (by decide)]
  show wpAny _ _ (do match (← load fn).data with | .func _ => pure true | _ => pure false) _ _ s
  refine wpAny_bind (wpAny_load hf ?_)
  rw [hfd]; exact wpAny_pure h
theorem cit_next {it b fn : Addr} {fo : Obj} {fd : FuncData} {v : Value} {u : Str} {tu : Tok} {Q : Option Value → Shared → Prop} (hh : A.handled = none) (ho : s.heap.get? it = some (citO (.ref b) (.str u tu) (.bool false)))
    (hb : s.heap.get? b = some (methodObj (.ref fn) v)) (hf : s.heap.get? fn = some fo) (hfd : fo.data = .func fd)
    (hc : wpAny (model prog w) A.in1 (call (.ref b) []) (fun r s₁ => ∃ tu' v', s₁.heap.get? it = some (citO (.ref b) (.str u tu') (.bool false)) ∧ s₁.heap.get? b = some (methodObj (.ref fn) v') ∧ s₁.heap.get? fn = some fo ∧ ∃ x t, r = .str x t ∧
      (if u = x then ∀ h', h'.get? it = some (citO .none .none (.bool true)) → (∀ b o, b ≠ it → s₁.heap.get? b = some o → h'.get? b = some o) → Q none { s₁ with heap := h' } else Q (some r) s₁)) (fun _ _ => False) s) :
    wpAny (model prog w) A (pyNext (.ref it)) Q E s := by
  have hT : s.TypeIs (.ref it) "callable_iterator" := ⟨_, ho, rfl⟩
  unfold pyNext
  refine wpAny_bind (wpAny_attempt (wpAny_callSpecial?_slot (name := Str.ofString "__next__") hT slot_cit_next (wpAny_call_entry slot_cit_next hT entry_cit_next ?_ (args_cit_next _))))
  show wpAny _ _ (field (.ref it) 2 >>= _) _ _ s
  refine wpAny_bind (wpAny_field ho rfl (x := .bool false) rfl ?_)
  rw [if_neg (by decide)]
  show wpAny _ _ (field (.ref it) 0 >>= _) _ _ s
  refine wpAny_bind (wpAny_field ho rfl (x := .ref b) rfl ?_)
  refine wpAny_bind (wpAny_attempt ?_)
  unfold callOutOfASlot
  refine wpAny_bind (bor_meth hb hf hfd ?_)
  rw [if_pos rfl, borrowed_eq]
  refine wpAny_keep (wpAny_mono hc (fun r s₁ h => ?_) fun _ _ x => x.elim)
  obtain ⟨tu', v', h1, h2, h3, x, t, rfl, hr⟩ := h
  refine wpAny_bind (wpAny_field h1 rfl (x := .bool false) rfl ?_)
  rw [if_neg (by decide)]
  refine wpAny_bind (wpAny_field h1 rfl (x := .str u tu') rfl (wpAny_bind (wpAny_holding (eqBool_str ?_))))
  by_cases hux : u = x
  · rw [if_pos hux] at hr
    rw [if_neg (by simp [hux])]
    refine wpAny_bind (wpAny_rule (wpAny_bind ?_))
    show wpAny _ _ (field (.ref it) 0 >>= fun f => slotLetsGo "callable_iterator.__next__" f _ >>= fun _ => (do setField (.ref it) 0 .none; setField (.ref it) 1 .none; setField (.ref it) 2 (.bool true))) _ _ _
    refine wpAny_bind (wpAny_field h1 rfl (x := .ref b) rfl (wpAny_bind ?_))
    unfold slotLetsGo
    refine wpAny_bind (bor_meth h2 h3 hfd ?_)
    rw [if_pos rfl]
    refine wpAny_pure ?_
    refine wpAny_bind (wpAny_setField_rec h1 (by simp) fun h₁ g1 b1 => wpAny_bind (wpAny_setField_rec (s := { s₁ with heap := h₁ }) g1 (by simp) fun h₂ g2 b2 => wpAny_setField_rec (s := { s₁ with heap := h₂ }) g2 (by simp) fun h₃ g3 b3 => ?_))
    exact stop_iter (s := s₁) (h₁ := h₃) hh fun h' k => hr h' (k _ _ g3) fun b o hne e => k _ _ (b3.extBut b o hne (b2.extBut b o hne (b1.extBut b o hne e)))
  · rw [if_neg hux] at hr
    rw [if_pos (by simp [hux])]
    exact wpAny_pure ⟨_, rfl, wpAny_pure hr⟩
end
end Mine
namespace Mine
theorem mro_reversed : mroOf (.type "reversed") = pure [.type "reversed", .type "object"] := by rw [mroOf_type]; kernel_rfl
theorem lookup_reversed_new : typeLookup (.type "reversed") "__new__" = pure (some (.builtin "reversed.__new__")) := by rw [typeLookup_type, builtinLookup_eq_fast]; kernel_rfl
theorem made_reversed : Bind.madeBy (.type "reversed") = pure (some "reversed.__new__") := madeBy_type mro_reversed lookup_reversed_new (by decide +kernel)
theorem typeCall_reversed (a : Value) : checkTypeCall "reversed" ⟨[a], []⟩ = pure () := by kernel_rfl
theorem newCall_reversed (a : Value) : checkBuiltinCall "reversed.__new__" ⟨[.type "reversed", a], []⟩ = pure () := by kernel_rfl
theorem entry_reversed_new : entryFor table "reversed.__new__" = some Builtin.«reversed.__new__» := entryFor_of_tree (by kernel_rfl)
theorem sub_rev_rev : isSubtype (.type "reversed") (.type "reversed") = pure true := by rw [isSubtype_type]; kernel_rfl
theorem sub_rev_not : isSubtype (.type "list_reverseiterator") (.type "reversed") = pure false := by rw [isSubtype_type]; kernel_rfl
section
variable {prog : Program} {w : World} {A : Around} {E : Value → Shared → Prop} {s : Shared}
theorem reversed_new {l : Addr} {items : Array Value} {n : Nat} {Q : Value → Shared → Prop} (hl : s.heap.get? l = some (lstO items n))
    (h : ∀ h', h'.get? s.heap.objs.size = some (revO (.ref l) ((items.size : Int) - 1)) → (∀ b o, s.heap.get? b = some o → h'.get? b = some o) → Q (.ref s.heap.objs.size) { s with heap := h' }) :
    wpAny (model prog w) A (Builtin.«reversed.__new__» ⟨[.type "reversed", .ref l], []⟩) (fun fin s' => ∃ v, fin = .done (.ret v) ∧ Q v s') E s := by
  have hT : s.TypeIs (.ref l) "list" := ⟨_, hl, rfl⟩
  have hsub := sub_rev_rev
  have hlook := F.slot_list_reversed.lookup
  have hbind := F.slot_list_reversed.bind (.ref l)
  unfold Builtin.«reversed.__new__»
  repeat (any_goals (first | assumption | wp_step))
  refine codeAny_call_builtin F.slot_list_reversed.plain F.entry_list_reversed (F.slot_list_reversed.check _ _ _ _ _ _ _ _ hT (F.args_list_reversed_1 _) ?_)
  unfold Builtin.«list.__reversed__»
  repeat (any_goals (first | assumption | wp_step))
  exact ⟨_, rfl, h _ (Heap.get?_push_size _ rfl) fun b o e => Heap.get?_push_of_some _ e⟩
theorem call_reversed {l : Addr} {items : Array Value} {n : Nat} {Q : Value → Shared → Prop} (hl : s.heap.get? l = some (lstO items n))
    (h : ∀ h', h'.get? s.heap.objs.size = some (revO (.ref l) ((items.size : Int) - 1)) → (∀ b o, s.heap.get? b = some o → h'.get? b = some o) → Q (.ref s.heap.objs.size) { s with heap := h' }) :
    wpAny (model prog w) A (call (.type "reversed") [.ref l]) Q E s := by
  have hmro := mro_reversed
  have hmade := made_reversed
  have hsub := sub_rev_rev
  have hct := typeCall_reversed (.ref l)
  refine wpAny_call (codeAny_of_tree ?_)
  show wpAny _ _ (callAny (.type "reversed") _) _ _ _
  refine wpAny_pure ⟨Code.quiet_builtin _ (by decide +kernel), codeAny_builtin F.entry_type_call ?_⟩
  rw [Around.under_plain (weight_type_call_type "reversed" [.ref l] []) (units_type_call_type "reversed" [.ref l] [])]
  have h1 : (Value.type "reversed" == Value.type "type") = false := by decide +kernel
  have h2 : ((Manifest.find? "reversed").bind (·.mro.findSome? fun t => (Manifest.find? t).bind fun b => if b.noNew then some true else if b.attrs.any (·.1 == "__new__") then some false else none)).getD false = false := by decide +kernel
  repeat (any_goals (first | assumption | wp_step))
  refine codeAny_call_builtin (by decide +kernel) entry_reversed_new (wpAny_of_eq (newCall_reversed _) (wpAny_mono (reversed_new (Q := fun v s' => ∃ h', v = .ref s.heap.objs.size ∧ s' = { s with heap := h' } ∧ h'.get? s.heap.objs.size = some (revO (.ref l) ((items.size : Int) - 1)) ∧ ∀ b o, s.heap.get? b = some o → h'.get? b = some o) hl
    fun h' g k => ⟨h', rfl, rfl, g, k⟩) (fun fin s' hx => ?_) fun _ _ x => x))
  obtain ⟨v, rfl, h', rfl, rfl, g, k⟩ := hx
  refine wpAny_bind (wpAny_isInstance (T := "list_reverseiterator") (b := false) ⟨_, g, rfl⟩ sub_rev_not ?_)
  rw [if_pos (by decide)]
  exact wpAny_bind (wpAny_rule (wpAny_pure (h h' g k)))
theorem args_iter2 (a b : Value) : argsOk "iter" ⟨[a, b], []⟩ := by unfold argsOk; kernel_rfl
theorem call_iter2 {f u : Value} {Q : Value → Shared → Prop} (hs : ∀ (A : Around) (E : Value → Shared → Prop) (Q : Option Value → Shared → Prop), (∀ x, Q (some x) s) → wpAny (model prog w) A (specialOf f "__call__") Q E s)
    (h : ∀ h', h'.get? s.heap.objs.size = some (citO f u (.bool false)) → (∀ b o, s.heap.get? b = some o → h'.get? b = some o) → Q (.ref s.heap.objs.size) { s with heap := h' }) :
    wpAny (model prog w) A (call (.builtin "iter") [f, u]) Q E s := by
  refine call_function_entry (by decide +kernel) (by decide +kernel) kdk_entry_iter (args_iter2 _ _) ?_
  unfold Builtin.«iter»
  refine wpAny_bind (m := someArgs "iter" 1 2 _) (wpAny_of_eq (a := [f, u]) (by first | rfl | kernel_rfl!) ?_)
  refine wpAny_bind (hs _ _ _ fun x => ?_)
  rw [if_neg (by simp)]
  refine wpAny_bind (wpAny_rule (wpAny_bind ?_))
  show wpAny _ _ (newObj (.type "callable_iterator") (.fields #[f, u, .bool false]) none) _ _ _
  refine wpAny_newObj_type ?_
  exact wpAny_pure ⟨_, rfl, h _ (Heap.get?_push_size _ rfl) fun b o e => Heap.get?_push_of_some _ e⟩
end
end Mine
end
section
open PySem PySem.W PyProof.Rows PySem.Calls
namespace Mine
/-! attributes of a function -/
theorem slot_fn_setattr : PySem.Slot "function" "__setattr__" "object.__setattr__" :=
  .of (owner := "object") (n := "__setattr__") (by rw [typeLookup_type, builtinLookup_eq_fast]; kernel_rfl) (by decide +kernel) (by decide +kernel) (by decide +kernel)
    (by first | exact .inl (by decide +kernel) | exact .inr (by decide +kernel)) (by rw [isSubtype_type]; kernel_rfl)
theorem mro_function : mroOf (.type "function") = pure [.type "function", .type "object"] := by rw [mroOf_type]; kernel_rfl
theorem fn_no_read : typeLookup (.type "function") "read" = pure none := by rw [typeLookup_type, builtinLookup_eq_fast]; kernel_rfl
theorem fn_getattribute : typeLookup (.type "function") "__getattribute__" = pure (some (.builtin "object.__getattribute__")) := by rw [typeLookup_type, builtinLookup_eq_fast]; kernel_rfl
theorem fn_no_getattr : typeLookup (.type "function") "__getattr__" = pure none := by rw [typeLookup_type, builtinLookup_eq_fast]; kernel_rfl
theorem refuse_fn (a : Addr) : refuseLoop (.ref a) "__setattr__" [.type "function", .type "object"] = pure () := by kernel_rfl
section
variable {prog : Program} {w : World} {A : Around} {E : Value → Shared → Prop} {s : Shared}
theorem setAttr_fn {a : Addr} {fd : FuncData} {sl : Array (Option Value)} {v : Value} {Q : Unit → Shared → Prop} (ho : s.heap.get? a = some ⟨.type "function", none, .func fd, sl⟩)
    (h : ∀ h' tk hs tk' n, h'.get? a = some ⟨.type "function", some s.heap.objs.size, .func fd, sl⟩ → h'.get? s.heap.objs.size = some (dictOf [⟨hs, .str "read" tk', v⟩] n) →
      (∀ b o, b ≠ a → s.heap.get? b = some o → h'.get? b = some o) → Q () { s with heap := h', toks := tk }) : wpAny (model prog w) A (setAttr (.ref a) "read" v) Q E s := by
  have hT : s.TypeIs (.ref a) "function" := ⟨_, ho, rfl⟩
  unfold setAttr
  refine wpAny_bind (wpAny_mkText (wpAny_bind (wpAny_callSpecial?_slot (name := Str.ofString "__setattr__") (s := { s with toks := s.toks + 1 }) hT slot_fn_setattr (wpAny_call_entry slot_fn_setattr (s := { s with toks := s.toks + 1 }) hT PySem.F.store_object.entry ?_ (PySem.F.store_object.args _ _ _)))))
  rw [osa_eq, refuse_eq]
  refine wpAny_bind (wpAny_bind (wpAny_typeOf (s := { s with toks := s.toks + 1 }) hT (wpAny_bind (wpAny_of_eq mro_function ?_))))
  rw [refuse_fn]
  refine wpAny_pure (wpAny_bind (wpAny_typeOf (s := { s with toks := s.toks + 1 }) hT (wpAny_bind (wpAny_of_eq fn_no_read (wpAny_bind (wpAny_pure ?_))))))
  dsimp only
  refine wpAny_bind (m := ownStreamTells _ _) (wpAny_of_eq (a := ()) (by kernel_rfl) ?_)
  rw [if_neg (by decide)]
  refine wpAny_bind ?_
  show wpAny _ _ (instanceDict a true) _ _ _
  unfold instanceDict
  refine wpAny_bind (wpAny_loadPart (s := { s with toks := s.toks + 1 }) ho ?_)
  dsimp only
  have hD : typeHasDict (.type "function") = true := by kernel_rfl
  have hF : finalisedInACycleAlone "function" = false := by kernel_rfl
  rw [if_neg (by rw [hD]; decide)]
  refine wpAny_bind (wpAny_alloc (wpAny_bind (wpAny_update (o := ⟨.type "function", none, .func fd, sl⟩) (Heap.get?_push_of_some _ ho) ?_)))
  have g1 := Heap.get?_update_self (f := fun o : Obj => { o with dict := some s.heap.objs.size }) (h := s.heap.push { cls := .type "dict", data := .dict #[] }) (Heap.get?_push_of_some _ ho) rfl
  have gd : ((s.heap.push { cls := .type "dict", data := .dict #[] }).update a fun o : Obj => { o with dict := some s.heap.objs.size }).get? s.heap.objs.size = some (dictOf [] 0) :=
    ((Heap.SameBut.update _ a _).2 _ (fun q => by rw [← q] at ho; exact absurd (Heap.lt_size ho) (Nat.lt_irrefl _))).trans (Heap.get?_push_size _ rfl)
  have gk : ∀ b o, b ≠ a → s.heap.get? b = some o → ((s.heap.push { cls := .type "dict", data := .dict #[] }).update a fun o : Obj => { o with dict := some s.heap.objs.size }).get? b = some o := fun b o hne e =>
    ((Heap.SameBut.update _ a _).2 b hne).trans (Heap.get?_push_of_some _ e)
  have hne : s.heap.objs.size ≠ a := fun q => by rw [← q] at ho; exact absurd (Heap.lt_size ho) (Nat.lt_irrefl _)
  revert g1 gd gk
  show _ → _ → _ → wpAny _ _ _ _ _ { s with heap := (s.heap.push { cls := .type "dict", data := .dict #[] }).update a fun o : Obj => { o with dict := some s.heap.objs.size }, toks := s.toks + 1 }
  generalize (s.heap.push { cls := .type "dict", data := .dict #[] }).update a (fun o : Obj => { o with dict := some s.heap.objs.size }) = H1
  intro g1 gd gk
  show wpAny _ _ (dictMade (.type "function") a s.heap.objs.size) _ _ _
  generalize hdd : s.heap.objs.size = dd at *
  unfold dictMade
  dsimp only
  rw [hF]
  rw [if_neg (by decide)]
  refine wpAny_pure (wpAny_bind (m := Builtin.ObjectAttr.newKeyGuard _ _ _) (wpAny_pure (wpAny_bind ?_)))
  unfold nsSet
  refine wpAny_bind (wpAny_bind (wpAny_askSetting (wpAny_pure (wpAny_bind (wpAny_mkText (wpAny_bind (wpAny_loadPart (s := { s with heap := H1, toks := s.toks + 1 + 1 }) gd ?_)))))))
  dsimp only
  have c : aRefKeyMayBeTheName (Str.ofString "read") ([] : List DictEntry).toArray = false := by rw [aRefKeyMayBeTheName_at]; simp
  rw [c, if_neg (by decide)]
  let f := Obj.putName "read" (PyData.keyHash w.params "read") (.str "read" (s.toks + 1)) v
  have D' : (H1.update dd f).get? dd = some (dictOf (putL "read" (PyData.keyHash w.params "read") (.str "read" (s.toks + 1)) v []) (putN "read" [] 0)) := by
    rw [Heap.get?_update_self f gd (by show (Obj.putName _ _ _ _ _).isFreed = false; rw [putName_dict]; rfl)]
    show some (Obj.putName _ _ _ _ _) = _
    rw [putName_dict]
  refine wpAny_updatePart gd ?_
  refine wpAny_bind (wpAny_lookBehind D' (pastItsLine_dict (by show (putL _ _ _ _ []).toArray.size ≤ _; simp [putL])) ?_)
  refine wpAny_pure ⟨_, rfl, wpAny_pure (h _ _ _ _ _ (((Heap.SameBut.update _ dd _).2 a (Ne.symm hne)).trans g1) D' fun b o hb e => ?_)⟩
  refine ((Heap.SameBut.update _ dd _).2 b (fun q => ?_)).trans (gk b o hb e)
  rw [q, ← hdd] at e
  exact absurd (Heap.lt_size e) (Nat.lt_irrefl _)
theorem args_oga (a b : Value) : argsOk "object.__getattribute__" ⟨[a, b], []⟩ := by unfold argsOk; kernel_rfl
theorem slot_fn_getattr : PySem.Slot "function" "__getattribute__" "object.__getattribute__" :=
  .of (owner := "object") (n := "__getattribute__") (by rw [typeLookup_type, builtinLookup_eq_fast]; kernel_rfl) (by decide +kernel) (by decide +kernel) (by decide +kernel)
    (by first | exact .inl (by decide +kernel) | exact .inr (by decide +kernel)) (by rw [isSubtype_type]; kernel_rfl)
theorem getAttr_fn {a d : Addr} {fd : FuncData} {sl : Array (Option Value)} {v : Value} {es : List DictEntry} {n : Nat} {expr : Bool} {Q : Value → Shared → Prop} (ho : s.heap.get? a = some ⟨.type "function", some d, .func fd, sl⟩)
    (hd : s.heap.get? d = some (dictOf es n)) (hl : getL "read" es = some (some v)) (hv : handedIn v = true) (h : Q v { s with toks := s.toks + 1 }) : wpAny (model prog w) A (getAttr (.ref a) "read" expr) Q E s := by
  have hT : ({ s with toks := s.toks + 1 } : Shared).TypeIs (.ref a) "function" := ⟨_, ho, rfl⟩
  unfold getAttr
  refine wpAny_bind (wpAny_mkText ?_)
  unfold getAttrBy
  refine wpAny_holding (wpAny_bind (wpAny_typeOf hT (wpAny_bind (wpAny_of_eq fn_getattribute ?_))))
  dsimp only
  rw [if_neg (by decide)]
  unfold getAttrByItsOwn
  refine wpAny_bind (m := hookBefore _) (wpAny_of_eq (a := none) (by kernel_rfl) (wpAny_bind (wpAny_attempt (wpAny_holding ?_))))
  unfold callGetattribute
  rw [if_neg (by simp [onTheHeap])]
  unfold boundAndCalled
  refine wpAny_bind (wpAny_of_eq (slot_fn_getattr.bind _) (wpAny_call_entry slot_fn_getattr hT F.entry_object_getattribute ?_ (args_oga _ _)))
  refine wpAny_bind (m := slotArgs _ _ _) (wpAny_of_eq (a := (.ref a, [.str "read" s.toks])) (by rfl) ?_)
  refine wpAny_bind (m := Builtin.ObjectAttr.attrName _) (wpAny_pure (wpAny_bind (wpAny_typeOf hT (wpAny_bind ?_))))
  unfold Builtin.ObjectAttr.find
  refine wpAny_bind (wpAny_of_eq fn_no_read (wpAny_bind (m := Builtin.ObjectAttr.getOf _) (wpAny_pure (wpAny_bind (m := Builtin.ObjectAttr.dataDescriptor? _ _) (wpAny_pure ?_)))))
  dsimp only
  unfold Builtin.ObjectAttr.ownThenClass
  refine wpAny_bind ?_
  show wpAny _ _ (do Builtin.ObjectAttr.inDict "read" (← Builtin.ObjectAttr.ownDict a)) _ _ _
  refine wpAny_bind ?_
  unfold Builtin.ObjectAttr.ownDict
  refine wpAny_bind (wpAny_loadPart (s := { s with toks := s.toks + 1 }) ho ?_)
  dsimp only
  unfold instanceDict
  refine wpAny_bind (wpAny_loadPart (s := { s with toks := s.toks + 1 }) ho ?_)
  dsimp only
  refine wpAny_pure ?_
  have hX : Frag.In [(d, dictOf es n)] s.heap := fun b o e => by
    by_cases h : b = d
    · subst h; simp at e; rw [← e]; exact hd
    · rw [List.lookup_cons, beq_false_of_ne h] at e; cases e
  show wpAny _ _ (nsGet d "read") _ _ _
  refine Looks.here (s := { s with toks := s.toks + 1 }) (looks_nsIn (K := [(d, dictOf es n)]) hX (ns := d) (name := "read") (r := some v) (by unfold nsIn; rw [List.lookup_cons, beq_self_eq_true]; exact hl)) ?_
  refine wpAny_bind (wpAny_rule (wpAny_pure ?_))
  refine wpAny_pure ⟨v, rfl, ?_⟩
  rw [handedOut_of hv]
  exact wpAny_pure h
theorem getMethod_fn {a d : Addr} {fd : FuncData} {sl : Array (Option Value)} {v : Value} {es : List DictEntry} {n : Nat} {pl : Sem Bool} {Q : Value × List Value → Shared → Prop} (ho : s.heap.get? a = some ⟨.type "function", some d, .func fd, sl⟩)
    (hd : s.heap.get? d = some (dictOf es n)) (hl : getL "read" es = some (some v)) (hv : handedIn v = true) (h : Q (v, []) { s with toks := s.toks + 1 }) : wpAny (model prog w) A (getMethod (.ref a) "read" pl) Q E s := by
  have hT : s.TypeIs (.ref a) "function" := ⟨_, ho, rfl⟩
  unfold getMethod
  refine wpAny_bind (wpAny_specialOf hT fn_getattribute ?_)
  dsimp only
  rw [if_neg (by decide +kernel)]
  refine wpAny_bind (wpAny_specialOf hT fn_no_getattr ?_)
  rw [if_neg (by simp)]
  refine wpAny_bind (wpAny_specialOf hT fn_no_read ?_)
  dsimp only
  refine wpAny_bind (getAttr_fn ho hd hl hv ?_)
  exact wpAny_pure h
end
section
variable {C : Ctx} {K : Kx} {ρ : Fm} {σ : Store} {X : Value → Shared → Prop} {d : Nat} {Q : V → Store → Prop}
theorem slots_fn {o : Obj} {fd : FuncData} {d : Option Addr} (hc : o.cls = .type "function") (hd : o.dict = d) (hf : o.data = .func fd) : o = ⟨.type "function", d, .func fd, o.slots⟩ := by
  obtain ⟨c, d', dt, sl⟩ := o; cases hc; cases hd; (first | obtain ⟨_, rfl⟩ := Rel.inv hf | obtain rfl := Rel.inv hf | cases hf); rfl
/-- a function of one's own is given an attribute -/
theorem as_attrF {o : Expr} {pos : Pos} {pv : V} {Q : Fm → Store → Prop}
    (h : EvP C K ρ σ o (fun ov σ₁ => ∃ x f cap, ov = .loc x ∧ σ₁ x = some (.func f cap none) ∧ ∀ dx, σ₁ dx = none → dx ≠ x → Q ρ (upd (upd σ₁ dx (some (.ns [("read", pv)]))) x (some (.func f cap (some dx))))) X) :
    AsP C K ρ σ (.Attribute o "read" pos) pv Q X := fun A env s v ha hr hi hv QM hq => by
  rw [arm_assign_Attribute]
  refine wpAny_bind (wpAny_holding (h A env s ha hr hi _ fun ov po σ₁ s₁ h₁ i₁ e₁ r₁ => wpAny_bind (wpAny_standAt ?_)))
  refine Classical.byContradiction fun hbc => ?_
  obtain ⟨x, f, cap, rfl, hx, q⟩ := h₁
  (first | obtain ⟨_, rfl⟩ := Rel.inv r₁ | obtain rfl := Rel.inv r₁ | cases r₁)
  obtain ⟨ob, fd, ho, hc, hd, hdat, f1, f2, f3, f4, f5, f6, f7, f8, f9, f10, f11⟩ := (i₁.own x _ hx).2
  refine hbc ?_
  clear hbc
  rw [slots_fn hc hd hdat] at ho
  have hn : s₁.heap.get? s₁.heap.objs.size = none := get?_ge (Nat.le_refl _)
  have hne : s₁.heap.objs.size ≠ x := fun z => by rw [z, ho] at hn; cases hn
  refine wpAny_bind (wpAny_holding (setAttr_fn ho fun h' tk hs tk' n g1 g2 gk => ?_))
  have hv₁ := hv.mono e₁.seq
  have no : σ₁ s₁.heap.objs.size = none := i₁.off hn
  have E : Ext C σ₁ s₁.heap (upd (upd σ₁ s₁.heap.objs.size (some (.ns [("read", pv)]))) x (some (.func f cap (some s₁.heap.objs.size)))) h' :=
    ⟨fun b o e hb _ => gk b o (fun z => by rw [z, hx] at hb; cases hb) e, fun b o e hb _ => by
      rw [upd_ne _ _ (fun z => by rw [z, hx] at hb; cases hb), upd_ne _ _ (fun z => by rw [z, hn] at e; cases e)]; exact hb, fun c v hc => ⟨v, by
      rw [upd_ne _ _ (fun z => by rw [z, hx] at hc; cases hc), upd_ne _ _ (fun z => by rw [z, no] at hc; cases hc)]; exact hc⟩⟩
  refine wpAny_release' (hq ρ _ { s₁ with heap := h', toks := tk } (q _ no hne) (hr.mono (e₁.trans E)) (i₁.step (s' := { s₁ with heap := h', toks := tk }) E (fun b p hb => ?_) (fun nn hnn o e => gk _ o (fun z => ?_) e) rfl rfl) (e₁.trans E).toF)
  · by_cases h1 : b = x
    · subst h1
      (first | obtain rfl := Option.some.inj (upd_self.symm.trans hb) | exact absurd (upd_self.symm.trans hb) (Option.some_ne_none _) | exact absurd (upd_self.symm.trans hb).symm (Option.some_ne_none _) | exact (datN (upd_self.symm.trans hb) rfl).elim | (rw [upd_self] at hb; cases hb))
      refine .inr ⟨(i₁.own _ _ hx).1, ?_⟩
      exact ⟨_, fd, g1, rfl, rfl, rfl, f1, f2, f3, f4, f5, f6, f7, f8, f9, f10, f11.mono E⟩
    · rw [upd_ne _ _ h1] at hb
      by_cases h2 : b = s₁.heap.objs.size
      · subst h2
        (first | obtain rfl := Option.some.inj (upd_self.symm.trans hb) | exact absurd (upd_self.symm.trans hb) (Option.some_ne_none _) | exact absurd (upd_self.symm.trans hb).symm (Option.some_ne_none _) | exact (datN (upd_self.symm.trans hb) rfl).elim | (rw [upd_self] at hb; cases hb))
        exact .inr ⟨i₁.size, _, _, g2, .cons (hv₁.mono E.seq) .nil⟩
      · rw [upd_ne _ _ h2] at hb
        exact .inl ⟨hb, fun o e => gk b o h1 e⟩
  · exact absurd (i₁.tabLt nn hnn) (Nat.not_lt.mpr (z ▸ (i₁.own x _ hx).1))
/-- what is callable there is called -/
theorem ev_methF {o : Expr} {apos pos : Pos} {args : List Expr}
    (h : EvP C K ρ σ o (fun ov σ₁ => ∃ x f cap dx at_ g, ov = .loc x ∧ σ₁ x = some (.func f cap (some dx)) ∧ σ₁ dx = some (.ns at_) ∧ at_.lookup ("read" : Str) = some (V.loc g) ∧
      EvsP C K ρ args σ₁ (fun pl σ₂ => KeepOk C σ₂ (.loc g) ∧ CallV C K.d (.loc g) pl σ₂ Q X) X) X) {pl : Sem Bool}
    (he : ∀ env, eval (.Call (.Attribute o "read" apos) args [] pos) env = (do
      let ov ← eval o env
      standAt apos.atName
      let (f, first) ← holding [ov] (getMethod ov "read" pl)
      callWith pos f first (backTo pos (starEach args env)) (backToKw pos (keywordEach [] env))) := by intro _; rfl)
    (hse : ∀ env, backTo pos (starEach args env) = args.map fun e => (false, eval e env) := by intro _; rfl) : EvP C K ρ σ (.Call (.Attribute o "read" apos) args [] pos) Q X := fun A env s ha hr hi QM hq => by
  refine methodCall_KW (pl := pl) (h A env s ha hr hi _ fun ov po σ₁ s₁ h₁ i₁ e₁ r₁ => ?_) (he env)
  refine Classical.byContradiction fun hbc => ?_
  obtain ⟨x, f, cap, dx, at_, g, rfl, hx, hd, hl, hE⟩ := h₁
  (first | obtain ⟨_, rfl⟩ := Rel.inv r₁ | obtain rfl := Rel.inv r₁ | cases r₁)
  obtain ⟨ob, fd, ho, hc, hdi, hdat, _⟩ := (i₁.own x _ hx).2
  refine hbc ?_
  clear hbc
  rw [slots_fn hc hdi hdat] at ho
  refine Classical.byContradiction fun hbc => ?_
  obtain ⟨es, n, hdo, hes⟩ := (i₁.own dx _ hd).2
  refine hbc ?_
  clear hbc
  have fd := hes.find "read"
  rw [hl] at fd
  refine Classical.byContradiction fun hbc => ?_
  obtain ⟨v, hg, rv⟩ := fd
  refine hbc ?_
  clear hbc
  (first | obtain ⟨_, rfl⟩ := Rel.inv rv | obtain rfl := Rel.inv rv | cases rv)
  refine getMethod_fn ho hdo hg rfl ?_
  exact callWith_ (s := { s₁ with toks := s₁.toks + 1 }) (fv := .loc g) (pre := []) (hse env) hE ha (hr.mono e₁) i₁.toks (.loc g) .nil fun v pv σ₂ s₂ q i₂ e₂ r₂ => hq v pv σ₂ s₂ q i₂ (e₁.trans e₂) r₂
end
end Mine
end
section
open PySem PySem.W PyProof.Rows PySem.Calls
namespace Mine
section
variable {prog : Program} {w : World} {A : Around} {E : Value → Shared → Prop} {s : Shared}
theorem cit_end {it : Addr} {v u : Value} {Q : Option Value → Shared → Prop} (hh : A.handled = none) (ho : s.heap.get? it = some (citO v u (.bool true)))
    (hQ : ∀ h', (∀ b o, s.heap.get? b = some o → h'.get? b = some o) → Q none { s with heap := h' }) : wpAny (model prog w) A (pyNext (.ref it)) Q E s := by
  have hT : s.TypeIs (.ref it) "callable_iterator" := ⟨_, ho, rfl⟩
  unfold pyNext
  refine wpAny_bind (wpAny_attempt (wpAny_callSpecial?_slot (name := Str.ofString "__next__") hT slot_cit_next (wpAny_call_entry slot_cit_next hT entry_cit_next ?_ (args_cit_next _))))
  show wpAny _ _ (field (.ref it) 2 >>= _) _ _ s
  refine wpAny_bind (wpAny_field ho rfl (x := .bool true) rfl ?_)
  rw [if_pos (by decide)]
  exact wpAny_bind (wpAny_rule (wpAny_bind (stop_iter (s := s) (h₁ := s.heap) (Q := Q) (E := E) hh hQ)))
theorem meth_callable : ∃ x, typeLookup (.type "method") "__call__" = pure (some x) := ⟨.builtin "method.__call__", by rw [typeLookup_type, builtinLookup_eq_fast]; kernel_rfl⟩
end
noncomputable def IsIt : PObj → Prop
  | .riter _ _ => True
  | .citer _ _ => True
  | .cend => True
  | _ => False
noncomputable def ORel (C : Ctx) (σ : Store) (h : Heap) : Option Value → Option V → Prop
  | none, none => True
  | some v, some pv => Rel C σ h v pv
  | _, _ => False
/-- an iterator of one's own tells its next -/
noncomputable def NxP (C : Ctx) (d : Nat) (a : Addr) (σ : Store) (Qn : Option V → Store → Prop) (X : Value → Shared → Prop) : Prop :=
  ∀ (A : Around) (s : Shared), AOk d A → Inv C σ s → ∀ QM : Option Value → Shared → Prop, (∀ ov pov σ' s', Qn pov σ' → Inv C σ' s' → Ext C σ s.heap σ' s'.heap → ORel C σ' s'.heap ov pov → QM ov s') → wpAny (model C.prog C.w) A (pyNext (.ref a)) QM X s
section
variable {C : Ctx} {K : Kx} {ρ : Fm} {σ : Store} {X : Value → Shared → Prop} {d : Nat} {Q : V → Store → Prop} {Qn : Option V → Store → Prop}
theorem IsIt.obj {s : Shared} (i : Inv C σ s) {a : Addr} {p : PObj} (h : σ a = some p) (hp : IsIt p) : ∃ o vs, s.heap.get? a = some o ∧ (o.cls = .type "list_reverseiterator" ∨ o.cls = .type "callable_iterator") ∧ o.data = .fields vs := by
  have := (i.own a p h).2
  cases p <;> try exact hp.elim
  · obtain ⟨v, u, e, _⟩ := this; exact ⟨_, _, e, .inr rfl, rfl⟩
  · exact ⟨_, _, this, .inr rfl, rfl⟩
  · obtain ⟨l, e, _⟩ := this; exact ⟨_, _, e, .inl rfl, rfl⟩
theorem own_goI {M : Model} {target : Expr} {it : Addr} {v : Value} {A : Around} {E : Value → Shared → Prop} {s : Shared} {Q : Unit → Shared → Prop} (i : Inv C σ s) {p : PObj} (hp : σ it = some p) (hI : IsIt p) (h : Q () s) : wpAny M A (letOwnedTupleGo target (.ref it) v) Q E s := by
  refine Classical.byContradiction fun hbc => ?_
  obtain ⟨o, vs, e, c, d⟩ := IsIt.obj i hp hI
  refine hbc ?_
  clear hbc
  have main : wpAny M A (do
    let (.ref r, .ref a) := ((Value.ref it, v) : Value × Value) | return
    let o ← load r
    match o.cls, o.data with
    | .type n, .fields vs =>
      if ["enumerate", "zip", "dict_itemiterator", "dict_reverseitemiterator", "odict_iterator", "itertools.zip_longest", "itertools.pairwise"].contains n && vs[0]? == some (rawInt a) then
        rule "for.unpacks-the-owned-tuple"
        updateField r 0 .none
    | _, _ => pure ()) Q E s := by
    cases v <;> first | exact wpAny_pure h | skip
    refine wpAny_bind (wpAny_load e ?_)
    have n1 : ["enumerate", "zip", "dict_itemiterator", "dict_reverseitemiterator", "odict_iterator", "itertools.zip_longest", "itertools.pairwise"].contains "list_reverseiterator" = false := by decide +kernel
    have n2 : ["enumerate", "zip", "dict_itemiterator", "dict_reverseitemiterator", "odict_iterator", "itertools.zip_longest", "itertools.pairwise"].contains "callable_iterator" = false := by decide +kernel
    rcases c with c | c <;> rw [c, d] <;> (simp only [n1, n2, Bool.false_and, Bool.false_eq_true, if_false]; exact wpAny_pure h)
  unfold letOwnedTupleGo
  cases target <;> first | exact wpAny_pure h | exact main
theorem iter_own {s : Shared} {A : Around} {a : Addr} {p : PObj} (i : Inv C σ s) (h : σ a = some p) (hp : IsIt p) {QM : Value → Shared → Prop} (hq : QM (.ref a) s) : wpAny (model C.prog C.w) A (pyIter (.ref a)) QM X s := by
  refine Classical.byContradiction fun hbc => ?_
  obtain ⟨o, vs, e, c, d⟩ := IsIt.obj i h hp
  refine hbc ?_
  clear hbc
  rcases c with c | c
  · exact pyIter_rev e c hq
  · exact pyIter_cit e c hq
theorem nx_rev {a : Addr} {vs : List V} {i : Nat} (hs : σ a = some (.riter vs i)) (hi : i ≤ vs.length) (h0 : i = 0 → Qn none σ) (h1 : ∀ j x, i = j + 1 → vs[j]? = some x → Qn (some x) (upd σ a (some (.riter vs j)))) : NxP C d a σ Qn X := fun A s ha i₀ QM hq => by
  obtain ⟨l, ho, hr⟩ := (i₀.own a _ hs).2
  cases i with
  | zero => exact rev_end ha.1 ho fun h' k => hq none none σ _ (h0 rfl) (i₀.grow (s' := { s with heap := h' }) k rfl rfl) (Ext.grow k) trivial
  | succ j =>
    refine Classical.byContradiction fun hbc => ?_
    obtain ⟨items, n, hl, hrs⟩ := hr.lst_inv
    have hj : j < vs.length := hi
    obtain ⟨v, hv, rv⟩ := hrs.get (List.getElem?_eq_getElem hj)
    refine hbc ?_
    clear hbc
    have ho' : s.heap.get? a = some (revO (.ref l) (j : Int)) := by rw [ho]; congr 3; lia
    refine rev_item ho' hl (by rw [← Array.getElem?_toList]; exact hv) fun h' g sb => ?_
    have hsq : SeqKeep C σ s.heap (upd σ a (some (.riter vs j))) h' := ⟨fun b o e _ hb _ => (sb.2 b (fun q => by rw [q, hs] at hb; cases hb)).trans e, fun b o e _ hb _ => by
      rw [upd_ne σ _ (fun q => by rw [q, hs] at hb; cases hb)]; exact hb⟩
    obtain ⟨i', e'⟩ := i₀.set (s' := { s with heap := h' }) (p' := .riter vs j) hs sb.extBut (fun v e => by cases e) ⟨l, g, hr.mono hsq⟩ rfl rfl
    exact hq (some v) (some vs[j]) _ _ (h1 j _ rfl (List.getElem?_eq_getElem hj)) i' e' (rv.mono e'.seq)
theorem nx_cend {a : Addr} (hs : σ a = some .cend) (h : Qn none σ) : NxP C d a σ Qn X := fun A s ha i₀ QM hq =>
  cit_end ha.1 (i₀.own a _ hs).2 fun h' k => hq none none σ _ h (i₀.grow (s' := { s with heap := h' }) k rfl rfl) (Ext.grow k) trivial
theorem AOk.in1 {A : Around} (h : AOk (d + 1) A) : AOk d A.in1 := by
  obtain ⟨h1, h2, h3⟩ := h
  refine ⟨h1, ?_, ?_⟩
  · show A.depth + d ≤ 990; lia
  · show A.units + 1 + 10 * d ≤ 9800; lia
theorem nx_cit {a b fn : Addr} {u : List Nat} {self : V} {fo : Obj} {fd : FuncData} (hs : σ a = some (.citer (.loc b) (.str u))) (hb : σ b = some (.bound (.ref fn) self)) (hf : C.h1.get? fn = some fo) (ht : fn ∉ C.tabs) (hfd : fo.data = .func fd)
    (h : CallV C d (.loc b) [] σ (fun v σ₁ => σ₁ a = some (.citer (.loc b) (.str u)) ∧ σ₁ b = some (.bound (.ref fn) self) ∧ ∃ x, v = .str x ∧ (u = x → Qn none (upd σ₁ a (some .cend))) ∧ (u ≠ x → Qn (some (.str x)) σ₁)) Bot) : NxP C (d + 1) a σ Qn X := fun A s ha i₀ QM hq => by
  refine Classical.byContradiction fun hbc => ?_
  obtain ⟨v, uu, ho, rv, ru⟩ := (i₀.own a _ hs).2
  refine hbc ?_
  clear hbc
  obtain rfl := Rel.inv rv
  obtain ⟨_, rfl⟩ := Rel.inv ru
  obtain ⟨v, hbo, rself⟩ := (i₀.own b _ hb).2
  refine cit_next ha.1 ho hbo (i₀.base fn fo hf ht) hfd ?_
  refine h A.in1 s (.ref b) [] ha.in1 i₀ (.loc b) .nil _ fun r pr σ₁ s₁ q i₁ e₁ r₁ => ?_
  refine Classical.byContradiction fun hbc => ?_
  obtain ⟨hs₁, hb₁, x, rfl, q1, q2⟩ := q
  refine hbc ?_
  clear hbc
  (first | obtain ⟨_, rfl⟩ := Rel.inv r₁ | obtain rfl := Rel.inv r₁ | cases r₁)
  rename_i t
  refine Classical.byContradiction fun hbc => ?_
  obtain ⟨v1, uu1, ho1, rv1, ru1⟩ := (i₁.own a _ hs₁).2
  refine hbc ?_
  clear hbc
  obtain rfl := Rel.inv rv1
  obtain ⟨_, rfl⟩ := Rel.inv ru1
  obtain ⟨v2, hbo2, rself2⟩ := (i₁.own b _ hb₁).2
  refine ⟨_, _, ho1, hbo2, i₁.base fn fo hf ht, ⟨x.toArray⟩, t, rfl, ?_⟩
  by_cases hux : u = x
  · subst hux
    rw [if_pos rfl]
    intro h' g k
    obtain ⟨i', e'⟩ := i₁.set (s' := { s₁ with heap := h' }) (p' := .cend) hs₁ k (fun v e => by cases e) g rfl rfl
    exact hq none none _ _ (q1 rfl) i' (e₁.trans e') trivial
  · rw [if_neg (by intro z; apply hux; injection z with z; exact Array.toList_inj.mpr z)]
    exact hq (some _) (some _) _ _ (q2 hux) i₁ e₁ (.str x t)
/-- a row told from its end -/
theorem bi_reversed {vs : List V} (q : ∀ a, σ a = none → Q (.loc a) (upd σ a (some (.riter vs vs.length)))) : CallV C d (.raw (.type "reversed")) [.lst vs] σ Q X := fun A s f l ha hi hf hr QM hq => by
  obtain ⟨x, rfl, hx⟩ := rels1 hr
  (first | obtain ⟨_, rfl⟩ := Rel.inv hf | obtain rfl := Rel.inv hf | cases hf)
  cases hx with
  | lst ho hσ ht hrs =>
    rename_i b items n
    have hn := get?_ge (Nat.le_refl s.heap.objs.size)
    refine call_reversed ho fun h' g k => ?_
    have e : (items.toArray.size : Int) = vs.length := by rw [← hrs.length]; simp
    obtain ⟨i', e'⟩ := hi.new (s' := { s with heap := h' }) (p := .riter vs vs.length) hn hi.size k ⟨b, by rw [← e]; exact g, (Rel.lst ho hσ ht hrs).mono ⟨fun b o e _ _ _ => k b o e, fun b o e _ hb _ => by
      rw [upd_ne σ _ (fun z => by rw [z, hn] at e; cases e)]; exact hb⟩⟩ rfl rfl
    exact hq _ _ _ _ (q _ (hi.off hn)) i' e' (.loc _)
theorem bi_iter2 {b : Addr} {f : Value} {self : V} {u : List Nat} (hb : σ b = some (.bound f self)) (q : ∀ a, σ a = none → Q (.loc a) (upd σ a (some (.citer (.loc b) (.str u))))) : CallV C d (.raw (.builtin "iter")) [.loc b, .str u] σ Q X := fun A s fv l ha hi hf hr QM hq => by
  refine Classical.byContradiction fun hbc => ?_
  obtain ⟨x, y, rfl, hx, hy⟩ := rels2 hr
  (first | obtain ⟨_, rfl⟩ := Rel.inv hf | obtain rfl := Rel.inv hf | cases hf); (first | obtain ⟨_, rfl⟩ := Rel.inv hx | obtain rfl := Rel.inv hx | cases hx); (first | obtain ⟨_, rfl⟩ := Rel.inv hy | obtain rfl := Rel.inv hy | cases hy)
  obtain ⟨v, ho, _⟩ := (hi.own b _ hb).2
  refine hbc ?_
  clear hbc
  have hn := get?_ge (Nat.le_refl s.heap.objs.size)
  refine call_iter2 (fun A E Q h => ?_) fun h' g k => ?_
  · obtain ⟨m, hm⟩ := meth_callable
    exact wpAny_specialOf ⟨_, ho, rfl⟩ hm (h m)
  · obtain ⟨i', e'⟩ := hi.new (s' := { s with heap := h' }) (p := .citer (.loc b) (.str u)) hn hi.size k ⟨_, _, g, .loc b, .str u _⟩ rfl rfl
    exact hq _ _ _ _ (q _ (hi.off hn)) i' e' (.loc _)
inductive ForO (C : Ctx) (K : Kx) (env : Env) (J : Nat → Fm → Store → Prop) (σ₁ : Store) (h₁ : Heap) (n : Nat) (s' : Shared) : Prop
  | mk (ρ₁ : Fm) (σ₂ : Store) (hJ : J n ρ₁ σ₂) (hr : Rep C K env ρ₁ σ₂ s'.heap) (hi : Inv C σ₂ s') (E : ExtF C env σ₁ h₁ σ₂ s'.heap)
theorem st_forO {target iter : Expr} {b : List Stmt} {pos : Pos} {Q : Fl → Fm → Store → Prop}
    (h : EvP C K ρ σ iter (fun v σ₁ => ∃ a p, v = .loc a ∧ σ₁ a = some p ∧ IsIt p ∧ ∃ (J : Nat → Fm → Store → Prop) (n : Nat), J n ρ σ₁ ∧ ∀ n ρ₁ σ₂, J n ρ₁ σ₂ →
      NxP C K.d a σ₂ (fun ox σ₃ => match ox with | none => Q .next ρ₁ σ₃ | some x => (∃ p, σ₃ a = some p ∧ IsIt p) ∧ AsP C K ρ₁ σ₃ target x (fun ρ₂ σ₄ => ExP C K ρ₂ σ₄ b (Turn J n Q) Bot) Bot) Bot) X)
    (hs : ∀ env x, foldedSetIterable iter env x = pure x := by intro _ _; rfl) : StP C K ρ σ (.For target iter b [] pos) Q X := fun A env s ha hr hi QM hq => by
  refine wpAny_For (h A env s ha hr hi _ fun v pv σ₁ s₁ h₁ i₁ e₁ r₁ => ?_) (hs env)
  refine Classical.byContradiction fun hbc => ?_
  obtain ⟨a, p, rfl, hp, hI, J, n, hJ, turn⟩ := h₁
  refine hbc ?_
  clear hbc
  (first | obtain ⟨_, rfl⟩ := Rel.inv r₁ | obtain rfl := Rel.inv r₁ | cases r₁)
  refine iter_own i₁ hp hI ?_
  refine codeAny_forLoop_any (ForO C K env J σ₁ s₁.heap) ?_ n ⟨ρ, σ₁, hJ, hr.mono e₁, i₁, .refl⟩
  rintro n s' ⟨ρ₁, σ₂, hJ, hr', hi', E'⟩
  refine wpAny_mono (turn n ρ₁ σ₂ hJ A s' ha hi' _ fun ov pov σ₃ s₂ q i₂ e₂ r₂ => ?_) (fun _ _ h => h) fun _ _ x => x.elim
  cases pov with
  | none =>
    cases ov with
    | some v => exact r₂.elim
    | none => exact wpAny_execs_nil (hq .next .next ρ₁ σ₃ s₂ q trivial (hr'.mono e₂) i₂ (e₁.toF.trans (E'.trans e₂.toF)))
  | some x =>
    cases ov with
    | none => exact r₂.elim
    | some v =>
      obtain ⟨⟨p', hp', hI'⟩, q⟩ := q
      refine own_goI i₂ hp' hI' ?_
      refine wpAny_mono (q A env s₂ v ha (hr'.mono e₂) i₂ r₂ _ fun ρ₂ σ₄ s₃ q hr₃ i₃ E₃ => ?_) (fun _ _ h => h) fun _ _ x => x.elim
      refine wpAny_mono (q A env s₃ ha hr₃ i₃ _ fun f fl ρ₃ σ₅ s₄ q rf hr₄ i₄ E₄ => ?_) (fun _ _ h => h) fun _ _ x => x.elim
      have EE := (((E'.trans e₂.toF).trans E₃).trans E₄)
      cases fl with
      | next => cases f <;> first | exact rf.elim | (obtain ⟨m, hm, hJ⟩ := q; exact ⟨m, hm, ρ₃, σ₅, hJ, hr₄, i₄, EE⟩)
      | cont => cases f <;> first | exact rf.elim | (obtain ⟨m, hm, hJ⟩ := q; exact ⟨m, hm, ρ₃, σ₅, hJ, hr₄, i₄, EE⟩)
      | brk => cases f <;> first | exact rf.elim | exact hq .next .next ρ₃ σ₅ s₄ q trivial hr₄ i₄ (e₁.toF.trans EE)
      | ret v => cases f <;> first | exact rf.elim | exact hq _ (.ret v) ρ₃ σ₅ s₄ q rf hr₄ i₄ (e₁.toF.trans EE)
end
end Mine
end
section
open PySem PySem.W PyProof.Rows PySem.Calls
namespace Mine
section
variable {C : Ctx} {K : Kx} {ρ : Fm} {σ : Store} {X : Value → Shared → Prop} {d : Nat} {Q : V → Store → Prop}
theorem ev_globalI (O : C.Ok) {x : Str} {pos : Pos} {i : Int} {t : Tok} (hk : K.names.lookup x = some .globalImplicit) (hv : C.mg x = some (.int i t)) (h : Q (.int i) σ) (hd : (x == ("__debug__" : Str)) = false := by decide) :
    EvP C K ρ σ (.Name x pos) Q X := fun A env s ha hr hi QM hq =>
  Name_function_global hr.kind ((congrArg (·.lookup x) hr.names).trans hk) (loadGlobal_global (hr.glob ▸ hi.ns O.g O.gt) hv (hq _ _ _ _ h hi .refl (.int i t))) hd
/-- what is to be checked of a function once -/
noncomputable def fnB (R : FnRec) (names : List Str) : Bool :=
  (R.scope.kind == .function) && !R.scope.isCoroutine && !R.scope.isGenerator && decide names.Nodup && names.all (fun x => R.scope.names.lookup x == some .local) && R.scope.names.all (fun x => x.2 != .cell)
theorem fnB.use {R : FnRec} {names : List Str} (h : fnB R names = true) : R.scope.kind = .function ∧ R.scope.isCoroutine = false ∧ R.scope.isGenerator = false ∧ names.Nodup ∧ (∀ x ∈ names, R.scope.names.lookup x = some .local) ∧ ∀ x ∈ R.scope.names, x.2 ≠ .cell := by
  unfold fnB at h
  simp only [Bool.and_eq_true, beq_iff_eq, Bool.not_eq_true', decide_eq_true_eq, List.all_eq_true, bne_iff_ne] at h
  refine Classical.byContradiction fun hbc => ?_
  obtain ⟨⟨⟨⟨⟨h1, h2⟩, h3⟩, h4⟩, h5⟩, h6⟩ := h
  refine hbc ?_
  clear hbc
  exact ⟨h1, h2, h3, h4, h5, h6⟩
theorem cv_fn' (O : C.Ok2) {f : Addr} {R : FnRec} {code : Value} {body : List Stmt} {names : List Str} {args : List V} {ρ : Fm} (hf : FnB C f R code) (hbind : Binds R names) (hck : fnB R names = true) (hb : R.body = .stmts body) (hρ : pslots names args = ρ) (hlen : args.length = names.length)
    (h : ExP C (KxOf R code d) ρ σ body (RetQ Q) Bot) : CallV C (d + 1) (.raw (.ref f)) args σ Q X := by
  refine Classical.byContradiction fun hbc => ?_
  obtain ⟨h1, h2, h3, h4, h5, h6⟩ := fnB.use hck
  refine hbc ?_
  clear hbc
  subst hρ
  exact cv_fn O hf hb hbind h4 hlen h5 h6 h1 h2 h3 h
theorem code_fn' (O : C.Ok2) {f : Addr} {R : FnRec} {code : Value} {body : List Stmt} {names : List Str} {args : List V} {ρ : Fm} (hf : FnB C f R code) (hbind : Binds R names) (hck : fnB R names = true) (hb : R.body = .stmts body) (hρ : pslots names args = ρ) (hlen : args.length = names.length)
    (h : ExP C (KxOf R code d) ρ σ body (RetQ Q) Bot) : CodeV C (d + 1) (.ref f) args σ Q X := by
  refine Classical.byContradiction fun hbc => ?_
  obtain ⟨h1, h2, h3, h4, h5, h6⟩ := fnB.use hck
  refine hbc ?_
  clear hbc
  subst hρ
  exact code_fn O hf hb hbind h4 hlen h5 h6 h1 h2 h3 h
/-- what is to be checked of a function with cells of its own -/
noncomputable def fnC (R : FnRec) (names emps : List Str) : Bool :=
  (R.scope.kind == .function) && !R.scope.isCoroutine && !R.scope.isGenerator && decide names.Nodup && names.all (fun x => R.scope.names.lookup x == some .local || R.scope.names.lookup x == some .cell) && emps.all (fun x => !names.contains x && R.scope.names.lookup x == some .cell)
theorem cellsFrom_has : ∀ {names : List (Str × NameKind)} {n : Nat} {acc : List (Str × Addr)} {x : Str}, (names.lookup x = some .cell ∨ (acc.lookup x).isSome = true) → ((cellsFrom n names acc).lookup x).isSome = true := by
  intro names
  induction names with
  | nil => intro n acc x h; rcases h with h | h
           · cases h
           · exact h
  | cons p r ih =>
    intro n acc x h
    obtain ⟨y, k⟩ := p
    unfold cellsFrom
    by_cases hxy : x = y
    · subst hxy
      split
      · exact ih (.inr (by simp))
      · rename_i hk
        rcases h with h | h
        · rw [List.lookup_cons, beq_self_eq_true] at h; cases h; simp at hk
        · exact ih (.inr h)
    · have e : (x == y) = false := by simpa using hxy
      have h' : r.lookup x = some .cell ∨ (acc.lookup x).isSome = true := by
        rcases h with h | h
        · rw [List.lookup_cons, e] at h; exact .inl h
        · exact .inr h
      split
      · refine ih ?_
        rcases h' with h | h
        · exact .inl h
        · exact .inr (by rw [List.lookup_cons, e]; exact h)
      · exact ih h'
theorem cv_fnC' (O : C.Ok2) {f : Addr} {R : FnRec} {code : Value} {body : List Stmt} {names emps : List Str} {args : List V} {ρ : Fm} (hf : FnB C f R code) (hbind : Binds R names) (hck : fnC R names emps = true) (hb : R.body = .stmts body) (hρ : (pslots names args ++ emps.map fun x => (x, .emp)) = ρ) (hlen : args.length = names.length)
    (h : ExP C (KxOf R code d) ρ σ body (RetQ Q) Bot) : CallV C (d + 1) (.raw (.ref f)) args σ Q X := by
  unfold fnC at hck
  simp only [Bool.and_eq_true, beq_iff_eq, Bool.not_eq_true', decide_eq_true_eq, List.all_eq_true, Bool.or_eq_true] at hck
  refine Classical.byContradiction fun hbc => ?_
  obtain ⟨⟨⟨⟨⟨h1, h2⟩, h3⟩, h4⟩, h5⟩, h6⟩ := hck
  refine hbc ?_
  clear hbc
  subst hρ
  refine cv_fnC O hf hb hbind h4 hlen (fun x hx => ?_) (fun x hx => ⟨?_, (h6 x hx).2, fun n => cellsFrom_has (.inl (h6 x hx).2)⟩) h1 h2 h3 h
  · rcases h5 x hx with q | q
    · exact .inl q
    · exact .inr ⟨q, fun n => cellsFrom_has (.inl q)⟩
  · have := (h6 x hx).1
    intro q
    (first | obtain rfl := Option.some.inj ((List.contains_iff_mem.mpr q).symm.trans this) | exact absurd ((List.contains_iff_mem.mpr q).symm.trans this) (Option.some_ne_none _) | exact absurd ((List.contains_iff_mem.mpr q).symm.trans this).symm (Option.some_ne_none _) | exact (datN ((List.contains_iff_mem.mpr q).symm.trans this) rfl).elim | (rw [List.contains_iff_mem.mpr q] at this; cases this))
/-- a call whose own rows and cells nobody sees any more -/
inductive Frz (σ σ' : Store) : V → V → Prop where
  | same (v : V) (h : ∀ a, v ≠ .loc a) : Frz σ σ' v v
  | lst {a : Addr} {vs : List V} (h : σ' a = some (.list vs)) (hn : σ a = none) : Frz σ σ' (.loc a) (.lst vs)
theorem CallV.pure {fv : V} {args : List V} (h : CallV C d fv args σ (fun v σ' => (∀ a o, σ a = some o → σ' a = some o) ∧ ∃ v', Frz σ σ' v v' ∧ Q v' σ) X) : CallV C d fv args σ Q X := fun A s f vs ha hi hf hr QM hq =>
  h A s f vs ha hi hf hr QM fun v pv σ' s' q i' e' r' => by
    obtain ⟨sub, v', fz, q⟩ := q
    have E2 : Ext C σ' s'.heap σ s'.heap → True := fun _ => trivial
    have free : ∀ a, σ' a = none → σ a = none := fun a hn => by
      cases hs : σ a with
      | none => rfl
      | some o => (first | obtain rfl := Option.some.inj ((sub a o hs).symm.trans hn) | exact absurd ((sub a o hs).symm.trans hn) (Option.some_ne_none _) | exact absurd ((sub a o hs).symm.trans hn).symm (Option.some_ne_none _) | exact (datN ((sub a o hs).symm.trans hn) rfl).elim | (rw [sub a o hs] at hn; cases hn))
    have sq : SeqKeep C σ' s'.heap σ s'.heap := ⟨fun _ _ e _ _ _ => e, fun a o e _ hn _ => free a hn⟩
    have i'' : Inv C σ s' := by
      refine ⟨i'.base, i'.top, fun a o ho => ⟨(i'.own a o (sub a o ho)).1, ObjRel.swap sq (fun cd q y => ?_) (i'.own a o (sub a o ho)).2⟩, i'.tabLt, fun n hn => ?_, i'.gens, i'.os⟩
      · exact ⟨y.1, fun c e => ⟨free c (y.2 c e).1, (y.2 c e).2⟩⟩
      · obtain ⟨ps, g, t, f⟩ := i'.tabs n hn
        exact ⟨ps, g, t, fun d hd cv hc => have y := f d hd cv hc; ⟨y.1, fun c e => ⟨free c (y.2 c e).1, (y.2 c e).2⟩⟩⟩
    have E : Ext C σ s.heap σ s'.heap := ⟨fun a o g hs ht => e'.keep a o g hs ht, fun a o g hs ht => hs, fun c v hc => ⟨v, hc⟩⟩
    refine hq v v' σ s' q i'' E ?_
    revert r'
    clear q
    cases fz with
    | same _ hne => exact fun r' => r'.mono sq
    | lst hl hn =>
      intro r'
      obtain rfl := r'.inv
      refine Classical.byContradiction fun hbc => ?_
      obtain ⟨items, n, ho, hrs⟩ := (i'.own _ _ hl).2
      obtain ⟨items⟩ := items
      refine hbc ?_
      clear hbc
      exact .lst ho hn (i'.notTab (i'.own _ _ hl).1) (hrs.mono sq)
theorem mem_of_lookup' {β : Type} {x : Str} {v : β} : ∀ {l : List (Str × β)}, l.lookup x = some v → (x, v) ∈ l
  | (y, w) :: r, h => by
    rw [List.lookup_cons] at h
    by_cases hxy : x = y
    · subst hxy; (first | obtain rfl := Option.some.inj (beq_self_eq_true.symm.trans h) | exact absurd (beq_self_eq_true.symm.trans h) (Option.some_ne_none _) | exact absurd (beq_self_eq_true.symm.trans h).symm (Option.some_ne_none _) | exact (datN (beq_self_eq_true.symm.trans h) rfl).elim | (rw [beq_self_eq_true] at h; cases h)); exact List.mem_cons_self
    · rw [show (x == y) = false by simpa using hxy] at h; exact List.mem_cons_of_mem _ (mem_of_lookup' h)
theorem lookup_of_mem {β : Type} {x : Str} {v : β} : ∀ {l : List (Str × β)}, (l.map (·.1)).Nodup → (x, v) ∈ l → l.lookup x = some v
  | (y, w) :: r, hn, h => by
    rw [List.lookup_cons]
    have hn' := List.nodup_cons.mp hn
    rcases List.mem_cons.mp h with e | hm
    · cases e; rw [beq_self_eq_true]
    · have : x ≠ y := fun q => by
        rw [q] at hm
        exact hn'.1 (List.mem_map.mpr ⟨(y, v), hm, rfl⟩)
      rw [show (x == y) = false by simpa using this]; exact lookup_of_mem hn'.2 hm
theorem nodup_inj {β : Type} {x y : Str} {c : β} : ∀ {l : List (Str × β)}, (l.map (·.2)).Nodup → (x, c) ∈ l → (y, c) ∈ l → x = y
  | (z, w) :: r, hn, h1, h2 => by
    have hn' := List.nodup_cons.mp hn
    rcases List.mem_cons.mp h1 with e1 | m1 <;> rcases List.mem_cons.mp h2 with e2 | m2
    · cases e1; cases e2; rfl
    · cases e1; exact absurd (List.mem_map.mpr ⟨(y, c), m2, rfl⟩) hn'.1
    · cases e2; exact absurd (List.mem_map.mpr ⟨(x, c), m1, rfl⟩) hn'.1
    · exact nodup_inj hn'.2 m1 m2
noncomputable def fnL (R : FnRec) (names caps : List Str) : Bool :=
  fnB R names && decide caps.Nodup && caps.all (fun x => R.scope.names.lookup x == some .free)
theorem cv_loc' (O : C.Ok2) {a : Addr} {R : FnRec} {cap : List (Str × Addr)} {dd : Option Addr} {body : List Stmt} {names : List Str} {args : List V} {ρ : Fm} (hf : σ a = some (.func R cap dd)) (hbind : Binds R names) (hck : fnL R names (cap.map (·.1)) = true) (hb : R.body = .stmts body)
    (hlen : args.length = names.length) (hcell : ∀ p ∈ cap, ∃ o, σ p.2 = some (.cell o)) (hnd : (cap.map (·.2)).Nodup) (hρ : (pslots names args ++ cap.map fun p => (p.1, .sh p.2)) = ρ)
    (h : ∀ code, ExP C (KxOf R code d) ρ σ body (RetQ Q) Bot) : CallV C (d + 1) (.loc a) args σ Q X := by
  unfold fnL at hck
  simp only [Bool.and_eq_true, decide_eq_true_eq, List.all_eq_true, beq_iff_eq] at hck
  refine Classical.byContradiction fun hbc => ?_
  obtain ⟨⟨h0, h7⟩, h8⟩ := hck
  obtain ⟨h1, h2, h3, h4, h5, h6⟩ := fnB.use h0
  refine hbc ?_
  clear hbc
  subst hρ
  refine cv_loc O hf hb hbind h4 hlen h5 h6 (fun x c e => hcell _ (mem_of_lookup' e)) (fun x y c e1 e2 => nodup_inj hnd (mem_of_lookup' e1) (mem_of_lookup' e2)) (fun p hp => ?_) h1 h2 h3 h
  obtain ⟨q, hq, rfl⟩ := List.mem_map.mp hp
  exact ⟨q.2, rfl, lookup_of_mem h7 hq, h8 _ (List.mem_map_of_mem hq)⟩
theorem cv_lam' (O : C.Ok2) {a : Addr} {R : FnRec} {cap : List (Str × Addr)} {dd : Option Addr} {body : Expr} {names : List Str} {args : List V} {ρ : Fm} (hf : σ a = some (.func R cap dd)) (hbind : Binds R names) (hck : fnL R names (cap.map (·.1)) = true) (hb : R.body = .expr body)
    (hlen : args.length = names.length) (hcell : ∀ p ∈ cap, ∃ o, σ p.2 = some (.cell o)) (hnd : (cap.map (·.2)).Nodup) (hρ : (pslots names args ++ cap.map fun p => (p.1, .sh p.2)) = ρ)
    (h : ∀ code, EvP C (KxOf R code d) ρ σ body Q Bot) : CallV C (d + 1) (.loc a) args σ Q X := by
  unfold fnL at hck
  simp only [Bool.and_eq_true, decide_eq_true_eq, List.all_eq_true, beq_iff_eq] at hck
  refine Classical.byContradiction fun hbc => ?_
  obtain ⟨⟨h0, h7⟩, h8⟩ := hck
  obtain ⟨h1, h2, h3, h4, h5, h6⟩ := fnB.use h0
  refine hbc ?_
  clear hbc
  subst hρ
  refine cv_lam O hf hb hbind h4 hlen h5 h6 (fun x c e => hcell _ (mem_of_lookup' e)) (fun x y c e1 e2 => nodup_inj hnd (mem_of_lookup' e1) (mem_of_lookup' e2)) (fun p hp => ?_) h1 h2 h3 h
  obtain ⟨q, hq, rfl⟩ := List.mem_map.mp hp
  exact ⟨q.2, rfl, lookup_of_mem h7 hq, h8 _ (List.mem_map_of_mem hq)⟩
theorem upd_none {o : PObj} {a b : Addr} (h : upd σ a (some o) b = none) : b ≠ a ∧ σ b = none := by
  by_cases e : b = a
  · subst e; (first | obtain rfl := Option.some.inj (upd_self.symm.trans h) | exact absurd (upd_self.symm.trans h) (Option.some_ne_none _) | exact absurd (upd_self.symm.trans h).symm (Option.some_ne_none _) | exact (datN (upd_self.symm.trans h) rfl).elim | (rw [upd_self] at h; cases h))
  · exact ⟨e, by rwa [upd_ne σ _ e] at h⟩
noncomputable def Sub (σ σ' : Store) : Prop := ∀ a o, σ a = some o → σ' a = some o
theorem Sub.refl : Sub σ σ := fun _ _ h => h
theorem Sub.upd {σ' : Store} {a : Addr} {o : Option PObj} (h : Sub σ σ') (hn : σ a = none) : Sub σ (upd σ' a o) := fun b p hb => by
  rw [upd_ne _ _ (fun q => by rw [q, hn] at hb; cases hb)]; exact h b p hb
theorem upd_of {o : Option PObj} {a b : Addr} {p : Option PObj} (h : b ≠ a) (e : σ b = p) : upd σ a o b = p := by rw [upd_ne _ _ h]; exact e
end
end Mine
end
section
open PySem PySem.W PyProof.Rows PySem.Calls
namespace Mine
/-! plain arithmetic -/
theorem bitAnd_nat (a b : Nat) : Builtin.bitAnd a b = ((a &&& b : Nat) : Int) := by
  unfold Builtin.bitAnd
  rw [decide_eq_true (Int.natCast_nonneg a), decide_eq_true (Int.natCast_nonneg b)]
  simp only [Int.toNat_natCast]
theorem bitOr_nat (a b : Nat) : Builtin.bitOr a b = ((a ||| b : Nat) : Int) := by
  unfold Builtin.bitOr Builtin.bitAnd
  have h (x : Nat) : decide (0 ≤ Builtin.bitNot x) = false := by unfold Builtin.bitNot; simp; lia
  have h2 (x : Nat) : Builtin.bitNot (Builtin.bitNot x) = x := by unfold Builtin.bitNot; lia
  rw [h, h]
  simp only [h2, Int.toNat_natCast]
theorem or_add_of_and : ∀ (a b : Nat), a &&& b = 0 → a ||| b = a + b := by
  intro a
  induction a using Nat.strongRecOn with
  | _ a ih =>
    intro b h
    by_cases ha : a = 0
    · subst ha; simp
    · have h2 : (a / 2) &&& (b / 2) = 0 := by rw [← Nat.and_div_two, h]
      have i := ih (a / 2) (by lia) (b / 2) h2
      have d : (a ||| b) / 2 = a / 2 + b / 2 := by rw [Nat.or_div_two, i]
      have t0 : (a &&& b).testBit 0 = false := by rw [h]; simp
      have t1 : (a ||| b).testBit 0 = (a.testBit 0 || b.testBit 0) := Nat.testBit_or ..
      rw [Nat.testBit_and] at t0
      simp only [Nat.testBit_zero] at t0 t1
      have m : (a ||| b) % 2 = a % 2 + b % 2 := by
        have b1 := Nat.mod_two_eq_zero_or_one a
        have b2 := Nat.mod_two_eq_zero_or_one b
        have b3 := Nat.mod_two_eq_zero_or_one (a ||| b)
        have q0 : ¬ (a % 2 = 1 ∧ b % 2 = 1) := by simpa using t0
        have q1 : (a ||| b) % 2 = 1 ↔ (a % 2 = 1 ∨ b % 2 = 1) := by
          constructor
          · intro h; rw [h] at t1; simpa using t1.symm
          · intro h
            have : (decide (a % 2 = 1) || decide (b % 2 = 1)) = true := by simpa using h
            rw [this] at t1; simpa using t1
        omega
      omega
theorem or_eq_xor_add_and (a b : Nat) : a ||| b = (a ^^^ b) + (a &&& b) := by
  have h1 : (a ^^^ b) &&& (a &&& b) = 0 := by
    apply Nat.eq_of_testBit_eq; intro i
    simp only [Nat.testBit_and, Nat.testBit_xor, Nat.zero_testBit]
    cases a.testBit i <;> cases b.testBit i <;> rfl
  have h2 : a ||| b = (a ^^^ b) ||| (a &&& b) := by
    apply Nat.eq_of_testBit_eq; intro i
    simp only [Nat.testBit_and, Nat.testBit_xor, Nat.testBit_or]
    cases a.testBit i <;> cases b.testBit i <;> rfl
  rw [h2]; exact or_add_of_and _ _ h1
theorem bitXor_nat (a b : Nat) : Builtin.bitXor a b = ((a ^^^ b : Nat) : Int) := by
  unfold Builtin.bitXor
  rw [bitOr_nat, bitAnd_nat, or_eq_xor_add_and]; simp
theorem shr_nat (a n : Nat) : (a : Int).fdiv (2 ^ ((n : Int).toNat)) = ((a / 2 ^ n : Nat) : Int) := by
  rw [Int.toNat_natCast, Int.fdiv_eq_ediv_of_nonneg _ (by exact_mod_cast Nat.zero_le (2^n))]
  simp
theorem shl_nat (a n : Nat) : (a : Int) * (2 ^ ((n : Int).toNat)) = ((a * 2 ^ n : Nat) : Int) := by
  rw [Int.toNat_natCast]; simp
noncomputable def nbits (a : Nat) : Nat := if a = 0 then 0 else a.log2 + 1
theorem intBits_nat (a : Nat) : Builtin.Int.intBits a = nbits a := by
  unfold Builtin.Int.intBits nbits; simp
theorem nbits_le {a k : Nat} (h : a < 2 ^ k) : nbits a ≤ k := by
  unfold nbits
  split
  · exact Nat.zero_le _
  · rename_i h0
    exact (Nat.log2_lt h0).mpr h
theorem lt_nbits (a : Nat) : a < 2 ^ nbits a := by
  unfold nbits
  split
  · rename_i h; subst h; decide
  · exact Nat.lt_log2_self
theorem xor_low (x s : Nat) : x ^^^ (x / 2 ^ s * 2 ^ s) = x % 2 ^ s := by
  apply Nat.eq_of_testBit_eq; intro i
  rw [Nat.testBit_xor, Nat.testBit_mod_two_pow, ← Nat.shiftLeft_eq, Nat.testBit_shiftLeft, ← Nat.shiftRight_eq_div_pow, Nat.testBit_shiftRight]
  by_cases h : i < s
  · simp [h, Nat.not_le.mpr h]
  · have e : s + (i - s) = i := by lia
    have g : s ≤ i := by lia
    simp [h, g, e]
noncomputable def d2i (n : Nat) : List Nat → Nat
  | [] => 0
  | d :: r => d + 2 ^ n * d2i n r
noncomputable def i2d (n : Nat) : Nat → Nat → List Nat
  | 0, _ => []
  | k + 1, x => x % 2 ^ n :: i2d n k (x / 2 ^ n)
theorem i2d_length (n : Nat) : ∀ k x, (i2d n k x).length = k
  | 0, _ => rfl
  | k + 1, x => by simp [i2d, i2d_length n k]
theorem d2i_append (n : Nat) : ∀ xs ys, d2i n (xs ++ ys) = d2i n xs + 2 ^ (n * xs.length) * d2i n ys
  | [], ys => by simp [d2i]
  | x :: xs, ys => by
    simp only [List.cons_append, d2i, d2i_append n xs ys, List.length_cons]
    rw [Nat.mul_add, ← Nat.mul_assoc, ← Nat.pow_add, Nat.add_assoc, Nat.mul_add n, Nat.mul_one, Nat.add_comm n]
theorem i2d_add (n : Nat) : ∀ a b x, i2d n (a + b) x = i2d n a x ++ i2d n b (x / 2 ^ (n * a))
  | 0, b, x => by simp [i2d]
  | a + 1, b, x => by
    rw [Nat.add_right_comm]
    simp only [i2d, List.cons_append]
    rw [i2d_add n a b, Nat.div_div_eq_div_mul, ← Nat.pow_add, Nat.mul_add, Nat.mul_one, Nat.add_comm n]
theorem i2d_mod (n : Nat) : ∀ a x, i2d n a (x % 2 ^ (n * a)) = i2d n a x
  | 0, x => rfl
  | a + 1, x => by
    simp only [i2d]
    have e : 2 ^ (n * (a + 1)) = 2 ^ n * 2 ^ (n * a) := by rw [Nat.mul_add, Nat.mul_one, Nat.add_comm, Nat.pow_add]
    rw [e, Nat.mod_mul_right_mod, ← i2d_mod n a (x / 2 ^ n), Nat.mod_mul_right_div_self]
theorem d2i_i2d (n : Nat) : ∀ k x, d2i n (i2d n k x) = x % 2 ^ (n * k)
  | 0, x => by simp [d2i, i2d, Nat.mod_one]
  | k + 1, x => by
    simp only [i2d, d2i, d2i_i2d n k]
    have e : 2 ^ (n * (k + 1)) = 2 ^ n * 2 ^ (n * k) := by rw [Nat.mul_add, Nat.mul_one, Nat.add_comm, Nat.pow_add]
    rw [e, Nat.mod_mul]
theorem i2d_lt (n : Nat) : ∀ k x, ∀ d ∈ i2d n k x, d < 2 ^ n
  | 0, _, _, h => by cases h
  | k + 1, x, d, h => by
    rcases List.mem_cons.mp h with rfl | h
    · exact Nat.mod_lt _ (Nat.two_pow_pos n)
    · exact i2d_lt n k _ d h
theorem d2i_lt (n : Nat) : ∀ xs : List Nat, (∀ x ∈ xs, x < 2 ^ n) → d2i n xs < 2 ^ (n * xs.length)
  | [], _ => by simp [d2i]
  | x :: xs, h => by
    have h1 := h x List.mem_cons_self
    have h2 := d2i_lt n xs fun y hy => h y (List.mem_cons_of_mem _ hy)
    simp only [d2i, List.length_cons]
    have e : 2 ^ (n * (xs.length + 1)) = 2 ^ n * 2 ^ (n * xs.length) := by rw [Nat.mul_add, Nat.mul_one, Nat.add_comm, Nat.pow_add]
    rw [e]
    calc x + 2 ^ n * d2i n xs < 2 ^ n + 2 ^ n * d2i n xs := by lia
      _ = 2 ^ n * (d2i n xs + 1) := by rw [Nat.mul_add, Nat.mul_one, Nat.add_comm]
      _ ≤ 2 ^ n * 2 ^ (n * xs.length) := Nat.mul_le_mul_left _ h2
end Mine
end
section
open PySem PySem.W PyProof.Rows PySem.Calls
namespace Mine
section
variable {C : Ctx} {K : Kx} {ρ : Fm} {σ : Store} {X : Value → Shared → Prop} {d : Nat} {Q : V → Store → Prop}
/-! numbers that are naturals -/
theorem bn_add (a b : Nat) (q : Q (.int ((a + b : Nat) : Int)) σ) : M2 C d (binaryOp .Add) (.int (a : Int)) (.int (b : Int)) σ Q X := bin_ (.add _ _) (by simpa using q)
theorem bn_addL (a k : Nat) (q : Q (.int ((a + (OfNat.ofNat k) : Nat) : Int)) σ) : M2 C d (binaryOp .Add) (.int (a : Int)) (.int (OfNat.ofNat k)) σ Q X := bn_add a k q
theorem bn_addR (k b : Nat) (q : Q (.int (((OfNat.ofNat k) + b : Nat) : Int)) σ) : M2 C d (binaryOp .Add) (.int (OfNat.ofNat k)) (.int (b : Int)) σ Q X := bn_add k b q
theorem bn_sub (a b : Nat) (h : b ≤ a) (q : Q (.int ((a - b : Nat) : Int)) σ) : M2 C d (binaryOp .Sub) (.int (a : Int)) (.int (b : Int)) σ Q X := bin_ (.sub _ _) (by rw [← Int.ofNat_sub h]; exact q)
theorem bn_subL (a k : Nat) (h : (OfNat.ofNat k) ≤ a) (q : Q (.int ((a - (OfNat.ofNat k) : Nat) : Int)) σ) : M2 C d (binaryOp .Sub) (.int (a : Int)) (.int (OfNat.ofNat k)) σ Q X := bn_sub a k h q
theorem bn_mul (a b : Nat) (h : IntMulOk a b) (q : Q (.int ((a * b : Nat) : Int)) σ) : M2 C d (binaryOp .Mult) (.int (a : Int)) (.int (b : Int)) σ Q X := bin_ (.mul _ _ h) (by simpa using q)
theorem fdivN (a b : Nat) : (a : Int).fdiv b = ((a / b : Nat) : Int) := by rw [Int.fdiv_eq_ediv_of_nonneg _ (Int.natCast_nonneg b)]; rfl
theorem fmodN (a b : Nat) : (a : Int).fmod b = ((a % b : Nat) : Int) := by rw [Int.fmod_eq_emod_of_nonneg _ (Int.natCast_nonneg b)]; rfl
theorem bn_fdiv (a b : Nat) (h : b ≠ 0) (hp : b.log2 < 9000) (q : Q (.int ((a / b : Nat) : Int)) σ) : M2 C d (binaryOp .FloorDiv) (.int (a : Int)) (.int (b : Int)) σ Q X := bin_ (.fdiv _ _ (by lia) (by simpa using hp)) (by rw [fdivN]; exact q)
theorem bn_fdivL (a k : Nat) (h : (OfNat.ofNat k) ≠ 0) (hp : (OfNat.ofNat k).log2 < 9000) (q : Q (.int ((a / (OfNat.ofNat k) : Nat) : Int)) σ) : M2 C d (binaryOp .FloorDiv) (.int (a : Int)) (.int (OfNat.ofNat k)) σ Q X := bn_fdiv a k h hp q
theorem bn_mod (a b : Nat) (h : b ≠ 0) (hp : b.log2 < 9000) (q : Q (.int ((a % b : Nat) : Int)) σ) : M2 C d (binaryOp .Mod) (.int (a : Int)) (.int (b : Int)) σ Q X := bin_ (.mod _ _ (by lia) (by simpa using hp)) (by rw [fmodN]; exact q)
theorem bn_modL (a k : Nat) (h : (OfNat.ofNat k) ≠ 0) (hp : (OfNat.ofNat k).log2 < 9000) (q : Q (.int ((a % (OfNat.ofNat k) : Nat) : Int)) σ) : M2 C d (binaryOp .Mod) (.int (a : Int)) (.int (OfNat.ofNat k)) σ Q X := bn_mod a k h hp q
theorem bn_and (a b : Nat) (q : Q (.int ((a &&& b : Nat) : Int)) σ) : M2 C d (binaryOp .BitAnd) (.int (a : Int)) (.int (b : Int)) σ Q X := bin_ (.and _ _) (by rw [bitAnd_nat]; exact q)
theorem bn_and1 (a : Nat) (q : Q (.int ((a % 2 : Nat) : Int)) σ) : M2 C d (binaryOp .BitAnd) (.int (a : Int)) (.int 1) σ Q X := bn_and a 1 (by rw [Nat.and_one_is_mod]; exact q)
theorem bn_xor (a b : Nat) (q : Q (.int ((a ^^^ b : Nat) : Int)) σ) : M2 C d (binaryOp .BitXor) (.int (a : Int)) (.int (b : Int)) σ Q X := bin_ (.xor _ _) (by rw [bitXor_nat]; exact q)
theorem bn_shl (a n : Nat) (h : nbits a + n ≤ 2 ^ 27) (q : Q (.int ((a * 2 ^ n : Nat) : Int)) σ) : M2 C d (binaryOp .LShift) (.int (a : Int)) (.int (n : Int)) σ Q X :=
  bin_ (.shl _ _ (Int.natCast_nonneg n) (by rw [intBits_nat]; lia)) (by rw [shl_nat]; exact q)
theorem bn_shlR (k n : Nat) (h : nbits (OfNat.ofNat k) + n ≤ 2 ^ 27) (q : Q (.int (((OfNat.ofNat k) * 2 ^ n : Nat) : Int)) σ) : M2 C d (binaryOp .LShift) (.int (OfNat.ofNat k)) (.int (n : Int)) σ Q X := bn_shl k n h q
theorem bn_shr (a n : Nat) (q : Q (.int ((a / 2 ^ n : Nat) : Int)) σ) : M2 C d (binaryOp .RShift) (.int (a : Int)) (.int (n : Int)) σ Q X := bin_ (.shr _ _ (Int.natCast_nonneg n)) (by rw [shr_nat]; exact q)
theorem bn_shr1 (a : Nat) (q : Q (.int ((a / 2 : Nat) : Int)) σ) : M2 C d (binaryOp .RShift) (.int (a : Int)) (.int 1) σ Q X := bn_shr a 1 (by simpa using q)
theorem bn_pow (a n : Nat) (h : nbits a * n ≤ 2 ^ 27) (q : Q (.int ((a ^ n : Nat) : Int)) σ) : M2 C d (binaryOp .Pow) (.int (a : Int)) (.int (n : Int)) σ Q X :=
  bin_ (.pow _ _ (Int.natCast_nonneg n) (by rw [intBits_nat]; exact_mod_cast h)) (by rw [Int.toNat_natCast]; simpa using q)
theorem bn_powR (k n : Nat) (h : nbits (OfNat.ofNat k) * n ≤ 2 ^ 27) (q : Q (.int (((OfNat.ofNat k) ^ n : Nat) : Int)) σ) : M2 C d (binaryOp .Pow) (.int (OfNat.ofNat k)) (.int (n : Int)) σ Q X := bn_pow k n h q
theorem in_add (a b : Nat) (q : Q (.int ((a + b : Nat) : Int)) σ) : M2 C d (inplaceOp .Add) (.int (a : Int)) (.int (b : Int)) σ Q X := ibin_ (.add _ _) (by simpa using q)
theorem in_addL (a k : Nat) (q : Q (.int ((a + (OfNat.ofNat k) : Nat) : Int)) σ) : M2 C d (inplaceOp .Add) (.int (a : Int)) (.int (OfNat.ofNat k)) σ Q X := in_add a k q
theorem natEq (a b : Nat) : (((a : Int) == (b : Int)) : Bool) = (a == b) := by
  by_cases h : a = b
  · subst h; simp
  · rw [beq_false_of_ne h, beq_false_of_ne (by lia)]
theorem natNe (a b : Nat) : (((a : Int) != (b : Int)) : Bool) = (a != b) := by unfold bne; rw [natEq]
theorem cn_eq (a b : Nat) (q : Q (.bool (a == b)) σ) : M2 C d (compareOp .Eq) (.int (a : Int)) (.int (b : Int)) σ Q X := cmp_ (.eq _ _) (by rw [natEq]; exact q)
theorem cn_eqL (a k : Nat) (q : Q (.bool (a == (OfNat.ofNat k))) σ) : M2 C d (compareOp .Eq) (.int (a : Int)) (.int (OfNat.ofNat k)) σ Q X := cn_eq a k q
theorem cn_ne (a b : Nat) (q : Q (.bool (a != b)) σ) : M2 C d (compareOp .NotEq) (.int (a : Int)) (.int (b : Int)) σ Q X := cmp_ (.ne _ _) (by rw [natNe]; exact q)
theorem cn_neL (a k : Nat) (q : Q (.bool (a != (OfNat.ofNat k))) σ) : M2 C d (compareOp .NotEq) (.int (a : Int)) (.int (OfNat.ofNat k)) σ Q X := cn_ne a k q
theorem cn_lt (a b : Nat) (q : Q (.bool (decide (a < b))) σ) : M2 C d (compareOp .Lt) (.int (a : Int)) (.int (b : Int)) σ Q X := cmp_ (.lt _ _) (by simpa using q)
theorem cn_ltL (a k : Nat) (q : Q (.bool (decide (a < (OfNat.ofNat k)))) σ) : M2 C d (compareOp .Lt) (.int (a : Int)) (.int (OfNat.ofNat k)) σ Q X := cn_lt a k q
theorem cn_gt (a b : Nat) (q : Q (.bool (decide (b < a))) σ) : M2 C d (compareOp .Gt) (.int (a : Int)) (.int (b : Int)) σ Q X := cmp_ (.gt _ _) (by simpa using q)
theorem cn_gtL (a k : Nat) (q : Q (.bool (decide ((OfNat.ofNat k) < a))) σ) : M2 C d (compareOp .Gt) (.int (a : Int)) (.int (OfNat.ofNat k)) σ Q X := cn_gt a k q
theorem mulOk_small {a b : Nat} (h : a < 2 ^ 64 ∨ b < 2 ^ 64) : IntMulOk (a : Int) (b : Int) := by
  rcases h with h | h
  · exact .of_left (intBits_le_64 (by have : (0 : Int) ≤ a := Int.natCast_nonneg a
                                      have : (0:Int) < 2 ^ 64 := by decide
                                      omega) (by exact_mod_cast h))
  · exact .of_right (intBits_le_64 (by have : (0 : Int) ≤ b := Int.natCast_nonneg b
                                       have : (0:Int) < 2 ^ 64 := by decide
                                       omega) (by exact_mod_cast h))
theorem bn_divmod {a b : Nat} (hb : b ≠ 0) (hp : b.log2 < 9000) (q : Q (.tup [.int ((a / b : Nat) : Int), .int ((a % b : Nat) : Int)]) σ) : CallV C d (.raw (.builtin "divmod")) [.int (a : Int), .int (b : Int)] σ Q X :=
  bi_divmod (by lia) (by simpa using hp) (by rw [fdivN, fmodN]; exact q)
theorem bn_bitlen {a : Nat} (q : Q (.int (nbits a : Nat)) σ) : CallV C d (.raw (.builtin "int.bit_length")) [.int (a : Int)] σ Q X := bi_bitlen (by rw [intBits_nat]; exact q)
theorem gn_lst {pv : V} {vs : List V} {i : Nat} {x : V} (h : LV σ pv vs) (hx : vs[i]? = some x) (hl : vs.length < 2 ^ 25) (q : Q x σ) : M2 C d getItem pv (.int (i : Int)) σ Q X := gi_lst h (Int.natCast_nonneg i) (by rw [Int.toNat_natCast]; exact hx) hl q
theorem gn_tup {vs : List V} {i : Nat} {x : V} (hx : vs[i]? = some x) (hl : vs.length < 2 ^ 25) (q : Q x σ) : M2 C d getItem (.tup vs) (.int (i : Int)) σ Q X := gi_tup (Int.natCast_nonneg i) (by rw [Int.toNat_natCast]; exact hx) hl q
theorem tn_int {a : Nat} {Q : Bool → Store → Prop} (q : Q (a != 0) σ) : M1B C d (.int (a : Int)) σ Q X := tb_int (by
  have := natNe a 0
  rw [show ((0 : Nat) : Int) = 0 from rfl] at this
  rw [this]; exact q)
theorem len_0 {B : Prop} (h : B) : ([] : List V).length ≤ 2 ^ 24 ∧ B := ⟨by simp, h⟩
theorem len_1 {v0 : V} {B : Prop} (h : B) : ([v0] : List V).length ≤ 2 ^ 24 ∧ B := ⟨by simp, h⟩
theorem len_2 {v0 v1 : V} {B : Prop} (h : B) : ([v0, v1] : List V).length ≤ 2 ^ 24 ∧ B := ⟨by simp, h⟩
theorem len_3 {v0 v1 v2 : V} {B : Prop} (h : B) : ([v0, v1, v2] : List V).length ≤ 2 ^ 24 ∧ B := ⟨by simp, h⟩
theorem len_4 {v0 v1 v2 v3 : V} {B : Prop} (h : B) : ([v0, v1, v2, v3] : List V).length ≤ 2 ^ 24 ∧ B := ⟨by simp, h⟩
theorem len_5 {v0 v1 v2 v3 v4 : V} {B : Prop} (h : B) : ([v0, v1, v2, v3, v4] : List V).length ≤ 2 ^ 24 ∧ B := ⟨by simp, h⟩
theorem len_8 {v0 v1 v2 v3 v4 v5 v6 v7 : V} {B : Prop} (h : B) : ([v0, v1, v2, v3, v4, v5, v6, v7] : List V).length ≤ 2 ^ 24 ∧ B := ⟨by simp, h⟩
/-- a frame holds at least these -/
noncomputable def Has (ρ l : Fm) : Prop := ∀ p ∈ l, p ∈ ρ
theorem Has.nil : Has ρ [] := fun p h => by cases h
theorem Has.cons {p : Str × Slot} {l : Fm} (h : p ∈ ρ) (t : Has ρ l) : Has ρ (p :: l) := fun q hq => by
  rcases List.mem_cons.mp hq with rfl | hq
  · exact h
  · exact t q hq
theorem AsP.sub {ρ' : Fm} {t : Expr} {v : V} {Q : Fm → Store → Prop} (h : AsP C K ρ' σ t v Q X) (hs : Has ρ ρ') : AsP C K ρ σ t v Q X := fun A env s x ha hr hi hv QM hq => h A env s x ha (hr.sub hs) hi hv QM hq
theorem ExP.has {ρ' : Fm} {ss : List Stmt} {Q : Fl → Fm → Store → Prop} (h : ExP C K ρ' σ ss Q X) (hs : Has ρ ρ') : ExP C K ρ σ ss Q X := h.sub hs
theorem turn_next {J : Nat → Fm → Store → Prop} {n m : Nat} {Q : Fl → Fm → Store → Prop} (hm : m < n) (h : J m ρ σ) : Turn J n Q .next ρ σ := ⟨m, hm, h⟩
theorem turn_cont {J : Nat → Fm → Store → Prop} {n m : Nat} {Q : Fl → Fm → Store → Prop} (hm : m < n) (h : J m ρ σ) : Turn J n Q .cont ρ σ := ⟨m, hm, h⟩
theorem log2_lt_of {b k : Nat} (h0 : b ≠ 0) (h : b < 2 ^ k) : b.log2 < k := (Nat.log2_lt h0).mpr h
theorem ev_lit_e {k : Nat} {pos : Pos} (h : Q (.str []) σ) : EvP C K ρ σ (.Constant (.str "") k pos) Q X := by
  refine ev_str ?_
  rw [show (Str.ofString "").cps.toList = [] by decide +kernel]; exact h
theorem ev_lit_bs {k : Nat} {pos : Pos} (h : Q (.str [92]) σ) : EvP C K ρ σ (.Constant (.str "\\") k pos) Q X := by
  refine ev_str ?_
  rw [show (Str.ofString "\\").cps.toList = [92] by decide +kernel]; exact h
theorem ev_lit_dq {k : Nat} {pos : Pos} (h : Q (.str [34]) σ) : EvP C K ρ σ (.Constant (.str "\"") k pos) Q X := by
  refine ev_str ?_
  rw [show (Str.ofString "\"").cps.toList = [34] by decide +kernel]; exact h
theorem ev_lit_nl {k : Nat} {pos : Pos} (h : Q (.str [10]) σ) : EvP C K ρ σ (.Constant (.str "\n") k pos) Q X := by
  refine ev_str ?_
  rw [show (Str.ofString "\n").cps.toList = [10] by decide +kernel]; exact h
theorem ev_lit_sp {k : Nat} {pos : Pos} (h : Q (.str [32]) σ) : EvP C K ρ σ (.Constant (.str " ") k pos) Q X := by
  refine ev_str ?_
  rw [show (Str.ofString " ").cps.toList = [32] by decide +kernel]; exact h
theorem ev_lit_R {k : Nat} {pos : Pos} (h : Q (.str [82]) σ) : EvP C K ρ σ (.Constant (.str "R") k pos) Q X := by
  refine ev_str ?_
  rw [show (Str.ofString "R").cps.toList = [82] by decide +kernel]; exact h
theorem ev_lit_P {k : Nat} {pos : Pos} (h : Q (.str [80]) σ) : EvP C K ρ σ (.Constant (.str "P") k pos) Q X := by
  refine ev_str ?_
  rw [show (Str.ofString "P").cps.toList = [80] by decide +kernel]; exact h
end
end Mine
end
section
open PySem PySem.W PyProof.Rows PySem.Calls
namespace Mine
section
variable {C : Ctx} {K : Kx} {ρ : Fm} {σ : Store} {X : Value → Shared → Prop} {d : Nat} {Q : V → Store → Prop}
/-! loops over rows, by the number of turns done -/
noncomputable def TurnK (J : Nat → Fm → Store → Prop) (k : Nat) (Q : Fl → Fm → Store → Prop) : Fl → Fm → Store → Prop
  | .next, ρ₃, σ₃ => J (k + 1) ρ₃ σ₃
  | .cont, ρ₃, σ₃ => J (k + 1) ρ₃ σ₃
  | .brk, ρ₃, σ₃ => Q .next ρ₃ σ₃
  | .ret v, ρ₃, σ₃ => Q (.ret v) ρ₃ σ₃
theorem turnk_next {J : Nat → Fm → Store → Prop} {k : Nat} {Q : Fl → Fm → Store → Prop} (h : J (k + 1) ρ σ) : TurnK J k Q .next ρ σ := h
theorem st_forL {target iter : Expr} {b : List Stmt} {pos : Pos} {Q : Fl → Fm → Store → Prop}
    (h : EvP C K ρ σ iter (fun v σ₁ => ∃ items, Items v items ∧ ∃ J : Nat → Fm → Store → Prop, J 0 ρ σ₁ ∧
      (∀ k x ρ₁ σ₂, items[k]? = some x → J k ρ₁ σ₂ → AsP C K ρ₁ σ₂ target x (fun ρ₂ σ₃ => ExP C K ρ₂ σ₃ b (TurnK J k Q) Bot) Bot) ∧
      (∀ ρ₁ σ₂, J items.length ρ₁ σ₂ → Q .next ρ₁ σ₂)) X)
    (hs : ∀ env x, foldedSetIterable iter env x = pure x := by intro _ _; rfl) : StP C K ρ σ (.For target iter b [] pos) Q X := by
  refine st_for (h.mono fun v σ₁ hh => ?_) hs
  refine Classical.byContradiction fun hbc => ?_
  obtain ⟨items, hit, J, h0, turn, done⟩ := hh
  refine hbc ?_
  clear hbc
  refine ⟨items, hit, fun r ρ₁ σ₂ => ∃ k, r = items.drop k ∧ k ≤ items.length ∧ J k ρ₁ σ₂, ⟨0, rfl, Nat.zero_le _, h0⟩, ?_, ?_⟩
  · rintro x r ρ₁ σ₂ ⟨k, hr, hk, hJ⟩
    have hx : items[k]? = some x := by rw [← List.head?_drop, ← hr]; rfl
    have hr' : r = items.drop (k + 1) := by rw [← List.tail_drop, ← hr]; rfl
    have hlt : k < items.length := by
      rcases Nat.lt_or_ge k items.length with h | h
      · exact h
      · exact absurd ((List.getElem?_eq_none h).symm.trans hx) (Option.some_ne_none _).symm
    intro A env s v ha hr hi hv QM hq
    refine turn k x ρ₁ σ₂ hx hJ A env s v ha hr hi hv QM fun ρ' σ' s' q => hq ρ' σ' s' (q.mono fun f ρ₂ σ₃ hf => ?_)
    cases f with
    | next => exact ⟨k + 1, hr', hlt, hf⟩
    | cont => exact ⟨k + 1, hr', hlt, hf⟩
    | brk => exact hf
    | ret v => exact hf
  · rintro ρ₁ σ₂ ⟨k, hr, hk, hJ⟩
    have : k = items.length := by
      have := List.drop_eq_nil_iff.mp hr.symm; lia
    subst this
    exact done ρ₁ σ₂ hJ
theorem rngL_one (n : Nat) : ∀ a : Nat, rngL (a : Int) n 1 = (List.range n).map fun i => V.int ((a + i : Nat) : Int) := by
  induction n with
  | zero => intro a; rfl
  | succ n ih =>
    intro a
    rw [List.range_succ_eq_map, List.map_cons, List.map_map]
    unfold rngL
    rw [show (a : Int) + 1 = ((a + 1 : Nat) : Int) by lia, ih (a + 1)]
    congr 1
    exact List.map_congr_left fun i _ => by simp; lia
theorem items_rng (a b : Nat) (hb : b < 2 ^ 60) (hab : a < 2 ^ 60) : Items (.rng (a : Int) (b : Int) 1) ((List.range (b - a)).map fun i => V.int ((a + i : Nat) : Int)) := by
  have h := Items.rng (a : Int) (b : Int) 1 (small_one (by lia) (by lia) (by lia) (by lia))
  have e : (Builtin.Range.rangeSize (a : Int) (b : Int) 1).toNat = b - a := by
    unfold Builtin.Range.rangeSize
    split <;> split <;> lia
  rw [e, rngL_one] at h; exact h
theorem items_rng0 (b : Nat) (hb : b < 2 ^ 60) : Items (.rng 0 (b : Int) 1) ((List.range b).map fun i => V.int ((i : Nat) : Int)) := by
  have h := items_rng 0 b hb (by lia)
  simpa using h
/-! comprehensions over a row that is told as a map -/
noncomputable def Slot.full : Slot → Bool
  | .emp => false
  | _ => true
theorem compOk {scope : Scope} {caps : Fm} (h : compB K.names (ρ.map (·.1)) scope (caps.map (·.1)) = true) (hc : Has ρ caps) (he : caps.all (fun p => p.2.full) = true) : CompOk K ρ scope caps :=
  .mk' h fun p hp => ⟨hc p hp, fun e => by have := List.all_eq_true.mp he p hp; (first | obtain rfl := Option.some.inj (e.symm.trans this) | exact absurd (e.symm.trans this) (Option.some_ne_none _) | exact absurd (e.symm.trans this).symm (Option.some_ne_none _) | exact (datN (e.symm.trans this) rfl).elim | (rw [e] at this; cases this))⟩
theorem ev_compT {α : Type} {elt target iter : Expr} {scope : Scope} {pos : Pos} (caps : Fm) (ok : CompOk K ρ scope caps) (f : α → V) (fr : α → Fm) (g : α → V)
    (h : EvP C K ρ σ iter (fun v σ₁ => ∃ xs : List α, Items v (xs.map f) ∧ xs.length < 2 ^ 24 ∧ (∀ x ∈ xs, TgtP (KxC K scope) target (f x) (fr x) ∧ (caps.all fun p => (fr x).all fun q => p.1 != q.1) = true ∧
      ∀ D acc, σ₁ D = none → EvP C (KxC K scope) (fr x ++ caps) (accS σ₁ D acc) elt (fun v σ₄ => v = g x ∧ σ₄ = accS σ₁ D acc) Bot) ∧
      Q (.lst (xs.map g)) σ₁) X)
    (hs : ∀ env x, foldedSetIterable iter env x = pure x := by intro _ _; rfl) : EvP C K ρ σ (.ListComp elt [⟨target, iter, [], 0⟩] scope pos) Q X := by
  refine ev_comp caps ok (h.mono fun v σ₁ hh => ?_) hs
  refine Classical.byContradiction fun hbc => ?_
  obtain ⟨xs, hit, hlen, he, hQ⟩ := hh
  refine hbc ?_
  clear hbc
  refine ⟨xs.map f, hit, fun r acc σ₂ => σ₂ = σ₁ ∧ ∃ k, r = (xs.drop k).map f ∧ acc = (xs.take k).map g ∧ k ≤ xs.length, ⟨rfl, 0, rfl, rfl, Nat.zero_le _⟩, ?_, ?_⟩
  · rintro x r acc σ₂ D ⟨rfl, k, e, rfl, hk⟩ hD
    have hlt : k < xs.length := by
      rcases Nat.lt_or_ge k xs.length with h | h
      · exact h
      · (first | obtain rfl := Option.some.inj ((List.drop_eq_nil_of_le h).symm.trans e) | exact absurd ((List.drop_eq_nil_of_le h).symm.trans e) (Option.some_ne_none _) | exact absurd ((List.drop_eq_nil_of_le h).symm.trans e).symm (Option.some_ne_none _) | exact (datN ((List.drop_eq_nil_of_le h).symm.trans e) rfl).elim | (rw [List.drop_eq_nil_of_le h] at e; cases e))
    rw [List.drop_eq_getElem_cons hlt, List.map_cons] at e
    injection e with e1 e2
    subst e1
    obtain ⟨t, hd, hb⟩ := he xs[k] (List.getElem_mem hlt)
    refine ⟨fr xs[k], t, fun p hp q hq => ?_, ifs_nil' ?_⟩
    · have := List.all_eq_true.mp (List.all_eq_true.mp hd p hp) q hq
      simpa using this
    rw [if_pos rfl]
    refine (hb D _ hD).mono ?_
    rintro v σ₄ ⟨rfl, rfl⟩
    refine ⟨by simp; lia, _, rfl, hD, rfl, k + 1, e2, ?_, hlt⟩
    rw [List.take_succ_eq_append_getElem hlt, List.map_append]; rfl
  · rintro acc σ₂ ⟨rfl, k, e, rfl, hk⟩
    have : k = xs.length := by
      have h1 := congrArg List.length e
      simp at h1; lia
    subst this
    rw [List.take_length]; exact hQ
theorem tgt_name {x : Str} {pos : Pos} {v : V} (h : K.names.lookup x = some .local) : TgtP K (.Name x pos) v [(x, .val v)] := .name x pos v h
theorem as_nameF {x : Str} {pos : Pos} {pv : V} {ρ' : Fm} {Q : Fm → Store → Prop} (hk : K.names.lookup x = some .cell) (hm : (x, Slot.emp) ∈ ρ) (hu : Upd ρ x (.val pv) ρ') (h : Q ρ' σ) : AsP C K ρ σ (.Name x pos) pv Q X := as_name (stores_cell hk hm (by intro c e; cases e)) hu h
/-- targets, where a frame is known to hold at least some -/
theorem as_cellH {x : Str} {pos : Pos} {pv : V} {l : Fm} {Q : Fm → Store → Prop} (hk : K.names.lookup x = some .cell) (hsl : ∃ sl, (x, sl) ∈ ρ ∧ ∀ c, sl ≠ .sh c) (hh : Has ρ l) (hne : (l.all fun p => p.1 != x) = true) (h : Q ((x, .val pv) :: l) σ) : AsP C K ρ σ (.Name x pos) pv Q X := by
  obtain ⟨sl, h1, h2⟩ := hsl
  refine as_name (stores_cell hk h1 h2) (fun p hp => ?_) h
  rcases List.mem_cons.mp hp with rfl | hp
  · exact .inl rfl
  · exact .inr ⟨hh p hp, by simpa using List.all_eq_true.mp hne p hp⟩
theorem ifs_mono {ρ : Fm} : ∀ {ifs : List Expr} {σ : Store} {Q Q' : Bool → Store → Prop}, (∀ b σ', Q b σ' → Q' b σ') → IfsP C K ρ X ifs σ Q → IfsP C K ρ X ifs σ Q'
  | [], σ, Q, Q', k, h => k _ _ h
  | c :: r, σ, Q, Q', k, h => TsP.mono h fun b σ' hb => by
    cases b
    · simp only [Bool.false_eq_true, if_false] at hb ⊢; exact k _ _ hb
    · simp only [if_true] at hb ⊢; exact ifs_mono k hb
theorem ev_compTF {α : Type} {elt target iter : Expr} {ifs : List Expr} {scope : Scope} {pos : Pos} (caps : Fm) (ok : CompOk K ρ scope caps) (f : α → V) (fr : α → Fm) (pr : α → Bool) (g : α → V)
    (h : EvP C K ρ σ iter (fun v σ₁ => ∃ xs : List α, Items v (xs.map f) ∧ xs.length < 2 ^ 24 ∧ (∀ x ∈ xs, TgtP (KxC K scope) target (f x) (fr x) ∧ (caps.all fun p => (fr x).all fun q => p.1 != q.1) = true ∧
      ∀ D acc, σ₁ D = none → IfsP C (KxC K scope) (fr x ++ caps) Bot ifs (accS σ₁ D acc) (fun ok σ₃ => σ₃ = accS σ₁ D acc ∧ ok = pr x ∧ (pr x = true → EvP C (KxC K scope) (fr x ++ caps) (accS σ₁ D acc) elt (fun v σ₄ => v = g x ∧ σ₄ = accS σ₁ D acc) Bot))) ∧
      Q (.lst ((xs.filter pr).map g)) σ₁) X)
    (hs : ∀ env x, foldedSetIterable iter env x = pure x := by intro _ _; rfl) : EvP C K ρ σ (.ListComp elt [⟨target, iter, ifs, 0⟩] scope pos) Q X := by
  refine ev_comp caps ok (h.mono fun v σ₁ hh => ?_) hs
  refine Classical.byContradiction fun hbc => ?_
  obtain ⟨xs, hit, hlen, he, hQ⟩ := hh
  refine hbc ?_
  clear hbc
  refine ⟨xs.map f, hit, fun r acc σ₂ => σ₂ = σ₁ ∧ ∃ k, r = (xs.drop k).map f ∧ acc = ((xs.take k).filter pr).map g ∧ k ≤ xs.length, ⟨rfl, 0, rfl, rfl, Nat.zero_le _⟩, ?_, ?_⟩
  · rintro x r acc σ₂ D ⟨rfl, k, e, rfl, hk⟩ hD
    have hlt : k < xs.length := by
      rcases Nat.lt_or_ge k xs.length with h | h
      · exact h
      · (first | obtain rfl := Option.some.inj ((List.drop_eq_nil_of_le h).symm.trans e) | exact absurd ((List.drop_eq_nil_of_le h).symm.trans e) (Option.some_ne_none _) | exact absurd ((List.drop_eq_nil_of_le h).symm.trans e).symm (Option.some_ne_none _) | exact (datN ((List.drop_eq_nil_of_le h).symm.trans e) rfl).elim | (rw [List.drop_eq_nil_of_le h] at e; cases e))
    rw [List.drop_eq_getElem_cons hlt, List.map_cons] at e
    injection e with e1 e2
    subst e1
    obtain ⟨t, hd, hb⟩ := he xs[k] (List.getElem_mem hlt)
    refine ⟨fr xs[k], t, fun p hp q hq => ?_, ifs_mono ?_ (hb D _ hD)⟩
    · have := List.all_eq_true.mp (List.all_eq_true.mp hd p hp) q hq
      simpa using this
    have hl2 : (((xs.take k).filter pr).map g).length ≤ k := by
      rw [List.length_map]
      exact Nat.le_trans (List.length_filter_le _ _) (by simp; lia)
    rintro b σ' ⟨rfl, rfl, hb2⟩
    cases hp : pr xs[k] with
    | true =>
      rw [if_pos rfl]
      refine (hb2 hp).mono ?_
      rintro v σ₄ ⟨rfl, rfl⟩
      refine ⟨by lia, _, rfl, hD, rfl, k + 1, e2, ?_, hlt⟩
      rw [List.take_succ_eq_append_getElem hlt, List.filter_append, List.map_append]
      simp [hp]
    | false =>
      rw [if_neg (by decide)]
      refine ⟨_, rfl, hD, rfl, k + 1, e2, ?_, hlt⟩
      rw [List.take_succ_eq_append_getElem hlt, List.filter_append, List.map_append]
      simp [hp]
  · rintro acc σ₂ ⟨rfl, k, e, rfl, hk⟩
    have : k = xs.length := by
      have h1 := congrArg List.length e
      simp at h1; lia
    subst this
    rw [List.take_length]; exact hQ
theorem get_range {α : Type} (xs : List α) : ∀ m, (List.range m).filterMap (xs[·]?) = xs.take m := by
  intro m
  induction m with
  | zero => rfl
  | succ m ih =>
    rw [List.range_succ, List.filterMap_append, ih, List.filterMap_cons, List.filterMap_nil]
    rcases Nat.lt_or_ge m xs.length with h | h
    · rw [List.getElem?_eq_getElem h, List.take_succ_eq_append_getElem h]
    · rw [List.getElem?_eq_none h]
      simp [List.take_of_length_le h, List.take_of_length_le (Nat.le_succ_of_le h)]
theorem picks_take {α : Type} (xs : List α) (m : Nat) : (picks none (some (m : Int)) none xs.length).filterMap (xs[·]?) = xs.take m := by
  have e : picks none (some (m : Int)) none xs.length = List.range (min m xs.length) := by
    unfold picks sliceBounds sliceRange
    simp only [Option.getD_none, show ((1 : Int) > 0) from by decide, if_true, show ¬ ((m : Int) < 0) from by lia, if_false]
    have h1 : max 0 (min (m : Int) xs.length) = ((min m xs.length : Nat) : Int) := by lia
    rw [h1]
    have h2 : (if (0 : Int) < ((min m xs.length : Nat) : Int) then (((min m xs.length : Nat) : Int) - 0 + 1 - 1) / 1 else 0).toNat = min m xs.length := by split <;> lia
    rw [h2]
    conv => rhs; rw [← List.map_id (List.range _)]
    exact List.map_congr_left fun k _ => by simp
  rw [e, get_range]
  rcases Nat.le_total m xs.length with h | h
  · rw [Nat.min_eq_left h]
  · rw [Nat.min_eq_right h, List.take_length, List.take_of_length_le h]
end
end Mine
end
section
open PySem PySem.W PyProof.Rows PySem.Calls
namespace Mine
/-! guards: each does nothing but look at the goal's shape -/
section
variable {C : Ctx} {K : Kx} {ρ : Fm} {σ : Store} {X : Value → Shared → Prop} {Q : V → Store → Prop} {R : Fl → Fm → Store → Prop}
theorem g_listC {e : Expr} {es : List Expr} {pos : Pos} (h : EvP C K ρ σ (.List (e :: es) pos) Q X) : EvP C K ρ σ (.List (e :: es) pos) Q X := h
theorem ev_list0 {pos : Pos} (h : Q (.lst []) σ) : EvP C K ρ σ (.List [] pos) Q X := ev_list (evs_nil ⟨by simp, h⟩)
theorem ev_list0O {pos : Pos} (h : ∀ a, σ a = none → Q (.loc a) (upd σ a (some (.list [])))) : EvP C K ρ σ (.List [] pos) Q X := ev_listO (evs_nil ⟨by simp, h⟩)
theorem gm_read {o : Expr} {ap pos : Pos} {args : List Expr} (h : EvP C K ρ σ (.Call (.Attribute o "read" ap) args [] pos) Q X) : EvP C K ρ σ (.Call (.Attribute o "read" ap) args [] pos) Q X := h
theorem gs_assignN {x : Str} {p pos : Pos} {e : Expr} (h : StP C K ρ σ (.Assign [.Name x p] e pos) R X) : StP C K ρ σ (.Assign [.Name x p] e pos) R X := h
theorem gs_assign {t e : Expr} {pos : Pos} (h : StP C K ρ σ (.Assign [t] e pos) R X) : StP C K ρ σ (.Assign [t] e pos) R X := h
theorem ga_tuple {es : List Expr} {k : Nat} {pos : Pos} {v : V} {P : Fm → Store → Prop} (h : AsP C K ρ σ (.Tuple es k pos) v P X) : AsP C K ρ σ (.Tuple es k pos) v P X := h
theorem g_name {x : Str} {pos : Pos} (h : EvP C K ρ σ (.Name x pos) Q X) : EvP C K ρ σ (.Name x pos) Q X := h
theorem g_const {c : Const} {k : Nat} {pos : Pos} (h : EvP C K ρ σ (.Constant c k pos) Q X) : EvP C K ρ σ (.Constant c k pos) Q X := h
theorem g_cmp {l r : Expr} {op : CmpOp} {pos : Pos} (h : EvP C K ρ σ (.Compare l [op] [r] pos) Q X) : EvP C K ρ σ (.Compare l [op] [r] pos) Q X := h
theorem gt_cmp {l r : Expr} {op : CmpOp} {pos : Pos} {P : Bool → Store → Prop} (h : TsP C K ρ σ (.Compare l [op] [r] pos) P X) : TsP C K ρ σ (.Compare l [op] [r] pos) P X := h
theorem gs_aug {x : Str} {p pos : Pos} {op : Operator} {e : Expr} (h : StP C K ρ σ (.AugAssign (.Name x p) op e pos) R X) : StP C K ρ σ (.AugAssign (.Name x p) op e pos) R X := h
theorem ga_name {x : Str} {pos : Pos} {v : V} {P : Fm → Store → Prop} (h : AsP C K ρ σ (.Name x pos) v P X) : AsP C K ρ σ (.Name x pos) v P X := h
theorem gc_len {d : Nat} {a : V} (h : CallV C d (.raw (.builtin "len")) [a] σ Q X) : CallV C d (.raw (.builtin "len")) [a] σ Q X := h
theorem gc_append {d : Nat} {a b : V} (h : CallV C d (.raw (.builtin "list.append")) [a, b] σ Q X) : CallV C d (.raw (.builtin "list.append")) [a, b] σ Q X := h
theorem gm_attr {d : Nat} {a : V} {n : Str} {e : Bool} (h : M1 C d (fun o => getAttr o n e) a σ Q X) : M1 C d (fun o => getAttr o n e) a σ Q X := h
theorem gm_un {d : Nat} {a : V} {op : UnaryOp} (h : M1 C d (unaryOp op) a σ Q X) : M1 C d (unaryOp op) a σ Q X := h
theorem g_upd {x : Str} {sl : Slot} {P : Fm → Prop} (h : ∃ ρ', Upd ρ x sl ρ' ∧ P ρ') : ∃ ρ', Upd ρ x sl ρ' ∧ P ρ' := h
theorem g_keep {v : V} {B : Prop} (h : KeepOk C σ v ∧ B) : KeepOk C σ v ∧ B := h
theorem g_ty {v : V} {T : String} {B : Prop} (h : TyOf σ v T ∧ B) : TyOf σ v T ∧ B := h
theorem g_subT {v : V} {B : Prop} (h : SubTy C σ v ∧ B) : SubTy C σ v ∧ B := h
end
theorem mem1 {p a0 : Str × Slot} {l : Fm} : p ∈ a0 :: p :: l := List.mem_cons_of_mem _ List.mem_cons_self
theorem mem2 {p a0 a1 : Str × Slot} {l : Fm} : p ∈ a0 :: a1 :: p :: l := List.mem_cons_of_mem _ (List.mem_cons_of_mem _ List.mem_cons_self)
theorem mem3 {p a0 a1 a2 : Str × Slot} {l : Fm} : p ∈ a0 :: a1 :: a2 :: p :: l := List.mem_cons_of_mem _ (List.mem_cons_of_mem _ (List.mem_cons_of_mem _ List.mem_cons_self))
theorem mem4 {p a0 a1 a2 a3 : Str × Slot} {l : Fm} : p ∈ a0 :: a1 :: a2 :: a3 :: p :: l := List.mem_cons_of_mem _ (List.mem_cons_of_mem _ (List.mem_cons_of_mem _ (List.mem_cons_of_mem _ List.mem_cons_self)))
theorem mem5 {p a0 a1 a2 a3 a4 : Str × Slot} {l : Fm} : p ∈ a0 :: a1 :: a2 :: a3 :: a4 :: p :: l := List.mem_cons_of_mem _ (List.mem_cons_of_mem _ (List.mem_cons_of_mem _ (List.mem_cons_of_mem _ (List.mem_cons_of_mem _ List.mem_cons_self))))
theorem mem6 {p a0 a1 a2 a3 a4 a5 : Str × Slot} {l : Fm} : p ∈ a0 :: a1 :: a2 :: a3 :: a4 :: a5 :: p :: l := List.mem_cons_of_mem _ (List.mem_cons_of_mem _ (List.mem_cons_of_mem _ (List.mem_cons_of_mem _ (List.mem_cons_of_mem _ (List.mem_cons_of_mem _ List.mem_cons_self)))))
theorem mem7 {p a0 a1 a2 a3 a4 a5 a6 : Str × Slot} {l : Fm} : p ∈ a0 :: a1 :: a2 :: a3 :: a4 :: a5 :: a6 :: p :: l := List.mem_cons_of_mem _ (List.mem_cons_of_mem _ (List.mem_cons_of_mem _ (List.mem_cons_of_mem _ (List.mem_cons_of_mem _ (List.mem_cons_of_mem _ (List.mem_cons_of_mem _ List.mem_cons_self))))))
theorem mem8 {p a0 a1 a2 a3 a4 a5 a6 a7 : Str × Slot} {l : Fm} : p ∈ a0 :: a1 :: a2 :: a3 :: a4 :: a5 :: a6 :: a7 :: p :: l := List.mem_cons_of_mem _ (List.mem_cons_of_mem _ (List.mem_cons_of_mem _ (List.mem_cons_of_mem _ (List.mem_cons_of_mem _ (List.mem_cons_of_mem _ (List.mem_cons_of_mem _ (List.mem_cons_of_mem _ List.mem_cons_self)))))))
noncomputable def fdP (fd : FuncData) (R : FnRec) : FuncData := { fd with params := R.params, defaults := .none, kwdefaults := .none }
theorem fdP_eq {fd : FuncData} {R : FnRec} (h1 : fd.params = R.params) (h2 : fd.defaults = .none) (h3 : fd.kwdefaults = .none) : fd = fdP fd R := by
  cases fd
  dsimp only at h1 h2 h3
  subst h1 h2 h3
  rfl
theorem binds_1 {R : FnRec} {x : Str} (h : ∀ fd v, bindArgs (fdP fd R) ⟨[v], []⟩ = pure [(x, v)]) : Binds R [x] := by
  intro fd h1 h2 h3 vs hl
  rw [fdP_eq h1 h2 h3]
  obtain ⟨v, rfl⟩ := List.length_eq_one_iff.1 hl
  exact h fd v
theorem binds_2 {R : FnRec} {x y : Str} (h : ∀ fd v w, bindArgs (fdP fd R) ⟨[v, w], []⟩ = pure [(x, v), (y, w)]) : Binds R [x, y] := by
  intro fd h1 h2 h3 vs hl
  rw [fdP_eq h1 h2 h3]
  obtain ⟨v, t, rfl⟩ := List.exists_cons_of_length_eq_add_one hl
  obtain ⟨w, rfl⟩ := List.length_eq_one_iff.1 (Nat.succ.inj hl)
  exact h fd v w
theorem binds_3 {R : FnRec} {x y z : Str} (h : ∀ fd v w u, bindArgs (fdP fd R) ⟨[v, w, u], []⟩ = pure [(x, v), (y, w), (z, u)]) : Binds R [x, y, z] := by
  intro fd h1 h2 h3 vs hl
  rw [fdP_eq h1 h2 h3]
  obtain ⟨v, t, rfl⟩ := List.exists_cons_of_length_eq_add_one hl
  obtain ⟨w, t, rfl⟩ := List.exists_cons_of_length_eq_add_one (Nat.succ.inj hl)
  obtain ⟨u, rfl⟩ := List.length_eq_one_iff.1 (Nat.succ.inj (Nat.succ.inj hl))
  exact h fd v w u
noncomputable def strEq (x y : Str) : Bool := decide (x = y)
theorem rest_keep {ρ : Fm} {x y : Str} {s : Slot} (r' : Fm) (h : Rest ρ x r') (hne : strEq y x = false) : Rest ((y, s) :: ρ) x ((y, s) :: r') := .keep h (of_decide_eq_false hne)
theorem rest_drop {ρ : Fm} {x : Str} {q : Str × Slot} (r' : Fm) (h : Rest ρ x r') : Rest (q :: ρ) x r' := .drop h
theorem upd_mk {ρ : Fm} {x : Str} {s : Slot} (r' : Fm) (h : Rest ρ x r') : Upd ρ x s ((x, s) :: r') := .mk h
theorem upd_exE {ρ : Fm} {x : Str} {v : V} {P : Fm → Prop} (r' : Fm) (hr : Rest ρ x r') (h : P ((x, .val v) :: r')) : ∃ ρ', Upd ρ x (.val v) ρ' ∧ P ρ' := ⟨_, .mk hr, h⟩
theorem capl_free {ρ : Fm} {n : Str} {r : List (Str × NameKind)} {cs : List (Str × Addr)} (c : Addr) (out : List (Str × Addr)) (h : (n, Slot.sh c) ∈ ρ) (t : CapL ρ r ((n, c) :: cs) out) : CapL ρ ((n, .free) :: r) cs out := .free h t
theorem capl_other {ρ : Fm} {n : Str} {k : NameKind} {r : List (Str × NameKind)} {cs : List (Str × Addr)} (out : List (Str × Addr)) (h : k ≠ .free) (t : CapL ρ r cs out) : CapL ρ ((n, k) :: r) cs out := .other h t
end Mine
end
section
open PySem PySem.W PyProof.Rows PySem.Calls
namespace Mine
noncomputable abbrev hsize : Nat := 210

noncomputable abbrev A__div2n1n : Addr := 21
noncomputable abbrev cd__div2n1n : Value := .ref 20
noncomputable def F__div2n1n : FnRec := ⟨"_div2n1n", "_div2n1n", sParams (stm 2), .stmts (sBody (stm 2)), sScope (stm 2)⟩
theorem fo__div2n1n : ∀ P : Params, ((endHeap P).get? 21, (endHeap P).get? 20) = (some (o_21_1 P), some (o_20_1 P)) := by intro P; kernel_rfl

noncomputable def F__div3n2n : FnRec := ⟨"_div3n2n", "_div3n2n", sParams (stm 3), .stmts (sBody (stm 3)), sScope (stm 3)⟩
noncomputable abbrev ix__int2digits : Nat := 4
noncomputable abbrev A__int2digits : Addr := 35
noncomputable abbrev cd__int2digits : Value := .ref 34
noncomputable def F__int2digits : FnRec := ⟨"_int2digits", "_int2digits", sParams (stm 4), .stmts (sBody (stm 4)), sScope (stm 4)⟩
theorem fo__int2digits : ∀ P : Params, ((endHeap P).get? 35, (endHeap P).get? 34) = (some (o_35_1 P), some (o_34_1 P)) := by intro P; kernel_rfl

noncomputable abbrev ix__digits2int : Nat := 5
noncomputable abbrev A__digits2int : Addr := 42
noncomputable abbrev cd__digits2int : Value := .ref 41
noncomputable def F__digits2int : FnRec := ⟨"_digits2int", "_digits2int", sParams (stm 5), .stmts (sBody (stm 5)), sScope (stm 5)⟩
theorem fo__digits2int : ∀ P : Params, ((endHeap P).get? 42, (endHeap P).get? 41) = (some (o_42_1 P), some (o_41_1 P)) := by intro P; kernel_rfl

noncomputable abbrev A__divmod_pos : Addr := 49
noncomputable abbrev cd__divmod_pos : Value := .ref 48
noncomputable def F__divmod_pos : FnRec := ⟨"_divmod_pos", "_divmod_pos", sParams (stm 6), .stmts (sBody (stm 6)), sScope (stm 6)⟩
theorem fo__divmod_pos : ∀ P : Params, ((endHeap P).get? 49, (endHeap P).get? 48) = (some (o_49_1 P), some (o_48_1 P)) := by intro P; kernel_rfl

noncomputable abbrev A_int_divmod : Addr := 56
noncomputable abbrev cd_int_divmod : Value := .ref 55
noncomputable def F_int_divmod : FnRec := ⟨"int_divmod", "int_divmod", sParams (stm 7), .stmts (sBody (stm 7)), sScope (stm 7)⟩
theorem fo_int_divmod : ∀ P : Params, ((endHeap P).get? 56, (endHeap P).get? 55) = (some (o_56_1 P), some (o_55_1 P)) := by intro P; kernel_rfl

noncomputable abbrev A_m___init__ : Addr := 70
noncomputable abbrev cd_m___init__ : Value := .ref 69
noncomputable def F_m___init__ : FnRec := ⟨"__init__", "_netrclex.__init__", sParams (sMeth 9 0), .stmts (sBody (sMeth 9 0)), sScope (sMeth 9 0)⟩
theorem fo_m___init__ : ∀ P : Params, ((endHeap P).get? 70, (endHeap P).get? 69) = (some (o_70_2 P), some (o_69_2 P)) := by intro P; kernel_rfl

noncomputable abbrev A_m__read_char : Addr := 77
noncomputable abbrev cd_m__read_char : Value := .ref 76
noncomputable def F_m__read_char : FnRec := ⟨"_read_char", "_netrclex._read_char", sParams (sMeth 9 1), .stmts (sBody (sMeth 9 1)), sScope (sMeth 9 1)⟩
theorem fo_m__read_char : ∀ P : Params, ((endHeap P).get? 77, (endHeap P).get? 76) = (some (o_77_2 P), some (o_76_2 P)) := by intro P; kernel_rfl

noncomputable abbrev A_m_get_token : Addr := 84
noncomputable abbrev cd_m_get_token : Value := .ref 83
noncomputable def F_m_get_token : FnRec := ⟨"get_token", "_netrclex.get_token", sParams (sMeth 9 2), .stmts (sBody (sMeth 9 2)), sScope (sMeth 9 2)⟩
theorem fo_m_get_token : ∀ P : Params, ((endHeap P).get? 84, (endHeap P).get? 83) = (some (o_84_2 P), some (o_83_2 P)) := by intro P; kernel_rfl

noncomputable abbrev A_m_push_token : Addr := 91
noncomputable abbrev cd_m_push_token : Value := .ref 90
noncomputable def F_m_push_token : FnRec := ⟨"push_token", "_netrclex.push_token", sParams (sMeth 9 3), .stmts (sBody (sMeth 9 3)), sScope (sMeth 9 3)⟩
theorem fo_m_push_token : ∀ P : Params, ((endHeap P).get? 91, (endHeap P).get? 90) = (some (o_91_2 P), some (o_90_2 P)) := by intro P; kernel_rfl

noncomputable abbrev A_in_table_b1 : Addr := 116
noncomputable abbrev cd_in_table_b1 : Value := .ref 115
noncomputable def F_in_table_b1 : FnRec := ⟨"in_table_b1", "in_table_b1", sParams (stm 12), .stmts (sBody (stm 12)), sScope (stm 12)⟩
theorem fo_in_table_b1 : ∀ P : Params, ((endHeap P).get? 116, (endHeap P).get? 115) = (some (o_116_4 P), some (o_115_4 P)) := by intro P; kernel_rfl

noncomputable abbrev A_map_table_b3 : Addr := 162
noncomputable abbrev cd_map_table_b3 : Value := .ref 161
noncomputable def F_map_table_b3 : FnRec := ⟨"map_table_b3", "map_table_b3", sParams (stm 14), .stmts (sBody (stm 14)), sScope (stm 14)⟩
theorem fo_map_table_b3 : ∀ P : Params, ((endHeap P).get? 162, (endHeap P).get? 161) = (some (o_162_6 P), some (o_161_6 P)) := by intro P; kernel_rfl

noncomputable abbrev A__law_group : Addr := 167
noncomputable abbrev cd__law_group : Value := .ref 166
noncomputable def F__law_group : FnRec := ⟨"_law_group", "_law_group", sParams (stm 16), .stmts (sBody (stm 16)), sScope (stm 16)⟩
theorem fo__law_group : ∀ P : Params, ((endHeap P).get? 167, (endHeap P).get? 166) = (some (o_167_6 P), some (o_166_6 P)) := by intro P; kernel_rfl

noncomputable abbrev A__law_left : Addr := 172
noncomputable abbrev cd__law_left : Value := .ref 171
noncomputable def F__law_left : FnRec := ⟨"_law_left", "_law_left", sParams (stm 17), .stmts (sBody (stm 17)), sScope (stm 17)⟩
theorem fo__law_left : ∀ P : Params, ((endHeap P).get? 172, (endHeap P).get? 171) = (some (o_172_6 P), some (o_171_6 P)) := by intro P; kernel_rfl

noncomputable abbrev A__law_due : Addr := 179
noncomputable abbrev cd__law_due : Value := .ref 178
noncomputable def F__law_due : FnRec := ⟨"_law_due", "_law_due", sParams (stm 18), .stmts (sBody (stm 18)), sScope (stm 18)⟩
theorem fo__law_due : ∀ P : Params, ((endHeap P).get? 179, (endHeap P).get? 178) = (some (o_179_6 P), some (o_178_6 P)) := by intro P; kernel_rfl

noncomputable abbrev A__law_read : Addr := 184
noncomputable abbrev cd__law_read : Value := .ref 183
noncomputable def F__law_read : FnRec := ⟨"_law_read", "_law_read", sParams (stm 19), .stmts (sBody (stm 19)), sScope (stm 19)⟩
theorem fo__law_read : ∀ P : Params, ((endHeap P).get? 184, (endHeap P).get? 183) = (some (o_184_6 P), some (o_183_6 P)) := by intro P; kernel_rfl

noncomputable abbrev A__law_prepared : Addr := 189
noncomputable abbrev cd__law_prepared : Value := .ref 188
noncomputable def F__law_prepared : FnRec := ⟨"_law_prepared", "_law_prepared", sParams (stm 20), .stmts (sBody (stm 20)), sScope (stm 20)⟩
theorem fo__law_prepared : ∀ P : Params, ((endHeap P).get? 189, (endHeap P).get? 188) = (some (o_189_6 P), some (o_188_6 P)) := by intro P; kernel_rfl

noncomputable abbrev A__law_bare : Addr := 194
noncomputable abbrev cd__law_bare : Value := .ref 193
noncomputable def F__law_bare : FnRec := ⟨"_law_bare", "_law_bare", sParams (stm 21), .stmts (sBody (stm 21)), sScope (stm 21)⟩
theorem fo__law_bare : ∀ P : Params, ((endHeap P).get? 194, (endHeap P).get? 193) = (some (o_194_6 P), some (o_193_6 P)) := by intro P; kernel_rfl

noncomputable abbrev A__law_numbers : Addr := 199
noncomputable abbrev cd__law_numbers : Value := .ref 198
noncomputable def F__law_numbers : FnRec := ⟨"_law_numbers", "_law_numbers", sParams (stm 22), .stmts (sBody (stm 22)), sScope (stm 22)⟩
theorem fo__law_numbers : ∀ P : Params, ((endHeap P).get? 199, (endHeap P).get? 198) = (some (o_199_6 P), some (o_198_6 P)) := by intro P; kernel_rfl

noncomputable abbrev A__law_orders : Addr := 204
noncomputable abbrev cd__law_orders : Value := .ref 203
noncomputable def F__law_orders : FnRec := ⟨"_law_orders", "_law_orders", sParams (stm 23), .stmts (sBody (stm 23)), sScope (stm 23)⟩
theorem fo__law_orders : ∀ P : Params, ((endHeap P).get? 204, (endHeap P).get? 203) = (some (o_204_6 P), some (o_203_6 P)) := by intro P; kernel_rfl

noncomputable abbrev A_law : Addr := 209
noncomputable abbrev cd_law : Value := .ref 208
noncomputable def F_law : FnRec := ⟨"law", "law", sParams (stm 24), .stmts (sBody (stm 24)), sScope (stm 24)⟩
theorem fo_law : ∀ P : Params, ((endHeap P).get? 209, (endHeap P).get? 208) = (some (o_209_6 P), some (o_208_6 P)) := by intro P; kernel_rfl

noncomputable def N__int2digits : Nest := ⟨30, 34, [(⟨32, 4, 41, 28⟩, "_int2digits.<locals>.inner")]⟩
theorem no__int2digits : ∀ P : Params, ((endHeap P).get? 30, codeHdIn [(34, o_34_1 P)] 34 30) = (some (tabObj #[]), true) := by intro P; kernel_rfl

noncomputable def N__digits2int : Nest := ⟨37, 41, [(⟨47, 4, 52, 55⟩, "_digits2int.<locals>.inner")]⟩
theorem no__digits2int : ∀ P : Params, ((endHeap P).get? 37, codeHdIn [(41, o_41_1 P)] 41 37) = (some (tabObj #[]), true) := by intro P; kernel_rfl

noncomputable def N__law_read : Nest := ⟨181, 183, [(⟨161, 13, 161, 25⟩, "_law_read.<locals>.<lambda>"), (⟨162, 18, 162, 64⟩, "_law_read.<locals>.<lambda>")]⟩
theorem no__law_read : ∀ P : Params, ((endHeap P).get? 181, codeHdIn [(183, o_183_6 P)] 183 181) = (some (tabObj #[]), true) := by intro P; kernel_rfl

noncomputable def nestL : List Nest := [N__int2digits, N__digits2int, N__law_read]
noncomputable def tabL : List Addr := [30, 37, 181]
/-- what a context of this text's calls is -/
structure Base (C : Ctx) : Prop where
  prog : C.prog = PR
  nest : C.nest = nestL
  h1 : C.h1 = endHeap C.w.params
  mg : C.mg = (endHeap C.w.params).nsMap mainGlobals
  mb : C.mb = (endHeap C.w.params).nsMap builtinsNs
  gens : C.gens = #[]
section
variable {C : Ctx}
theorem mem_of_lookup'' {β : Type} {x : Addr} {v : β} : ∀ {l : List (Addr × β)}, l.lookup x = some v → (x, v) ∈ l
  | (y, w) :: r, h => by
    rw [List.lookup_cons] at h
    by_cases hxy : x = y
    · subst hxy; rw [beq_self_eq_true] at h; cases h; exact List.mem_cons_self
    · rw [show (x == y) = false by simpa using hxy] at h; exact List.mem_cons_of_mem _ (mem_of_lookup'' h)
theorem Base.tabs (B : Base C) : C.tabs = tabL := by unfold Ctx.tabs; rw [B.nest]; rfl
theorem Base.nt (B : Base C) {a : Addr} (h : (tabL.contains a) = false := by rfl) : a ∉ C.tabs := fun q => by
  rw [B.tabs] at q
  have := List.contains_iff_mem.mpr q
  rw [h] at this; cases this
theorem Base.at (B : Base C) {a : Addr} {o : Obj} (h : (endHeap C.w.params).get? a = some o) : C.h1.get? a = some o := by rw [B.h1]; exact h
theorem ns_ok : ∀ P : Params, ((endHeap P).isNs mainGlobals, (endHeap P).isNs builtinsNs, (endHeap P).isNs cStatics, (endHeap P).nsMap cStatics "sys.recursionlimit") = (true, true, true, none) := by intro P; kernel_rfl
theorem Base.ok2 (B : Base C) : C.Ok2 := by
  have e := ns_ok C.w.params
  have e1 := (Prod.mk.inj e).1
  have e2 := (Prod.mk.inj (Prod.mk.inj e).2).1
  have e3 := (Prod.mk.inj (Prod.mk.inj (Prod.mk.inj e).2).2).1
  have e4 := (Prod.mk.inj (Prod.mk.inj (Prod.mk.inj e).2).2).2
  refine ⟨⟨?_, ?_, B.nt, B.nt⟩, ⟨(endHeap C.w.params).nsMap cStatics, ?_, e4⟩, B.nt⟩
  · rw [B.h1, B.mg]; exact .of_isNs e1
  · rw [B.h1, B.mb]; exact .of_isNs e2
  · rw [B.h1]; exact .of_isNs e3

theorem bm_ok : ∀ P : Params, ((endHeap P).nsMap mainGlobals "__builtins__", (endHeap P).get? 4) = (some (.ref 4), some (boot_o_4 P)) := by intro P; kernel_rfl
theorem Base.ok3 (B : Base C) : C.Ok3 where
  toOk2 := B.ok2
  heads := fun n hn => by
    rw [B.nest] at hn
    simp only [nestL, List.mem_cons, List.mem_nil_iff, or_false] at hn
    rcases hn with rfl | rfl | rfl
    · exact ⟨codeHd_of_K (K := [(34, o_34_1 C.w.params)]) (fun a o e => by
        by_cases h : a = 34
        · subst h; cases e; exact B.at (Prod.mk.inj (fo__int2digits C.w.params)).2
        · rw [List.lookup_cons, beq_false_of_ne h] at e; cases e) (Prod.mk.inj (no__int2digits C.w.params)).2, B.nt⟩
    · exact ⟨codeHd_of_K (K := [(41, o_41_1 C.w.params)]) (fun a o e => by
        by_cases h : a = 41
        · subst h; cases e; exact B.at (Prod.mk.inj (fo__digits2int C.w.params)).2
        · rw [List.lookup_cons, beq_false_of_ne h] at e; cases e) (Prod.mk.inj (no__digits2int C.w.params)).2, B.nt⟩
    · exact ⟨codeHd_of_K (K := [(183, o_183_6 C.w.params)]) (fun a o e => by
        by_cases h : a = 183
        · subst h; cases e; exact B.at (Prod.mk.inj (fo__law_read C.w.params)).2
        · rw [List.lookup_cons, beq_false_of_ne h] at e; cases e) (Prod.mk.inj (no__law_read C.w.params)).2, B.nt⟩
  inj := fun n hn n' hn' e => by
    rw [B.nest] at hn hn'
    simp only [nestL, List.mem_cons, List.mem_nil_iff, or_false] at hn hn'
    rcases hn with rfl | rfl | rfl <;> rcases hn' with rfl | rfl | rfl <;> first | rfl | cases e
  bi := ⟨4, _, (congrFun B.mg _).trans (Prod.mk.inj (bm_ok C.w.params)).1, by decide, by decide, B.nt, B.at (Prod.mk.inj (bm_ok C.w.params)).2, rfl, rfl, rfl⟩
  apart := fun n hn d hd d' hd' e1 e2 => by
    rw [B.nest] at hn
    simp only [nestL, List.mem_cons, List.mem_nil_iff, or_false] at hn
    rcases hn with rfl | rfl | rfl
    · simp only [N__int2digits, List.mem_cons, List.mem_nil_iff, or_false] at hd hd'
      rw [hd, hd']
    · simp only [N__digits2int, List.mem_cons, List.mem_nil_iff, or_false] at hd hd'
      rw [hd, hd']
    · simp only [N__law_read, List.mem_cons, List.mem_nil_iff, or_false] at hd hd'
      rcases hd with rfl | rfl <;> rcases hd' with rfl | rfl <;> first | rfl | (exact absurd e1 (by decide))

theorem Base.f__div2n1n (B : Base C) : FnB C A__div2n1n F__div2n1n cd__div2n1n where
  nt := B.nt
  is := ⟨⟨_, _, B.at (Prod.mk.inj (fo__div2n1n C.w.params)).1, rfl, rfl, rfl, rfl, rfl, rfl, rfl, rfl, rfl, by decide +kernel, rfl⟩, ⟨20, _, _, 192, rfl, B.at (Prod.mk.inj (fo__div2n1n C.w.params)).2, rfl, rfl⟩⟩
  ct := fun c e => by cases e; exact B.nt
theorem Base.f__int2digits (B : Base C) : FnB C A__int2digits F__int2digits cd__int2digits where
  nt := B.nt
  is := ⟨⟨_, _, B.at (Prod.mk.inj (fo__int2digits C.w.params)).1, rfl, rfl, rfl, rfl, rfl, rfl, rfl, rfl, rfl, by decide +kernel, rfl⟩, ⟨34, _, _, 223, rfl, B.at (Prod.mk.inj (fo__int2digits C.w.params)).2, rfl, rfl⟩⟩
  ct := fun c e => by cases e; exact B.nt
theorem Base.f__digits2int (B : Base C) : FnB C A__digits2int F__digits2int cd__digits2int where
  nt := B.nt
  is := ⟨⟨_, _, B.at (Prod.mk.inj (fo__digits2int C.w.params)).1, rfl, rfl, rfl, rfl, rfl, rfl, rfl, rfl, rfl, by decide +kernel, rfl⟩, ⟨41, _, _, 234, rfl, B.at (Prod.mk.inj (fo__digits2int C.w.params)).2, rfl, rfl⟩⟩
  ct := fun c e => by cases e; exact B.nt
theorem Base.f__divmod_pos (B : Base C) : FnB C A__divmod_pos F__divmod_pos cd__divmod_pos where
  nt := B.nt
  is := ⟨⟨_, _, B.at (Prod.mk.inj (fo__divmod_pos C.w.params)).1, rfl, rfl, rfl, rfl, rfl, rfl, rfl, rfl, rfl, by decide +kernel, rfl⟩, ⟨48, _, _, 245, rfl, B.at (Prod.mk.inj (fo__divmod_pos C.w.params)).2, rfl, rfl⟩⟩
  ct := fun c e => by cases e; exact B.nt
theorem Base.f_int_divmod (B : Base C) : FnB C A_int_divmod F_int_divmod cd_int_divmod where
  nt := B.nt
  is := ⟨⟨_, _, B.at (Prod.mk.inj (fo_int_divmod C.w.params)).1, rfl, rfl, rfl, rfl, rfl, rfl, rfl, rfl, rfl, by decide +kernel, rfl⟩, ⟨55, _, _, 260, rfl, B.at (Prod.mk.inj (fo_int_divmod C.w.params)).2, rfl, rfl⟩⟩
  ct := fun c e => by cases e; exact B.nt
theorem Base.f_m___init__ (B : Base C) : FnB C A_m___init__ F_m___init__ cd_m___init__ where
  nt := B.nt
  is := ⟨⟨_, _, B.at (Prod.mk.inj (fo_m___init__ C.w.params)).1, rfl, rfl, rfl, rfl, rfl, rfl, rfl, rfl, rfl, by decide +kernel, rfl⟩, ⟨69, _, _, 284, rfl, B.at (Prod.mk.inj (fo_m___init__ C.w.params)).2, rfl, rfl⟩⟩
  ct := fun c e => by cases e; exact B.nt
theorem Base.f_m__read_char (B : Base C) : FnB C A_m__read_char F_m__read_char cd_m__read_char where
  nt := B.nt
  is := ⟨⟨_, _, B.at (Prod.mk.inj (fo_m__read_char C.w.params)).1, rfl, rfl, rfl, rfl, rfl, rfl, rfl, rfl, rfl, by decide +kernel, rfl⟩, ⟨76, _, _, 292, rfl, B.at (Prod.mk.inj (fo_m__read_char C.w.params)).2, rfl, rfl⟩⟩
  ct := fun c e => by cases e; exact B.nt
theorem Base.f_m_get_token (B : Base C) : FnB C A_m_get_token F_m_get_token cd_m_get_token where
  nt := B.nt
  is := ⟨⟨_, _, B.at (Prod.mk.inj (fo_m_get_token C.w.params)).1, rfl, rfl, rfl, rfl, rfl, rfl, rfl, rfl, rfl, by decide +kernel, rfl⟩, ⟨83, _, _, 300, rfl, B.at (Prod.mk.inj (fo_m_get_token C.w.params)).2, rfl, rfl⟩⟩
  ct := fun c e => by cases e; exact B.nt
theorem Base.f_m_push_token (B : Base C) : FnB C A_m_push_token F_m_push_token cd_m_push_token where
  nt := B.nt
  is := ⟨⟨_, _, B.at (Prod.mk.inj (fo_m_push_token C.w.params)).1, rfl, rfl, rfl, rfl, rfl, rfl, rfl, rfl, rfl, by decide +kernel, rfl⟩, ⟨90, _, _, 310, rfl, B.at (Prod.mk.inj (fo_m_push_token C.w.params)).2, rfl, rfl⟩⟩
  ct := fun c e => by cases e; exact B.nt
theorem Base.f_in_table_b1 (B : Base C) : FnB C A_in_table_b1 F_in_table_b1 cd_in_table_b1 where
  nt := B.nt
  is := ⟨⟨_, _, B.at (Prod.mk.inj (fo_in_table_b1 C.w.params)).1, rfl, rfl, rfl, rfl, rfl, rfl, rfl, rfl, rfl, by decide +kernel, rfl⟩, ⟨115, _, _, 392, rfl, B.at (Prod.mk.inj (fo_in_table_b1 C.w.params)).2, rfl, rfl⟩⟩
  ct := fun c e => by cases e; exact B.nt
theorem Base.f_map_table_b3 (B : Base C) : FnB C A_map_table_b3 F_map_table_b3 cd_map_table_b3 where
  nt := B.nt
  is := ⟨⟨_, _, B.at (Prod.mk.inj (fo_map_table_b3 C.w.params)).1, rfl, rfl, rfl, rfl, rfl, rfl, rfl, rfl, rfl, by decide +kernel, rfl⟩, ⟨161, _, _, 2350, rfl, B.at (Prod.mk.inj (fo_map_table_b3 C.w.params)).2, rfl, rfl⟩⟩
  ct := fun c e => by cases e; exact B.nt
theorem Base.f__law_group (B : Base C) : FnB C A__law_group F__law_group cd__law_group where
  nt := B.nt
  is := ⟨⟨_, _, B.at (Prod.mk.inj (fo__law_group C.w.params)).1, rfl, rfl, rfl, rfl, rfl, rfl, rfl, rfl, rfl, by decide +kernel, rfl⟩, ⟨166, _, _, 2360, rfl, B.at (Prod.mk.inj (fo__law_group C.w.params)).2, rfl, rfl⟩⟩
  ct := fun c e => by cases e; exact B.nt
theorem Base.f__law_left (B : Base C) : FnB C A__law_left F__law_left cd__law_left where
  nt := B.nt
  is := ⟨⟨_, _, B.at (Prod.mk.inj (fo__law_left C.w.params)).1, rfl, rfl, rfl, rfl, rfl, rfl, rfl, rfl, rfl, by decide +kernel, rfl⟩, ⟨171, _, _, 2366, rfl, B.at (Prod.mk.inj (fo__law_left C.w.params)).2, rfl, rfl⟩⟩
  ct := fun c e => by cases e; exact B.nt
theorem Base.f__law_due (B : Base C) : FnB C A__law_due F__law_due cd__law_due where
  nt := B.nt
  is := ⟨⟨_, _, B.at (Prod.mk.inj (fo__law_due C.w.params)).1, rfl, rfl, rfl, rfl, rfl, rfl, rfl, rfl, rfl, by decide +kernel, rfl⟩, ⟨178, _, _, 2372, rfl, B.at (Prod.mk.inj (fo__law_due C.w.params)).2, rfl, rfl⟩⟩
  ct := fun c e => by cases e; exact B.nt
theorem Base.f__law_read (B : Base C) : FnB C A__law_read F__law_read cd__law_read where
  nt := B.nt
  is := ⟨⟨_, _, B.at (Prod.mk.inj (fo__law_read C.w.params)).1, rfl, rfl, rfl, rfl, rfl, rfl, rfl, rfl, rfl, by decide +kernel, rfl⟩, ⟨183, _, _, 2387, rfl, B.at (Prod.mk.inj (fo__law_read C.w.params)).2, rfl, rfl⟩⟩
  ct := fun c e => by cases e; exact B.nt
theorem Base.f__law_prepared (B : Base C) : FnB C A__law_prepared F__law_prepared cd__law_prepared where
  nt := B.nt
  is := ⟨⟨_, _, B.at (Prod.mk.inj (fo__law_prepared C.w.params)).1, rfl, rfl, rfl, rfl, rfl, rfl, rfl, rfl, rfl, by decide +kernel, rfl⟩, ⟨188, _, _, 2393, rfl, B.at (Prod.mk.inj (fo__law_prepared C.w.params)).2, rfl, rfl⟩⟩
  ct := fun c e => by cases e; exact B.nt
theorem Base.f__law_bare (B : Base C) : FnB C A__law_bare F__law_bare cd__law_bare where
  nt := B.nt
  is := ⟨⟨_, _, B.at (Prod.mk.inj (fo__law_bare C.w.params)).1, rfl, rfl, rfl, rfl, rfl, rfl, rfl, rfl, rfl, by decide +kernel, rfl⟩, ⟨193, _, _, 2399, rfl, B.at (Prod.mk.inj (fo__law_bare C.w.params)).2, rfl, rfl⟩⟩
  ct := fun c e => by cases e; exact B.nt
theorem Base.f__law_numbers (B : Base C) : FnB C A__law_numbers F__law_numbers cd__law_numbers where
  nt := B.nt
  is := ⟨⟨_, _, B.at (Prod.mk.inj (fo__law_numbers C.w.params)).1, rfl, rfl, rfl, rfl, rfl, rfl, rfl, rfl, rfl, by decide +kernel, rfl⟩, ⟨198, _, _, 2405, rfl, B.at (Prod.mk.inj (fo__law_numbers C.w.params)).2, rfl, rfl⟩⟩
  ct := fun c e => by cases e; exact B.nt
theorem Base.f__law_orders (B : Base C) : FnB C A__law_orders F__law_orders cd__law_orders where
  nt := B.nt
  is := ⟨⟨_, _, B.at (Prod.mk.inj (fo__law_orders C.w.params)).1, rfl, rfl, rfl, rfl, rfl, rfl, rfl, rfl, rfl, by decide +kernel, rfl⟩, ⟨203, _, _, 2411, rfl, B.at (Prod.mk.inj (fo__law_orders C.w.params)).2, rfl, rfl⟩⟩
  ct := fun c e => by cases e; exact B.nt
theorem Base.f_law (B : Base C) : FnB C A_law F_law cd_law where
  nt := B.nt
  is := ⟨⟨_, _, B.at (Prod.mk.inj (fo_law C.w.params)).1, rfl, rfl, rfl, rfl, rfl, rfl, rfl, rfl, rfl, by decide +kernel, rfl⟩, ⟨208, _, _, 2417, rfl, B.at (Prod.mk.inj (fo_law C.w.params)).2, rfl, rfl⟩⟩
  ct := fun c e => by cases e; exact B.nt
noncomputable abbrev A_cls : Addr := 94
noncomputable abbrev A_b1 : Addr := 106
noncomputable abbrev A_b3 : Addr := 117
theorem gv__div2n1n : ∀ P : Params, (endHeap P).nsMap mainGlobals "_div2n1n" = (some (.ref 21)) := by intro P; kernel_rfl
theorem Base.g__div2n1n (B : Base C) : C.mg "_div2n1n" = (some (.ref 21)) := (congrFun B.mg _).trans (gv__div2n1n _)
theorem gv__int2digits : ∀ P : Params, (endHeap P).nsMap mainGlobals "_int2digits" = (some (.ref 35)) := by intro P; kernel_rfl
theorem Base.g__int2digits (B : Base C) : C.mg "_int2digits" = (some (.ref 35)) := (congrFun B.mg _).trans (gv__int2digits _)
theorem gv__digits2int : ∀ P : Params, (endHeap P).nsMap mainGlobals "_digits2int" = (some (.ref 42)) := by intro P; kernel_rfl
theorem Base.g__digits2int (B : Base C) : C.mg "_digits2int" = (some (.ref 42)) := (congrFun B.mg _).trans (gv__digits2int _)
theorem gv__divmod_pos : ∀ P : Params, (endHeap P).nsMap mainGlobals "_divmod_pos" = (some (.ref 49)) := by intro P; kernel_rfl
theorem Base.g__divmod_pos (B : Base C) : C.mg "_divmod_pos" = (some (.ref 49)) := (congrFun B.mg _).trans (gv__divmod_pos _)
theorem gv_int_divmod : ∀ P : Params, (endHeap P).nsMap mainGlobals "int_divmod" = (some (.ref 56)) := by intro P; kernel_rfl
theorem Base.g_int_divmod (B : Base C) : C.mg "int_divmod" = (some (.ref 56)) := (congrFun B.mg _).trans (gv_int_divmod _)
theorem gv_in_table_b1 : ∀ P : Params, (endHeap P).nsMap mainGlobals "in_table_b1" = (some (.ref 116)) := by intro P; kernel_rfl
theorem Base.g_in_table_b1 (B : Base C) : C.mg "in_table_b1" = (some (.ref 116)) := (congrFun B.mg _).trans (gv_in_table_b1 _)
theorem gv_map_table_b3 : ∀ P : Params, (endHeap P).nsMap mainGlobals "map_table_b3" = (some (.ref 162)) := by intro P; kernel_rfl
theorem Base.g_map_table_b3 (B : Base C) : C.mg "map_table_b3" = (some (.ref 162)) := (congrFun B.mg _).trans (gv_map_table_b3 _)
theorem gv__law_group : ∀ P : Params, (endHeap P).nsMap mainGlobals "_law_group" = (some (.ref 167)) := by intro P; kernel_rfl
theorem Base.g__law_group (B : Base C) : C.mg "_law_group" = (some (.ref 167)) := (congrFun B.mg _).trans (gv__law_group _)
theorem gv__law_left : ∀ P : Params, (endHeap P).nsMap mainGlobals "_law_left" = (some (.ref 172)) := by intro P; kernel_rfl
theorem Base.g__law_left (B : Base C) : C.mg "_law_left" = (some (.ref 172)) := (congrFun B.mg _).trans (gv__law_left _)
theorem gv__law_due : ∀ P : Params, (endHeap P).nsMap mainGlobals "_law_due" = (some (.ref 179)) := by intro P; kernel_rfl
theorem Base.g__law_due (B : Base C) : C.mg "_law_due" = (some (.ref 179)) := (congrFun B.mg _).trans (gv__law_due _)
theorem gv__law_read : ∀ P : Params, (endHeap P).nsMap mainGlobals "_law_read" = (some (.ref 184)) := by intro P; kernel_rfl
theorem Base.g__law_read (B : Base C) : C.mg "_law_read" = (some (.ref 184)) := (congrFun B.mg _).trans (gv__law_read _)
theorem gv__law_prepared : ∀ P : Params, (endHeap P).nsMap mainGlobals "_law_prepared" = (some (.ref 189)) := by intro P; kernel_rfl
theorem Base.g__law_prepared (B : Base C) : C.mg "_law_prepared" = (some (.ref 189)) := (congrFun B.mg _).trans (gv__law_prepared _)
theorem gv__law_bare : ∀ P : Params, (endHeap P).nsMap mainGlobals "_law_bare" = (some (.ref 194)) := by intro P; kernel_rfl
theorem Base.g__law_bare (B : Base C) : C.mg "_law_bare" = (some (.ref 194)) := (congrFun B.mg _).trans (gv__law_bare _)
theorem gv__law_numbers : ∀ P : Params, (endHeap P).nsMap mainGlobals "_law_numbers" = (some (.ref 199)) := by intro P; kernel_rfl
theorem Base.g__law_numbers (B : Base C) : C.mg "_law_numbers" = (some (.ref 199)) := (congrFun B.mg _).trans (gv__law_numbers _)
theorem gv__law_orders : ∀ P : Params, (endHeap P).nsMap mainGlobals "_law_orders" = (some (.ref 204)) := by intro P; kernel_rfl
theorem Base.g__law_orders (B : Base C) : C.mg "_law_orders" = (some (.ref 204)) := (congrFun B.mg _).trans (gv__law_orders _)
theorem gv_law : ∀ P : Params, (endHeap P).nsMap mainGlobals "law" = (some (.ref 209)) := by intro P; kernel_rfl
theorem gv__netrclex : ∀ P : Params, (endHeap P).nsMap mainGlobals "_netrclex" = (some (.ref 94)) := by intro P; kernel_rfl
theorem Base.g__netrclex (B : Base C) : C.mg "_netrclex" = (some (.ref 94)) := (congrFun B.mg _).trans (gv__netrclex _)
theorem gv_b1_set : ∀ P : Params, (endHeap P).nsMap mainGlobals "b1_set" = (some (.ref 106)) := by intro P; kernel_rfl
theorem Base.g_b1_set (B : Base C) : C.mg "b1_set" = (some (.ref 106)) := (congrFun B.mg _).trans (gv_b1_set _)
theorem gv_b3_exceptions : ∀ P : Params, (endHeap P).nsMap mainGlobals "b3_exceptions" = (some (.ref 117)) := by intro P; kernel_rfl
theorem Base.g_b3_exceptions (B : Base C) : C.mg "b3_exceptions" = (some (.ref 117)) := (congrFun B.mg _).trans (gv_b3_exceptions _)
theorem gv__DIV_LIMIT : ∀ P : Params, (endHeap P).nsMap mainGlobals "_DIV_LIMIT" = some (.int 4000 189) := by intro P; kernel_rfl
theorem Base.g__DIV_LIMIT (B : Base C) : C.mg "_DIV_LIMIT" = some (.int 4000 189) := (congrFun B.mg _).trans (gv__DIV_LIMIT _)
theorem bv_chr : ∀ P : Params, ((endHeap P).nsMap mainGlobals "chr", (endHeap P).nsMap builtinsNs "chr") = (none, some (.builtin "chr")) := by intro P; kernel_rfl
theorem Base.n_chr (B : Base C) : C.mg "chr" = none := (congrFun B.mg _).trans (Prod.mk.inj (bv_chr _)).1
theorem Base.b_chr (B : Base C) : C.mb "chr" = some (.builtin "chr") := (congrFun B.mb _).trans (Prod.mk.inj (bv_chr _)).2
theorem bv_divmod : ∀ P : Params, ((endHeap P).nsMap mainGlobals "divmod", (endHeap P).nsMap builtinsNs "divmod") = (none, some (.builtin "divmod")) := by intro P; kernel_rfl
theorem Base.n_divmod (B : Base C) : C.mg "divmod" = none := (congrFun B.mg _).trans (Prod.mk.inj (bv_divmod _)).1
theorem Base.b_divmod (B : Base C) : C.mb "divmod" = some (.builtin "divmod") := (congrFun B.mb _).trans (Prod.mk.inj (bv_divmod _)).2
theorem bv_iter : ∀ P : Params, ((endHeap P).nsMap mainGlobals "iter", (endHeap P).nsMap builtinsNs "iter") = (none, some (.builtin "iter")) := by intro P; kernel_rfl
theorem Base.n_iter (B : Base C) : C.mg "iter" = none := (congrFun B.mg _).trans (Prod.mk.inj (bv_iter _)).1
theorem Base.b_iter (B : Base C) : C.mb "iter" = some (.builtin "iter") := (congrFun B.mb _).trans (Prod.mk.inj (bv_iter _)).2
theorem bv_len : ∀ P : Params, ((endHeap P).nsMap mainGlobals "len", (endHeap P).nsMap builtinsNs "len") = (none, some (.builtin "len")) := by intro P; kernel_rfl
theorem Base.n_len (B : Base C) : C.mg "len" = none := (congrFun B.mg _).trans (Prod.mk.inj (bv_len _)).1
theorem Base.b_len (B : Base C) : C.mb "len" = some (.builtin "len") := (congrFun B.mb _).trans (Prod.mk.inj (bv_len _)).2
theorem bv_list : ∀ P : Params, ((endHeap P).nsMap mainGlobals "list", (endHeap P).nsMap builtinsNs "list") = (none, some (.type "list")) := by intro P; kernel_rfl
theorem Base.n_list (B : Base C) : C.mg "list" = none := (congrFun B.mg _).trans (Prod.mk.inj (bv_list _)).1
theorem Base.b_list (B : Base C) : C.mb "list" = some (.type "list") := (congrFun B.mb _).trans (Prod.mk.inj (bv_list _)).2
theorem bv_max : ∀ P : Params, ((endHeap P).nsMap mainGlobals "max", (endHeap P).nsMap builtinsNs "max") = (none, some (.builtin "max")) := by intro P; kernel_rfl
theorem Base.n_max (B : Base C) : C.mg "max" = none := (congrFun B.mg _).trans (Prod.mk.inj (bv_max _)).1
theorem Base.b_max (B : Base C) : C.mb "max" = some (.builtin "max") := (congrFun B.mb _).trans (Prod.mk.inj (bv_max _)).2
theorem bv_ord : ∀ P : Params, ((endHeap P).nsMap mainGlobals "ord", (endHeap P).nsMap builtinsNs "ord") = (none, some (.builtin "ord")) := by intro P; kernel_rfl
theorem Base.n_ord (B : Base C) : C.mg "ord" = none := (congrFun B.mg _).trans (Prod.mk.inj (bv_ord _)).1
theorem Base.b_ord (B : Base C) : C.mb "ord" = some (.builtin "ord") := (congrFun B.mb _).trans (Prod.mk.inj (bv_ord _)).2
theorem bv_range : ∀ P : Params, ((endHeap P).nsMap mainGlobals "range", (endHeap P).nsMap builtinsNs "range") = (none, some (.type "range")) := by intro P; kernel_rfl
theorem Base.n_range (B : Base C) : C.mg "range" = none := (congrFun B.mg _).trans (Prod.mk.inj (bv_range _)).1
theorem Base.b_range (B : Base C) : C.mb "range" = some (.type "range") := (congrFun B.mb _).trans (Prod.mk.inj (bv_range _)).2
theorem bv_reversed : ∀ P : Params, ((endHeap P).nsMap mainGlobals "reversed", (endHeap P).nsMap builtinsNs "reversed") = (none, some (.type "reversed")) := by intro P; kernel_rfl
theorem Base.n_reversed (B : Base C) : C.mg "reversed" = none := (congrFun B.mg _).trans (Prod.mk.inj (bv_reversed _)).1
theorem Base.b_reversed (B : Base C) : C.mb "reversed" = some (.type "reversed") := (congrFun B.mb _).trans (Prod.mk.inj (bv_reversed _)).2
theorem bv_sum : ∀ P : Params, ((endHeap P).nsMap mainGlobals "sum", (endHeap P).nsMap builtinsNs "sum") = (none, some (.builtin "sum")) := by intro P; kernel_rfl
theorem Base.n_sum (B : Base C) : C.mg "sum" = none := (congrFun B.mg _).trans (Prod.mk.inj (bv_sum _)).1
theorem Base.b_sum (B : Base C) : C.mb "sum" = some (.builtin "sum") := (congrFun B.mb _).trans (Prod.mk.inj (bv_sum _)).2
noncomputable def FR (P : Params) : Frag := [(94, o_94_2 P), (93, o_93_2 P), (70, o_70_2 P), (77, o_77_2 P), (84, o_84_2 P), (91, o_91_2 P)]
theorem fr_at : ∀ P : Params, [(endHeap P).get? 94, (endHeap P).get? 93, (endHeap P).get? 70, (endHeap P).get? 77, (endHeap P).get? 84, (endHeap P).get? 91] = [some (o_94_2 P), some (o_93_2 P), some (o_70_2 P), some (o_77_2 P), some (o_84_2 P), some (o_91_2 P)] := by intro P; kernel_rfl
theorem Base.fr (B : Base C) : FragOk C (FR C.w.params) where
  inn := Frag.in_of (as := [94, 93, 70, 77, 84, 91]) rfl (by rw [B.h1]; exact fr_at C.w.params)
  nt := fun a o e => by
    have := mem_of_lookup'' e
    simp only [FR, List.mem_cons, List.mem_nil_iff, or_false, Prod.mk.injEq] at this
    rcases this with ⟨rfl, _⟩ | ⟨rfl, _⟩ | ⟨rfl, _⟩ | ⟨rfl, _⟩ | ⟨rfl, _⟩ | ⟨rfl, _⟩ <;> exact B.nt
theorem fr_cls : ∀ P : Params, (plainGet (FR P) 94 "", hasDictIn (FR P) 94, makesIn (FR P) 94, keepIn (FR P) (.ref 94), plainOver (FR P) 94, findIn (FR P) (.ref 94) "__setattr__", findIn (FR P) (.ref 94) "__getattribute__", findIn (FR P) (.ref 94) "__getattr__") = (true, true, true, true, true, some (some (.builtin "object.__setattr__")), some (some (.builtin "object.__getattribute__")), some none) := by intro P; kernel_rfl
theorem fr_lineno : ∀ P : Params, (findIn (FR P) (.ref 94) "lineno", takerIn (FR P) 94 "lineno") = (some none, some none) := by intro P; kernel_rfl
theorem fr_instream : ∀ P : Params, (findIn (FR P) (.ref 94) "instream", takerIn (FR P) 94 "instream") = (some none, some none) := by intro P; kernel_rfl
theorem fr_whitespace : ∀ P : Params, (findIn (FR P) (.ref 94) "whitespace", takerIn (FR P) 94 "whitespace") = (some none, some none) := by intro P; kernel_rfl
theorem fr_pushback : ∀ P : Params, (findIn (FR P) (.ref 94) "pushback", takerIn (FR P) 94 "pushback") = (some none, some none) := by intro P; kernel_rfl
theorem fr_m___init__ : ∀ P : Params, (findIn (FR P) (.ref 94) "__init__", typeIn (FR P) (.ref 70)) = (some (some (.ref 70)), some (.type "function")) := by intro P; kernel_rfl
theorem fr_m__read_char : ∀ P : Params, (findIn (FR P) (.ref 94) "_read_char", typeIn (FR P) (.ref 77), findObj (FR P) 94 none "_read_char") = (some (some (.ref 77)), some (.type "function"), some (.bind (.builtin "function.__get__") (.ref 77))) := by intro P; kernel_rfl
theorem fr_m_get_token : ∀ P : Params, (findIn (FR P) (.ref 94) "get_token", typeIn (FR P) (.ref 84), findObj (FR P) 94 none "get_token") = (some (some (.ref 84)), some (.type "function"), some (.bind (.builtin "function.__get__") (.ref 84))) := by intro P; kernel_rfl
theorem fr_m_push_token : ∀ P : Params, (findIn (FR P) (.ref 94) "push_token", typeIn (FR P) (.ref 91), findObj (FR P) 94 none "push_token") = (some (some (.ref 91)), some (.type "function"), some (.bind (.builtin "function.__get__") (.ref 91))) := by intro P; kernel_rfl
theorem b1_at : ∀ P : Params, (endHeap P).get? 106 = some (o_106_3 P) := by intro P; kernel_rfl
noncomputable abbrev b1O := o_106_3
theorem b3_at : ∀ P : Params, (endHeap P).get? 117 = some mainD := by intro P; kernel_rfl
noncomputable def eParams : Expr → Arguments | .Lambda a _ _ _ => a | _ => default
noncomputable def eBody : Expr → Expr | .Lambda _ b _ _ => b | e => e
noncomputable def eScope : Expr → Scope | .Lambda _ _ s _ => s | _ => default
noncomputable def sVal : Stmt → Expr | .Assign _ e _ => e | _ => .Tuple [] 0 default
noncomputable def R_lam0 : FnRec := ⟨"<lambda>", "_law_read.<locals>.<lambda>", eParams (sVal (nthS (sBody (stm 19)) 3)), .expr (eBody (sVal (nthS (sBody (stm 19)) 3))), eScope (sVal (nthS (sBody (stm 19)) 3))⟩
noncomputable def R_lam1 : FnRec := ⟨"<lambda>", "_law_read.<locals>.<lambda>", eParams (sVal (nthS (sBody (stm 19)) 4)), .expr (eBody (sVal (nthS (sBody (stm 19)) 4))), eScope (sVal (nthS (sBody (stm 19)) 4))⟩
end
end Mine
end
open PySem PySem.W PyProof.Rows PySem.Calls
namespace Mine
/- the walker: a row of alternatives for each key, told as text; « | » parts alternatives, « ; » the steps of one; a step is a term to refine by (reducibly; «d» ahead: by default), or show T, go KEY, case TAG KEY, rot N -/
local macro_rules | `(tactic| walk_at $s:str) => do
  let key := s.getString
  match key with
  | "A" => `(tactic| assumption)
  | "I" => `(tactic| (intros; rfl))
  | "E" => `(tactic| (intro c e; cases e))
  | "R" => `(tactic| rfl)
  | "K" => `(tactic| kernel_rfl)
  | "K!" => `(tactic| kernel_rfl!)
  | "D" => `(tactic| decide)
  | "O" => `(tactic| ((fail_if_success fail_if_success omega); lia))
  | "simp" => `(tactic| simp)
  | "start" => `(tactic| ((conv => arg 5; whnf); (conv => arg 3; simp only [pslots, List.map_cons, List.map_nil, List.cons_append, List.nil_append, List.append_nil])))
  | "go" => `(tactic| repeat walk_at "s")
  | _ =>
  let tab := "mem : List.mem_cons_self | mem1 | mem2 | mem3 | mem4 | mem5 | mem6 | mem7 | mem8 | List.mem_cons_of_mem _ ?_ ; go mem\n\
    gdl : Base.g__DIV_LIMIT @A\n\
    gval : Base.g__DIV_LIMIT @A | Base.g__netrclex @A | Base.g_b1_set @A | Base.g_b3_exceptions @A | Base.g_law @A | Base.g__div2n1n @A | Base.g__div3n2n @A | Base.g__int2digits @A | Base.g__digits2int @A | Base.g__divmod_pos @A | Base.g_int_divmod @A | Base.g_in_table_b1 @A | Base.g_map_table_b3 @A | Base.g__law_group @A | Base.g__law_left @A | Base.g__law_due @A | Base.g__law_read @A | Base.g__law_prepared @A | Base.g__law_bare @A | Base.g__law_numbers @A | Base.g__law_orders @A\n\
    bval : Base.b_len @A | Base.b_range @A | Base.b_divmod @A | Base.b_list @A | Base.b_sum @A | Base.b_max @A | Base.b_min @A | Base.b_reversed @A | Base.b_iter @A | Base.b_ord @A | Base.b_chr @A | Base.b_str @A | Base.b_ZeroDivisionError @A\n\
    bnone : Base.n_len @A | Base.n_range @A | Base.n_divmod @A | Base.n_list @A | Base.n_sum @A | Base.n_max @A | Base.n_min @A | Base.n_reversed @A | Base.n_iter @A | Base.n_ord @A | Base.n_chr @A | Base.n_str @A | Base.n_ZeroDivisionError @A\n\
    keep : keep_builtin | keep_type | FnB.keep ( Base.f__div2n1n @A ) | FnB.keep ( Base.f__div3n2n @A ) | FnB.keep ( Base.f__int2digits @A ) | FnB.keep ( Base.f__digits2int @A ) | FnB.keep ( Base.f__divmod_pos @A ) | FnB.keep ( Base.f_int_divmod @A ) | FnB.keep ( Base.f_in_table_b1 @A ) | FnB.keep ( Base.f_map_table_b3 @A ) | FnB.keep ( Base.f__law_group @A ) | FnB.keep ( Base.f__law_left @A ) | FnB.keep ( Base.f__law_due @A ) | FnB.keep ( Base.f__law_read @A ) | FnB.keep ( Base.f__law_prepared @A ) | FnB.keep ( Base.f__law_bare @A ) | FnB.keep ( Base.f__law_numbers @A ) | FnB.keep ( Base.f__law_orders @A )\n\
    lv : LV.fr _ | LV.ow @A | go A\n\
    has : d Has.nil | d Has.cons ?h ?t ; case h mem ; case t has\n\
    swp : d swap_nil ?_ | d swap_cons ( stores_local @K! ) ( upd_mk ?_ ?_ ) ?_ ; rot 1 ; go rest ; go swp\n\
    call : show CallV _ _ ( V.raw ( PySem.Value.builtin 'len' ) ) [_] _ _ _ ; go len | bn_divmod ?_ ?_ ?_ ; rot 2 | bi_divmod ?_ ?_ ?_ ; rot 2 | bi_ord ?_ | bi_chr ?_ ?_ ; rot 1 | bi_range1 ?_ | bi_range2 ?_ | show CallV _ _ ( V.raw ( PySem.Value.builtin 'sum' ) ) [_] _ _ _ ; bi_sum @lv ?_ | show CallV _ _ ( V.raw ( PySem.Value.builtin 'list.append' ) ) [_,_] _ _ _ ; bi_append @A ?_ ?_ ; rot 1 | bi_find ?_ | bi_count ?_ | bi_lower ?_ ?_ ; rot 1 | bn_bitlen ?_ | bi_bitlen ?_\n\
    len : bi_len_list @lv ?_ ?_ ; rot 1 | bi_len_str ?_ ?_ ; rot 1\n\
    ev : show EvP _ _ _ _ ( PySem.Expr.Name _ _ ) _ _ ; go nam | show EvP _ _ _ _ ( PySem.Expr.Constant _ _ _ ) _ _ ; go con | ev_bin ?_ | show EvP _ _ _ _ ( PySem.Expr.Compare _ [_] [_] _ ) _ _ ; ev_cmp ?_ | ev_un ?_ | ev_ifexp ?_ | ev_sub ?_ | ev_slc ?_ | ev_call ?_ ?h1 ; case h1 I | ev_tuple ?_ ?h1 ; case h1 I | show EvP _ _ _ _ ( PySem.Expr.List ( List.cons _ _ ) _ ) _ _ ; ev_list ?_ ?h1 ; case h1 I | ev_attr ?_ ?h1 ; case h1 I | gm_read ?_ ; d ev_methF ?_ | ev_meth meth_append ?_ ?h1 ?h2 ?h3 ?h4 ; case h1 I ; case h2 I ; case h3 R ; case h4 I | ev_meth meth_bitlen ?_ ?h1 ?h2 ?h3 ?h4 ; case h1 I ; case h2 I ; case h3 R ; case h4 I | ev_meth meth_find ?_ ?h1 ?h2 ?h3 ?h4 ; case h1 I ; case h2 I ; case h3 R ; case h4 I | ev_meth meth_count ?_ ?h1 ?h2 ?h3 ?h4 ; case h1 I ; case h2 I ; case h3 R ; case h4 I | ev_meth meth_lower ?_ ?h1 ?h2 ?h3 ?h4 ; case h1 I ; case h2 I ; case h3 R ; case h4 I | ev_meth meth_lstrip ?_ ?h1 ?h2 ?h3 ?h4 ; case h1 I ; case h2 I ; case h3 R ; case h4 I | ev_meth meth_pop ?_ ?h1 ?h2 ?h3 ?h4 ; case h1 I ; case h2 I ; case h3 R ; case h4 I | ev_meth meth_reverse ?_ ?h1 ?h2 ?h3 ?h4 ; case h1 I ; case h2 I ; case h3 R ; case h4 I | ev_meth meth_join ?_ ?h1 ?h2 ?h3 ?h4 ; case h1 I ; case h2 I ; case h3 R ; case h4 I\n\
    nam : ev_name @mem ?_ | ev_nameC @mem @A ?_ | ev_globalI ( Ctx.Ok2.toOk ( Base.ok2 @A ) ) @K @gdl ?_ | ev_global ( Ctx.Ok2.toOk ( Base.ok2 @A ) ) @K @gval ?_ | ev_builtin ( Ctx.Ok2.toOk ( Base.ok2 @A ) ) @K @bnone @bval ?_\n\
    con : ev_int ?_ | ev_lit_e ?_ | ev_lit_bs ?_ | ev_lit_dq ?_ | ev_lit_nl ?_ | ev_lit_sp ?_ | ev_lit_qm ?_ | ev_lit_R ?_ | ev_lit_P ?_ | ev_lit_h ?_ | ev_lit_p ?_ | ev_str ?_ | ev_bool ?_ | ev_none ?_\n\
    st : st_if ?_ | st_ret ?_ | st_ret0 ?_ | st_brk ?_ | st_cont ?_ | show StP _ _ _ _ ( PySem.Stmt.Assign ( List.cons ( PySem.Expr.Name _ _ ) List.nil ) _ _ ) _ _ ; go sas | show StP _ _ _ _ ( PySem.Stmt.AugAssign ( PySem.Expr.Name _ _ ) _ _ _ ) _ _ ; st_aug ( stores_local @K! ) @mem ?_ | st_expr ?_ ?h1 ; case h1 I | show StP _ _ _ _ ( PySem.Stmt.Assign [_] _ _ ) _ _ ; go sa2\n\
    sas : st_assign' ( stores_local ?h1 ) ?_ ?h2 ; case h1 K! ; case h2 I | st_assignP ?h1 ?h3 ?h4 ?_ ?h2 ; case h1 K! ; case h3 mem ; case h4 E ; case h2 I\n\
    sa2 : st_assign_swap ?_ ?h1 ?h2 ; case h1 I ; case h2 I | st_assignT ?_ ?h1 ?h2 ?h3 ; case h1 I ; case h2 I ; case h3 I\n\
    ts : show TsP _ _ _ _ ( PySem.Expr.Compare _ [_] [_] _ ) _ _ ; ts_cmp ?_ | ts_not ?_ | ts_and_nil ?_ | ts_or_nil ?_ | ts_and ?_ | ts_or ?_ | ts_val ?_ ?h1 ; case h1 I\n\
    m2 : bn_add _ _ ?_ | bn_addL _ _ ?_ | bn_addR _ _ ?_ | show M2 _ _ ( binaryOp PySem.Operator.Sub ) _ _ _ _ _ ; go m2s | bn_mul _ _ ?_ ?_ ; rot 1 | bn_mulL _ _ ?_ ?_ ; rot 1 | bn_mulR _ _ ?_ ?_ ; rot 1 | bn_fdivL _ _ @D @D ?_ | bn_modL _ _ @D @D ?_ | bn_fdiv _ _ ?_ ?_ ?_ ; rot 2 | bn_mod _ _ ?_ ?_ ?_ ; rot 2 | bn_and1 _ ?_ | bn_and _ _ ?_ | bn_xor _ _ ?_ | bn_xorL _ _ ?_ | bn_or _ _ ?_ | bn_shr1 _ ?_ | bn_shl1 _ ?_ ?_ ; rot 1 | in_shr1 _ ?_ | in_shl1 _ ?_ ?_ ; rot 1 | bn_shl _ _ ?_ ?_ ; rot 1 | bn_shlL _ _ ?_ ?_ ; rot 1 | bn_shlR _ _ ?_ ?_ ; rot 1 | bn_shr _ _ ?_ | bn_shrL _ _ ?_ | bn_pow _ _ ?_ ?_ ; rot 1 | bn_powR _ _ ?_ ?_ ; rot 1 | in_add _ _ ?_ | in_addL _ _ ?_ | in_shlL _ _ ?_ ?_ ; rot 1 | in_shrL _ _ ?_ | cn_eq _ _ ?_ | cn_eqL _ _ ?_ | cn_ne _ _ ?_ | cn_neL _ _ ?_ | cn_lt _ _ ?_ | cn_ltL _ _ ?_ | cn_le _ _ ?_ | cn_leL _ _ ?_ | cn_gt _ _ ?_ | cn_gtL _ _ ?_ | cmp_ ( Cmp.eq _ _ ) ?_ | cmp_ ( Cmp.ne _ _ ) ?_ | cmp_ ( Cmp.lt _ _ ) ?_ | cmp_ ( Cmp.le _ _ ) ?_ | cmp_ ( Cmp.gt _ _ ) ?_ | cmp_ ( Cmp.ge _ _ ) ?_ | cmp_ ( Cmp.seq _ _ ) ?_ | cmp_ ( Cmp.sne _ _ ) ?_ | cmp_ ( Cmp.isB _ _ ) ?_ | cmp_ ( Cmp.isntN_str _ ) ?_ | cmp_ Cmp.isntN_none ?_ | bin_ ( Bin.cat _ _ ?_ ) ?_ ; rot 1 | bin_ ( Bin.rep _ _ ?_ ?_ ) ?_ ; rot 2 | ibin_ ( Ibin.cat _ _ ?_ ) ?_ ; rot 1 | bin_ ( Bin.add _ _ ) ?_ | bin_ ( Bin.sub _ _ ) ?_ | bin_ ( Bin.and _ _ ) ?_ | bin_ ( Bin.or _ _ ) ?_ | bin_ ( Bin.xor _ _ ) ?_ | bin_ ( Bin.mul _ _ ?_ ) ?_ ; rot 1 | bin_ ( Bin.fdiv _ _ ?_ ?_ ) ?_ ; rot 2 | bin_ ( Bin.mod _ _ ?_ ?_ ) ?_ ; rot 2 | bin_ ( Bin.shl _ _ ?_ ?_ ) ?_ ; rot 2 | bin_ ( Bin.shr _ _ ?_ ) ?_ ; rot 1 | bin_ ( Bin.pow _ _ ?_ ?_ ) ?_ ; rot 2 | ibin_ ( Ibin.add _ _ ) ?_ | ibin_ ( Ibin.sub _ _ ) ?_ | ibin_ ( Ibin.shl _ _ ?_ ?_ ) ?_ ; rot 2 | ibin_ ( Ibin.shr _ _ ?_ ) ?_ ; rot 1\n\
    m2s : bn_sub _ _ @O ?_ | bn_subL _ _ @O ?_\n\
    as : show AsP _ _ _ _ ( PySem.Expr.Name _ _ ) _ _ _ ; go asn | show AsP _ _ _ _ ( PySem.Expr.Tuple _ _ _ ) _ _ _ ; go ast | as_item ?_\n\
    asn : as_name ( stores_local @K! ) ( upd_mk ?_ ?_ ) ?_ ; rot 1 ; go rest | as_nameP @K! @mem @E ( upd_mk ?_ ?_ ) ?_ ; rot 1 ; go rest | as_nameF @K! @mem ( upd_mk ?_ ?_ ) ?_ ; rot 1 ; go rest\n\
    ast : d as_tuple ?_ rfl | d as_tuple ?_ @simp\n\
    s : show EvP _ _ _ _ _ _ _ ; go ev | show M2 _ _ _ _ _ _ _ _ ; go m2 | show StP _ _ _ _ _ _ _ ; go st | show TsP _ _ _ _ _ _ _ ; go ts | show CallV _ _ _ _ _ _ _ ; go call | show AsP _ _ _ _ _ _ _ _ ; go as | show Cont _ _ _ _ _ _ _ _ ; go cont | show M1 _ _ _ _ _ _ _ ; go m1 | show M1B _ _ _ _ _ _ ; go m1b | show ExP _ _ _ _ _ _ _ ; go ex | show EvsP _ _ _ _ _ _ _ ; go evs | g_upd ?_ ; go upd | tsb ?_ | retq_ret ?_ | retq_next ?_ | turnl_next ?_ | turnl_ret ?_ | turnl_cont ?_ | turnl_brk ?_ | turnk_next ?_ | turnk_cont ?_ | turnk_brk ?_ | turnk_ret ?_ | ass_cons ?_ | ass_nil ?_ | ifs_nil' ?_ | ifs_cons' ?_ | evo_none ?_ | evo_some ?_ | ite_true' ?_ | ite_false' ?_ | show And ( KeepOk _ _ _ ) _ ; And.intro @keep ?_ | show And ( TyOf _ _ _ ) _ ; go ty | show And ( SubTy _ _ _ ) _ ; go sub | len_0 ?_ | len_1 ?_ | len_2 ?_ | len_3 ?_ | len_4 ?_ | len_5 ?_ | len_6 ?_ | len_7 ?_ | len_8 ?_\n\
    cont : cont_next ?_ | cont_ret ?_ | cont_brk ?_ | cont_cont ?_\n\
    m1 : show M1 _ _ ( unaryOp _ ) _ _ _ _ ; go un | show M1 _ _ #ga _ _ _ _ ; go lex\n\
    un : un_ ( Un.neg _ ) ?_ | un_ ( Un.inv _ ) ?_ | un_ ( Un.notB _ ) ?_\n\
    lex : lex_lineno @A @A ?_ | lex_instream @A @A ?_ | lex_whitespace @A @A ?_ | lex_pushback @A @A ?_\n\
    m1b : tn_int ?_ | tb_int ?_ | tb_bool ?_ | tb_none ?_ | tb_str ?_ ?_ ; rot 1 | tb_lst @lv ?_ ?_ ; rot 1\n\
    ex : ex_cons ?_ | ex_nil ?_\n\
    evs : evs_cons ?_ | evs_nil ?_\n\
    ty : And.intro ( TyOf.int _ ) ?_ | And.intro ( TyOf.str _ ) ?_ | And.intro ( TyOf.lstO @A ) ?_\n\
    sub : And.intro sub_str ?_ | And.intro sub_tup ?_ | And.intro ( sub_lst @lv ) ?_\n\
    binds : binds_1 @b | binds_2 @b | binds_3 @b\n\
    b : intros ; go K\n\
    capl : CapL.nil _ | capl_free ?c ?o ?m ?t ; case m mem ; case t capl | capl_other ?o ?n ?t ; case n D ; case t capl\n\
    rest : Rest.nil | rest_keep ?r ?h ?n ; case n K! ; case h rest | rest_drop ?r ?h ; case h rest\n\
    upd : d upd_exE ?_ ?_ ?_ ; rot 1 ; go rest\n\
    share : rot 2 ; go mem ; go1 K ; go rest\n\
    share0 : rot 1 ; go mem ; go rest"
  let e := ((tab.splitOn "\n").find? (·.startsWith (key ++ " : "))).getD ""
  if e == "" then Lean.Macro.throwUnsupported
  let term := fun (ws : List String) => do
    let st ← ws.foldlM (init := [(#[] : Array Lean.Term)]) fun st w =>
      match w, st with
      | "(", _ => return #[] :: st
      | ")", a :: b :: st => do
        let f := a[0]!
        let t ← `(($f $(a.extract 1 a.size)*))
        return b.push t :: st
      | _, a :: st => do
        let t : Lean.Term ← match w with
          | "_" => `(_)
          | "?_" => `(?_)
          | "[_]" => `([_])
          | "[_,_]" => `([_, _])
          | "#ga" => `(fun o => getAttr o _ _)
          | _ =>
            let r := (w.drop 1).toString
            if w.startsWith "?" then do let n ← Lean.Macro.addMacroScope (.mkSimple r); `(?$(Lean.mkIdent n):ident)
            else if w.startsWith "@" then `(by walk_at $(Lean.Syntax.mkStrLit r):str)
            else if w.startsWith "'" then pure (Lean.Syntax.mkStrLit (r.dropEnd 1).toString)
            else pure (Lean.mkIdent w.toName)
        return a.push t :: st
      | _, [] => return st
    let a := st.head!
    if a.size == 1 then return a[0]!
    let f := a[0]!
    `($f $(a.extract 1 a.size)*)
  let alts ← ((e.drop (key.length + 3)).toString.splitOn " | ").toArray.mapM fun a => do
    let ps ← (a.splitOn " ; ").toArray.mapM fun p => do
      match p.splitOn " " with
      | ["go", k] => `(tactic| walk_at $(Lean.Syntax.mkStrLit k):str)
      | ["rot", k] => if k == "1" then `(tactic| rotate_left) else `(tactic| rotate_left 2)
      | ["case", h, k] => do let n ← Lean.Macro.addMacroScope (.mkSimple h); `(tactic| (case $(Lean.mkIdent n):ident => walk_at $(Lean.Syntax.mkStrLit k):str))
      | "show" :: ws => do let t ← term ws; `(tactic| (with_reducible show $t))
      | ["intros"] => `(tactic| intros)
      | ["go1", k] => `(tactic| (focus walk_at $(Lean.Syntax.mkStrLit k):str))
      | "d" :: ws => do let t ← term ws; `(tactic| refine $t)
      | ws => do let t ← term ws; `(tactic| (with_reducible refine $t))
    `(Lean.Parser.Tactic.tacticSeq| $[$ps:tactic]*)
  `(tactic| first $[| $alts]*)
noncomputable def R_d2i : FnRec := ⟨"inner", "_digits2int.<locals>.inner", sParams (nthS (sBody (stm ix__digits2int)) 0), .stmts (sBody (nthS (sBody (stm ix__digits2int)) 0)), sScope (nthS (sBody (stm ix__digits2int)) 0)⟩
theorem bd_d2i : Binds R_d2i ["L", "R"] := by walk_at "binds"
theorem ck_d2i : fnL R_d2i ["L", "R"] ["n", "inner", "digits"] = true := by decide +kernel
theorem bd__digits2int : Binds F__digits2int ["digits", "n"] := by walk_at "binds"
theorem ck__digits2int : fnC F__digits2int ["digits", "n"] ["inner"] = true := by decide +kernel
section
variable {C : Ctx}
theorem in_d2i (B : Base C) {ds : List Nat} {n : Nat} {c1 c2 c3 f : Addr} (hn : 1 ≤ n) (hds : ∀ x ∈ ds, x < 2 ^ n) (hsz : n * ds.length ≤ 2 ^ 20) (hnd : [c2, c3, c1].Nodup) : ∀ (k d : Nat) (hd : k + 1 ≤ d) {σ : Store} {Q : V → Store → Prop} (L R : Nat), L < R → R ≤ ds.length → R - L ≤ 2 ^ k →
    σ c1 = some (.cell (some (.lst (ds.map fun x : Nat => V.int x)))) → σ c2 = some (.cell (some (.int n))) → σ c3 = some (.cell (some (.loc f))) → σ f = some (.func R_d2i [("n", c2), ("inner", c3), ("digits", c1)] none) →
    Q (.int (d2i n ((ds.drop L).take (R - L)))) σ → CallV C d (.loc f) [.int L, .int R] σ Q Bot := by
  intro k
  induction k with
  | zero =>
    intro d hd σ Q L R hL hR hk h1 h2 h3 hf q
    refine CallV.le (d := 1) ?_ hd
    refine cv_loc' (d := 0) B.ok2 hf bd_d2i ck_d2i rfl rfl ?_ hnd rfl fun code => ?_
    · intro p hp
      simp only [List.mem_cons, List.mem_nil_iff, or_false] at hp
      rcases hp with rfl | rfl | rfl
      · exact ⟨_, h2⟩
      · exact ⟨_, h3⟩
      · exact ⟨_, h1⟩
    walk_at "start"
    walk_at "go"
    refine ite_beq (fun h => ?_) (fun h => ?_)
    · walk_at "go"
      have hx := hds _ (List.getElem_mem (show L < ds.length by lia))
      refine gn_lst (.fr _) (x := .int ((ds[L]'(by lia) : Nat) : Int)) (by rw [List.getElem?_map, List.getElem?_eq_getElem (by lia)]; rfl) (by rw [List.length_map]; have := Nat.le_mul_of_pos_left ds.length hn; lia) ?_
      walk_at "go"
      have : (ds.drop L).take (R - L) = [ds[L]'(by lia)] := by
        rw [show R - L = 1 by lia, List.drop_eq_getElem_cons (by lia)]; rfl
      rw [this] at q
      simpa [d2i] using q
    · simp at hk; lia
  | succ k ih =>
    intro d hd σ Q L R hL hR hk h1 h2 h3 hf q
    obtain ⟨d, rfl⟩ : ∃ d', d = d' + 1 := ⟨d - 1, by lia⟩
    refine cv_loc' (d := d) B.ok2 hf bd_d2i ck_d2i rfl rfl ?_ hnd rfl fun code => ?_
    · intro p hp
      simp only [List.mem_cons, List.mem_nil_iff, or_false] at hp
      rcases hp with rfl | rfl | rfl
      · exact ⟨_, h2⟩
      · exact ⟨_, h3⟩
      · exact ⟨_, h1⟩
    walk_at "start"
    walk_at "go"
    refine ite_beq (fun h => ?_) (fun h => ?_)
    · walk_at "go"
      refine gn_lst (.fr _) (x := .int ((ds[L]'(by lia) : Nat) : Int)) (by rw [List.getElem?_map, List.getElem?_eq_getElem (by lia)]; rfl) (by rw [List.length_map]; have := Nat.le_mul_of_pos_left ds.length hn; lia) ?_
      walk_at "go"
      have : (ds.drop L).take (R - L) = [ds[L]'(by lia)] := by
        rw [show R - L = 1 by lia, List.drop_eq_getElem_cons (by lia)]; rfl
      rw [this] at q
      simpa [d2i] using q
    have hl : ds.length ≤ 2 ^ 20 := Nat.le_trans (Nat.le_mul_of_pos_left ds.length hn) hsz
    have hp : 2 ^ (k + 1) = 2 * 2 ^ k := by rw [Nat.pow_succ, Nat.mul_comm]
    rw [hp] at hk
    walk_at "go"
    rotate_left; · exact mulOk_small (.inl (by lia))
    refine ⟨keep_loc hf, ih d (by lia) _ _ (by lia) hR (by lia) h1 h2 h3 hf ?_⟩
    have hlen : ((ds.drop ((L + R) / 2)).take (R - (L + R) / 2)).length = R - (L + R) / 2 := by simp; lia
    have hlt := d2i_lt n ((ds.drop ((L + R) / 2)).take (R - (L + R) / 2)) fun x hx => hds x (List.mem_of_mem_drop (List.mem_of_mem_take hx))
    rw [hlen] at hlt
    walk_at "go"
    rotate_left
    · have h1 := nbits_le hlt
      have h2 : n * (R - (L + R) / 2) ≤ n * ds.length := Nat.mul_le_mul_left _ (by lia)
      have h3 : ((L + R) / 2 - L) * n ≤ n * ds.length := by rw [Nat.mul_comm]; exact Nat.mul_le_mul_left _ (by lia)
      omega
    refine ⟨keep_loc hf, ih d (by lia) _ _ (by lia) (by lia) (by lia) h1 h2 h3 hf ?_⟩
    walk_at "go"
    have e : (ds.drop L).take (R - L) = (ds.drop L).take ((L + R) / 2 - L) ++ (ds.drop ((L + R) / 2)).take (R - (L + R) / 2) := by
      have : (ds.drop ((L + R) / 2)) = (ds.drop L).drop ((L + R) / 2 - L) := by rw [List.drop_drop]; congr 1; lia
      rw [this, ← List.take_add]; congr 1; lia
    rw [e, d2i_append] at q
    have l2 : ((ds.drop L).take ((L + R) / 2 - L)).length = (L + R) / 2 - L := by simp; lia
    rw [l2] at q
    have e2 : d2i n ((ds.drop ((L + R) / 2)).take (R - (L + R) / 2)) * 2 ^ (((L + R) / 2 - L) * n) + d2i n ((ds.drop L).take ((L + R) / 2 - L)) = d2i n ((ds.drop L).take ((L + R) / 2 - L)) + 2 ^ (n * ((L + R) / 2 - L)) * d2i n ((ds.drop ((L + R) / 2)).take (R - (L + R) / 2)) := by
      rw [Nat.mul_comm n, Nat.mul_comm (2 ^ _), Nat.add_comm]
    rw [e2]; exact q
end
section
variable {C : Ctx}
theorem cs__digits2int (B : Base C) {d : Nat} (hd : 40 ≤ d) {ds : List Nat} {n : Nat} {σ : Store} {Q : V → Store → Prop} {X : Value → Shared → Prop} (hn : 1 ≤ n) (hds : ∀ x ∈ ds, x < 2 ^ n) (hsz : n * ds.length ≤ 2 ^ 20)
    (q : Q (.int (d2i n ds : Nat)) σ) : CallV C d (.raw (.ref A__digits2int)) [.lst (ds.map fun x : Nat => V.int x), .int n] σ Q X := by
  have hl : ds.length ≤ 2 ^ 20 := Nat.le_trans (Nat.le_mul_of_pos_left ds.length hn) hsz
  refine CallV.le (d := 40) (CallV.pure ?_) hd
  refine cv_fnC' (d := 39) B.ok2 B.f__digits2int bd__digits2int ck__digits2int rfl rfl rfl ?_
  walk_at "start"
  refine ex_share (x := "digits") (v := ?_) (r' := ?_) ?_ ?_ ?_ fun c1 hc1 => ?_; walk_at "share"
  refine ex_share (x := "n") (v := ?_) (r' := ?_) ?_ ?_ ?_ fun c2 hc2 => ?_; walk_at "share"
  refine ex_share0 (x := "inner") (r' := ?_) ?_ ?_ fun c3 hc3 => ?_; walk_at "share0"
  refine ex_cons (st_def B.ok3 (n := N__digits2int) (cap := ?_) (by rw [B.nest]; exact List.mem_cons_of_mem _ List.mem_cons_self) (by exact List.mem_cons_self) rfl ?_ rfl rfl rfl rfl (by intro _; rfl) (by walk_at "mem") (by decide +kernel) (upd_self ..) fun f hf => ?_)
  rotate_left; walk_at "capl"
  obtain ⟨n21, hc2⟩ := upd_none hc2
  obtain ⟨n32, hc3⟩ := upd_none hc3
  obtain ⟨n31, hc3⟩ := upd_none hc3
  obtain ⟨nf3, hf⟩ := upd_none hf
  obtain ⟨nf2, hf⟩ := upd_none hf
  obtain ⟨nf1, hf⟩ := upd_none hf
  refine cont_next ?_
  generalize hσ : upd (upd (upd (upd (upd σ c1 _) c2 _) c3 _) f _) c3 _ = σ5
  have s1 : σ5 c1 = some (.cell (some (.lst (ds.map fun x : Nat => V.int x)))) := by rw [← hσ]; exact upd_of (Ne.symm n31) (upd_of (Ne.symm nf1) (upd_of (Ne.symm n31) (upd_of (Ne.symm n21) (upd_self ..))))
  have s2 : σ5 c2 = some (.cell (some (.int n))) := by rw [← hσ]; exact upd_of (Ne.symm n32) (upd_of (Ne.symm nf2) (upd_of (Ne.symm n32) (upd_self ..)))
  have s3 : σ5 c3 = some (.cell (some (.loc f))) := by rw [← hσ]; exact upd_self ..
  have sf : σ5 f = some (.func R_d2i [("n", c2), ("inner", c3), ("digits", c1)] none) := by rw [← hσ]; exact upd_of nf3 (upd_self ..)
  have sub : Sub σ σ5 := by rw [← hσ]; exact (((((Sub.refl.upd hc1).upd hc2).upd hc3).upd hf).upd hc3)
  have hnd : [c2, c3, c1].Nodup := by simp [n21, n32, n31, Ne.symm n32, Ne.symm n31]
  walk_at "go"
  rotate_left; · rw [List.length_map]; omega
  refine ite_gen (fun h => ?_) (fun h => ?_)
  · walk_at "go"
    rotate_left; · rw [List.length_map]; omega
    have h0 : 0 < ds.length := by cases ds with | nil => simp at h | cons => simp
    refine ⟨keep_loc sf, CallV.le (d := 22) ?_ (by decide)⟩
    refine in_d2i B hn hds hsz hnd 20 22 (by omega) 0 (ds.map fun x : Nat => V.int x).length (by rw [List.length_map]; exact h0) (by rw [List.length_map]; exact Nat.le_refl _) (by rw [List.length_map]; omega) s1 s2 s3 sf ?_
    walk_at "go"
    refine ⟨sub, _, .same _ (by intro a e; cases e), ?_⟩
    have : (ds.drop 0).take ((ds.map fun x : Nat => V.int x).length - 0) = ds := by simp
    rw [this]; exact q
  · have : ds = [] := by cases ds with | nil => rfl | cons => simp at h
    subst this
    walk_at "go"
    exact ⟨sub, _, .same _ (by intro a e; cases e), q⟩
end
noncomputable def R_i2d : FnRec := ⟨"inner", "_int2digits.<locals>.inner", sParams (nthS (sBody (stm ix__int2digits)) 1), .stmts (sBody (nthS (sBody (stm ix__int2digits)) 1)), sScope (nthS (sBody (stm ix__int2digits)) 1)⟩
theorem bd_i2d : Binds R_i2d ["x", "L", "R"] := by walk_at "binds"
theorem ck_i2d : fnL R_i2d ["x", "L", "R"] ["n", "inner", "a_digits"] = true := by decide +kernel
theorem bd__int2digits : Binds F__int2digits ["a", "n"] := by walk_at "binds"
theorem ck__int2digits : fnC F__int2digits ["a", "n"] ["a_digits", "inner"] = true := by decide +kernel
theorem upd_upd (σ : Store) (a : Addr) (o o' : Option PObj) : upd (upd σ a o) a o' = upd σ a o' := by
  funext b; unfold upd; split <;> rfl
noncomputable def putD (vs : List V) (L R : Nat) (ds : List Nat) : List V := vs.take L ++ ds.map (fun x : Nat => V.int x) ++ vs.drop R
theorem putD_one (vs : List V) (L x : Nat) (h : L < vs.length) : vs.set L (.int x) = putD vs L (L + 1) [x] := by
  unfold putD
  rw [List.set_eq_take_append_cons_drop, if_pos h]; simp
theorem putD_len (vs : List V) (L R : Nat) (ds : List Nat) (h : L ≤ R) (hR : R ≤ vs.length) (hd : ds.length = R - L) : (putD vs L R ds).length = vs.length := by
  unfold putD; simp; lia
theorem putD_two (vs : List V) (L M R : Nat) (d1 d2 : List Nat) (h1 : L ≤ M) (h2 : M ≤ R) (hR : R ≤ vs.length) (e1 : d1.length = M - L) (e2 : d2.length = R - M) : putD (putD vs L M d1) M R d2 = putD vs L R (d1 ++ d2) := by
  unfold putD
  have l1 : (List.take L vs ++ List.map (fun x : Nat => V.int x) d1).length = M := by simp; lia
  rw [List.take_append_of_le_length (by rw [l1]; exact Nat.le_refl _), List.take_of_length_le (by rw [l1]; exact Nat.le_refl _)]
  have : List.drop R (List.take L vs ++ List.map (fun x : Nat => V.int x) d1 ++ List.drop M vs) = List.drop R vs := by
    rw [List.drop_append, l1, List.drop_eq_nil_of_le (by rw [l1]; exact h2), List.drop_drop]
    simp; congr 1; lia
  rw [this]; simp
section
variable {C : Ctx}
theorem in_i2d (B : Base C) {n : Nat} {c1 c2 c3 f p : Addr} (hn : 1 ≤ n) (hnd : [c2, c3, c1].Nodup) : ∀ (k d : Nat) (hd : k + 1 ≤ d) {σ : Store} {Q : V → Store → Prop} (vs : List V) (x L R : Nat), L < R → R ≤ vs.length → R - L ≤ 2 ^ k → n * vs.length ≤ 2 ^ 20 → x < 2 ^ (n * (R - L)) →
    σ c1 = some (.cell (some (.loc p))) → σ c2 = some (.cell (some (.int n))) → σ c3 = some (.cell (some (.loc f))) → σ f = some (.func R_i2d [("n", c2), ("inner", c3), ("a_digits", c1)] none) → σ p = some (.list vs) →
    Q .none (upd σ p (some (.list (putD vs L R (i2d n (R - L) x))))) → CallV C d (.loc f) [.int x, .int L, .int R] σ Q Bot := by
  intro k
  induction k with
  | zero =>
    intro d hd σ Q vs x L R hL hR hk hsz hx h1 h2 h3 hf hp q
    have hl : vs.length ≤ 2 ^ 20 := Nat.le_trans (Nat.le_mul_of_pos_left vs.length hn) hsz
    refine CallV.le (d := 1) ?_ hd
    refine cv_loc' (d := 0) B.ok2 hf bd_i2d ck_i2d rfl rfl ?_ hnd rfl fun code => ?_
    · intro p hp
      simp only [List.mem_cons, List.mem_nil_iff, or_false] at hp
      rcases hp with rfl | rfl | rfl
      · exact ⟨_, h2⟩
      · exact ⟨_, h3⟩
      · exact ⟨_, h1⟩
    walk_at "start"
    walk_at "go"
    refine ite_beq (fun h => ?_) (fun h => ?_)
    · walk_at "go"
      refine ⟨p, vs, (L : Int), rfl, rfl, hp, Int.natCast_nonneg L, by simp; lia, by lia, ?_⟩
      walk_at "go"
      rw [Int.toNat_natCast, putD_one vs L x (by lia)]
      have : R - L = 1 := by lia
      rw [this, Nat.mul_one] at hx
      rw [this] at q
      simp only [i2d, Nat.mod_eq_of_lt hx] at q
      rw [h]; exact q
    · simp at hk; lia
  | succ k ih =>
    intro d hd σ Q vs x L R hL hR hk hsz hx h1 h2 h3 hf hp q
    have hl : vs.length ≤ 2 ^ 20 := Nat.le_trans (Nat.le_mul_of_pos_left vs.length hn) hsz
    obtain ⟨d, rfl⟩ : ∃ d', d = d' + 1 := ⟨d - 1, by lia⟩
    refine cv_loc' (d := d) B.ok2 hf bd_i2d ck_i2d rfl rfl ?_ hnd rfl fun code => ?_
    · intro p hp
      simp only [List.mem_cons, List.mem_nil_iff, or_false] at hp
      rcases hp with rfl | rfl | rfl
      · exact ⟨_, h2⟩
      · exact ⟨_, h3⟩
      · exact ⟨_, h1⟩
    have hpw : 2 ^ (k + 1) = 2 * 2 ^ k := by rw [Nat.pow_succ, Nat.mul_comm]
    rw [hpw] at hk
    walk_at "start"
    walk_at "go"
    refine ite_beq (fun h => ?_) (fun h => ?_)
    · walk_at "go"
      refine ⟨p, vs, (L : Int), rfl, rfl, hp, Int.natCast_nonneg L, by simp; lia, by lia, ?_⟩
      walk_at "go"
      rw [Int.toNat_natCast, putD_one vs L x (by lia)]
      have : R - L = 1 := by lia
      rw [this, Nat.mul_one] at hx
      rw [this] at q
      simp only [i2d, Nat.mod_eq_of_lt hx] at q
      rw [h]; exact q
    have hle : n * (R - L) ≤ n * vs.length := Nat.mul_le_mul_left _ (by lia)
    have hle2 : ((L + R) / 2 - L) * n ≤ n * vs.length := by rw [Nat.mul_comm]; exact Nat.mul_le_mul_left _ (by lia)
    walk_at "go"
    rotate_left
    · exact mulOk_small (.inl (by lia))
    · have h8 := Nat.le_trans (nbits_le (Nat.lt_of_le_of_lt (Nat.div_le_self x (2 ^ (((L + R) / 2 - L) * n))) hx)) (Nat.le_trans hle hsz)
      have h9 := Nat.le_trans hle2 hsz
      omega
    rw [xor_low]
    have n1 : c1 ≠ p := fun e => by rw [e, hp] at h1; cases h1
    have n2 : c2 ≠ p := fun e => by rw [e, hp] at h2; cases h2
    have n3 : c3 ≠ p := fun e => by rw [e, hp] at h3; cases h3
    have nf : f ≠ p := fun e => by rw [e, hp] at hf; cases hf
    have ec : ((L + R) / 2 - L) * n = n * ((L + R) / 2 - L) := Nat.mul_comm _ _
    have hlen1 := putD_len vs L ((L + R) / 2) (i2d n ((L + R) / 2 - L) x) (by lia) (by lia) (i2d_length ..)
    refine ⟨keep_loc hf, ih d (by lia) vs _ _ _ (by lia) (by lia) (by lia) hsz (by rw [ec]; exact Nat.mod_lt _ (Nat.two_pow_pos _)) h1 h2 h3 hf hp ?_⟩
    rw [ec, i2d_mod]
    have h1' := upd_of (o := some (.list (putD vs L ((L + R) / 2) (i2d n ((L + R) / 2 - L) x)))) n1 h1
    have h2' := upd_of (o := some (.list (putD vs L ((L + R) / 2) (i2d n ((L + R) / 2 - L) x)))) n2 h2
    have h3' := upd_of (o := some (.list (putD vs L ((L + R) / 2) (i2d n ((L + R) / 2 - L) x)))) n3 h3
    have hf' := upd_of (o := some (.list (putD vs L ((L + R) / 2) (i2d n ((L + R) / 2 - L) x)))) nf hf
    walk_at "go"
    refine ⟨keep_loc hf', ih d (by lia) (putD vs L ((L + R) / 2) (i2d n ((L + R) / 2 - L) x)) _ _ _ (by lia) (by lia) (by lia) (by rw [hlen1]; exact hsz) ?_ h1' h2' h3' hf' (upd_self ..) ?_⟩
    · rw [Nat.div_lt_iff_lt_mul (Nat.two_pow_pos _), ← Nat.pow_add, ← Nat.mul_add]
      exact Nat.lt_of_lt_of_le hx (Nat.pow_le_pow_right (by decide) (Nat.mul_le_mul_left _ (by lia)))
    walk_at "go"
    rw [upd_upd, putD_two _ _ _ _ _ _ (by lia) (by lia) hR (i2d_length ..) (i2d_length ..), ← i2d_add]
    have : (L + R) / 2 - L + (R - (L + R) / 2) = R - L := by lia
    rw [this]; exact q
end
section
variable {C : Ctx}
/-- how many figures a number has -/
noncomputable def ndig (n a : Nat) : Nat := (nbits a + n - 1) / n
theorem ndig_lt {n a : Nat} (hn : 1 ≤ n) : a < 2 ^ (n * ndig n a) := by
  refine Nat.lt_of_lt_of_le (lt_nbits a) (Nat.pow_le_pow_right (by decide) ?_)
  unfold ndig
  have h1 := Nat.div_add_mod (nbits a + n - 1) n
  have h2 := Nat.mod_lt (nbits a + n - 1) (show 0 < n by lia)
  omega
theorem cs__int2digits (B : Base C) {d : Nat} (hd : 40 ≤ d) {a n : Nat} {σ : Store} {Q : V → Store → Prop} {X : Value → Shared → Prop} (hn : 1 ≤ n) (hn2 : n ≤ 2 ^ 19) (ha : a < 2 ^ (2 ^ 19))
    (q : Q (.lst ((i2d n (ndig n a) a).map fun x : Nat => V.int x)) σ) : CallV C d (.raw (.ref A__int2digits)) [.int a, .int n] σ Q X := by
  have hb := nbits_le ha
  have hnd : n * ndig n a ≤ 2 ^ 20 := by
    unfold ndig
    have h1 := Nat.div_add_mod (nbits a + n - 1) n
    omega
  have hl : ndig n a ≤ 2 ^ 20 := Nat.le_trans (Nat.le_mul_of_pos_left _ hn) hnd
  refine CallV.le (d := 40) (CallV.pure ?_) hd
  refine cv_fnC' (d := 39) B.ok2 B.f__int2digits bd__int2digits ck__int2digits rfl rfl rfl ?_
  walk_at "start"
  refine ex_cons (st_assign' (stores_cell (sl := .emp) (by kernel_rfl) (by walk_at "mem") (by intro c e; cases e)) ?_)
  walk_at "go"
  rotate_left; · lia
  · have h3 : n < 2 ^ 9000 := Nat.lt_of_le_of_lt hn2 (by decide +kernel)
    have h4 : n ≠ 0 := by lia
    exact (Nat.log2_lt h4).mpr h3
  refine bin_mulO (.fr _) (by simpa [ndig] using (show ndig n a ≤ 2 ^ 24 by lia)) (by exact (show ndig n a ≤ 2 ^ 24 by lia)) fun p hp => ?_
  have hrep : (List.replicate ((nbits a + n - 1) / n) [V.int 0]).flatten = List.replicate (ndig n a) (.int 0) := by
    show _ = List.replicate ((nbits a + n - 1) / n) (V.int 0)
    induction ((nbits a + n - 1) / n) with
    | zero => rfl
    | succ m ih => rw [List.replicate_succ, List.flatten_cons, ih]; rfl
  rw [hrep]
  walk_at "upd"
  refine cont_next ?_
  refine ex_share (x := "n") (v := ?_) (r' := ?_) ?_ ?_ ?_ fun c2 hc2 => ?_; walk_at "share"
  refine ex_share (x := "a_digits") (v := ?_) (r' := ?_) ?_ ?_ ?_ fun c1 hc1 => ?_; walk_at "share"
  refine ex_share0 (x := "inner") (r' := ?_) ?_ ?_ fun c3 hc3 => ?_; walk_at "share0"
  refine ex_cons (st_def B.ok3 (n := N__int2digits) (cap := ?_) (by rw [B.nest]; exact List.mem_cons_self) (by exact List.mem_cons_self) rfl ?_ rfl rfl rfl rfl (by intro _; rfl) (by walk_at "mem") (by kernel_rfl) (upd_self ..) fun f hf => ?_)
  rotate_left; walk_at "capl"
  obtain ⟨n2p, hc2⟩ := upd_none hc2
  obtain ⟨n12, hc1⟩ := upd_none hc1
  obtain ⟨n1p, hc1⟩ := upd_none hc1
  obtain ⟨n31, hc3⟩ := upd_none hc3
  obtain ⟨n32, hc3⟩ := upd_none hc3
  obtain ⟨n3p, hc3⟩ := upd_none hc3
  obtain ⟨nf3, hf⟩ := upd_none hf
  obtain ⟨nf1, hf⟩ := upd_none hf
  obtain ⟨nf2, hf⟩ := upd_none hf
  obtain ⟨nfp, hf⟩ := upd_none hf
  refine cont_next ?_
  generalize hσ : upd (upd (upd (upd (upd (upd σ p _) c2 _) c1 _) c3 _) f _) c3 _ = σ5
  have s1 : σ5 c1 = some (.cell (some (.loc p))) := by rw [← hσ]; exact upd_of (Ne.symm n31) (upd_of (Ne.symm nf1) (upd_of (Ne.symm n31) (upd_self ..)))
  have s2 : σ5 c2 = some (.cell (some (.int n))) := by rw [← hσ]; exact upd_of (Ne.symm n32) (upd_of (Ne.symm nf2) (upd_of (Ne.symm n32) (upd_of (Ne.symm n12) (upd_self ..))))
  have s3 : σ5 c3 = some (.cell (some (.loc f))) := by rw [← hσ]; exact upd_self ..
  have sf : σ5 f = some (.func R_i2d [("n", c2), ("inner", c3), ("a_digits", c1)] none) := by rw [← hσ]; exact upd_of nf3 (upd_self ..)
  have sp : σ5 p = some (.list (List.replicate (ndig n a) (.int 0))) := by rw [← hσ]; exact upd_of (Ne.symm n3p) (upd_of (Ne.symm nfp) (upd_of (Ne.symm n3p) (upd_of (Ne.symm n1p) (upd_of (Ne.symm n2p) (upd_self ..)))))
  have sub : Sub σ σ5 := by rw [← hσ]; exact ((((((Sub.refl.upd hp).upd hc2).upd hc1).upd hc3).upd hf).upd hc3)
  have hnn : [c2, c3, c1].Nodup := by simp [n12, n32, n31, Ne.symm n32, Ne.symm n31, Ne.symm n12]
  walk_at "go"
  by_cases h0 : a = 0
  · subst h0
    rw [show ((0 : Nat) != 0) = false from rfl]
    walk_at "go"
    refine ⟨sub, _, .lst sp hp, ?_⟩
    have : (i2d n (ndig n 0) 0).map (fun x : Nat => V.int x) = List.replicate (ndig n 0) (.int 0) := by
      generalize ndig n 0 = m
      induction m with
      | zero => rfl
      | succ m ih => simp only [i2d, List.map_cons, List.replicate_succ, Nat.zero_mod, Nat.zero_div]; rw [ih]; rfl
    rw [this] at q; exact q
  · rw [bne_iff_ne.mpr h0]
    walk_at "go"
    rotate_left; · simp; lia
    have hm : 0 < ndig n a := by
      rcases Nat.eq_zero_or_pos (ndig n a) with e | e
      · have := ndig_lt (a := a) hn; rw [e] at this; simp at this; exact absurd this h0
      · exact e
    refine ⟨keep_loc sf, CallV.le (d := 22) ?_ (by decide)⟩
    refine in_i2d B hn hnn 20 22 (by lia) (List.replicate (ndig n a) (.int 0)) a 0 (List.replicate (ndig n a) (V.int 0)).length (by simpa using hm) (Nat.le_refl _) (by simp; lia) (by simpa using hnd) (by simpa using ndig_lt (a := a) hn) s1 s2 s3 sf sp ?_
    have np1 : c1 ≠ p := n1p
    have s1' := upd_of (o := some (.list (putD (List.replicate (ndig n a) (.int 0)) 0 (List.replicate (ndig n a) (V.int 0)).length (i2d n ((List.replicate (ndig n a) (V.int 0)).length - 0) a)))) n1p s1
    walk_at "go"
    refine ⟨fun b o hb => ?_, _, .lst (upd_self ..) hp, ?_⟩
    · rw [upd_ne _ _ (fun e => by rw [e, hp] at hb; cases hb)]; exact sub b o hb
    · have : putD (List.replicate (ndig n a) (.int 0)) 0 (List.replicate (ndig n a) (V.int 0)).length (i2d n ((List.replicate (ndig n a) (V.int 0)).length - 0) a) = (i2d n (ndig n a) a).map fun x : Nat => V.int x := by
        simp [putD]
      rw [this]; exact q
end
theorem bd__div2n1n : Binds F__div2n1n ["a", "b", "n"] := by walk_at "binds"
theorem ck__div2n1n : fnB F__div2n1n ["a", "b", "n"] = true := by decide +kernel
theorem bd__divmod_pos : Binds F__divmod_pos ["a", "b"] := by walk_at "binds"
theorem ck__divmod_pos : fnB F__divmod_pos ["a", "b"] = true := by decide +kernel
theorem bd_int_divmod : Binds F_int_divmod ["a", "b"] := by walk_at "binds"
theorem ck_int_divmod : fnB F_int_divmod ["a", "b"] = true := by decide +kernel
theorem dv_step {b n h dg : Nat} (hb : 1 ≤ b) (hdg : dg < 2 ^ n) : h % b * 2 ^ n + dg < b * 2 ^ n ∧ (h % b * 2 ^ n + dg) % b = (h * 2 ^ n + dg) % b ∧ (h * 2 ^ n + dg) / b = h / b * 2 ^ n + (h % b * 2 ^ n + dg) / b ∧ (h % b * 2 ^ n + dg) / b < 2 ^ n := by
  have e : h * 2 ^ n + dg = b * (h / b * 2 ^ n) + (h % b * 2 ^ n + dg) := by
    conv => lhs; rw [← Nat.div_add_mod h b, Nat.add_mul]
    rw [Nat.mul_assoc, Nat.add_assoc]
  have hlt : h % b * 2 ^ n + dg < b * 2 ^ n := by
    have h1 : h % b + 1 ≤ b := Nat.mod_lt h (by lia)
    have h2 : (h % b + 1) * 2 ^ n ≤ b * 2 ^ n := Nat.mul_le_mul_right _ h1
    rw [Nat.add_mul, Nat.one_mul] at h2; lia
  refine ⟨hlt, by rw [e, Nat.mul_add_mod], by rw [e, Nat.mul_add_div (by lia)], ?_⟩
  rw [Nat.div_lt_iff_lt_mul (by lia), Nat.mul_comm (2 ^ n) b]; exact hlt
theorem i2d_get (n : Nat) : ∀ (k x m : Nat), m < k → (i2d n k x)[m]? = some (x / 2 ^ (n * m) % 2 ^ n)
  | k + 1, x, 0, _ => by simp [i2d]
  | k + 1, x, m + 1, h => by
    simp only [i2d, List.getElem?_cons_succ]
    rw [i2d_get n k _ m (by lia), Nat.div_div_eq_div_mul, ← Nat.pow_add, Nat.mul_add, Nat.mul_one, Nat.add_comm n]
theorem Nat.mul_add_mod_of_lt' {x m y : Nat} (h : y < m) : (x * m + y) % m = y := by rw [Nat.mul_comm, Nat.mul_add_mod, Nat.mod_eq_of_lt h]
theorem Nat.mul_add_div_of_lt' {x m y : Nat} (h : y < m) : (x * m + y) / m = x := by rw [Nat.mul_comm, Nat.mul_add_div (by lia), Nat.div_eq_of_lt h, Nat.add_zero]
/-- what _div2n1n does for one divisor -/
noncomputable def DivOk (C : Ctx) (b n : Nat) : Prop := ∀ {d : Nat} {σ : Store} {Q : V → Store → Prop} (x : Nat), 60 ≤ d → x < b * 2 ^ n → Q (.tup [.int ((x / b : Nat) : Int), .int ((x % b : Nat) : Int)]) σ → CallV C d (.raw (.ref A__div2n1n)) [.int x, .int b, .int n] σ Q Bot
section
variable {C : Ctx}
theorem divOk_small (B : Base C) {b n : Nat} (hb : 1 ≤ b) (hbn : b < 2 ^ n) (hn : n ≤ 4000) : DivOk C b n := by
  intro d σ Q x hd hx q
  refine CallV.le (d := 10) ?_ (by lia)
  refine cv_fn' (d := 9) B.ok2 B.f__div2n1n bd__div2n1n ck__div2n1n rfl rfl rfl ?_
  have hx2 : x < 2 ^ (2 * n) := Nat.lt_of_lt_of_le hx (by rw [Nat.two_mul, Nat.pow_add]; exact Nat.mul_le_mul_right _ (Nat.le_of_lt hbn))
  have hbits := nbits_le hx2
  walk_at "start"
  walk_at "go"
  refine ite_dec (fun h => ?_) (fun h => absurd (by lia) h)
  walk_at "go"
  · exact q
  · lia
  · exact log2_lt_of (by lia) (Nat.lt_of_lt_of_le hbn (Nat.pow_le_pow_right (by decide) (by lia)))
theorem cs__divmod_pos (B : Base C) {a b : Nat} (D : DivOk C b (nbits b)) {d : Nat} {σ : Store} {Q : V → Store → Prop} {X : Value → Shared → Prop} (hd : 70 ≤ d) (hb : 1 ≤ b) (hbs : nbits b ≤ 2 ^ 19) (ha : a < 2 ^ (2 ^ 19))
    (q : Q (.tup [.int ((a / b : Nat) : Int), .int ((a % b : Nat) : Int)]) σ) : CallV C d (.raw (.ref A__divmod_pos)) [.int a, .int b] σ Q X := by
  refine CallV.le (d := 70) (CallV.pure ?_) hd
  refine cv_fn' (d := 69) B.ok2 B.f__divmod_pos bd__divmod_pos ck__divmod_pos rfl rfl rfl ?_
  walk_at "start"
  walk_at "go"
  have hn1 : 1 ≤ nbits b := by unfold nbits; rw [if_neg (by lia)]; lia
  have hla := ndig_lt (n := nbits b) (a := a) hn1
  have hndb : nbits b * ndig (nbits b) a ≤ 2 ^ 20 := by
    unfold ndig
    have h1 := Nat.div_add_mod (nbits a + nbits b - 1) (nbits b)
    have h2 := nbits_le ha
    omega
  refine cs__int2digits B (by decide) hn1 hbs ha ?_
  generalize hL : ndig (nbits b) a = L at *
  generalize hn : nbits b = n at *
  have hLl : L ≤ 2 ^ 20 := Nat.le_trans (Nat.le_mul_of_pos_left _ hn1) hndb
  iterate 9 walk_at "s"
  refine ev_listO ?_
  walk_at "s"
  refine ⟨by simp, fun qa hqa => ?_⟩
  walk_at "go"
  refine st_forO ?_
  walk_at "go"
  refine bi_reversed fun it hit => ?_
  obtain ⟨nit, hit⟩ := upd_none hit
  refine ⟨it, _, rfl, upd_self .., trivial, fun m ρ' σ' => ∃ (r : Nat) (qs : List Nat), Has ρ' [("r", .val (.int r)), ("q_digits", .val (.loc qa)), ("n", .val (.int n)), ("b", .val (.int b))] ∧ σ' qa = some (.list (qs.map fun x : Nat => V.int x)) ∧
    σ' it = some (.riter ((i2d n L a).map fun x : Nat => V.int x) m) ∧ Sub σ σ' ∧ m ≤ L ∧ qs.reverse = i2d n (L - m) (a / 2 ^ (n * m) / b) ∧ r = a / 2 ^ (n * m) % b, ((i2d n L a).map fun x : Nat => V.int x).length, ?_, ?_⟩
  · rw [List.length_map, i2d_length]
    refine ⟨0, [], (by show Has _ [("r", .val (.int (0 : Int))), ("q_digits", .val (.loc qa)), ("n", .val (.int n)), ("b", .val (.int b))]; walk_at "has"), upd_of (Ne.symm nit) (upd_self ..), upd_self .., ((Sub.refl.upd hqa).upd hit), Nat.le_refl _, by simp [i2d], ?_⟩
    rw [Nat.div_eq_of_lt hla]; simp
  · rintro m ρ' σ' ⟨r, qs, hhas, hsq, hsi, sub, hm, hqs, rfl⟩
    have hlen : qs.length = L - m := by have := congrArg List.length hqs; simpa [i2d_length] using this
    refine nx_rev hsi (by rw [List.length_map, i2d_length]; exact hm) (fun h0 => ?_) (fun j x hj hx => ?_)
    · subst h0
      refine cont_next (ExP.has ?_ hhas)
      walk_at "go"
      refine bi_reverse hsq (by simp; lia) ?_
      refine cont_next ?_
      refine ex_freeze (x := "q_digits") (r' := ?_) (upd_self ..) ?_ ?_ ?_; rotate_left
      · walk_at "mem"
      · walk_at "rest"
      walk_at "go"
      rw [← List.map_reverse, hqs]
      refine cs__digits2int B (by decide) hn1 (i2d_lt _ _ _) (by rw [i2d_length]; exact hndb) ?_
      walk_at "go"
      refine ⟨(sub.upd hqa).upd hqa, _, .same _ (by intro a e; cases e), ?_⟩
      rw [d2i_i2d]
      simp only [Nat.mul_zero, Nat.pow_zero, Nat.div_one, Nat.sub_zero]
      rw [Nat.mod_eq_of_lt (Nat.lt_of_le_of_lt (Nat.div_le_self a b) hla)]
      exact q
    · subst hj
      have hj : j < L := hm
      have hx' : x = .int ((a / 2 ^ (n * j) % 2 ^ n : Nat) : Int) := by
        rw [List.getElem?_map, i2d_get n L a j hj] at hx
        exact (Option.some.inj hx).symm
      subst hx'
      refine ⟨⟨_, upd_self .., trivial⟩, AsP.sub ?_ hhas⟩
      have hsq' := upd_of (o := some (.riter ((i2d n L a).map fun x : Nat => V.int x) j)) (Ne.symm nit) hsq
      obtain ⟨v1, v2, v3, v4⟩ := dv_step (b := b) (n := n) (h := a / 2 ^ (n * (j + 1))) (dg := a / 2 ^ (n * j) % 2 ^ n) hb (Nat.mod_lt _ (Nat.two_pow_pos n))
      have hH : a / 2 ^ (n * (j + 1)) * 2 ^ n + a / 2 ^ (n * j) % 2 ^ n = a / 2 ^ (n * j) := by
        have : a / 2 ^ (n * (j + 1)) = a / 2 ^ (n * j) / 2 ^ n := by rw [Nat.div_div_eq_div_mul, ← Nat.pow_add, Nat.mul_add, Nat.mul_one]
        rw [this, Nat.mul_comm]; exact Nat.div_add_mod _ _
      rw [hH] at v2 v3
      have hbn : b < 2 ^ n := by rw [← hn]; exact lt_nbits b
      have hr : a / 2 ^ (n * (j + 1)) % b < 2 ^ n := Nat.lt_trans (Nat.mod_lt _ (by lia)) hbn
      walk_at "go"
      rotate_left
      · have := nbits_le hr; lia
      refine D _ (by decide) v1 ?_
      walk_at "go"
      rotate_left
      · simp; lia
      refine turn_next (m := j) (by lia) ⟨_, qs ++ [(a / 2 ^ (n * (j + 1)) % b * 2 ^ n + a / 2 ^ (n * j) % 2 ^ n) / b], by walk_at "has", ?_, upd_of nit (upd_self ..), (sub.upd hit).upd hqa, by lia, ?_, v2⟩
      · rw [upd_self]; simp
      · rw [List.reverse_append, List.reverse_singleton, List.singleton_append, hqs, show L - j = (L - (j + 1)) + 1 by lia]
        simp only [i2d]
        rw [v3, Nat.mul_add_mod_of_lt' v4, Nat.mul_add_div_of_lt' v4]
theorem cs_int_divmod (B : Base C) {a b : Int} (D : DivOk C b.natAbs (nbits b.natAbs)) {d : Nat} {σ : Store} {Q : V → Store → Prop} {X : Value → Shared → Prop} (hd : 80 ≤ d) (hb : b ≠ 0) (hbs : nbits b.natAbs ≤ 2 ^ 19) (ha : a.natAbs < 2 ^ (2 ^ 19))
    (q : Q (.tup [.int (a.fdiv b), .int (a.fmod b)]) σ) : CallV C d (.raw (.ref A_int_divmod)) [.int a, .int b] σ Q X := by
  have pos : ∀ (a b : Nat) {d : Nat} {σ : Store} {Q : V → Store → Prop}, DivOk C b (nbits b) → 72 ≤ d → 1 ≤ b → nbits b ≤ 2 ^ 19 → a < 2 ^ (2 ^ 19) → Q (.tup [.int ((a / b : Nat) : Int), .int ((a % b : Nat) : Int)]) σ → CallV C d (.raw (.ref A_int_divmod)) [.int a, .int b] σ Q Bot := by
    intro a b d σ Q D hd hb hbs ha q
    refine CallV.le (d := 72) ?_ hd
    refine cv_fn' (d := 71) B.ok2 B.f_int_divmod bd_int_divmod ck_int_divmod rfl rfl rfl ?_
    walk_at "start"
    walk_at "go"
    rw [beq_false_of_ne (show b ≠ 0 by lia)]
    walk_at "go"
    rw [decide_eq_false (show ¬ b < 0 by lia)]
    walk_at "go"
    rw [decide_eq_false (show ¬ a < 0 by lia)]
    walk_at "go"
    refine cs__divmod_pos B D (by decide) hb hbs ha ?_
    walk_at "go"
    exact q
  have pos2 : ∀ (a : Int) (b : Nat) {d : Nat} {σ : Store} {Q : V → Store → Prop}, DivOk C b (nbits b) → 74 ≤ d → 1 ≤ b → nbits b ≤ 2 ^ 19 → a.natAbs < 2 ^ (2 ^ 19) → Q (.tup [.int (a.fdiv b), .int (a.fmod b)]) σ → CallV C d (.raw (.ref A_int_divmod)) [.int a, .int b] σ Q Bot := by
    intro a b d σ Q D hd hb hbs ha q
    by_cases h0 : 0 ≤ a
    · obtain ⟨m, rfl⟩ := Int.eq_ofNat_of_zero_le h0
      refine pos m b D (by lia) hb hbs (by simpa using ha) ?_
      rw [fdivN, fmodN] at q; exact q
    · refine CallV.le (d := 74) ?_ hd
      refine cv_fn' (d := 73) B.ok2 B.f_int_divmod bd_int_divmod ck_int_divmod rfl rfl rfl ?_
      walk_at "start"
      walk_at "go"
      rw [beq_false_of_ne (show b ≠ 0 by lia)]
      walk_at "go"
      rw [decide_eq_false (show ¬ b < 0 by lia)]
      walk_at "go"
      rw [decide_eq_true (show a < 0 by lia)]
      walk_at "go"
      obtain ⟨m, hm⟩ := Int.eq_ofNat_of_zero_le (show 0 ≤ -a - 1 by lia)
      rw [show Builtin.bitNot a = (m : Int) from hm]
      refine pos m b D (by decide) hb hbs (by lia) ?_
      walk_at "go"
      have hb' : (0 : Int) < b := by lia
      obtain ⟨e1, e2⟩ := (Int.ediv_emod_unique (a := a) (r := (b : Int) - ((m % b : Nat) : Int) - 1) (q := -((m / b : Nat) : Int) - 1) hb').mpr (by
        have h1 := Nat.div_add_mod m b
        have h2 := Nat.mod_lt m (show 0 < b by lia)
        have h3 : ((b * (m / b) + m % b : Nat) : Int) = m := by rw [h1]
        rw [Int.natCast_add, Int.natCast_mul] at h3
        refine ⟨?_, by lia, by lia⟩
        rw [Int.mul_sub, Int.mul_neg]; lia)
      rw [Int.fdiv_eq_ediv_of_nonneg _ (by lia), Int.fmod_eq_emod_of_nonneg _ (by lia), e1, e2] at q
      have e3 : (b : Int) + Builtin.bitNot ((m % b : Nat) : Int) = (b : Int) - ((m % b : Nat) : Int) - 1 := by unfold Builtin.bitNot; lia
      rw [e3]
      exact q
  by_cases h0 : 0 < b
  · obtain ⟨m, rfl⟩ := Int.eq_ofNat_of_zero_le (Int.le_of_lt h0)
    exact CallV.of (pos2 a m D (by lia) (by lia) hbs ha q)
  · refine CallV.le (d := 80) ?_ hd
    refine cv_fn' (d := 79) B.ok2 B.f_int_divmod bd_int_divmod ck_int_divmod rfl rfl rfl ?_
    obtain ⟨m, hm⟩ := Int.eq_ofNat_of_zero_le (show 0 ≤ -b by lia)
    have hbm : b.natAbs = m := by lia
    rw [hbm] at D hbs
    walk_at "start"
    walk_at "go"
    rw [beq_false_of_ne hb]
    walk_at "go"
    rw [decide_eq_true (show b < 0 by lia)]
    walk_at "go"
    rw [hm]
    refine pos2 (-a) m D (by decide) (by lia) hbs (by lia) ?_
    walk_at "go"
    rw [← hm, Int.neg_fdiv_neg]
    have e : -((-a).fmod (-b)) = a.fmod b := by
      have h1 := Int.mul_fdiv_add_fmod a b
      have h2 := Int.mul_fdiv_add_fmod (-a) (-b)
      rw [Int.neg_fdiv_neg, Int.neg_mul] at h2
      omega
    rw [e]; exact q
end
section
variable {C : Ctx} {σ : Store} {X : Value → Shared → Prop} {d : Nat} {Q : V → Store → Prop}
/-! the table of signs that mean nothing -/
noncomputable def hidL : List Nat := [173, 847, 6150, 6155, 6156, 6157, 8203, 8204, 8205, 8288, 65279, 65024, 65025, 65026, 65027, 65028, 65029, 65030, 65031, 65032, 65033, 65034, 65035, 65036, 65037, 65038, 65039]
noncomputable def b1 (c : Nat) : Bool := hidL.contains c
noncomputable def setEs : Data → List (Int × Value) | .set es _ _ => es.toList | _ => []
noncomputable def setPairs (es : List (Int × Value)) : List (Int × Tok) := es.map fun e => match e.2 with | .int k t => (k, t) | _ => (0, 0)
theorem b1_es : ∀ P : Params, setEs (b1O P).data = (setPairs (setEs (b1O P).data)).map fun p => (hashInt p.1, .int p.1 p.2) := by intro P; kernel_rfl
theorem b1_in : ∀ P : Params, (((setPairs (setEs (b1O P).data)).map (·.1)).all (fun k => (hidL.map Int.ofNat).contains k) && hidL.all (fun c => ((setPairs (setEs (b1O P).data)).map (·.1)).contains (Int.ofNat c))) = true := by intro P; kernel_rfl
theorem b1_set (B : Base C) : C.h1.SetOf (intKind C.prog C.w) A_b1 (fun k => ((setPairs (setEs (b1O C.w.params).data)).map (·.1)).contains k) 27 := by
  have e := b1_es C.w.params
  refine ⟨_, _, _, _, B.at (b1_at C.w.params), ⟨rfl, rfl, rfl⟩, rfl, ?_, ?_, by decide, by rfl, rfl⟩
  · intro x hx
    have hx : x ∈ setEs (b1O C.w.params).data := hx
    rw [e] at hx
    obtain ⟨p, hp, rfl⟩ := List.mem_map.mp hx
    exact ⟨⟨p.1, by simp [intKind, Value.isInt], rfl⟩, rfl⟩
  · intro k
    rw [List.contains_iff_mem]
    constructor
    · intro h
      obtain ⟨p, hp, rfl⟩ := List.mem_map.mp h
      exact ⟨(hashInt p.1, .int p.1 p.2), by show _ ∈ setEs (b1O C.w.params).data; rw [e]; exact List.mem_map.mpr ⟨p, hp, rfl⟩, by simp [intKind, Value.isInt]⟩
    · rintro ⟨x, hx, hk⟩
      have hx : x ∈ setEs (b1O C.w.params).data := hx
      rw [e] at hx
      obtain ⟨p, hp, rfl⟩ := List.mem_map.mp hx
      have : p.1 = k := by simpa [intKind, Value.isInt] using hk
      rw [← this]; exact List.mem_map.mpr ⟨p, hp, rfl⟩
theorem b1_eq (P : Params) (c : Nat) : ((setPairs (setEs (b1O P).data)).map (·.1)).contains (c : Int) = b1 c := by
  have h := b1_in P
  rw [Bool.and_eq_true, List.all_eq_true, List.all_eq_true] at h
  unfold b1
  apply Bool.eq_iff_iff.mpr
  rw [List.contains_iff_mem, List.contains_iff_mem]
  constructor
  · intro m
    have := h.1 _ m
    rw [List.contains_iff_mem] at this
    obtain ⟨x, hx, e⟩ := List.mem_map.mp this
    have : x = c := by have : (x : Int) = c := e; omega
    rw [← this]; exact hx
  · intro m
    have := h.2 _ m
    rw [List.contains_iff_mem] at this
    exact this
theorem cmp_inB1 (B : Base C) {c : Nat} (q : Q (.bool (b1 c)) σ) : M2 C d (compareOp .In) (.int (c : Int)) (.raw (.ref A_b1)) σ Q X := fun A s x y hA hi hx hy QM hq => by
  cases hx; cases hy
  have hS := b1_set B
  obtain ⟨o, es, ep, t, ho, r⟩ := hS
  refine wpAny_inSet_of (knd := intKind C.prog C.w) (k := (c : Int)) (by simp [intKind, Value.isInt]) rfl ⟨o, es, ep, t, hi.base _ o ho B.nt, r⟩ ?_
  rw [b1_eq]
  exact hq _ _ _ _ q hi.toks .refl (.bool _)
end
theorem bd_in_table_b1 : Binds F_in_table_b1 ["code"] := by walk_at "binds"
theorem ck_in_table_b1 : fnB F_in_table_b1 ["code"] = true := by decide +kernel
theorem bd_map_table_b3 : Binds F_map_table_b3 ["code"] := by walk_at "binds"
theorem ck_map_table_b3 : fnB F_map_table_b3 ["code"] = true := by decide +kernel
theorem entsA_find (k : Int) : ∀ (l : List (Int × Str)) (t : Nat), match l.lookup k with
    | some v => ∃ e u, (entsA t l).find? (fun e => Value.isInt k e.key) = some e ∧ e.val = .str v u
    | none => (entsA t l).find? (fun e => Value.isInt k e.key) = none
  | [], t => rfl
  | (j, v) :: r, t => by
    have ih := entsA_find k r (t + 3)
    rw [List.lookup_cons]
    by_cases h : k = j
    · subst h
      rw [beq_self_eq_true]
      refine ⟨⟨hashInt k, .int k t, .str v (t + 1)⟩, t + 1, ?_, rfl⟩
      unfold entsA
      rw [List.find?_cons]
      simp [Value.isInt]
    · have e1 : (k == j) = false := by simpa using h
      have e2 : Value.isInt k (.int j t) = false := by simp [Value.isInt]; exact fun q => h q.symm
      rw [e1]
      unfold entsA
      simp only [List.find?_cons, e2]
      exact ih
theorem entsB_find (k : Int) : ∀ (l : List (Int × Str)) (t : Nat), match l.lookup k with
    | some v => ∃ e u, (entsB t l).find? (fun e => Value.isInt k e.key) = some e ∧ e.val = .str v u
    | none => (entsB t l).find? (fun e => Value.isInt k e.key) = none
  | [], t => rfl
  | (j, v) :: r, t => by
    have ih := entsB_find k r (t + 2)
    rw [List.lookup_cons]
    by_cases h : k = j
    · subst h
      rw [beq_self_eq_true]
      refine ⟨⟨hashInt k, .int k t, .str v (t + 1)⟩, t + 1, ?_, rfl⟩
      unfold entsB
      rw [List.find?_cons]
      simp [Value.isInt]
    · have e1 : (k == j) = false := by simpa using h
      have e2 : Value.isInt k (.int j t) = false := by simp [Value.isInt]; exact fun q => h q.symm
      rw [e1]
      unfold entsB
      simp only [List.find?_cons, e2]
      exact ih
theorem entsA_keys : ∀ (l : List (Int × Str)) (t : Nat), ∀ e ∈ entsA t l, ∃ k, Value.isInt k e.key = true ∧ e.hash = hashInt k
  | [], t, e, h => by cases h
  | (j, v) :: r, t, e, h => by
    rcases List.mem_cons.mp h with rfl | h
    · exact ⟨j, by simp [Value.isInt], rfl⟩
    · exact entsA_keys r _ e h
theorem entsB_keys : ∀ (l : List (Int × Str)) (t : Nat), ∀ e ∈ entsB t l, ∃ k, Value.isInt k e.key = true ∧ e.hash = hashInt k
  | [], t, e, h => by cases h
  | (j, v) :: r, t, e, h => by
    rcases List.mem_cons.mp h with rfl | h
    · exact ⟨j, by simp [Value.isInt], rfl⟩
    · exact entsB_keys r _ e h
theorem lookup_app {β : Type} {x : Int} : ∀ {l l' : List (Int × β)}, (l ++ l').lookup x = (l.lookup x).or (l'.lookup x)
  | [], l' => by simp
  | (n, v) :: l, l' => by
    simp only [List.cons_append, List.lookup_cons]
    cases hx : x == n <;> simp [lookup_app]
noncomputable def dEs : Data → List DictEntry | .dict es _ => es.toList | _ => []
theorem b3_find (k : Int) : match pairs.lookup k with
    | some v => ∃ e u, (dEs mainD.data).find? (fun e => Value.isInt k e.key) = some e ∧ e.val = .str v u
    | none => (dEs mainD.data).find? (fun e => Value.isInt k e.key) = none := by
  obtain ⟨t1, t2, hE⟩ : ∃ t1 t2, dEs mainD.data = entsA t1 (pC0 ++ pCs.flatten) ++ entsB t2 pL := ⟨_, _, rfl⟩
  rw [hE, pairs_cut, ← List.append_assoc, lookup_app]
  have h1 := entsA_find k (pC0 ++ pCs.flatten) t1
  have h2 := entsB_find k pL t2
  generalize (pC0 ++ pCs.flatten).lookup k = r1 at h1 ⊢
  generalize pL.lookup k = r2 at h2 ⊢
  rw [List.find?_append]
  cases r1 with
  | some v =>
    obtain ⟨e, u, g, hv⟩ := h1
    exact ⟨e, u, by rw [g]; rfl, hv⟩
  | none =>
    have h1 : (entsA t1 (pC0 ++ pCs.flatten)).find? (fun e => Value.isInt k e.key) = none := h1
    rw [h1]
    cases r2 with
    | some v => exact h2
    | none => exact h2
theorem b3_keys : ∀ e ∈ dEs mainD.data, ∃ k, Value.isInt k e.key = true ∧ e.hash = hashInt k := by
  obtain ⟨t1, t2, hE⟩ : ∃ t1 t2, dEs mainD.data = entsA t1 (pC0 ++ pCs.flatten) ++ entsB t2 pL := ⟨_, _, rfl⟩
  rw [hE]
  intro e he
  rcases List.mem_append.mp he with h | h
  · exact entsA_keys _ _ e h
  · exact entsB_keys _ _ e h
noncomputable def b3get (c : Nat) : Option (List Nat) := (pairs.lookup (c : Int)).map (·.cps.toList)
noncomputable def lowerL (x : List Nat) : List Nat := (Txt.lower ⟨x.toArray⟩).cps.toList
noncomputable def mapb3 (c : Nat) : List Nat := (b3get c).getD (lowerL [c])
section
variable {C : Ctx} {K : Kx} {ρ : Fm} {σ : Store} {X : Value → Shared → Prop} {d : Nat} {Q : V → Store → Prop}
theorem cs_in_table_b1 (B : Base C) (hd : 4 ≤ d) {c : Nat} (q : Q (.bool (b1 c)) σ) : CallV C d (.raw (.ref A_in_table_b1)) [.str [c]] σ Q X := by
  refine CallV.le (d := 4) ?_ hd
  refine cv_fn' (d := 3) B.ok2 B.f_in_table_b1 bd_in_table_b1 ck_in_table_b1 rfl rfl rfl ?_
  walk_at "start"
  walk_at "go"
  refine cmp_inB1 B ?_
  walk_at "go"
  exact q
theorem ev_methB {T id : String} {o : Expr} {name : Str} {apos pos : Pos} {args : List Expr} (m : Meth T name id) {a : Addr} {ob : Obj} (ho : C.h1.get? a = some ob) (ht : a ∉ C.tabs) (hc : ob.cls = .type T) (hdi : ob.dict = none)
    (h : EvP C K ρ σ o (fun ov σ₁ => ov = .raw (.ref a) ∧ EvsP C K ρ args σ₁ (fun pl σ₂ => CallV C K.d (.raw (.builtin id)) (.raw (.ref a) :: pl) σ₂ Q X) X) X)
    (hbase : ∀ env, attributeBase o name env (eval o env) = eval o env := by intro _; rfl)
    (hfew : ∀ env, ((backTo pos (starEach args env)).all (fun x => !x.1) && (backToKw pos (keywordEach [] env)).all (fun x => x.1.isSome)
      && decide (args.length + ([] : List Keyword).length + (if ([] : List Keyword).isEmpty then 0 else 1) < 30)) = true := by intro _; rfl)
    (hline : (apos.endLine == pos.line) = true := by rfl)
    (hse : ∀ env, backTo pos (starEach args env) = args.map fun e => (false, eval e env) := by intro _; rfl) : EvP C K ρ σ (.Call (.Attribute o name apos) args [] pos) Q X := fun A env s ha hr hi QM hq =>
  wpAny_Call_method (hbase env) (hfew env) hline m.pa m.slot m.ty (h A env s ha hr hi _ fun v pv σ₁ s₁ h₁ i₁ e₁ r₁ => by
    obtain ⟨rfl, h₁⟩ := h₁
    cases r₁
    have hb := i₁.base a ob ho ht
    refine ⟨⟨ob, hb, hc⟩, fun b e => (by cases e; exact ⟨ob, hb, hdi⟩), ?_⟩
    refine callWith_ (fv := .raw (.builtin id)) (pre := [.raw (.ref a)]) (hse env) ?_ ha (hr.mono e₁) i₁ (.raw _) (.cons (.raw _) .nil) fun v pv σ₂ s₂ q i₂ e₂ r₂ => hq v pv σ₂ s₂ q i₂ (e₁.trans e₂) r₂
    exact EvsP.mono (fun pl σ' q => ⟨keep_builtin, q⟩) h₁)
theorem bi_get3 (B : Base C) {c : Nat} (q1 : ∀ x, b3get c = some x → Q (.str x) σ) (q2 : b3get c = none → Q .none σ) : CallV C d (.raw (.builtin "dict.get")) [.raw (.ref A_b3), .int (c : Int)] σ Q X := fun A s f l ha hi hf hr QM hq => by
  obtain ⟨x, y, rfl, hx, hy⟩ := rels2 hr
  cases hf; cases hx; cases hy
  rename_i t
  have ho := hi.base _ _ (B.at (b3_at C.w.params)) B.nt
  have hk : (intKind C.prog C.w).is (c : Int) (.int (c : Int) t) = true := by simp [intKind, Value.isInt]
  have hf := b3_find (c : Int)
  refine call_meetsIn F.slot_dict_get ⟨_, ho, rfl⟩ F.entry_dict_get (F.args_dict_get_2 _ _) (meets_dict_get (intKind C.prog C.w) A_b3 (k := (c : Int)) hk (by rfl)) ⟨fun k => findBy Value.isInt ⟨dEs mainD.data⟩ k, ?_, ?_⟩
  · exact ⟨_, _, _, ho, ⟨rfl, rfl, rfl⟩, rfl, fun e he => b3_keys e (Array.mem_toList_iff.mpr he), fun k => rfl⟩
  · have : findBy Value.isInt ⟨dEs mainD.data⟩ (c : Int) = ((dEs mainD.data).find? fun e => Value.isInt c e.key).map (·.val) := by unfold findBy; simp
    show wants QM X (.ok (.ret ((findBy Value.isInt ⟨dEs mainD.data⟩ (c : Int)).getD .none))) _
    rw [this]
    unfold b3get at q1 q2
    cases hp : pairs.lookup (c : Int) with
    | some v =>
      rw [hp] at hf q1
      obtain ⟨e, u, g, hv⟩ := hf
      rw [g]
      show QM e.val _
      rw [hv]
      exact hq _ _ _ _ (q1 _ rfl) hi.toks .refl (.strOf rfl)
    | none =>
      rw [hp] at hf q2
      have hf : (dEs mainD.data).find? (fun e => Value.isInt c e.key) = none := hf
      rw [hf]
      exact hq _ _ _ _ (q2 rfl) hi.toks .refl .none
theorem meth_get : Meth "dict" "get" "dict.get" := ⟨F.plainAttrs_dict, F.slot_dict_get, F.type_dict_get⟩
theorem cs_map_table_b3 (B : Base C) (hd : 4 ≤ d) {c : Nat} (q : Q (.str (mapb3 c)) σ) : CallV C d (.raw (.ref A_map_table_b3)) [.str [c]] σ Q X := by
  refine CallV.le (d := 4) ?_ hd
  refine cv_fn' (d := 3) B.ok2 B.f_map_table_b3 bd_map_table_b3 ck_map_table_b3 rfl rfl rfl ?_
  walk_at "start"
  walk_at "go"
  refine ev_methB meth_get (B.at (b3_at C.w.params)) B.nt rfl rfl ?_
  walk_at "go"
  refine ⟨rfl, ?_⟩
  walk_at "go"
  refine bi_get3 B (fun x hx => ?_) (fun hx => ?_)
  · walk_at "go"
    unfold mapb3 at q; rw [hx] at q; exact q
  · walk_at "go"
    · unfold mapb3 lowerL at q; rw [hx] at q; exact q
    · simp
end
theorem bd_lam1 : Binds R_lam1 ["size"] := by walk_at "binds"
theorem ck_lam1 : fnL R_lam1 ["size"] ["left"] = true := by decide +kernel
theorem bd_m__read_char : Binds F_m__read_char ["self"] := by walk_at "binds"
theorem ck_m__read_char : fnB F_m__read_char ["self"] = true := by decide +kernel
theorem bd_m_push_token : Binds F_m_push_token ["self", "token"] := by walk_at "binds"
theorem ck_m_push_token : fnB F_m_push_token ["self", "token"] = true := by decide +kernel
theorem bd_m_get_token : Binds F_m_get_token ["self"] := by walk_at "binds"
theorem ck_m_get_token : fnB F_m_get_token ["self"] = true := by decide +kernel
theorem bd_m___init__ : Binds F_m___init__ ["self", "fp"] := by walk_at "binds"
theorem ck_m___init__ : fnB F_m___init__ ["self", "fp"] = true := by decide +kernel
/-! a lexer and what it reads -/
structure LexA where
  x : Addr
  dx : Addr
  st : Addr
  dst : Addr
  rd : Addr
  cl : Addr
  lf : Addr
  pb : Addr
noncomputable def wsL : List Nat := [10, 9, 13, 32]
noncomputable abbrev lexAt (A : LexA) (n : Nat) : List (Str × V) := [("lineno", .int n), ("instream", .loc A.st), ("whitespace", .str wsL), ("pushback", .loc A.pb)]
noncomputable abbrev chrs (l : List Nat) : List V := l.map fun c => .str [c]
structure Lex (A : LexA) (σ : Store) (l : List Nat) (n : Nat) (p : List (List Nat)) : Prop where
  hx : σ A.x = some (.inst A_cls A.dx)
  hd : σ A.dx = some (.ns (lexAt A n))
  hst : σ A.st = some (.func R_lam0 [] (some A.dst))
  hdst : σ A.dst = some (.ns [("read", .loc A.rd)])
  hrd : σ A.rd = some (.func R_lam1 [("left", A.cl)] none)
  hcl : σ A.cl = some (.cell (some (.loc A.lf)))
  hlf : σ A.lf = some (.list (chrs l))
  hpb : σ A.pb = some (.list (p.map V.str))
  ne : A.lf ≠ A.pb
noncomputable def lexU (A : LexA) (σ : Store) (l : List Nat) (n : Nat) (p : List (List Nat)) : Store := upd (upd (upd σ A.lf (some (.list (chrs l)))) A.dx (some (.ns (lexAt A n)))) A.pb (some (.list (p.map V.str)))
theorem ne_of_st {σ : Store} {a b : Addr} {p q : PObj} (h1 : σ a = some p) (h2 : σ b = some q) (h : p ≠ q) : a ≠ b := fun e => h (by rw [e, h2] at h1; exact (Option.some.inj h1).symm)
theorem Lex.set {A : LexA} {σ : Store} {l l' : List Nat} {n n' : Nat} {p p' : List (List Nat)} (h : Lex A σ l n p) : Lex A (lexU A σ l' n' p') l' n' p' := by
  have e1 : A.x ≠ A.lf := ne_of_st h.hx h.hlf (by intro e; cases e)
  have e2 : A.x ≠ A.dx := ne_of_st h.hx h.hd (by intro e; cases e)
  have e3 : A.x ≠ A.pb := ne_of_st h.hx h.hpb (by intro e; cases e)
  have d3 : A.dx ≠ A.pb := ne_of_st h.hd h.hpb (by intro e; cases e)
  have s1 : A.st ≠ A.lf := ne_of_st h.hst h.hlf (by intro e; cases e)
  have s2 : A.st ≠ A.dx := ne_of_st h.hst h.hd (by intro e; cases e)
  have s3 : A.st ≠ A.pb := ne_of_st h.hst h.hpb (by intro e; cases e)
  have t1 : A.dst ≠ A.lf := ne_of_st h.hdst h.hlf (by intro e; cases e)
  have t2 : A.dst ≠ A.dx := ne_of_st h.hdst h.hd (by intro e; cases e)
  have t3 : A.dst ≠ A.pb := ne_of_st h.hdst h.hpb (by intro e; cases e)
  have r1 : A.rd ≠ A.lf := ne_of_st h.hrd h.hlf (by intro e; cases e)
  have r2 : A.rd ≠ A.dx := ne_of_st h.hrd h.hd (by intro e; cases e)
  have r3 : A.rd ≠ A.pb := ne_of_st h.hrd h.hpb (by intro e; cases e)
  have c1 : A.cl ≠ A.lf := ne_of_st h.hcl h.hlf (by intro e; cases e)
  have c2 : A.cl ≠ A.dx := ne_of_st h.hcl h.hd (by intro e; cases e)
  have c3 : A.cl ≠ A.pb := ne_of_st h.hcl h.hpb (by intro e; cases e)
  have l2 : A.lf ≠ A.dx := ne_of_st h.hlf h.hd (by intro e; cases e)
  exact ⟨upd_of e3 (upd_of e2 (upd_of e1 h.hx)), upd_of d3 (upd_self ..), upd_of s3 (upd_of s2 (upd_of s1 h.hst)), upd_of t3 (upd_of t2 (upd_of t1 h.hdst)), upd_of r3 (upd_of r2 (upd_of r1 h.hrd)), upd_of c3 (upd_of c2 (upd_of c1 h.hcl)), upd_of h.ne (upd_of l2 (upd_self ..)), upd_self .., h.ne⟩
theorem upd_same {σ : Store} {a : Addr} {o : Option PObj} (h : σ a = o) : upd σ a o = σ := by
  funext b; unfold upd; split
  · rename_i e; rw [e, h]
  · rfl
theorem Lex.same {A : LexA} {σ : Store} {l : List Nat} {n : Nat} {p : List (List Nat)} (h : Lex A σ l n p) : lexU A σ l n p = σ := by
  unfold lexU
  rw [upd_same h.hlf, upd_same h.hd, upd_same h.hpb]
theorem Lex.twice {A : LexA} {σ : Store} {l l₀ l' : List Nat} {n n₀ n' : Nat} {p p₀ p' : List (List Nat)} (h : Lex A σ l₀ n₀ p₀) : lexU A (lexU A σ l n p) l' n' p' = lexU A σ l' n' p' := by
  have d3 : A.dx ≠ A.pb := ne_of_st h.hd h.hpb (by intro e; cases e)
  have l2 : A.lf ≠ A.dx := ne_of_st h.hlf h.hd (by intro e; cases e)
  have l3 := h.ne
  unfold lexU
  funext c; unfold upd
  by_cases e1 : c = A.lf <;> by_cases e2 : c = A.dx <;> by_cases e3 : c = A.pb <;> simp [e1, e2, e3]
theorem Lex.lf {A : LexA} {σ : Store} {l l' : List Nat} {n : Nat} {p : List (List Nat)} (h : Lex A σ l n p) : upd σ A.lf (some (.list (chrs l'))) = lexU A σ l' n p := by
  have l2 : A.lf ≠ A.dx := ne_of_st h.hlf h.hd (by intro e; cases e)
  unfold lexU
  rw [upd_same (σ := upd σ A.lf _) (a := A.dx) (upd_of (Ne.symm l2) h.hd), upd_same (upd_of (Ne.symm h.ne) h.hpb)]
theorem Lex.dx {A : LexA} {σ : Store} {l : List Nat} {n n' : Nat} {p : List (List Nat)} (h : Lex A σ l n p) : upd σ A.dx (some (.ns (lexAt A n'))) = lexU A σ l n' p := by
  have d3 : A.dx ≠ A.pb := ne_of_st h.hd h.hpb (by intro e; cases e)
  unfold lexU
  rw [upd_same h.hlf, upd_same (a := A.pb) (upd_of (Ne.symm d3) h.hpb)]
theorem Lex.pb' {A : LexA} {σ : Store} {l : List Nat} {n : Nat} {p p' : List (List Nat)} (h : Lex A σ l n p) : upd σ A.pb (some (.list (p'.map V.str))) = lexU A σ l n p' := by
  unfold lexU
  rw [upd_same h.hlf, upd_same h.hd]
section
variable {C : Ctx} {K : Kx} {ρ : Fm} {σ : Store} {X : Value → Shared → Prop} {d : Nat} {Q : V → Store → Prop}
theorem handed_int {h : Heap} {v : Value} {i : Int} (r : Rel C σ h v (.int i)) : handedIn v = true := by cases r; rfl
theorem handed_str {h : Heap} {v : Value} {i : List Nat} (r : Rel C σ h v (.str i)) : handedIn v = true := by cases r; rfl
theorem handed_loc {h : Heap} {v : Value} {i : Addr} (r : Rel C σ h v (.loc i)) : handedIn v = true := by cases r; rfl
theorem lex_at (B : Base C) {A : LexA} {l : List Nat} {n : Nat} {p : List (List Nat)} (h : Lex A σ l n p) {name : Str} {pv : V} {expr : Bool} (hl : (lexAt A n).lookup name = some pv) (hf : findIn (FR C.w.params) (.ref A_cls) name = some none) (hv : ∀ v h, Rel C σ h v pv → handedIn v = true) (q : Q pv σ) :
    M1 C d (fun o => getAttr o name expr) (.loc A.x) σ Q X := by
  have e := fr_cls C.w.params
  simp only [Prod.mk.injEq] at e
  exact get_inst B.fr h.hx h.hd hl e.1 e.2.1 hf hv q
theorem lex_lineno (B : Base C) {A : LexA} {l : List Nat} {n : Nat} {p : List (List Nat)} (h : Lex A σ l n p) {expr : Bool} (q : Q (.int n) σ) : M1 C d (fun o => getAttr o "lineno" expr) (.loc A.x) σ Q X :=
  lex_at B h (by rfl) (Prod.mk.inj (fr_lineno C.w.params)).1 (fun _ _ r => handed_int r) q
theorem lex_instream (B : Base C) {A : LexA} {l : List Nat} {n : Nat} {p : List (List Nat)} (h : Lex A σ l n p) {expr : Bool} (q : Q (.loc A.st) σ) : M1 C d (fun o => getAttr o "instream" expr) (.loc A.x) σ Q X :=
  lex_at B h (by rfl) (Prod.mk.inj (fr_instream C.w.params)).1 (fun _ _ r => handed_loc r) q
theorem lex_whitespace (B : Base C) {A : LexA} {l : List Nat} {n : Nat} {p : List (List Nat)} (h : Lex A σ l n p) {expr : Bool} (q : Q (.str wsL) σ) : M1 C d (fun o => getAttr o "whitespace" expr) (.loc A.x) σ Q X :=
  lex_at B h (by rfl) (Prod.mk.inj (fr_whitespace C.w.params)).1 (fun _ _ r => handed_str r) q
theorem lex_pushback (B : Base C) {A : LexA} {l : List Nat} {n : Nat} {p : List (List Nat)} (h : Lex A σ l n p) {expr : Bool} (q : Q (.loc A.pb) σ) : M1 C d (fun o => getAttr o "pushback" expr) (.loc A.x) σ Q X :=
  lex_at B h (by rfl) (Prod.mk.inj (fr_pushback C.w.params)).1 (fun _ _ r => handed_loc r) q
open PySem.Spec PySem.SeqAt in
theorem dats_strs : ∀ xs : List (List Nat), Dats σ (xs.map V.str) (xs.map fun x => PySem.PyData.str ⟨x.toArray⟩)
  | [] => .nil
  | x :: xs => .cons (.str x) (dats_strs xs)
/-- a word that can be laid -/
noncomputable def OkS (x : List Nat) : Prop := PyData.strOk ⟨x.toArray⟩ = true
open PySem.Spec PySem.SeqAt in
theorem lay_strs : ∀ xs : List (List Nat), (∀ x ∈ xs, OkS x) → PyData.canLayAll0 (xs.map fun x => PySem.PyData.str ⟨x.toArray⟩) = true ∧ PyData.depthAll (xs.map fun x => PySem.PyData.str ⟨x.toArray⟩) = 0
  | [], _ => ⟨rfl, rfl⟩
  | x :: xs, h => by
    obtain ⟨h1, h2⟩ := lay_strs xs fun y hy => h y (List.mem_cons_of_mem _ hy)
    constructor
    · simp only [List.map_cons, PyData.canLayAll0, h1, Bool.and_true]; exact h x List.mem_cons_self
    · simp only [List.map_cons, PyData.depthAll, h2]; rfl
open PySem.Spec PySem.SeqAt in
theorem shaped_strs (xs : List (List Nat)) (h : ∀ x ∈ xs, OkS x) : shaped (.list (xs.map fun x => PySem.PyData.str ⟨x.toArray⟩)) = true := by
  unfold shaped
  obtain ⟨h1, h2⟩ := lay_strs xs h
  rw [Bool.and_eq_true]
  constructor
  · simp only [PyData.canLay0]; exact h1
  · simp only [PyData.depth, h2]; rfl
open PySem.Spec PySem.SeqAt in
/-- a row of words against the empty one -/
theorem ne_nil {a : Addr} {xs : List (List Nat)} (h : ∀ x ∈ xs, OkS x) (hs : σ a = some (.list (xs.map V.str))) (q : Q (.bool (!xs.isEmpty)) σ) : M2 C d (compareOp .NotEq) (.loc a) (.lst []) σ Q X := by
  refine cmp_ne (.own hs (dats_strs xs)) (.lst .nil) (shaped_strs xs h) (by rfl) (by cases xs <;> rfl) ?_
  have : same (.list (xs.map fun x => PySem.PyData.str ⟨x.toArray⟩)) (.list []) = xs.isEmpty := by cases xs <;> rfl
  rw [this]; exact q
end
section
variable {C : Ctx} {K : Kx} {ρ : Fm} {σ : Store} {X : Value → Shared → Prop} {d : Nat} {Q : V → Store → Prop}
noncomputable def OkL (l : List Nat) : Prop := l.length < 2 ^ 20 ∧ ∀ c ∈ l, c < 0x110000
theorem OkL.strs {l : List Nat} (h : OkL l) : ∀ x ∈ l.map (fun c => [c]), OkS x := fun x hx => by
  obtain ⟨c, hc, rfl⟩ := List.mem_map.mp hx
  have := h.2 c hc
  unfold OkS PyData.strOk
  simp [this]
theorem OkL.tail {c : Nat} {l : List Nat} (h : OkL (c :: l)) : OkL l := ⟨by have := h.1; simp at this; lia, fun x hx => h.2 x (List.mem_cons_of_mem _ hx)⟩
theorem OkL.drop {l : List Nat} (h : OkL l) (n : Nat) : OkL (l.drop n) := ⟨by have := h.1; simp; lia, fun x hx => h.2 x (List.mem_of_mem_drop hx)⟩
theorem chrs_eq (l : List Nat) : chrs l = (l.map fun c => [c]).map V.str := by simp [chrs]
/-- the stream's lambda -/
theorem cv_read (B : Base C) {A : LexA} {l : List Nat} {n : Nat} {p : List (List Nat)} (h : Lex A σ l n p) (hl : OkL l) (q : Q (.str (l.take 1)) (lexU A σ (l.drop 1) n p)) : CallV C 3 (.loc A.rd) [.int 1] σ Q X := by
  refine CallV.of ?_
  refine cv_lam' (d := 2) B.ok2 h.hrd bd_lam1 ck_lam1 rfl rfl ?_ (by simp) rfl fun code => ?_
  · intro p hp
    simp only [List.mem_cons, List.mem_nil_iff, or_false] at hp
    subst hp
    exact ⟨_, h.hcl⟩
  have hcl := h.hcl
  have hlf := h.hlf
  conv => arg 5; whnf
  conv => arg 3; simp only [pslots, List.map_cons, List.map_nil, List.cons_append, List.nil_append, List.append_nil]
  walk_at "go"
  refine ev_list0 ?_
  walk_at "go"
  refine ne_nil (xs := l.map fun c => [c]) hl.strs (by rw [← chrs_eq]; exact hlf) ?_
  walk_at "go"
  cases l with
  | nil =>
    refine ite_gen (fun h0 => by simp at h0) (fun h0 => ?_)
    walk_at "go"
    have := h.same
    simp only [List.take_nil, List.drop_nil, this] at q
    exact q
  | cons c l =>
    refine ite_gen (fun h0 => ?_) (fun h0 => by simp at h0)
    walk_at "go"
    refine bi_pop0 hlf (by have := hl.1; simp at this ⊢; lia) ?_
    rw [h.lf]
    exact q
noncomputable def nlOf (l : List Nat) : Nat := l.count 10
theorem lex_set (B : Base C) {A : LexA} {l : List Nat} {n : Nat} {p : List (List Nat)} (h : Lex A σ l n p) : Stor (FR C.w.params) A_cls "lineno" := by
  have e := fr_cls C.w.params
  simp only [Prod.mk.injEq] at e
  exact ⟨e.2.2.2.2.2.1, e.2.2.2.2.1, (Prod.mk.inj (fr_lineno C.w.params)).2, e.2.1⟩
theorem cs_read_char (B : Base C) {A : LexA} {l : List Nat} {n : Nat} {p : List (List Nat)} (h : Lex A σ l n p) (hl : OkL l) (q : Q (.str (l.take 1)) (lexU A σ (l.drop 1) (n + nlOf (l.take 1)) p)) : CodeV C 6 (.ref A_m__read_char) [.loc A.x] σ Q X := by
  refine code_fn' (d := 5) B.ok2 B.f_m__read_char bd_m__read_char ck_m__read_char rfl rfl rfl ?_
  walk_at "start"
  walk_at "go"
  refine ⟨_, _, _, _, _, _, rfl, h.hst, h.hdst, rfl, ?_⟩
  walk_at "go"
  refine ⟨keep_loc h.hrd, CallV.le (d := 3) (cv_read B h hl ?_) (by decide)⟩
  have h1 : Lex A (lexU A σ (l.drop 1) n p) (l.drop 1) n p := h.set
  walk_at "go"
  refine ite_beq (fun e => ?_) (fun e => ?_)
  · have hs := lex_set B h
    refine ex_cons (st_augAttr B.fr ?_)
    walk_at "go"
    refine ⟨_, _, _, _, rfl, h1.hx, h1.hd, hs, by simp, ?_⟩
    have e2 : putA "lineno" (.int ((n + 1 : Nat) : Int)) (lexAt A n) = lexAt A (n + 1) := by rfl
    have e3 : nlOf (l.take 1) = 1 := by rw [e]; rfl
    walk_at "go"
    rw [e3, ← h.twice (l := l.drop 1) (n := n) (p := p), ← h1.dx] at q
    exact q
  · have e3 : nlOf (l.take 1) = 0 := by
      cases l with
      | nil => rfl
      | cons c l => 
        have : c ≠ 10 := fun q => e (by rw [q]; rfl)
        simp [nlOf, this]
    walk_at "go"
    rw [e3] at q; exact q
theorem cs_push_token (B : Base C) {A : LexA} {l : List Nat} {n : Nat} {p : List (List Nat)} {x : List Nat} (h : Lex A σ l n p) (hp : p.length < 2 ^ 20) (q : Q .none (lexU A σ l n (p ++ [x]))) : CallV C 6 (.raw (.ref A_m_push_token)) [.loc A.x, .str x] σ Q X := by
  refine cv_fn' (d := 5) B.ok2 B.f_m_push_token bd_m_push_token ck_m_push_token rfl rfl rfl ?_
  have hpb := h.hpb
  walk_at "start"
  walk_at "go"
  rotate_left; · simp; lia
  have e : p.map V.str ++ [V.str x] = (p ++ [x]).map V.str := by simp
  rw [e, h.pb']
  exact q
end
/-! the lexer, plainly -/
noncomputable def ws (c : Nat) : Bool := Txt.contains ⟨wsL.toArray⟩ ⟨#[c]⟩
noncomputable def tokQ : List Nat → List Nat → List Nat × List Nat
  | acc, [] => (acc, [])
  | acc, 34 :: r => (acc, r)
  | acc, [92] => (acc, [])
  | acc, 92 :: c :: r => tokQ (acc ++ [c]) r
  | acc, c :: r => tokQ (acc ++ [c]) r
noncomputable def tokB : List Nat → List Nat → List Nat × List Nat
  | acc, [] => (acc, [])
  | acc, [92] => if ws 92 then (acc, []) else (acc, [])
  | acc, 92 :: c :: r => if ws 92 then (acc, c :: r) else tokB (acc ++ [c]) r
  | acc, c :: r => if ws c then (acc, r) else tokB (acc ++ [c]) r
noncomputable def tok : List Nat → List Nat × List Nat
  | [] => ([], [])
  | c :: r => if ws c then tok r else if c = 34 then tokQ [] r else if c = 92 then tokB (r.take 1) (r.drop 1) else tokB [c] r
theorem tokQ_cons (acc : List Nat) (c : Nat) (r : List Nat) : tokQ acc (c :: r) = if c = 34 then (acc, r) else if c = 92 then tokQ (acc ++ r.take 1) (r.drop 1) else tokQ (acc ++ [c]) r := by
  by_cases h1 : c = 34
  · subst h1; simp [tokQ]
  · by_cases h2 : c = 92
    · subst h2
      cases r with
      | nil => simp [tokQ]
      | cons d r => simp [tokQ]
    · simp [h1, h2, tokQ]
theorem ws92 : ws 92 = false := by decide +kernel
theorem tokB_cons (acc : List Nat) (c : Nat) (r : List Nat) : tokB acc (c :: r) = if ws c = true then (acc, r) else if c = 92 then tokB (acc ++ r.take 1) (r.drop 1) else tokB (acc ++ [c]) r := by
  by_cases h2 : c = 92
  · subst h2
    cases r with
    | nil => simp [tokB, ws92]
    | cons d r => simp [tokB, ws92]
  · simp [h2, tokB]
section
variable {C : Ctx} {K : Kx} {ρ : Fm} {σ : Store} {X : Value → Shared → Prop} {d : Nat} {Q : V → Store → Prop}
theorem Lex.mono {A : LexA} {σ' : Store} {l : List Nat} {n : Nat} {p : List (List Nat)} (h : Lex A σ l n p) (s : Sub σ σ') : Lex A σ' l n p :=
  ⟨s _ _ h.hx, s _ _ h.hd, s _ _ h.hst, s _ _ h.hdst, s _ _ h.hrd, s _ _ h.hcl, s _ _ h.hlf, s _ _ h.hpb, h.ne⟩
theorem lexU_other {A : LexA} {l l' : List Nat} {n n' : Nat} {p p' : List (List Nat)} (h : Lex A σ l n p) {a : Addr} {o : PObj} (ha : σ a = some o) (hk : (∀ vs, o ≠ .list vs) ∧ ∀ m, o ≠ .ns m) : lexU A σ l' n' p' a = some o :=
  upd_of (ne_of_st ha h.hpb (hk.1 _)) (upd_of (ne_of_st ha h.hd (hk.2 _)) (upd_of (ne_of_st ha h.hlf (hk.1 _)) ha))
theorem read_fo (B : Base C) : ∃ fo fd, C.h1.get? A_m__read_char = some fo ∧ fo.data = .func fd := ⟨_, _, B.at (Prod.mk.inj (fo_m__read_char C.w.params)).1, rfl⟩
theorem nx_lex (B : Base C) {A : LexA} {l₀ l : List Nat} {n₀ n : Nat} {p₀ p : List (List Nat)} (h : Lex A σ l₀ n₀ p₀) (hl : OkL l) {it b : Addr} (hit : σ it = some (.citer (.loc b) (.str []))) (hb : σ b = some (.bound (.ref A_m__read_char) (.loc A.x))) {Qn : Option V → Store → Prop}
    (q0 : l = [] → Qn none (upd (lexU A σ [] n p) it (some .cend))) (q1 : ∀ c r, l = c :: r → Qn (some (.str [c])) (lexU A σ r (n + nlOf [c]) p)) : NxP C 8 it (lexU A σ l n p) Qn Bot := by
  obtain ⟨fo, fd, hfo, hfd⟩ := read_fo B
  have kc : (∀ vs, PObj.citer (.loc b) (.str []) ≠ .list vs) ∧ ∀ m, PObj.citer (.loc b) (.str []) ≠ .ns m := ⟨(by intro _ e; cases e), (by intro _ e; cases e)⟩
  have kb : (∀ vs, PObj.bound (.ref A_m__read_char) (.loc A.x) ≠ .list vs) ∧ ∀ m, PObj.bound (.ref A_m__read_char) (.loc A.x) ≠ .ns m := ⟨(by intro _ e; cases e), (by intro _ e; cases e)⟩
  refine nx_cit (d := 7) (lexU_other h hit kc) (lexU_other h hb kb) hfo B.nt hfd ?_
  have h1 : Lex A (lexU A σ l n p) l n p := h.set
  refine CallV.le (d := 6) (cv_bound (lexU_other h hb kb) (cs_read_char B h1 hl ?_)) (by decide)
  rw [h.twice]
  refine ⟨lexU_other h hit kc, lexU_other h hb kb, _, rfl, fun e => ?_, fun e => ?_⟩
  · have : l = [] := by cases l with | nil => rfl | cons => simp at e
    subst this
    exact q0 rfl
  · cases l with
    | nil => exact absurd rfl e
    | cons c r => exact q1 c r rfl
end
section
variable {C : Ctx} {K : Kx} {ρ : Fm} {σ : Store} {X : Value → Shared → Prop} {d : Nat} {Q : V → Store → Prop}
theorem meth_read (B : Base C) : findIn (FR C.w.params) (.ref A_cls) "_read_char" = some (some (.ref A_m__read_char)) ∧ typeIn (FR C.w.params) (.ref A_m__read_char) = some (.type "function") ∧ findObj (FR C.w.params) A_cls none "_read_char" = some (.bind (.builtin "function.__get__") (.ref A_m__read_char)) := by
  have e := fr_m__read_char C.w.params
  simp only [Prod.mk.injEq] at e
  exact e
theorem sel_read (B : Base C) {A : LexA} {l : List Nat} {n : Nat} {p : List (List Nat)} (h : Lex A σ l n p) {expr : Bool} (q : ∀ a, σ a = none → Q (.loc a) (upd σ a (some (.bound (.ref A_m__read_char) (.loc A.x))))) : M1 C d (fun o => getAttr o "_read_char" expr) (.loc A.x) σ Q X := by
  have e := fr_cls C.w.params
  simp only [Prod.mk.injEq] at e
  obtain ⟨m1, m2, m3⟩ := meth_read B
  exact get_method B.fr h.hx h.hd (by rfl) e.1 e.2.1 m1 m2 m3 q
/-- a method called on one's own instance that a name holds -/
theorem ev_methN {F : Frag} (O : FragOk C F) {o : Expr} {name : Str} {apos pos : Pos} {args : List Expr}
    (h : EvP C K ρ σ o (fun ov σ₁ => ∃ x dx c f at_, ov = .loc x ∧ σ₁ x = some (.inst c dx) ∧ σ₁ dx = some (.ns at_) ∧ at_.lookup name = none ∧ findIn F (.ref c) "__getattribute__" = some (some (.builtin "object.__getattribute__")) ∧
      findIn F (.ref c) "__getattr__" = some none ∧ findIn F (.ref c) name = some (some (.ref f)) ∧ typeIn F (.ref f) = some (.type "function") ∧
      EvsP C K ρ args σ₁ (fun pl σ₂ => KeepOk C σ₂ (.raw (.ref f)) ∧ CallV C K.d (.raw (.ref f)) (.loc x :: pl) σ₂ Q X) X) X) {pl : Env → Sem Bool}
    (he : ∀ env, eval (.Call (.Attribute o name apos) args [] pos) env = (do
      let ov ← eval o env
      standAt apos.atName
      let (f, first) ← holding [ov] (getMethod ov name (pl env))
      callWith pos f first (backTo pos (starEach args env)) (backToKw pos (keywordEach [] env))) := by intro _; rfl)
    (hse : ∀ env, backTo pos (starEach args env) = args.map fun e => (false, eval e env) := by intro _; rfl) : EvP C K ρ σ (.Call (.Attribute o name apos) args [] pos) Q X := fun A env s ha hr hi QM hq => by
  refine methodCall_KW (pl := pl env) (h A env s ha hr hi _ fun ov po σ₁ s₁ h₁ i₁ e₁ r₁ => ?_) (he env)
  obtain ⟨x, dx, c, f, at_, rfl, hx, hd, hl, h2, h3, h4, h5, hE⟩ := h₁
  cases r₁
  obtain ⟨es, n, I, r⟩ := inst_at i₁ hx hd
  have fd := r.find name
  rw [hl] at fd
  refine method_fn (O.at i₁) I h2 h3 h4 h5 (by show (lookIn name (dictOf es n)).map (·.isSome) = _; rw [show lookIn name (dictOf es n) = getL name es from rfl, fd]; rfl) ?_
  exact callWith_ (fv := .raw (.ref f)) (pre := [.loc x]) (hse env) hE ha (hr.mono e₁) i₁ (.raw _) (.cons (.loc x) .nil) fun v pv σ₂ s₂ q i₂ e₂ r₂ => hq v pv σ₂ s₂ q i₂ (e₁.trans e₂) r₂
theorem call_read (B : Base C) {A : LexA} {l : List Nat} {n : Nat} {p : List (List Nat)} (h : Lex A σ l n p) (hl : OkL l) {o : Expr} {apos pos : Pos} (hd : 6 ≤ K.d) (ho : ∀ Q : V → Store → Prop, Q (.loc A.x) σ → EvP C K ρ σ o Q X)
    (q : Q (.str (l.take 1)) (lexU A σ (l.drop 1) (n + nlOf (l.take 1)) p))
    {pl : Env → Sem Bool}
    (he : ∀ env, eval (.Call (.Attribute o "_read_char" apos) [] [] pos) env = (do
      let ov ← eval o env
      standAt apos.atName
      let (f, first) ← holding [ov] (getMethod ov "_read_char" (pl env))
      callWith pos f first (backTo pos (starEach [] env)) (backToKw pos (keywordEach [] env))) := by intro _; rfl)
    (hse : ∀ env, backTo pos (starEach [] env) = [].map fun e => (false, eval e env) := by intro _; rfl) : EvP C K ρ σ (.Call (.Attribute o "_read_char" apos) [] [] pos) Q X := by
  have e := fr_cls C.w.params
  simp only [Prod.mk.injEq] at e
  obtain ⟨m1, m2, m3⟩ := meth_read B
  exact ev_methN (pl := pl) B.fr (ho _ ⟨_, _, _, _, _, rfl, h.hx, h.hd, by rfl, e.2.2.2.2.2.2.1, e.2.2.2.2.2.2.2, m1, m2, B.f_m__read_char.keep, CallV.le (d := 6) (cs_read_char B h hl q).call hd⟩) he hse
theorem cs_get_token_pb (B : Base C) {A : LexA} {l : List Nat} {n : Nat} {p : List (List Nat)} {x : List Nat} (h : Lex A σ l n (x :: p)) (hp : p.length < 2 ^ 20) (q : Q (.str x) (lexU A σ l n p)) : CallV C 12 (.raw (.ref A_m_get_token)) [.loc A.x] σ Q X := by
  refine cv_fn' (d := 11) B.ok2 B.f_m_get_token bd_m_get_token ck_m_get_token rfl rfl rfl ?_
  have hpb := h.hpb
  walk_at "start"
  walk_at "go"
  rotate_left; · simp; lia
  refine ite_gen (fun h0 => ?_) (fun h0 => by simp at h0)
  walk_at "go"
  refine bi_pop0 hpb (by simp; lia) ?_
  rw [h.pb']
  walk_at "go"
  exact q
theorem NxP.le {d d' : Nat} {a : Addr} {Qn : Option V → Store → Prop} (h : NxP C d a σ Qn X) (hd : d ≤ d') : NxP C d' a σ Qn X := fun A s ha => h A s (ha.le hd)
/-- what a call made is dropped; what it changed stays -/
theorem CallV.clean {fv : V} {args : List V} (h : CallV C d fv args σ (fun v σ' => ∃ τ, Sub τ σ' ∧ (∀ a, σ a = none → τ a = none) ∧ (∀ c v, σ c = some (.cell v) → ∃ v', τ c = some (.cell v')) ∧ Q v τ) X) : CallV C d fv args σ Q X := fun A s f vs ha hi hf hr QM hq =>
  h A s f vs ha hi hf hr QM fun v pv σ' s' q i' e' r' => by
    obtain ⟨τ, sub, non, cel, q⟩ := q
    have free : ∀ a, σ' a = none → τ a = none := fun a hn => by
      cases hs : τ a with
      | none => rfl
      | some o => (first | obtain rfl := Option.some.inj ((sub a o hs).symm.trans hn) | exact absurd ((sub a o hs).symm.trans hn) (Option.some_ne_none _) | exact absurd ((sub a o hs).symm.trans hn).symm (Option.some_ne_none _) | exact (datN ((sub a o hs).symm.trans hn) rfl).elim | (rw [sub a o hs] at hn; cases hn))
    have sq : SeqKeep C σ' s'.heap τ s'.heap := ⟨fun _ _ e _ _ _ => e, fun a o e _ hn _ => free a hn⟩
    have i'' : Inv C τ s' := by
      refine ⟨i'.base, i'.top, fun a o ho => ⟨(i'.own a o (sub a o ho)).1, ObjRel.swap sq (fun cd q y => ?_) (i'.own a o (sub a o ho)).2⟩, i'.tabLt, fun n hn => ?_, i'.gens, i'.os⟩
      · exact ⟨y.1, fun c e => ⟨free c (y.2 c e).1, (y.2 c e).2⟩⟩
      · obtain ⟨ps, g, t, f⟩ := i'.tabs n hn
        exact ⟨ps, g, t, fun d hd cv hc => have y := f d hd cv hc; ⟨y.1, fun c e => ⟨free c (y.2 c e).1, (y.2 c e).2⟩⟩⟩
    have E : Ext C σ s.heap τ s'.heap := ⟨fun a o g hs ht => e'.keep a o g hs ht, fun a o g hs ht => non a hs, cel⟩
    exact hq v pv τ s' q i'' E (r'.mono sq)
theorem lexU_sub {A : LexA} {τ : Store} {l : List Nat} {n : Nat} {p : List (List Nat)} (h : Sub σ τ) : Sub (lexU A σ l n p) (lexU A τ l n p) := fun a o ha => by
  unfold lexU at ha ⊢
  unfold upd at ha ⊢
  by_cases e1 : a = A.pb
  · simp only [e1, if_true] at ha ⊢; exact ha
  · by_cases e2 : a = A.dx
    · simp only [e1, e2, if_true, if_false] at ha ⊢; exact ha
    · by_cases e3 : a = A.lf
      · simp only [e1, e2, e3, if_true, if_false] at ha ⊢; exact ha
      · simp only [e1, e2, e3, if_false] at ha ⊢; exact h a o ha
theorem lexU_none {A : LexA} {l l' : List Nat} {n n' : Nat} {p p' : List (List Nat)} (h : Lex A σ l n p) {a : Addr} (ha : σ a = none) : lexU A σ l' n' p' a = none := by
  have h1 : a ≠ A.lf := fun e => by rw [e, h.hlf] at ha; cases ha
  have h2 : a ≠ A.dx := fun e => by rw [e, h.hd] at ha; cases ha
  have h3 : a ≠ A.pb := fun e => by rw [e, h.hpb] at ha; cases ha
  exact upd_of h3 (upd_of h2 (upd_of h1 ha))
theorem lexU_cell {A : LexA} {l l' : List Nat} {n n' : Nat} {p p' : List (List Nat)} (h : Lex A σ l n p) {c : Addr} {v : Option V} (hc : σ c = some (.cell v)) : ∃ v', lexU A σ l' n' p' c = some (.cell v') :=
  ⟨v, lexU_other h hc ⟨(by intro _ e; cases e), (by intro _ e; cases e)⟩⟩
noncomputable def Alive (A : LexA) (τ : Store) (it : Addr) (N : Nat) (acc l' : List Nat) (ρ : Fm) (σ' : Store) : Prop :=
  ∃ n', Has ρ [("token", .val (.str acc)), ("self", .val (.loc A.x)), ("fiter", .val (.loc it))] ∧ σ' = lexU A τ l' n' [] ∧ n' + nlOf l' = N ∧ acc.length + l'.length ≤ 2 ^ 20 ∧ OkL l'
noncomputable def Ended (A : LexA) (τ : Store) (it : Addr) (N : Nat) (acc : List Nat) (ρ : Fm) (σ' : Store) : Prop :=
  ∃ n', Has ρ [("token", .val (.str acc)), ("self", .val (.loc A.x)), ("fiter", .val (.loc it))] ∧ σ' = upd (lexU A τ [] n' []) it (some .cend) ∧ n' = N
theorem nlOf_cons (c : Nat) (l : List Nat) : nlOf [c] + nlOf l = nlOf (c :: l) := by unfold nlOf; rw [List.count_cons (l := l), List.count_cons]; simp; lia
theorem nlOf_take (l : List Nat) : nlOf (l.take 1) + nlOf (l.drop 1) = nlOf l := by unfold nlOf; rw [← List.count_append, List.take_append_drop]
theorem cs_get_token (B : Base C) {A : LexA} {l : List Nat} {n : Nat} (h : Lex A σ l n []) (hl : OkL l) (q : ∀ n', n' + nlOf (tok l).2 = n + nlOf l → Q (.str (tok l).1) (lexU A σ (tok l).2 n' [])) : CallV C 12 (.raw (.ref A_m_get_token)) [.loc A.x] σ Q X := by
  refine CallV.of (CallV.clean ?_)
  generalize hR : tok l = R at q
  have fin : ∀ {σ' : Store} {n' : Nat}, Sub (lexU A σ R.2 n' []) σ' → n' + nlOf R.2 = n + nlOf l → ∃ τ, Sub τ σ' ∧ (∀ a, σ a = none → τ a = none) ∧ (∀ c v, σ c = some (.cell v) → ∃ v', τ c = some (.cell v')) ∧ Q (.str R.1) τ :=
    fun s e => ⟨_, s, fun a ha => lexU_none h ha, fun c v hc => lexU_cell h hc, q _ e⟩
  generalize hN : n + nlOf l = N at fin
  refine cv_fn' (d := 11) B.ok2 B.f_m_get_token bd_m_get_token ck_m_get_token rfl rfl rfl ?_
  have hpb := h.hpb
  walk_at "start"
  walk_at "go"
  rotate_left; · simp
  refine ite_gen (fun h0 => by simp at h0) (fun h0 => ?_)
  walk_at "go"
  refine sel_read B h fun b hb => ?_
  walk_at "go"
  refine bi_iter2 (upd_self ..) fun it hit => ?_
  obtain ⟨nib, hit⟩ := upd_none hit
  walk_at "go"
  generalize hτ : upd (upd σ b _) it _ = τ
  have tb : τ b = some (.bound (.ref A_m__read_char) (.loc A.x)) := by rw [← hτ]; exact upd_of (Ne.symm nib) (upd_self ..)
  have ti : τ it = some (.citer (.loc b) (.str [])) := by rw [← hτ]; exact upd_self ..
  have sub : Sub σ τ := by rw [← hτ]; exact (Sub.refl.upd hb).upd hit
  have ht : Lex A τ l n [] := h.mono sub
  have done : ∀ {acc r : List Nat} {n' : Nat}, R = (acc, r) → n' + nlOf r = N → ∃ τ', Sub τ' (lexU A τ r n' []) ∧ (∀ a, σ a = none → τ' a = none) ∧ (∀ c v, σ c = some (.cell v) → ∃ v', τ' c = some (.cell v')) ∧ Q (.str acc) τ' := fun {acc r n'} e e2 => by
    subst e; exact fin (lexU_sub sub) e2
  have done2 : ∀ {acc : List Nat} {n' : Nat}, R = (acc, []) → n' = N → ∃ τ', Sub τ' (upd (lexU A τ [] n' []) it (some .cend)) ∧ (∀ a, σ a = none → τ' a = none) ∧ (∀ c v, σ c = some (.cell v) → ∃ v', τ' c = some (.cell v')) ∧ Q (.str acc) τ' := fun {acc n'} e e2 => by
    subst e; exact fin ((lexU_sub sub).upd (lexU_none h hit)) (by simpa [nlOf] using e2)
  refine st_forO ?_
  walk_at "go"
  refine ⟨it, _, rfl, ti, trivial, fun m ρ' σ' => (∃ l', m = l'.length + 1 ∧ tok l' = R ∧ Alive A τ it N [] l' ρ' σ') ∨ (m = 0 ∧ ∃ acc, R = (acc, []) ∧ Ended A τ it N acc ρ' σ'), l.length + 1, ?_, ?_⟩
  · exact .inl ⟨l, rfl, hR, n, by walk_at "has", ht.same.symm, hN, by have := hl.1; simp; lia, hl⟩
  · rintro m ρ' σ' (⟨l', rfl, hl', n', hhas, rfl, hn', hlen, hok⟩ | ⟨rfl, acc, hacc, n', hhas, rfl, hn'⟩)
    · refine NxP.le (nx_lex B ht hok ti tb (fun e => ?_) (fun c r e => ?_)) (by decide)
      · subst e
        refine cont_next (ExP.has ?_ hhas)
        walk_at "go"
        have : R = ([], []) := by rw [← hl']; rfl
        exact done2 this (by simpa [nlOf] using hn')
      · subst e
        have hs1 := nlOf_cons c r
        have hlen1 : r.length + 1 ≤ 2 ^ 20 := by simpa using hlen
        have h1 : Lex A (lexU A τ r (n' + nlOf [c]) []) r (n' + nlOf [c]) [] := ht.set
        have kc : (∀ vs, PObj.citer (.loc b) (.str []) ≠ .list vs) ∧ ∀ m, PObj.citer (.loc b) (.str []) ≠ .ns m := ⟨(by intro _ e; cases e), (by intro _ e; cases e)⟩
        have hi1 : (lexU A τ r (n' + nlOf [c]) []) it = some (.citer (.loc b) (.str [])) := lexU_other ht ti kc
        refine ⟨⟨_, hi1, trivial⟩, AsP.sub ?_ hhas⟩
        walk_at "go"
        refine cmp_inS ?_
        walk_at "go"
        refine ite_gen (fun hw => ?_) (fun hw => ?_)
        · walk_at "go"
          refine turn_cont (m := r.length + 1) (by simp) (.inl ⟨r, rfl, ?_, n' + nlOf [c], by walk_at "has", rfl, by lia, by simp; lia, hok.tail⟩)
          rw [← hl', tok, if_pos (show ws c = true from hw)]
        rw [tok, if_neg (by rw [show ws c = false from hw]; decide)] at hl'
        walk_at "go"
        refine ite_beq (fun e => ?_) (fun e => ?_)
        · have e : c = 34 := by simpa using e
          rw [if_pos e] at hl'
          refine ex_cons ?_
          refine st_forO ?_
          walk_at "go"
          refine ⟨it, _, rfl, hi1, trivial, fun m ρ' σ' => ∃ acc l', m = l'.length + 1 ∧ tokQ acc l' = R ∧ Alive A τ it N acc l' ρ' σ', r.length + 1, ⟨[], r, rfl, hl', n' + nlOf [c], by walk_at "has", rfl, by lia, by simp; lia, hok.tail⟩, ?_⟩
          rintro m2 ρ2 σ2 ⟨acc, l2, rfl, hl2, n2, hhas2, rfl, hn2, hlen2, hok2⟩
          refine NxP.le (nx_lex B ht hok2 ti tb (fun e => ?_) (fun c2 r2 e => ?_)) (by decide)
          · subst e
            refine cont_next (ExP.has ?_ hhas2)
            walk_at "go"
            exact turn_next (m := 0) (by lia) (.inr ⟨rfl, acc, by rw [← hl2]; rfl, n2, by walk_at "has", rfl, by simpa [nlOf] using hn2⟩)
          · subst e
            rw [tokQ_cons] at hl2
            have hs2 := nlOf_cons c2 r2
            have h2 : Lex A (lexU A τ r2 (n2 + nlOf [c2]) []) r2 (n2 + nlOf [c2]) [] := ht.set
            refine ⟨⟨_, lexU_other ht ti kc, trivial⟩, AsP.sub ?_ hhas2⟩
            have hlen3 : acc.length + (r2.length + 1) ≤ 2 ^ 20 := hlen2
            walk_at "go"
            refine ite_beq (fun e => ?_) (fun e => ?_)
            · have e : c2 = 34 := by simpa using e
              rw [if_pos e] at hl2
              walk_at "go"
              exact done hl2.symm (by lia)
            have e : ¬ c2 = 34 := by simpa using e
            rw [if_neg e] at hl2
            walk_at "go"
            refine ite_beq (fun e => ?_) (fun e => ?_)
            · have e : c2 = 92 := by simpa using e
              rw [if_pos e] at hl2
              walk_at "go"
              refine call_read B h2 hok2.tail (by decide) (fun Q q => ev_name (by walk_at "mem") q) ?_
              rw [ht.twice]
              have ht3 := nlOf_take r2
              have hlt : (r2.take 1).length ≤ 1 := by simp; lia
              walk_at "go"
              rotate_left; · simp; lia
              exact turn_next (m := (r2.drop 1).length + 1) (by simp; lia) ⟨_, r2.drop 1, rfl, hl2, _, by walk_at "has", rfl, by lia, by simp; lia, hok2.tail.drop 1⟩
            have e : ¬ c2 = 92 := by simpa using e
            rw [if_neg e] at hl2
            · walk_at "go"
              rotate_left; · simp; lia
              exact turn_next (m := r2.length + 1) (by simp) ⟨_, r2, rfl, hl2, _, by walk_at "has", rfl, by lia, by simp; lia, hok2.tail⟩
        have e : ¬ c = 34 := by simpa using e
        rw [if_neg e] at hl'
        walk_at "go"
        refine ite_beq (fun e => ?_) (fun e => ?_)
        · have e : c = 92 := by simpa using e
          rw [if_pos e] at hl'
          walk_at "go"
          refine call_read B h1 hok.tail (by decide) (fun Q q => ev_name (by walk_at "mem") q) ?_
          rw [ht.twice]
          have ht1 := nlOf_take r
          have hi2 : (lexU A τ (r.drop 1) (n' + nlOf [c] + nlOf (r.take 1)) []) it = some (.citer (.loc b) (.str [])) := lexU_other ht ti kc
          walk_at "go"
          rotate_left; · simp; lia
          refine st_forO ?_
          walk_at "go"
          refine ⟨it, _, rfl, hi2, trivial, fun m ρ' σ' => ∃ acc l', m = l'.length + 1 ∧ tokB acc l' = R ∧ Alive A τ it N acc l' ρ' σ', (r.drop 1).length + 1, ⟨[] ++ r.take 1, r.drop 1, rfl, hl', _, by walk_at "has", rfl, by lia, by simp; lia, hok.tail.drop 1⟩, ?_⟩
          rintro m2 ρ2 σ2 ⟨acc, l2, rfl, hl2, n2, hhas2, rfl, hn2, hlen2, hok2⟩
          refine NxP.le (nx_lex B ht hok2 ti tb (fun e => ?_) (fun c2 r2 e => ?_)) (by decide)
          · subst e
            refine cont_next (ExP.has ?_ hhas2)
            walk_at "go"
            exact turn_next (m := 0) (by lia) (.inr ⟨rfl, acc, by rw [← hl2]; rfl, n2, by walk_at "has", rfl, by simpa [nlOf] using hn2⟩)
          · subst e
            rw [tokB_cons] at hl2
            have hs2 := nlOf_cons c2 r2
            have h2 : Lex A (lexU A τ r2 (n2 + nlOf [c2]) []) r2 (n2 + nlOf [c2]) [] := ht.set
            refine ⟨⟨_, lexU_other ht ti kc, trivial⟩, AsP.sub ?_ hhas2⟩
            have hlen3 : acc.length + (r2.length + 1) ≤ 2 ^ 20 := hlen2
            walk_at "go"
            refine cmp_inS ?_
            walk_at "go"
            refine ite_gen (fun hw => ?_) (fun hw => ?_)
            · rw [if_pos (show ws c2 = true from hw)] at hl2
              walk_at "go"
              exact done hl2.symm (by lia)
            rw [if_neg (by rw [show ws c2 = false from hw]; decide)] at hl2
            walk_at "go"
            refine ite_beq (fun e => ?_) (fun e => ?_)
            · have e : c2 = 92 := by simpa using e
              rw [if_pos e] at hl2
              walk_at "go"
              refine call_read B h2 hok2.tail (by decide) (fun Q q => ev_name (by walk_at "mem") q) ?_
              rw [ht.twice]
              have ht3 := nlOf_take r2
              have hlt : (r2.take 1).length ≤ 1 := by simp; lia
              walk_at "go"
              rotate_left; · simp; lia
              exact turn_next (m := (r2.drop 1).length + 1) (by simp; lia) ⟨_, r2.drop 1, rfl, hl2, _, by walk_at "has", rfl, by lia, by simp; lia, hok2.tail.drop 1⟩
            have e : ¬ c2 = 92 := by simpa using e
            rw [if_neg e] at hl2
            · walk_at "go"
              rotate_left; · simp; lia
              exact turn_next (m := r2.length + 1) (by simp) ⟨_, r2, rfl, hl2, _, by walk_at "has", rfl, by lia, by simp; lia, hok2.tail⟩
        have e : ¬ c = 92 := by simpa using e
        rw [if_neg e] at hl'
        walk_at "go"
        rotate_left; · simp
        refine st_forO ?_
        walk_at "go"
        refine ⟨it, _, rfl, hi1, trivial, fun m ρ' σ' => ∃ acc l', m = l'.length + 1 ∧ tokB acc l' = R ∧ Alive A τ it N acc l' ρ' σ', r.length + 1, ⟨[] ++ [c], r, rfl, hl', n' + nlOf [c], by walk_at "has", rfl, by lia, by simp; lia, hok.tail⟩, ?_⟩
        rintro m2 ρ2 σ2 ⟨acc, l2, rfl, hl2, n2, hhas2, rfl, hn2, hlen2, hok2⟩
        refine NxP.le (nx_lex B ht hok2 ti tb (fun e => ?_) (fun c2 r2 e => ?_)) (by decide)
        · subst e
          refine cont_next (ExP.has ?_ hhas2)
          walk_at "go"
          exact turn_next (m := 0) (by lia) (.inr ⟨rfl, acc, by rw [← hl2]; rfl, n2, by walk_at "has", rfl, by simpa [nlOf] using hn2⟩)
        · subst e
          rw [tokB_cons] at hl2
          have hs2 := nlOf_cons c2 r2
          have h2 : Lex A (lexU A τ r2 (n2 + nlOf [c2]) []) r2 (n2 + nlOf [c2]) [] := ht.set
          refine ⟨⟨_, lexU_other ht ti kc, trivial⟩, AsP.sub ?_ hhas2⟩
          have hlen3 : acc.length + (r2.length + 1) ≤ 2 ^ 20 := hlen2
          walk_at "go"
          refine cmp_inS ?_
          walk_at "go"
          refine ite_gen (fun hw => ?_) (fun hw => ?_)
          · rw [if_pos (show ws c2 = true from hw)] at hl2
            walk_at "go"
            exact done hl2.symm (by lia)
          rw [if_neg (by rw [show ws c2 = false from hw]; decide)] at hl2
          walk_at "go"
          refine ite_beq (fun e => ?_) (fun e => ?_)
          · have e : c2 = 92 := by simpa using e
            rw [if_pos e] at hl2
            walk_at "go"
            refine call_read B h2 hok2.tail (by decide) (fun Q q => ev_name (by walk_at "mem") q) ?_
            rw [ht.twice]
            have ht3 := nlOf_take r2
            have hlt : (r2.take 1).length ≤ 1 := by simp; lia
            walk_at "go"
            rotate_left; · simp; lia
            exact turn_next (m := (r2.drop 1).length + 1) (by simp; lia) ⟨_, r2.drop 1, rfl, hl2, _, by walk_at "has", rfl, by lia, by simp; lia, hok2.tail.drop 1⟩
          have e : ¬ c2 = 92 := by simpa using e
          rw [if_neg e] at hl2
          · walk_at "go"
            rotate_left; · simp; lia
            exact turn_next (m := r2.length + 1) (by simp) ⟨_, r2, rfl, hl2, _, by walk_at "has", rfl, by lia, by simp; lia, hok2.tail⟩
    · refine nx_cend (upd_self ..) ?_
      refine cont_next (ExP.has ?_ hhas)
      walk_at "go"
      exact done2 hacc hn'
end
section
variable {C : Ctx} {K : Kx} {ρ : Fm} {σ : Store} {X : Value → Shared → Prop} {d : Nat} {Q : V → Store → Prop}
theorem stor_of (B : Base C) {name : Str} (h : takerIn (FR C.w.params) A_cls name = some none) : Stor (FR C.w.params) A_cls name := by
  have e := fr_cls C.w.params
  simp only [Prod.mk.injEq] at e
  exact ⟨e.2.2.2.2.2.1, e.2.2.2.2.1, h, e.2.1⟩
theorem putA_len (m : Str) (v : V) : ∀ l : List (Str × V), (putA m v l).length ≤ l.length + 1
  | [] => by simp [putA]
  | (k, w) :: r => by
    unfold putA
    split
    · simp
    · simpa using putA_len m v r
theorem putA_lt {m : Str} {v : V} {l : List (Str × V)} {n : Nat} (h : l.length < n) : (putA m v l).length < n + 1 := Nat.lt_of_le_of_lt (putA_len m v l) (Nat.succ_lt_succ h)
theorem cs_lex_init (B : Base C) {x dx st : Addr} (hx : σ x = some (.inst A_cls dx)) (hd : σ dx = some (.ns [])) (q : ∀ pb σ', σ pb = none → σ' x = some (.inst A_cls dx) → σ' dx = some (.ns [("lineno", .int ((1 : Nat) : Int)), ("instream", .loc st), ("whitespace", .str wsL), ("pushback", .loc pb)]) → σ' pb = some (.list []) →
    (∀ a o, a ≠ dx → σ a = some o → σ' a = some o) → Q .none σ') : CodeV C 6 (.ref A_m___init__) [.loc x, .loc st] σ Q X := by
  refine code_fn' (d := 5) B.ok2 B.f_m___init__ bd_m___init__ ck_m___init__ rfl rfl rfl ?_
  have nx : x ≠ dx := ne_of_st hx hd (by intro e; cases e)
  have hs1 := stor_of B (Prod.mk.inj (fr_lineno C.w.params)).2
  have hs2 := stor_of B (Prod.mk.inj (fr_instream C.w.params)).2
  have hs3 := stor_of B (Prod.mk.inj (fr_whitespace C.w.params)).2
  have hs4 := stor_of B (Prod.mk.inj (fr_pushback C.w.params)).2
  walk_at "start"
  walk_at "go"
  refine as_attr B.fr ?_
  walk_at "go"
  refine ⟨_, _, _, _, rfl, hx, hd, hs1, by simp, ?_⟩
  walk_at "go"
  refine as_attr B.fr ?_
  walk_at "go"
  refine ⟨_, _, _, _, rfl, upd_of nx hx, upd_self .., hs2, putA_lt (n := 899) (by simp), ?_⟩
  rw [upd_upd]
  walk_at "go"
  refine as_attr B.fr ?_
  walk_at "go"
  refine ⟨_, _, _, _, rfl, upd_of nx hx, upd_self .., hs3, putA_lt (n := 899) (putA_lt (n := 898) (by simp)), ?_⟩
  rw [upd_upd]
  refine cont_next (ex_cons (st_assignT (ev_listO (evs_nil ⟨by simp, fun pb hpb => ?_⟩))))
  obtain ⟨npb, hpb⟩ := upd_none hpb
  refine as_attr B.fr ?_
  walk_at "go"
  refine ⟨_, _, _, _, rfl, upd_of (fun e => by rw [← e, hx] at hpb; cases hpb) (upd_of nx hx), upd_of (Ne.symm npb) (upd_self ..), hs4, putA_lt (n := 899) (putA_lt (n := 898) (putA_lt (n := 897) (by simp))), ?_⟩
  walk_at "go"
  refine q pb _ hpb ?_ ?_ ?_ fun a o hne ho => ?_
  · exact upd_of nx (upd_of (fun e => by rw [← e, hx] at hpb; cases hpb) (upd_of nx hx))
  · rw [upd_self]; kernel_rfl
  · exact upd_of npb (upd_self ..)
  · exact upd_of hne (upd_of (fun e => by rw [e, hpb] at ho; cases ho) (upd_of hne ho))
theorem cv_lexer (B : Base C) {st : Addr} (q : ∀ x dx pb σ', σ x = none → σ dx = none → σ pb = none → x ≠ dx → σ' x = some (.inst A_cls dx) → σ' dx = some (.ns [("lineno", .int ((1 : Nat) : Int)), ("instream", .loc st), ("whitespace", .str wsL), ("pushback", .loc pb)]) → σ' pb = some (.list []) →
    Sub σ σ' → Q (.loc x) σ') : CallV C 7 (.raw (.ref A_cls)) [.loc st] σ Q X := by
  have e := fr_cls C.w.params
  simp only [Prod.mk.injEq] at e
  have e2 := fr_m___init__ C.w.params
  simp only [Prod.mk.injEq] at e2
  refine cv_make (d := 6) B.fr e.2.2.1 e2.1 e2.2 fun x dx hx hdx hne => ?_
  refine cs_lex_init B (upd_self ..) (upd_of (Ne.symm hne) (upd_self ..)) fun pb σ' hpb h1 h2 h3 h4 => ⟨rfl, ?_⟩
  obtain ⟨n1, hpb⟩ := upd_none hpb
  obtain ⟨n2, hpb⟩ := upd_none hpb
  refine q x dx pb σ' hx hdx hpb hne h1 h2 h3 fun a o ho => h4 a o (fun e => by rw [e, hdx] at ho; cases ho) ?_
  exact upd_of (fun e => by rw [e, hx] at ho; cases ho) (upd_of (fun e => by rw [e, hdx] at ho; cases ho) ho)
end
theorem bd__law_left : Binds F__law_left ["parts", "ahead", "readings"] := by walk_at "binds"
theorem ck__law_left : fnC F__law_left ["parts", "ahead", "readings"] ["place"] = true := by decide +kernel
noncomputable abbrev natV (l : List Nat) : List V := l.map fun x : Nat => V.int x
/-- the carry out of the columns -/
noncomputable def carryN (ps : List Nat) (a : Nat) : Nat → Nat
  | 0 => 0
  | n + 1 => (carryN ps a n + (ps.map fun p => p / 2 ^ (a + n) % 2).sum) / 2
noncomputable def lawLeft (ps : List Nat) (a r : Nat) : Nat := carryN ps a (r - a) + (ps.map fun p => p / 2 ^ r).sum
theorem sum_ints (l : List Nat) : (l.map fun x : Nat => (x : Int)).sum = ((l.sum : Nat) : Int) := by
  induction l with
  | nil => rfl
  | cons x l ih => simp [ih]
section
variable {C : Ctx} {K : Kx} {ρ : Fm} {σ : Store} {X : Value → Shared → Prop} {d : Nat} {Q : V → Store → Prop}
theorem bn_sum {a : V} {xs : List Nat} (h : LV σ a (natV xs)) (q : Q (.int (xs.sum : Nat)) σ) : CallV C d (.raw (.builtin "sum")) [a] σ Q X := by
  refine bi_sum (xs := xs.map fun x : Nat => (x : Int)) (by simpa [natV, Function.comp_def] using h) ?_
  rw [sum_ints]; exact q
theorem cs__law_left (B : Base C) (hd : 6 ≤ d) {pv : V} {ps : List Nat} {a r : Nat} (hp : LV σ pv (natV ps)) (hpi : pv = .lst (natV ps)) (hr : r ≤ 1000) (ha : a ≤ 1000) (hl : ps.length ≤ 1000) (q : Q (.int (lawLeft ps a r : Nat)) σ) :
    CallV C d (.raw (.ref A__law_left)) [pv, .int a, .int r] σ Q X := by
  subst hpi
  refine CallV.le (d := 6) (CallV.of ?_) hd
  refine cv_fnC' (d := 5) B.ok2 B.f__law_left bd__law_left ck__law_left rfl rfl rfl ?_
  walk_at "start"
  walk_at "go"
  refine st_forL ?_
  walk_at "go"
  refine ⟨_, items_rng a r (by lia) (by lia), fun k ρ' σ' => σ' = σ ∧ (∃ sl, (("place" : Str), sl) ∈ ρ' ∧ ∀ c, sl ≠ Slot.sh c) ∧ Has ρ' [("carry", .val (.int (carryN ps a k : Nat))), ("parts", .val (.lst (natV ps))), ("readings", .val (.int r))], ⟨rfl, ⟨_, by walk_at "mem", (by intro c e; cases e)⟩, (by show Has _ [("carry", .val (.int (0 : Int))), ("parts", .val (.lst (natV ps))), ("readings", .val (.int r))]; walk_at "has")⟩, ?_, ?_⟩
  · rintro k x ρ' σ' hx ⟨rfl, ⟨sl, hsl, hne⟩, hhas⟩
    have hk : k < r - a := by
      rcases Nat.lt_or_ge k (r - a) with h | h
      · exact h
      · (first | obtain rfl := Option.some.inj ((List.getElem?_eq_none (by simpa using h)).symm.trans hx) | exact absurd ((List.getElem?_eq_none (by simpa using h)).symm.trans hx) (Option.some_ne_none _) | exact absurd ((List.getElem?_eq_none (by simpa using h)).symm.trans hx).symm (Option.some_ne_none _) | exact absurd (congrArg Data.ctorIdx ((List.getElem?_eq_none (by simpa using h)).symm.trans hx)) (by decide) | (rw [List.getElem?_eq_none (by simpa using h)] at hx; cases hx))
    have hx' : x = .int ((a + k : Nat) : Int) := by
      rw [List.getElem?_map, List.getElem?_range hk] at hx; exact (Option.some.inj hx).symm
    subst hx'
    refine as_cellH (by kernel_rfl) ⟨sl, hsl, hne⟩ hhas (by kernel_rfl) ?_
    walk_at "go"
    refine ev_compT (caps := [("place", .val (.int ((a + k : Nat) : Int)))]) (compOk (by kernel_rfl) (by walk_at "has") (by rfl)) (fun p : Nat => V.int p) (fun p => [("part", .val (.int p))]) (fun p => V.int ((p / 2 ^ (a + k) % 2 : Nat) : Int)) ?_
    walk_at "go"
    refine ⟨ps, .lst _, by lia, fun x hx => ⟨tgt_name (by kernel_rfl), by kernel_rfl, fun D acc hD => ?_⟩, ?_⟩
    · simp only [List.cons_append, List.nil_append]
      walk_at "go"
      exact ⟨rfl, rfl⟩
    · walk_at "go"
      refine bn_sum (xs := ps.map fun p => p / 2 ^ (a + k) % 2) (by simpa [natV, Function.comp_def] using LV.fr _) ?_
      walk_at "go"
      refine ⟨rfl, ⟨_, by walk_at "mem", (by intro c e; cases e)⟩, ?_⟩
      show Has _ [("carry", .val (.int ((carryN ps a k + (ps.map fun p => p / 2 ^ (a + k) % 2).sum) / 2 : Nat))), ("parts", .val (.lst (natV ps))), ("readings", .val (.int r))]
      walk_at "has"
  · rintro ρ' σ' ⟨rfl, ⟨sl, hsl, hne⟩, hhas⟩
    rw [List.length_map, List.length_range] at hhas
    refine cont_next (ExP.has ?_ hhas)
    walk_at "go"
    refine ev_compT (caps := [("readings", .val (.int r))]) (compOk (by kernel_rfl) (by walk_at "has") (by rfl)) (fun p : Nat => V.int p) (fun p => [("part", .val (.int p))]) (fun p => V.int ((p / 2 ^ r : Nat) : Int)) ?_
    walk_at "go"
    refine ⟨ps, .lst _, by lia, fun x hx => ⟨tgt_name (by kernel_rfl), by kernel_rfl, fun D acc hD => ?_⟩, ?_⟩
    · simp only [List.cons_append, List.nil_append]
      walk_at "go"
      exact ⟨rfl, rfl⟩
    · walk_at "go"
      refine bn_sum (xs := ps.map fun p => p / 2 ^ r) (by simpa [natV, Function.comp_def] using LV.fr _) ?_
      walk_at "go"
      exact q
end
theorem bd__law_bare : Binds F__law_bare ["row"] := by walk_at "binds"
theorem ck__law_bare : fnC F__law_bare ["row"] [] = true := by decide +kernel
noncomputable def bareL (row : List Nat) : List Nat := ((List.range row.length).filter fun k => row[k]?.getD 0 != 0).map (· + 1)
noncomputable def bareN (row : List Nat) : Nat := (bareL row).foldr max 0
noncomputable def bare (row : List Nat) : List Nat := row.take (bareN row)
theorem foldr_max_le : ∀ (l : List Nat), ∀ x ∈ l, x ≤ l.foldr max 0
  | y :: l, x, h => by
    rcases List.mem_cons.mp h with rfl | h
    · exact Nat.le_max_left ..
    · exact Nat.le_trans (foldr_max_le l x h) (Nat.le_max_right ..)
theorem foldr_max_mem : ∀ (l : List Nat), l.foldr max 0 ∈ 0 :: l
  | [] => by simp
  | y :: l => by
    have ih := foldr_max_mem l
    rw [List.foldr_cons]
    rcases Nat.le_total y (l.foldr max 0) with h | h
    · rw [Nat.max_eq_right h]
      rcases List.mem_cons.mp ih with e | h
      · rw [e]; simp
      · simp [h]
    · rw [Nat.max_eq_left h]; simp
section
variable {C : Ctx} {K : Kx} {ρ : Fm} {σ : Store} {X : Value → Shared → Prop} {d : Nat} {Q : V → Store → Prop}
theorem bn_max {a : V} {xs : List Nat} (h : LV σ a (natV (0 :: xs))) (q : Q (.int (xs.foldr max 0 : Nat)) σ) : CallV C d (.raw (.builtin "max")) [a] σ Q X := by
  refine bi_max (xs := (0 :: xs).map fun x : Nat => (x : Int)) (m := ((xs.foldr max 0 : Nat) : Int)) (by simpa [natV, Function.comp_def] using h) ?_ ?_ q
  · exact List.mem_map.mpr ⟨_, foldr_max_mem xs, rfl⟩
  · intro y hy
    obtain ⟨z, hz, rfl⟩ := List.mem_map.mp hy
    rcases List.mem_cons.mp hz with rfl | hz
    · lia
    · have := foldr_max_le xs z hz; lia
theorem cs__law_bare (B : Base C) (hd : 6 ≤ d) {row : List Nat} (hl : row.length ≤ 1000) (q : Q (.lst (natV (bare row))) σ) : CallV C d (.raw (.ref A__law_bare)) [.lst (natV row)] σ Q X := by
  refine CallV.le (d := 6) (CallV.of ?_) hd
  refine cv_fnC' (d := 5) B.ok2 B.f__law_bare bd__law_bare ck__law_bare rfl rfl rfl ?_
  walk_at "start"
  walk_at "go"
  refine ev_compTF (caps := [("row", .val (.lst (natV row)))]) (compOk (by kernel_rfl) (by walk_at "has") (by rfl)) (fun k : Nat => V.int k) (fun k => [("k", .val (.int k))]) (fun k => row[k]?.getD 0 != 0) (fun k => V.int ((k + 1 : Nat) : Int)) ?_
  walk_at "go"
  rotate_left; · simp [natV]; lia
  refine ⟨List.range (natV row).length, items_rng0 _ (by simp [natV]; lia), by simp [natV]; lia, fun x hx => ⟨tgt_name (by kernel_rfl), by kernel_rfl, fun D acc hD => ?_⟩, ?_⟩
  · have hx : x < row.length := by simpa [natV] using hx
    simp only [List.cons_append, List.nil_append]
    walk_at "go"
    refine gn_lst (.fr _) (x := .int ((row[x] : Nat) : Int)) (by simp [natV, hx]) (by simp [natV]; lia) ?_
    walk_at "go"
    refine ite_bne (fun h => ?_) (fun h => ?_)
    · walk_at "go"
      refine ⟨rfl, by simp [hx, h], fun hp => ?_⟩
      walk_at "go"
      exact ⟨rfl, rfl⟩
    · exact ⟨rfl, by simp [hx, h], fun hp => by simp [hx, h] at hp⟩
  · walk_at "go"
    have hlb : (bareL row).length ≤ row.length := by
      unfold bareL; rw [List.length_map]; exact Nat.le_trans (List.length_filter_le _ _) (by simp)
    refine bin_cat (.fr _) (.fr _) (by
      have : ((List.filter (fun k => row[k]?.getD 0 != 0) (List.range (natV row).length)).map fun k => V.int ((k + 1 : Nat) : Int)).length = (bareL row).length := by simp [bareL, natV]
      rw [this]; simp; lia) ?_
    walk_at "go"
    refine bn_max (xs := bareL row) (by simpa [natV, bareL, Function.comp_def] using LV.fr _) ?_
    walk_at "go"
    refine ⟨_, _, _, .none, .int _, .none, sub_lst (.fr _), gi_lst_slc (.fr _) (by simp) (by simp [natV]; lia) ?_⟩
    rw [picks_take]
    walk_at "go"
    have : (natV row).take (List.foldr max 0 (bareL row)) = natV (bare row) := by simp [natV, bare, bareN, List.map_take]
    rw [this]; exact q
end
theorem bd__law_prepared : Binds F__law_prepared ["words"] := by walk_at "binds"
theorem ck__law_prepared : fnC F__law_prepared ["words"] [] = true := by decide +kernel
noncomputable def prepC (c : Nat) : List Nat := if b1 c then [] else mapb3 c
noncomputable def prepW (w : List Nat) : List Nat := (w.map prepC).flatten
theorem tgt2 {K : Kx} {x y : Str} {p1 p2 pos : Pos} {k : Nat} {v w : V} (h1 : K.names.lookup x = some .local) (h2 : K.names.lookup y = some .local) (hne : x ≠ y) : TgtP K (.Tuple [.Name x p1, .Name y p2] k pos) (.tup [v, w]) [(x, .val v), (y, .val w)] := by
  have := TgtP.tup (K := K) [(x, p1), (y, p2)] k pos [v, w] rfl (by intro z hz; rcases List.mem_cons.mp hz with rfl | hz; · exact h1
                                                                    rcases List.mem_cons.mp hz with rfl | hz; · exact h2
                                                                    cases hz) (by simpa using hne)
  simpa [pslots] using this
section
variable {C : Ctx} {K : Kx} {ρ : Fm} {σ : Store} {X : Value → Shared → Prop}
theorem st_assign_compT {α : Type} {y : Str} {elt target iter : Expr} {scope : Scope} {pos py spos : Pos} {Q : Fl → Fm → Store → Prop} (caps : Fm) (ok : CompOk K ρ scope caps) (hy : K.names.lookup y = some .local) (f : α → V) (fr : α → Fm) (g : α → V)
    (h : EvP C K ρ σ iter (fun v σ₁ => ∃ xs : List α, Items v (xs.map f) ∧ xs.length < 2 ^ 24 ∧ (∀ x ∈ xs, TgtP (KxC K scope) target (f x) (fr x) ∧ (caps.all fun p => (fr x).all fun q => p.1 != q.1) = true ∧
      ∀ D acc, σ₁ D = none → EvP C (KxC K scope) (fr x ++ caps) (accS σ₁ D acc) elt (fun v σ₄ => v = g x ∧ σ₄ = accS σ₁ D acc) Bot) ∧
      (∃ ρ', Upd ρ y (.val (.lst (xs.map g))) ρ' ∧ Q .next ρ' σ₁)) X)
    (hline : (py.line == pos.line) = true := by rfl) (hnot : (scope.names.any fun (n, k) => n == y && (k == .local || k == .cell)) = false := by decide +kernel)
    (hs : ∀ env x, foldedSetIterable iter env x = pure x := by intro _ _; rfl) : StP C K ρ σ (.Assign [.Name y py] (.ListComp elt [⟨target, iter, [], 0⟩] scope pos) spos) Q X := by
  refine st_assign_comp caps ok hy (h.mono fun v σ₁ hh => ?_) hline hnot hs
  obtain ⟨xs, hit, hlen, he, hQ⟩ := hh
  refine ⟨xs.map f, hit, fun r acc σ₂ => σ₂ = σ₁ ∧ ∃ k, r = (xs.drop k).map f ∧ acc = (xs.take k).map g ∧ k ≤ xs.length, ⟨rfl, 0, rfl, rfl, Nat.zero_le _⟩, ?_, ?_⟩
  · rintro x r acc σ₂ D ⟨rfl, k, e, rfl, hk⟩ hD
    have hlt : k < xs.length := by
      rcases Nat.lt_or_ge k xs.length with h | h
      · exact h
      · (first | obtain rfl := Option.some.inj ((List.drop_eq_nil_of_le h).symm.trans e) | exact absurd ((List.drop_eq_nil_of_le h).symm.trans e) (Option.some_ne_none _) | exact absurd ((List.drop_eq_nil_of_le h).symm.trans e).symm (Option.some_ne_none _) | exact (datN ((List.drop_eq_nil_of_le h).symm.trans e) rfl).elim | (rw [List.drop_eq_nil_of_le h] at e; cases e))
    rw [List.drop_eq_getElem_cons hlt, List.map_cons] at e
    injection e with e1 e2
    subst e1
    obtain ⟨t, hd, hb⟩ := he xs[k] (List.getElem_mem hlt)
    refine ⟨fr xs[k], t, fun p hp q hq => ?_, ifs_nil' ?_⟩
    · have := List.all_eq_true.mp (List.all_eq_true.mp hd p hp) q hq
      simpa using this
    rw [if_pos rfl]
    refine (hb D _ hD).mono ?_
    rintro v σ₄ ⟨rfl, rfl⟩
    refine ⟨by simp; lia, _, rfl, hD, rfl, k + 1, e2, ?_, hlt⟩
    rw [List.take_succ_eq_append_getElem hlt, List.map_append]; rfl
  · rintro acc σ₂ ⟨rfl, k, e, rfl, hk⟩
    have : k = xs.length := by
      have h1 := congrArg List.length e
      simp at h1; lia
    subst this
    rw [List.take_length]; exact hQ
end
section
variable {C : Ctx} {K : Kx} {ρ : Fm} {σ : Store} {X : Value → Shared → Prop} {d : Nat} {Q : V → Store → Prop}
theorem cs__law_prepared (B : Base C) (hd : 9 ≤ d) {ws : List (List Nat)} (hl : ws.length ≤ 1000) (hw : ∀ w ∈ ws, w.length ≤ 10000) (hp : ∀ w ∈ ws, (prepW w).length ≤ 2 ^ 20) (q : Q (.lst (ws.map fun w => .str (prepW w))) σ) :
    CallV C d (.raw (.ref A__law_prepared)) [.lst (ws.map V.str)] σ Q X := by
  refine CallV.le (d := 9) (CallV.pure (CallV.of ?_)) hd
  refine cv_fn' (d := 8) B.ok2 B.f__law_prepared bd__law_prepared ck__law_prepared rfl rfl rfl ?_
  walk_at "start"
  refine ex_cons (st_assign' (stores_local (by kernel_rfl)) (ev_listO (evs_nil ⟨by simp, fun D hD => ?_⟩)))
  walk_at "go"
  refine st_forL ?_
  walk_at "go"
  refine ⟨_, .lst _, fun k ρ' σ' => σ' = upd σ D (some (.list ((ws.take k).map fun w => .str (prepW w)))) ∧ Has ρ' [("told", .val (.loc D))], ⟨by simp, by walk_at "has"⟩, ?_, ?_⟩
  · rintro k x ρ' σ' hx ⟨rfl, hhas⟩
    rw [List.getElem?_map] at hx
    obtain ⟨w, hw', rfl⟩ : ∃ w, ws[k]? = some w ∧ V.str w = x := by
      cases e : ws[k]? with
      | none => (first | obtain rfl := Option.some.inj (e.symm.trans hx) | exact absurd (e.symm.trans hx) (Option.some_ne_none _) | exact absurd (e.symm.trans hx).symm (Option.some_ne_none _) | exact (datN (e.symm.trans hx) rfl).elim | (rw [e] at hx; cases hx))
      | some w => rw [e] at hx; exact ⟨w, rfl, Option.some.inj hx⟩
    have hin := List.mem_of_getElem? hw'
    have hDs := upd_self σ D (some (PObj.list (List.map (fun w => V.str (prepW w)) (List.take k ws))))
    refine AsP.sub ?_ hhas
    walk_at "go"
    refine st_assign_compT (caps := []) (compOk (by kernel_rfl) (by walk_at "has") (by rfl)) (by kernel_rfl) (fun c : Nat => V.str [c]) (fun c => [("sign", .val (.str [c]))]) (fun c => V.tup [.str [c], .bool (b1 c)]) ?_
    walk_at "go"
    refine ⟨w, .str _, by have := hw w hin; lia, fun c hc => ⟨tgt_name (by kernel_rfl), by kernel_rfl, fun D' acc hD' => ?_⟩, ?_⟩
    · simp only [List.cons_append, List.nil_append]
      walk_at "go"
      refine cs_in_table_b1 B (by decide) ?_
      walk_at "go"
      exact ⟨rfl, rfl⟩
    · walk_at "go"
      refine ev_compT (caps := []) (compOk (by kernel_rfl) (by walk_at "has") (by rfl)) (fun c : Nat => V.tup [.str [c], .bool (b1 c)]) (fun c => [("sign", .val (.str [c])), ("nothing", .val (.bool (b1 c)))]) (fun c => V.str (prepC c)) ?_
      walk_at "go"
      refine ⟨w, .lst _, by have := hw w hin; lia, fun c hc => ⟨tgt2 (by kernel_rfl) (by kernel_rfl) (by decide +kernel), by kernel_rfl, fun D' acc hD' => ?_⟩, ?_⟩
      · simp only [List.cons_append, List.nil_append]
        walk_at "go"
        refine ite_beq (fun h => ?_) (fun h => ?_)
        · walk_at "go"
          exact ⟨by simp [prepC, h], rfl⟩
        · walk_at "go"
          refine ite_beq (fun h2 => ?_) (fun h2 => ?_)
          · walk_at "go"
            refine cs_map_table_b3 B (by decide) ?_
            walk_at "go"
            exact ⟨by simp [prepC, h2], rfl⟩
          · exact absurd (by simpa using h) h2
      · walk_at "go"
        refine bi_join0 (xs := w.map prepC) (by simpa [Function.comp_def] using LV.fr _) (Nat.le_trans (hp w hin) (by decide)) ?_
        walk_at "go"
        rotate_left; · simp; lia
        rw [upd_upd]
        refine ⟨?_, by walk_at "has"⟩
        have hlt : k < ws.length := (List.getElem?_eq_some_iff.mp hw').1
        rw [List.take_succ_eq_append_getElem hlt, List.map_append, (List.getElem?_eq_some_iff.mp hw').2]; rfl
  · rintro ρ' σ' ⟨rfl, hhas⟩
    rw [List.length_map, List.take_length] at *
    refine cont_next (ExP.has ?_ hhas)
    walk_at "go"
    refine ⟨fun b o hb => ?_, _, .lst (upd_self ..) hD, q⟩
    rw [upd_ne _ _ (fun e => by rw [e, hD] at hb; cases hb)]; exact hb
end
theorem bd__law_group : Binds F__law_group ["drawn"] := by walk_at "binds"
theorem ck__law_group : fnC F__law_group ["drawn"] ["hidden"] = true := by decide +kernel
noncomputable def partsOf (n : Nat) : List Nat := (List.range (1 + n % 3)).map fun k => n / 3 / 8 ^ k % 8
noncomputable def nothOf (n : Nat) : List (List Nat) := [0, 1].map fun k => [hidL.getD (n / 1536 / 27 ^ k % 27) 0]
noncomputable def endT : List (List (List Nat)) := [[[7838], [223], [115, 115], [115, 115]], [[1017], [1010], [963], [963]], [[8490], [107], [107], [107]], [[64259], [102, 102, 105], [102, 102, 105], [102, 102, 105]],
  [[65], [97], [97], [97]], [[13255], [99, 111, 46], [99, 111, 46], [99, 111, 46]], [[35, 12], [35, 12], [35, 12], [35, 12]], [[120225], [98], [98], [98]]]
noncomputable def endsOf (n : Nat) : List (List Nat) := endT.getD (n / 1119744 % 8) []
noncomputable abbrev strV (l : List (List Nat)) : List V := l.map V.str
section
variable {C : Ctx} {K : Kx} {ρ : Fm} {σ : Store} {X : Value → Shared → Prop} {d : Nat} {Q : V → Store → Prop}
theorem bin_catE {a b : V} {xs ys zs : List V} (ha : LV σ a xs) (hb : LV σ b ys) (hl : xs.length + ys.length ≤ 2 ^ 24) (e : xs ++ ys = zs) (q : Q (.lst zs) σ) : M2 C d (binaryOp .Add) a b σ Q X := bin_cat ha hb hl (e ▸ q)
theorem natV_get {l : List Nat} {i : Nat} (h : i < l.length) : (natV l)[i]? = some (.int ((l.getD i 0 : Nat) : Int)) := by
  rw [List.getElem?_map, List.getElem?_eq_getElem h, List.getD_eq_getElem?_getD, List.getElem?_eq_getElem h]; rfl
theorem strV_get {l : List (List Nat)} {i : Nat} (h : i < l.length) : (strV l)[i]? = some (.str (l.getD i [])) := by
  rw [List.getElem?_map, List.getElem?_eq_getElem h, List.getD_eq_getElem?_getD, List.getElem?_eq_getElem h]; rfl
theorem hid_le (i : Nat) : hidL.getD i 0 ≤ 1114111 := by
  rw [List.getD_eq_getElem?_getD]
  rcases Nat.lt_or_ge i hidL.length with h | h
  · rw [List.getElem?_eq_getElem h]
    exact (by decide : ∀ x ∈ hidL, x ≤ 1114111) _ (List.getElem_mem h)
  · rw [List.getElem?_eq_none h]; decide
theorem pow_lt {b k : Nat} (hb : b ≤ 27) (hk : k < 4) : b ^ k < 2 ^ 64 := by
  refine Nat.lt_of_le_of_lt (Nat.pow_le_pow_left hb k) ?_
  have : k = 0 ∨ k = 1 ∨ k = 2 ∨ k = 3 := by lia
  rcases this with rfl | rfl | rfl | rfl <;> decide
theorem pow_log {b k : Nat} (h0 : b ≠ 0) (hb : b ≤ 27) (hk : k < 4) : (b ^ k).log2 < 9000 := by
  refine log2_lt_of (Nat.ne_of_gt (Nat.pow_pos (by lia))) (Nat.lt_of_lt_of_le (pow_lt hb hk) (Nat.pow_le_pow_right (by decide) (by decide)))
theorem cs__law_group (B : Base C) (hd : 6 ≤ d) {n : Nat} (hn : n < 2 ^ 64) (q : Q (.tup [.lst (natV (partsOf n)), .lst (strV (nothOf n)), .tup (strV (endsOf n))]) σ) :
    CallV C d (.raw (.ref A__law_group)) [.int n] σ Q X := by
  refine CallV.le (d := 6) (CallV.of ?_) hd
  refine cv_fnC' (d := 5) B.ok2 B.f__law_group bd__law_group ck__law_group rfl rfl rfl ?_
  walk_at "start"
  walk_at "go"
  refine ⟨by decide, ?_⟩
  walk_at "go"
  refine bi_list_rng (n := 16) (by decide) (by decide) (by decide) ?_
  walk_at "go"
  refine bin_catE (zs := natV hidL) (.fr _) (.fr _) (by decide) (by rfl) ?_
  walk_at "go"
  refine st_assign_compT (caps := [("drawn", .val (.int (n : Int)))]) (compOk (by kernel_rfl) (by walk_at "has") (by rfl)) (by decide +kernel) (fun k : Nat => V.int k) (fun k => [("k", .val (.int k))]) (fun k => V.int ((n / 3 / 8 ^ k % 8 : Nat) : Int)) ?_
  walk_at "go"
  refine ⟨List.range (1 + n % 3), items_rng0 _ (by lia), by simp; lia, fun k hk => ⟨tgt_name (by kernel_rfl), by kernel_rfl, fun D acc hD => ?_⟩, ?_⟩
  · have hk : k < 3 := by have := List.mem_range.mp hk; lia
    simp only [List.cons_append, List.nil_append]
    walk_at "go"
    · exact ⟨rfl, rfl⟩
    · rw [show nbits 8 = 4 by decide]; lia
    · exact Nat.ne_of_gt (Nat.pow_pos (by decide))
    · exact pow_log (by decide) (by decide) (by lia)
  · walk_at "go"
    refine ev_compT (caps := [("drawn", .val (.int (n : Int))), ("hidden", .val (.lst (natV hidL)))]) (compOk (by kernel_rfl) (by walk_at "has") (by rfl)) (fun k : Nat => V.int k) (fun k => [("k", .val (.int k))]) (fun k => V.str [hidL.getD (n / 1536 / 27 ^ k % 27) 0]) ?_
    walk_at "go"
    refine ⟨[0, 1], .tup _, by decide, fun k hk => ⟨tgt_name (by kernel_rfl), by kernel_rfl, fun D acc hD => ?_⟩, ?_⟩
    · have hk : k < 2 := by
        simp at hk; lia
      simp only [List.cons_append, List.nil_append]
      have hm : n / 1536 / 27 ^ k % 27 < hidL.length := Nat.mod_lt _ (by decide)
      walk_at "go"
      · refine gn_lst (.fr _) (natV_get hm) (by decide) ?_
        walk_at "go"
        · exact ⟨rfl, rfl⟩
        · have := hid_le (n / 1536 / 27 ^ k % 27); lia
      · rw [show nbits 27 = 5 by decide]; lia
      · exact Nat.ne_of_gt (Nat.pow_pos (by decide))
      · exact pow_log (by decide) (by decide) (by lia)
    · walk_at "go"
      have hm : n / 1119744 % 8 < 8 := Nat.mod_lt _ (by decide)
      refine gn_lst (.fr _) (x := .tup (strV (endsOf n))) ((congrArg (fun l : List V => l[n / 1119744 % 8]?) (?_ : _ = endT.map fun e => V.tup (strV e))).trans ?_) (by decide) ?_
      · kernel_rfl
      · show (endT.map _)[n / 1119744 % 8]? = _
        rw [List.getElem?_map]
        unfold endsOf
        rw [List.getD_eq_getElem?_getD, List.getElem?_eq_getElem (show n / 1119744 % 8 < endT.length from hm)]; rfl
      walk_at "go"
      simpa [partsOf, nothOf, natV, strV, Function.comp_def] using q
end
theorem bd__law_due : Binds F__law_due ["groups", "hands"] := by walk_at "binds"
theorem ck__law_due : fnB F__law_due ["groups", "hands"] = true := by decide +kernel
structure Grp where
  ps : List Nat
  ns : List (List Nat)
  es : List (List Nat)
noncomputable def grpV (g : Grp) : V := .tup [.lst (natV g.ps), .lst (strV g.ns), .tup (strV g.es)]
noncomputable def grpOf (n : Nat) : Grp := ⟨partsOf n, nothOf n, endsOf n⟩
structure Grp.Ok (g : Grp) : Prop where
  p1 : 1 ≤ g.ps.length
  p3 : g.ps.length ≤ 3
  p8 : ∀ p ∈ g.ps, p < 8
  n2 : g.ns.length = 2
  n1 : ∀ x ∈ g.ns, x.length ≤ 1
  e4 : g.es.length = 4
  e3 : ∀ x ∈ g.es, x.length ≤ 3
noncomputable def bs (n : Nat) : List Nat := List.replicate n 92
noncomputable def runsK (g : Grp) (r : Nat) : Nat → List Nat
  | 0 => bs (g.ps.getD 0 0 / 2 ^ r)
  | k + 1 => runsK g r k ++ (g.ns.getD k [] ++ bs (g.ps.getD (k + 1) 0 / 2 ^ r))
noncomputable def dueW (g : Grp) (hs : List Nat) : List Nat :=
  (if hs.contains 80 then bs (lawLeft g.ps (hs.idxOf 80) (hs.count 82)) else runsK g (hs.count 82) (g.ps.length - 1)) ++ g.es.getD (hs.count 80) []
/-- what the word of hands tells -/
structure HOk (hs : List Nat) : Prop where
  l3 : hs.length ≤ 3
  cR : Txt.count ⟨hs.toArray⟩ ⟨[82].toArray⟩ = ((hs.count 82 : Nat) : Int)
  cP : Txt.count ⟨hs.toArray⟩ ⟨[80].toArray⟩ = ((hs.count 80 : Nat) : Int)
  iP : Txt.contains ⟨hs.toArray⟩ ⟨[80].toArray⟩ = hs.contains 80
  fP : hs.contains 80 = true → Txt.find ⟨hs.toArray⟩ ⟨[80].toArray⟩ = ((hs.idxOf 80 : Nat) : Int)
theorem runsK_len {g : Grp} (h : g.Ok) (r : Nat) : ∀ k, (runsK g r k).length ≤ 8 + 9 * k
  | 0 => by
    have : g.ps.getD 0 0 < 8 := by
      rw [List.getD_eq_getElem?_getD, List.getElem?_eq_getElem h.p1]; exact h.p8 _ (List.getElem_mem _)
    have h2 := Nat.div_le_self (g.ps.getD 0 0) (2 ^ r)
    simp only [runsK, bs, List.length_replicate]; lia
  | k + 1 => by
    have ih := runsK_len h r k
    have h2 := Nat.div_le_self (g.ps.getD (k + 1) 0) (2 ^ r)
    have h1 : g.ps.getD (k + 1) 0 < 8 := by
      rw [List.getD_eq_getElem?_getD]
      rcases Nat.lt_or_ge (k + 1) g.ps.length with h' | h'
      · rw [List.getElem?_eq_getElem h']; exact h.p8 _ (List.getElem_mem _)
      · rw [List.getElem?_eq_none h']; decide
    have h3 : (g.ns.getD k []).length ≤ 1 := by
      rw [List.getD_eq_getElem?_getD]
      rcases Nat.lt_or_ge k g.ns.length with h' | h'
      · rw [List.getElem?_eq_getElem h']; exact h.n1 _ (List.getElem_mem _)
      · rw [List.getElem?_eq_none h']; decide
    simp only [runsK, bs, List.length_append, List.length_replicate]; lia
theorem sum_le8 : ∀ (ps : List Nat) (f : Nat → Nat), (∀ p ∈ ps, f p ≤ 8) → (ps.map f).sum ≤ 8 * ps.length
  | [], _, _ => by simp
  | p :: ps, f, h => by
    have h1 := h p List.mem_cons_self
    have h2 := sum_le8 ps f fun q hq => h q (List.mem_cons_of_mem _ hq)
    simp only [List.map_cons, List.sum_cons, List.length_cons]; lia
theorem carry_le (ps : List Nat) (a : Nat) : ∀ k, carryN ps a k ≤ 8 * ps.length
  | 0 => by simp [carryN]
  | k + 1 => by
    have ih := carry_le ps a k
    have := sum_le8 ps (fun p => p / 2 ^ (a + k) % 2) fun p _ => by have := Nat.mod_lt (p / 2 ^ (a + k)) (show 0 < 2 by decide); lia
    simp only [carryN]; lia
theorem left_le {ps : List Nat} (h : ∀ p ∈ ps, p < 8) (a r : Nat) : lawLeft ps a r ≤ 16 * ps.length := by
  have h1 := carry_le ps a (r - a)
  have h2 := sum_le8 ps (fun p => p / 2 ^ r) fun p hp => by have := h p hp; have := Nat.div_le_self p (2 ^ r); show p / 2 ^ r ≤ 8; lia
  unfold lawLeft; lia
theorem Grp.Ok.end_le {g : Grp} (h : g.Ok) (i : Nat) : (g.es.getD i []).length ≤ 3 := by
  rw [List.getD_eq_getElem?_getD]
  rcases Nat.lt_or_ge i g.es.length with h' | h'
  · rw [List.getElem?_eq_getElem h']; exact h.e3 _ (List.getElem_mem _)
  · rw [List.getElem?_eq_none h']; decide
theorem rep1 (n : Nat) : (List.replicate n [92]).flatten = bs n := by
  induction n with
  | zero => rfl
  | succ n ih => rw [List.replicate_succ, List.flatten_cons, ih]; rfl
section
variable {C : Ctx} {K : Kx} {ρ : Fm} {σ : Store} {X : Value → Shared → Prop} {d : Nat} {Q : V → Store → Prop}
theorem cs__law_due (B : Base C) (hd : 9 ≤ d) {gs : List Grp} {hs : List Nat} (hg : ∀ g ∈ gs, g.Ok) (hgl : gs.length ≤ 1000) (hh : HOk hs) (q : Q (.lst (gs.map fun g => .str (dueW g hs))) σ) :
    CallV C d (.raw (.ref A__law_due)) [.lst (gs.map grpV), .str hs] σ Q X := by
  refine CallV.le (d := 9) (CallV.pure (CallV.of ?_)) hd
  refine cv_fn' (d := 8) B.ok2 B.f__law_due bd__law_due ck__law_due rfl rfl rfl ?_
  walk_at "start"
  refine ex_cons (st_assign_swap (names := ["words", "readings"]) ?_ (by intro env h1 h2; obtain ⟨⟨_, _, _, _⟩, _, _, _, _, _, _, _, _⟩ := env; dsimp only at h1 h2; subst h1 h2; kernel_rfl) (by intro _; rfl))
  refine ev_tuple (evs_cons (ev_listO (evs_nil ⟨by simp, fun D hD => ?_⟩)))
  walk_at "go"
  rw [hh.cR]
  refine ⟨_, rfl, rfl, ?_⟩
  show SwapP _ _ _ _ [_, _] [_, _]
  walk_at "swp"
  walk_at "go"
  refine st_forL ?_
  walk_at "go"
  refine ⟨_, .lst _, fun k ρ' σ' => σ' = upd σ D (some (.list ((gs.take k).map fun g => .str (dueW g hs)))) ∧ Has ρ' [("words", .val (.loc D)), ("readings", .val (.int (hs.count 82 : Nat))), ("hands", .val (.str hs))], ⟨by simp, by walk_at "has"⟩, ?_, ?_⟩
  · rintro k x ρ' σ' hx ⟨rfl, hhas⟩
    rw [List.getElem?_map] at hx
    obtain ⟨g, hg', rfl⟩ : ∃ g, gs[k]? = some g ∧ grpV g = x := by
      cases e : gs[k]? with
      | none => (first | obtain rfl := Option.some.inj (e.symm.trans hx) | exact absurd (e.symm.trans hx) (Option.some_ne_none _) | exact absurd (e.symm.trans hx).symm (Option.some_ne_none _) | exact (datN (e.symm.trans hx) rfl).elim | (rw [e] at hx; cases hx))
      | some w => rw [e] at hx; exact ⟨w, rfl, Option.some.inj hx⟩
    have hin := List.mem_of_getElem? hg'
    have G := hg g hin
    have hDs := upd_self σ D (some (PObj.list (List.map (fun g => V.str (dueW g hs)) (List.take k gs))))
    refine AsP.sub ?_ hhas
    unfold grpV
    walk_at "go"
    refine cmp_inS ?_
    rw [hh.iP]
    walk_at "go"
    have hcr : hs.count 82 ≤ 3 := Nat.le_trans List.count_le_length hh.l3
    have hcp : hs.count 80 < (strV g.es).length := by
      have := List.count_le_length (a := 80) (l := hs)
      have := hh.l3
      simp [strV, G.e4]; lia
    have hel := G.end_le (hs.count 80)
    have hlt : k < gs.length := (List.getElem?_eq_some_iff.mp hg').1
    have htk : (gs.take (k + 1)).map (fun g => V.str (dueW g hs)) = (gs.take k).map (fun g => V.str (dueW g hs)) ++ [V.str (dueW g hs)] := by
      rw [List.take_succ_eq_append_getElem hlt, List.map_append, (List.getElem?_eq_some_iff.mp hg').2]; rfl
    refine ite_gen (fun hb => ?_) (fun hb => ?_)
    · walk_at "go"
      rw [hh.fP hb]
      have hix : hs.idxOf 80 ≤ 3 := Nat.le_trans List.idxOf_le_length hh.l3
      have hll := left_le G.p8 (hs.idxOf 80) (hs.count 82)
      have h3 := G.p3
      refine cs__law_left B (by decide) (.fr _) rfl (by lia) (by lia) (by lia) ?_
      walk_at "go"
      · rw [hh.cP, rep1]
        refine gn_tup (strV_get (by simpa [strV] using hcp)) (by simp [strV, G.e4]) ?_
        walk_at "go"
        · rw [upd_upd, htk]
          refine ⟨?_, by walk_at "has"⟩
          unfold dueW; rw [if_pos hb]
        · simp only [bs, List.length_replicate]; lia
        · simp; lia
      · simp; lia
      · lia
    · walk_at "go"
      refine gn_lst (i := 0) (.fr _) (natV_get G.p1) (by have := G.p3; simp [natV]; lia) ?_
      have hp8 : ∀ i, g.ps.getD i 0 / 2 ^ hs.count 82 < 8 := fun i => by
        refine Nat.lt_of_le_of_lt (Nat.div_le_self _ _) ?_
        rw [List.getD_eq_getElem?_getD]
        rcases Nat.lt_or_ge i g.ps.length with h' | h'
        · rw [List.getElem?_eq_getElem h']; exact G.p8 _ (List.getElem_mem _)
        · rw [List.getElem?_eq_none h']; decide
      have h3 := G.p3
      have h2 := G.n2
      walk_at "go"
      · refine st_forL ?_
        walk_at "go"
        · have hrl := runsK_len G (hs.count 82)
          refine ⟨_, items_rng 1 _ (by simp; lia) (by decide), fun j ρ' σ' => σ' = upd σ D (some (.list ((gs.take k).map fun g => .str (dueW g hs)))) ∧ Has ρ' [("word", .val (.str (runsK g (hs.count 82) j))), ("ends", .val (.tup (strV g.es))), ("nothings", .val (.lst (strV g.ns))), ("parts", .val (.lst (natV g.ps))), ("words", .val (.loc D)), ("readings", .val (.int (hs.count 82 : Nat))), ("hands", .val (.str hs))], ⟨rfl, by rw [rep1]; show Has _ [("word", .val (.str (bs (g.ps.getD 0 0 / 2 ^ hs.count 82)))), ("ends", .val (.tup (strV g.es))), ("nothings", .val (.lst (strV g.ns))), ("parts", .val (.lst (natV g.ps))), ("words", .val (.loc D)), ("readings", .val (.int (hs.count 82 : Nat))), ("hands", .val (.str hs))]; walk_at "has"⟩, ?_, ?_⟩
          · rintro j x ρ' σ' hx ⟨rfl, hhas⟩
            have hj : j < g.ps.length - 1 := by
              rcases Nat.lt_or_ge j (g.ps.length - 1) with h | h
              · exact h
              · rw [List.getElem?_eq_none (by simpa [natV] using h)] at hx; cases hx
            have hx' : x = .int ((1 + j : Nat) : Int) := by
              rw [List.getElem?_map, List.getElem?_range (by simpa [natV] using hj)] at hx; exact (Option.some.inj hx).symm
            subst hx'
            refine AsP.sub ?_ hhas
            walk_at "go"
            rw [show 1 + j - 1 = j by lia]
            refine gn_lst (.fr _) (strV_get (by lia)) (by simp [strV]; lia) ?_
            walk_at "go"
            refine gn_lst (.fr _) (natV_get (by lia)) (by simp [natV]; lia) ?_
            have hq := hp8 (1 + j)
            have hn : (g.ns.getD j []).length ≤ 1 := by
              rw [List.getD_eq_getElem?_getD, List.getElem?_eq_getElem (show j < g.ns.length by lia)]; exact G.n1 _ (List.getElem_mem _)
            have hr := hrl j
            walk_at "go"
            · refine ⟨rfl, ?_⟩
              rw [rep1, Nat.add_comm 1 j]
              show Has _ [("word", .val (.str (runsK g (hs.count 82) j ++ (g.ns.getD j [] ++ bs (g.ps.getD (j + 1) 0 / 2 ^ hs.count 82))))), ("ends", .val (.tup (strV g.es))), ("nothings", .val (.lst (strV g.ns))), ("parts", .val (.lst (natV g.ps))), ("words", .val (.loc D)), ("readings", .val (.int (hs.count 82 : Nat))), ("hands", .val (.str hs))]
              walk_at "has"
            · simp only [List.length_singleton]; lia
            · lia
            · rw [rep1]; simp only [bs, List.length_replicate]; lia
            · rw [rep1]; simp only [bs, List.length_replicate, List.length_append]; lia
          · rintro ρ' σ' ⟨rfl, hhas⟩
            rw [List.length_map, List.length_range, show (natV g.ps).length = g.ps.length from List.length_map _] at hhas
            have hr := hrl (g.ps.length - 1)
            refine cont_next (ExP.has ?_ hhas)
            walk_at "go"
            · rw [hh.cP]
              refine gn_tup (strV_get (by simpa [strV] using hcp)) (by simp [strV, G.e4]) ?_
              walk_at "go"
              · rw [upd_upd, htk]
                refine ⟨?_, by walk_at "has"⟩
                unfold dueW; rw [if_neg (by rw [hb]; decide)]
              · lia
              · simp; lia
        · simp [natV]; lia
      · have := hp8 0; simp only [List.length_singleton]; lia
      · have := hp8 0; lia
  · rintro ρ' σ' ⟨rfl, hhas⟩
    rw [List.length_map, List.take_length] at *
    refine cont_next (ExP.has ?_ hhas)
    walk_at "go"
    refine ⟨fun b o hb => ?_, _, .lst (upd_self ..) hD, q⟩
    rw [upd_ne _ _ (fun e => by rw [e, hD] at hb; cases hb)]; exact hb
end
/-! the numbers' plain law -/
noncomputable def shrL (ps : List Nat) (a : Nat) : List Nat := ps.map (· / 2 ^ a)
noncomputable def behindL : List Nat → List Nat
  | [] => []
  | _ :: r => r.sum :: behindL r
theorem behind_len : ∀ l : List Nat, (behindL l).length = l.length
  | [] => rfl
  | _ :: r => by simp [behindL, behind_len r]
theorem behind_get : ∀ (l : List Nat) (k : Nat), k < l.length → (behindL l)[k]? = some (l.drop (k + 1)).sum
  | _ :: r, 0, _ => by simp [behindL]
  | _ :: r, k + 1, h => by simp only [behindL, List.getElem?_cons_succ, List.drop_succ_cons]; exact behind_get r k (by simpa using h)
theorem behind_eq (l : List Nat) : (List.range l.length).map (fun k => (l.drop (k + 1)).sum) = behindL l := by
  apply List.ext_getElem?
  intro k
  rcases Nat.lt_or_ge k l.length with h | h
  · rw [behind_get l k h, List.getElem?_map, List.getElem?_range h]; rfl
  · rw [List.getElem?_eq_none (by simpa using h), List.getElem?_eq_none (by rw [behind_len]; exact h)]
theorem d2i_behind (w : Nat) : ∀ l : List Nat, d2i w l = (2 ^ w - 1) * d2i w (behindL l) + l.sum
  | [] => by simp [d2i, behindL]
  | x :: r => by
    have ih := d2i_behind w r
    have hp : 2 ^ w = (2 ^ w - 1) + 1 := by have := Nat.two_pow_pos w; lia
    simp only [d2i, behindL, List.sum_cons]
    rw [ih]
    generalize d2i w (behindL r) = B
    generalize hb : 2 ^ w - 1 = b at hp ⊢
    rw [hp]
    generalize r.sum = S
    have e1 : (b + 1) * (b * B + S) = b * (b * B) + b * B + b * S + S := by rw [Nat.add_mul, Nat.one_mul, Nat.mul_add]; lia
    have e2 : b * (S + (b + 1) * B) = b * S + b * (b * B) + b * B := by rw [Nat.mul_add, Nat.add_mul, Nat.one_mul, Nat.mul_add]; lia
    rw [e1, e2]; lia
theorem divmod_of {N b S T : Nat} (h : N = b * S + T) (hT : T < b) : N / b = S ∧ N % b = T := by
  subst h
  refine ⟨?_, ?_⟩
  · rw [Nat.mul_add_div (by lia), Nat.div_eq_of_lt hT, Nat.add_zero]
  · rw [Nat.mul_add_mod, Nat.mod_eq_of_lt hT]
theorem ndig_eq {w N m : Nat} (hw : 1 ≤ w) (hl : 2 ^ (w * m) ≤ N) (hu : N < 2 ^ (w * (m + 1))) : ndig w N = m + 1 := by
  have h0 : N ≠ 0 := by have := Nat.two_pow_pos (w * m); lia
  have h1 := nbits_le hu
  have h2 : w * m < nbits N := by
    rcases Nat.lt_or_ge (w * m) (nbits N) with h | h
    · exact h
    · have := lt_nbits N
      have h3 : 2 ^ nbits N ≤ 2 ^ (w * m) := Nat.pow_le_pow_right (by decide) h
      omega
  unfold ndig
  rw [Nat.mul_add, Nat.mul_one] at h1
  have e : nbits N + w - 1 = w * (m + 1) + (nbits N - w * m - 1) := by rw [Nat.mul_add, Nat.mul_one]; lia
  rw [e, Nat.mul_add_div (by lia), Nat.div_eq_of_lt (by lia), Nat.add_zero]
theorem i2d_d2i (w : Nat) : ∀ l : List Nat, (∀ x ∈ l, x < 2 ^ w) → i2d w l.length (d2i w l) = l
  | [], _ => rfl
  | x :: r, h => by
    have hx := h x List.mem_cons_self
    have ih := i2d_d2i w r fun y hy => h y (List.mem_cons_of_mem _ hy)
    simp only [d2i, i2d, List.length_cons]
    rw [Nat.add_mul_mod_self_left, Nat.mod_eq_of_lt hx, Nat.add_mul_div_left _ _ (Nat.two_pow_pos w), Nat.div_eq_of_lt hx, Nat.zero_add, ih]
noncomputable def bareR : List Nat → List Nat
  | [] => []
  | x :: r => if (bareR r).isEmpty && x == 0 then [] else x :: bareR r
theorem bareR_sub : ∀ (l : List Nat), ∀ x ∈ bareR l, x ∈ l
  | y :: r, x, h => by
    unfold bareR at h
    split at h
    · cases h
    · rcases List.mem_cons.mp h with rfl | h
      · exact List.mem_cons_self
      · exact List.mem_cons_of_mem _ (bareR_sub r x h)
theorem d2i_bareR (w : Nat) : ∀ l : List Nat, d2i w (bareR l) = d2i w l
  | [] => rfl
  | x :: r => by
    have ih := d2i_bareR w r
    unfold bareR
    split
    · rename_i h
      simp only [Bool.and_eq_true, List.isEmpty_iff, beq_iff_eq] at h
      simp only [d2i, h.2, ← ih, h.1]; simp
    · simp only [d2i, ih]
theorem d2i_low (w : Nat) : ∀ l : List Nat, bareR l ≠ [] → 2 ^ (w * ((bareR l).length - 1)) ≤ d2i w l
  | [], h => absurd rfl h
  | x :: r, h => by
    have ih := d2i_low w r
    unfold bareR at h ⊢
    split at h
    · exact absurd rfl h
    · rename_i hc
      rw [if_neg hc]
      simp only [List.length_cons, Nat.add_sub_cancel, d2i]
      by_cases he : bareR r = []
      · have hx : x ≠ 0 := fun e => hc (by simp [he, e])
        rw [he]
        simp only [List.length_nil, Nat.mul_zero, Nat.pow_zero]
        omega
      · have hl : 1 ≤ (bareR r).length := by cases hb : bareR r with | nil => exact absurd hb he | cons => simp
        have := ih he
        have e : 2 ^ (w * (bareR r).length) = 2 ^ w * 2 ^ (w * ((bareR r).length - 1)) := by
          rw [← Nat.pow_add]; congr 1
          conv => lhs; rw [show (bareR r).length = ((bareR r).length - 1) + 1 by lia, Nat.mul_add, Nat.mul_one]
          omega
        rw [e]
        exact Nat.le_trans (Nat.mul_le_mul_left _ this) (Nat.le_add_left ..)
theorem figures (w : Nat) (hw : 1 ≤ w) (l : List Nat) (h : ∀ x ∈ l, x < 2 ^ w) : i2d w (ndig w (d2i w l)) (d2i w l) = bareR l := by
  have hb := i2d_d2i w (bareR l) fun x hx => h x (bareR_sub l x hx)
  rw [d2i_bareR] at hb
  by_cases he : bareR l = []
  · have h0 : d2i w l = 0 := by rw [← d2i_bareR, he]; rfl
    rw [h0, he]
    have : ndig w 0 = 0 := by unfold ndig; rw [show nbits 0 = 0 from rfl, Nat.zero_add]; exact Nat.div_eq_of_lt (by lia)
    rw [this]; rfl
  · have hl : 1 ≤ (bareR l).length := by cases hb : bareR l with | nil => exact absurd hb he | cons => simp
    have hlo := d2i_low w l he
    have hup := d2i_lt w (bareR l) fun x hx => h x (bareR_sub l x hx)
    rw [d2i_bareR] at hup
    have := ndig_eq (m := (bareR l).length - 1) hw hlo (by rw [Nat.sub_add_cancel hl]; exact hup)
    rw [this, Nat.sub_add_cancel hl, hb]
theorem bareL_cons (x : Nat) (r : List Nat) : bareL (x :: r) = (if x != 0 then [1] else []) ++ (bareL r).map (· + 1) := by
  unfold bareL
  rw [List.length_cons, List.range_succ_eq_map, List.filter_cons, List.filter_map]
  have e : ((fun k => (x :: r)[k]?.getD 0 != 0) ∘ Nat.succ) = fun k => r[k]?.getD 0 != 0 := by funext k; simp
  rw [e]
  by_cases h : x = 0
  · simp [h, Function.comp_def]
  · simp [h, Function.comp_def]
theorem fmax_succ : ∀ l : List Nat, (l.map (· + 1)).foldr max 0 = if l.isEmpty then 0 else l.foldr max 0 + 1
  | [] => rfl
  | x :: r => by
    have ih := fmax_succ r
    simp only [List.map_cons, List.foldr_cons, List.isEmpty_cons, Bool.false_eq_true, if_false]
    rw [ih]
    cases r with
    | nil => simp
    | cons y r => simp only [List.isEmpty_cons, Bool.false_eq_true, if_false]; lia
theorem bareL_nil : ∀ l : List Nat, (bareL l).isEmpty = (bareR l).isEmpty
  | [] => rfl
  | x :: r => by
    have ih := bareL_nil r
    rw [bareL_cons, bareR, ← ih]
    by_cases h : x = 0
    · cases hb : bareL r <;> simp [h]
    · cases hb : bareL r <;> simp [h]
theorem bare_eq : ∀ l : List Nat, bare l = bareR l
  | [] => rfl
  | x :: r => by
    have ih := bare_eq r
    have hn := bareL_nil r
    unfold bare at ih ⊢
    have e : bareN (x :: r) = if (bareL r).isEmpty then (if x != 0 then 1 else 0) else bareN r + 1 := by
      unfold bareN
      rw [bareL_cons]
      by_cases h : x = 0
      · simp [h, fmax_succ]
      · simp only [bne_iff_ne, ne_eq, h, not_false_eq_true, if_true, List.cons_append, List.nil_append, List.foldr_cons, fmax_succ]
        split <;> lia
    rw [e, bareR, ← hn]
    by_cases h : (bareL r).isEmpty = true
    · rw [hn] at h
      have hr : bareR r = [] := List.isEmpty_iff.mp h
      rw [← hn] at h
      by_cases hx : x = 0
      · simp [h, hx]
      · simp [h, hx, hr]
    · simp [h, ih]
theorem fd3 (N b : Nat) (hb : 0 < b) : ((-(N : Int)).fdiv b, (-(N : Int)).fmod b) = if N % b = 0 then (-((N / b : Nat) : Int), 0) else (-((N / b : Nat) : Int) - 1, (b : Int) - ((N % b : Nat) : Int)) := by
  have h1 := Nat.div_add_mod N b
  have h2 := Nat.mod_lt N hb
  have h3 : ((b * (N / b) + N % b : Nat) : Int) = N := by rw [h1]
  rw [Int.natCast_add, Int.natCast_mul] at h3
  rw [Int.fdiv_eq_ediv_of_nonneg _ (by lia), Int.fmod_eq_emod_of_nonneg _ (by lia)]
  split
  · rename_i h
    obtain ⟨e1, e2⟩ := (Int.ediv_emod_unique (a := -(N : Int)) (r := 0) (q := -((N / b : Nat) : Int)) (b := (b : Int)) (by lia)).mpr ⟨by rw [Int.mul_neg]; lia, by lia, by lia⟩
    rw [e1, e2]
  · rename_i h
    obtain ⟨e1, e2⟩ := (Int.ediv_emod_unique (a := -(N : Int)) (r := (b : Int) - ((N % b : Nat) : Int)) (q := -((N / b : Nat) : Int) - 1) (b := (b : Int)) (by lia)).mpr ⟨by rw [Int.mul_sub, Int.mul_neg]; lia, by lia, by lia⟩
    rw [e1, e2]
theorem fd2 (N b : Nat) (hb : 0 < b) : ((N : Int).fdiv (-(b : Int)), (N : Int).fmod (-(b : Int))) = if N % b = 0 then (-((N / b : Nat) : Int), 0) else (-((N / b : Nat) : Int) - 1, ((N % b : Nat) : Int) - (b : Int)) := by
  have h3 := fd3 N b hb
  have e : (N : Int).fdiv (-(b : Int)) = (-(N : Int)).fdiv b := by rw [← Int.neg_fdiv_neg, Int.neg_neg]
  have e2 := Int.mul_fdiv_add_fmod (N : Int) (-(b : Int))
  have e3 := Int.mul_fdiv_add_fmod (-(N : Int)) (b : Int)
  rw [e, Int.neg_mul] at e2
  have e4 : (N : Int).fmod (-(b : Int)) = -((-(N : Int)).fmod b) := by lia
  rw [e, e4]
  split at h3
  · rename_i h
    rw [if_pos h]
    injection h3 with a1 a2
    rw [a1, a2]; rfl
  · rename_i h
    rw [if_neg h]
    injection h3 with a1 a2
    rw [a1, a2]
    congr 1
    omega
theorem sum_bits (ps : List Nat) (a : Nat) : (ps.map fun p => p / 2 ^ a).sum = 2 * (ps.map fun p => p / 2 ^ (a + 1)).sum + (ps.map fun p => p / 2 ^ a % 2).sum := by
  induction ps with
  | nil => rfl
  | cons p ps ih =>
    simp only [List.map_cons, List.sum_cons, ih]
    have h1 : p / 2 ^ (a + 1) = p / 2 ^ a / 2 := by rw [Nat.pow_succ, Nat.div_div_eq_div_mul]
    rw [h1]; lia
theorem left_add (ps : List Nat) (a : Nat) : ∀ m, carryN ps a m + (ps.map fun p => p / 2 ^ (a + m)).sum = (shrL ps a).sum / 2 ^ m
  | 0 => by simp [carryN, shrL]
  | m + 1 => by
    have ih := left_add ps a m
    have hb := sum_bits ps (a + m)
    rw [Nat.pow_succ, ← Nat.div_div_eq_div_mul, ← ih]
    simp only [carryN]
    rw [hb, ← Nat.add_assoc a m 1]
    omega
theorem left_eq (ps : List Nat) (a m : Nat) : lawLeft ps a (a + m) = (shrL ps a).sum / 2 ^ m := by
  unfold lawLeft; rw [Nat.add_sub_cancel_left]; exact left_add ps a m
theorem fd4 (T m : Nat) : ((-(T : Int)).fdiv (-((2 ^ m : Nat) : Int)), (-(T : Int)).fmod (-((2 ^ m : Nat) : Int))) = (((T / 2 ^ m : Nat) : Int), ((T / 2 ^ m : Nat) : Int) * ((2 ^ m : Nat) : Int) - (T : Int)) := by
  have e : (-(T : Int)).fdiv (-((2 ^ m : Nat) : Int)) = ((T / 2 ^ m : Nat) : Int) := by rw [Int.neg_fdiv_neg, fdivN]
  have e2 := Int.mul_fdiv_add_fmod (-(T : Int)) (-((2 ^ m : Nat) : Int))
  rw [e] at e2 ⊢
  rw [Int.neg_mul] at e2
  congr 1
  rw [Int.mul_comm] at e2; lia
theorem d2i_split (w a : Nat) : ∀ ps : List Nat, d2i w ps = 2 ^ a * d2i w (shrL ps a) + d2i w (ps.map (· % 2 ^ a))
  | [] => by simp [d2i, shrL]
  | p :: ps => by
    have ih := d2i_split w a ps
    unfold shrL at ih ⊢
    simp only [d2i, List.map_cons]
    conv => lhs; rw [ih]
    have h := Nat.div_add_mod p (2 ^ a)
    generalize d2i w (ps.map fun x => x / 2 ^ a) = A
    generalize d2i w (ps.map fun x => x % 2 ^ a) = B
    rw [Nat.mul_add, Nat.mul_add, ← Nat.mul_assoc, ← Nat.mul_assoc, Nat.mul_comm (2 ^ w) (2 ^ a)]
    omega
theorem bd__law_numbers : Binds F__law_numbers ["parts", "width"] := by walk_at "binds"
theorem ck__law_numbers : fnC F__law_numbers ["parts", "width"] ["ahead", "now"] = true := by decide +kernel
open PySem.Spec PySem.SeqAt in
mutual
theorem noMix_self : ∀ p : PyData, p.canLay0 = true → noMix p p = true
  | .none, _ => rfl
  | .bool _, _ => rfl
  | .int _, _ => rfl
  | .str _, _ => rfl
  | .list xs, h => by rw [noMix]; rw [PyData.canLay0] at h; exact noMixAll_self xs h
  | .tuple xs, h => by rw [noMix]; rw [PyData.canLay0] at h; exact noMixAll_self xs h
  | .dict _, h => by simp [PyData.canLay0] at h
theorem noMixAll_self : ∀ ps : List PyData, PyData.canLayAll0 ps = true → noMixAll ps ps = true
  | [], _ => rfl
  | p :: ps, h => by
    rw [PyData.canLayAll0, Bool.and_eq_true] at h
    rw [noMixAll, Bool.and_eq_true]
    exact ⟨noMix_self p h.1, noMixAll_self ps h.2⟩
end
noncomputable def dN (l : List Nat) : List PySem.PyData := l.map fun x : Nat => PySem.PyData.int x
theorem dN_lay : ∀ l : List Nat, PySem.PyData.canLayAll0 (dN l) = true ∧ PySem.PyData.depthAll (dN l) = 0
  | [] => ⟨rfl, rfl⟩
  | x :: l => by
    obtain ⟨h1, h2⟩ := dN_lay l
    constructor
    · simp only [dN, List.map_cons, PySem.PyData.canLayAll0, PySem.PyData.canLay0, Bool.true_and]; exact h1
    · simp only [dN, List.map_cons, PySem.PyData.depthAll, PySem.PyData.depth]; rw [show List.map (fun x : Nat => PySem.PyData.int (x : Int)) l = dN l from rfl, h2]; rfl
section
variable {C : Ctx} {K : Kx} {ρ : Fm} {σ : Store} {X : Value → Shared → Prop} {d : Nat} {Q : V → Store → Prop}
theorem dats_nat : ∀ l : List Nat, Dats σ (natV l) (dN l)
  | [] => .nil
  | x :: l => .cons (.int x) (dats_nat l)
open PySem.Spec PySem.SeqAt in
theorem eq_true {a b : V} {p : PySem.PyData} (e : b = a) (ha : Dat σ a p) (sa : shaped p = true) (q : Q (.bool true) σ) : M2 C d (compareOp .Eq) a b σ Q X := by
  subst e
  refine cmp_eq ha ha sa sa (noMix_self p (canLay_of_shaped sa)) ?_
  rw [Spec.same_self]; exact q
open PySem.Spec PySem.SeqAt in
theorem ne_false {a b : V} {p : PySem.PyData} (e : b = a) (ha : Dat σ a p) (sa : shaped p = true) (q : Q (.bool false) σ) : M2 C d (compareOp .NotEq) a b σ Q X := by
  subst e
  refine cmp_ne ha ha sa sa (noMix_self p (canLay_of_shaped sa)) ?_
  rw [Spec.same_self]; exact q
open PySem.Spec PySem.SeqAt in
theorem shaped_ii (a b : Int) : shaped (.tuple [.int a, .int b]) = true := by rfl
open PySem.Spec PySem.SeqAt in
theorem shaped_t3 (x y : List Nat) (i : Int) : shaped (.tuple [.list (dN x), .list (dN y), .int i]) = true := by
  obtain ⟨h1, h2⟩ := dN_lay x
  obtain ⟨h3, h4⟩ := dN_lay y
  simp [shaped, PySem.PyData.canLay0, PySem.PyData.canLayAll0, PySem.PyData.depth, PySem.PyData.depthAll, h1, h2, h3, h4]
theorem swaps_cell {env : Env} {elt : Expr} {gens : List Comprehension} {scope : Scope} {pos p : Pos} {t : Str} {line : Nat} (hn : env.scope.names = K.names) (hk : K.names.lookup t = some .cell) : swapsWith (.ListComp elt gens scope pos) (some (.Name t p)) line env = pure false := by
  unfold swapsWith
  have : env.kindOf t = some .cell := by show env.scope.names.lookup t = _; rw [hn]; exact hk
  simp only [this]
  rw [show (some NameKind.cell == some NameKind.local) = false from rfl, Bool.and_false, Bool.false_and, Bool.false_and]
/-- a comprehension is assigned to a name that has a cell -/
theorem st_assignPC {x : Str} {elt : Expr} {gens : List Comprehension} {scope : Scope} {cp pos' pos : Pos} {sl : Slot} {Q : Fl → Fm → Store → Prop} (hk : K.names.lookup x = some .cell) (hm : (x, sl) ∈ ρ) (hs : ∀ c, sl ≠ .sh c)
    (h : EvP C K ρ σ (.ListComp elt gens scope cp) (fun v σ₁ => ∃ ρ', Upd ρ x (.val v) ρ' ∧ Q .next ρ' σ₁) X) : StP C K ρ σ (.Assign [.Name x pos'] (.ListComp elt gens scope cp) pos) Q X := fun A env s ha hr hi QM hq =>
  wpAny_Assign_Name (h A env s ha hr hi _ fun v pv σ₁ s₁ h₁ i₁ e₁ r₁ => by
    obtain ⟨ρ', hu, h₁⟩ := h₁
    exact store_name (stores_cell hk hm hs) (hr.mono e₁) i₁ r₁ hu fun s₂ hr₂ i₂ e₂ => hq .next .next ρ' σ₁ s₂ h₁ trivial hr₂ i₂ (e₁.toF.trans e₂)) (swaps_cell hr.names hk)
end
theorem get_range' {α : Type} (xs : List α) (a : Nat) : ∀ n, (List.range n).filterMap (fun k => xs[a + k]?) = (xs.drop a).take n := by
  intro n
  have := get_range (xs.drop a) n
  rw [← this]
  congr 1
  funext k
  rw [List.getElem?_drop]
theorem picks_drop {α : Type} (xs : List α) (m : Nat) : (picks (some (m : Int)) none none xs.length).filterMap (xs[·]?) = xs.drop m := by
  unfold picks sliceBounds sliceRange
  simp only [Option.getD_none, show ((1 : Int) > 0) from by decide, if_true, show ¬ ((m : Int) < 0) from by lia, if_false]
  have h1 : max 0 (min (m : Int) xs.length) = ((min m xs.length : Nat) : Int) := by lia
  rw [h1]
  have h2 : (if ((min m xs.length : Nat) : Int) < (xs.length : Int) then ((xs.length : Int) - ((min m xs.length : Nat) : Int) + 1 - 1) / 1 else 0).toNat = xs.length - m := by split <;> lia
  rw [h2, List.filterMap_map]
  rcases Nat.le_total m xs.length with h | h
  · rw [Nat.min_eq_left h]
    have := get_range' xs m (xs.length - m)
    rw [show (xs.drop m).take (xs.length - m) = xs.drop m by rw [List.take_of_length_le (by simp)]] at this
    rw [← this]
    congr 1
    funext k
    show xs[((m : Int) + 1 * (k : Int)).toNat]? = _
    rw [show ((m : Int) + 1 * (k : Int)).toNat = m + k by lia]
  · rw [show xs.length - m = 0 by lia, List.drop_eq_nil_of_le h]; rfl
section
variable {C : Ctx} {K : Kx} {ρ : Fm} {σ : Store} {X : Value → Shared → Prop} {d : Nat} {Q : V → Store → Prop}
theorem ev_ifexpJ {t a b : Expr} {pos : Pos} {Q : V → Store → Prop} (c : Bool) (v : V) (ht : TsP C K ρ σ t (fun c' σ' => c' = c ∧ σ' = σ) Bot) (h1 : c = true → EvP C K ρ σ a (fun v' σ' => v' = v ∧ σ' = σ) Bot)
    (h2 : c = false → EvP C K ρ σ b (fun v' σ' => v' = v ∧ σ' = σ) Bot) (q : Q v σ) : EvP C K ρ σ (.IfExp t a b pos) Q X := by
  refine ev_ifexp (TsP.mono ht.of ?_)
  rintro c' σ' ⟨rfl, rfl⟩
  cases c' with
  | true => rw [if_pos rfl]; exact EvP.mono (h1 rfl).of fun v' σ' ⟨e1, e2⟩ => by subst e1 e2; exact q
  | false => rw [if_neg (by decide)]; exact EvP.mono (h2 rfl).of fun v' σ' ⟨e1, e2⟩ => by subst e1 e2; exact q
theorem lt_big {a k : Nat} (h : nbits a ≤ k) (hk : k ≤ 400) : a < 2 ^ (2 ^ 19) :=
  Nat.lt_of_lt_of_le (lt_nbits a) (Nat.pow_le_pow_right (by decide) (Nat.le_trans h (Nat.le_trans hk (by decide))))
theorem cs_idm (B : Base C) (hd : 80 ≤ d) {a b : Int} (hb : b ≠ 0) (hbs : nbits b.natAbs ≤ 400) (ha : nbits a.natAbs ≤ 400) {x y : Int} (e : (a.fdiv b, a.fmod b) = (x, y)) (q : Q (.tup [.int x, .int y]) σ) :
    CallV C d (.raw (.ref A_int_divmod)) [.int a, .int b] σ Q X := by
  injection e with e1 e2
  refine cs_int_divmod B (divOk_small B (by lia) (lt_nbits _) (Nat.le_trans hbs (by decide))) hd hb (Nat.le_trans hbs (by decide)) (lt_big ha (Nat.le_refl _)) ?_
  rw [e1, e2]; exact q
open PySem.Spec PySem.SeqAt in
theorem trues (m : Nat) : Dats σ (List.replicate m (V.bool true)) (List.replicate m (PySem.PyData.bool true)) ∧ PySem.PyData.canLayAll0 (List.replicate m (PySem.PyData.bool true)) = true ∧ PySem.PyData.depthAll (List.replicate m (PySem.PyData.bool true)) = 0 ∧ PySem.Spec.countIn (.bool false) (List.replicate m (PySem.PyData.bool true)) = 0 := by
  induction m with
  | zero => exact ⟨.nil, rfl, rfl, rfl⟩
  | succ m ih =>
    obtain ⟨h1, h2, h3, h4⟩ := ih
    rw [List.replicate_succ, List.replicate_succ]
    refine ⟨.cons (.bool true) h1, ?_, ?_, ?_⟩
    · rw [PySem.PyData.canLayAll0, h2]; rfl
    · rw [PySem.PyData.depthAll, h3]; rfl
    · rw [Spec.countIn, h4]; rfl
open PySem.Spec PySem.SeqAt in
theorem all_good {D : Addr} {m : Nat} (h : σ D = some (.list (List.replicate m (V.bool true)))) (q : Q (.bool true) σ) : M2 C d (compareOp .NotIn) (.bool false) (.loc D) σ Q X := by
  obtain ⟨h1, h2, h3, h4⟩ := trues (σ := σ) m
  refine cmp_notIn (.bool false) (.own h h1) (by rfl) ?_ (fun y hy => ?_) ?_
  · simp [shaped, PySem.PyData.canLay0, PySem.PyData.depth, h2, h3]
  · rw [List.eq_of_mem_replicate hy]; rfl
  · rw [h4]; exact q
theorem cs__law_numbers (B : Base C) (hd : 90 ≤ d) {ps : List Nat} {w : Nat} (h1 : 1 ≤ ps.length) (h3 : ps.length ≤ 3) (h8 : ∀ p ∈ ps, p < 8) (hw : 6 ≤ w) (hw2 : w ≤ 17) (q : Q (.bool true) σ) :
    CallV C d (.raw (.ref A__law_numbers)) [.lst (natV ps), .int w] σ Q X := by
  refine CallV.le (d := 90) (CallV.pure (CallV.of ?_)) hd
  refine cv_fnC' (d := 89) B.ok2 B.f__law_numbers bd__law_numbers ck__law_numbers rfl rfl rfl ?_
  have hp8 : (8 : Nat) ≤ 2 ^ w := Nat.le_trans (by decide : 8 ≤ 2 ^ 3) (Nat.pow_le_pow_right (by decide) (by lia))
  have h64 : (64 : Nat) ≤ 2 ^ w := Nat.le_trans (by decide : 64 ≤ 2 ^ 6) (Nat.pow_le_pow_right (by decide) (by lia))
  have hup : (2 : Nat) ^ w ≤ 2 ^ 17 := Nat.pow_le_pow_right (by decide) hw2
  walk_at "start"
  refine ex_cons (st_assign_swap (names := ["whole", "below", "good"]) ?_ (by intro env h1 h2; obtain ⟨⟨_, _, _, _⟩, _, _, _, _, _, _, _, _⟩ := env; dsimp only at h1 h2; subst h1 h2; kernel_rfl) (by intro _; rfl))
  walk_at "go"
  refine cs__digits2int B (by decide) (by omega) (fun x hx => by have := h8 x hx; omega) (by have : w * ps.length ≤ 17 * 3 := Nat.mul_le_mul hw2 h3
                                                                                             omega) ?_
  walk_at "go"
  refine ev_list0O fun D hD => ?_
  walk_at "go"
  refine ⟨_, rfl, rfl, ?_⟩
  show SwapP _ _ _ _ [_, _, _] [_, _, _]
  walk_at "swp"
  walk_at "go"
  rw [Nat.one_mul]
  refine st_forL ?_
  walk_at "go"
  refine ⟨_, items_rng0 4 (by decide), fun a ρ' σ' => ∃ m, m ≤ 20 * a ∧ σ' = upd σ D (some (.list (List.replicate m (.bool true)))) ∧ (∃ sl, (("ahead" : Str), sl) ∈ ρ' ∧ ∀ c, sl ≠ Slot.sh c) ∧ (∃ sl, (("now" : Str), sl) ∈ ρ' ∧ ∀ c, sl ≠ Slot.sh c) ∧ Has ρ' [("whole", .val (.int (d2i w ps : Nat))), ("below", .val (.int (2 ^ w - 1 : Nat))), ("good", .val (.loc D)), ("parts", .val (.lst (natV ps))), ("width", .val (.int w))],
    ⟨0, Nat.zero_le _, rfl, ⟨_, by walk_at "mem", (by intro c e; cases e)⟩, ⟨_, by walk_at "mem", (by intro c e; cases e)⟩, by walk_at "has"⟩, ?_, ?_⟩
  · rintro a x ρ' σ' hx ⟨m, hm, rfl, ⟨sl, hsl, hne⟩, ⟨sl2, hsl2, hne2⟩, hhas⟩
    have ha : a < 4 := by
      rcases Nat.lt_or_ge a 4 with h | h
      · exact h
      · (first | obtain rfl := Option.some.inj ((List.getElem?_eq_none (by simpa using h)).symm.trans hx) | exact absurd ((List.getElem?_eq_none (by simpa using h)).symm.trans hx) (Option.some_ne_none _) | exact absurd ((List.getElem?_eq_none (by simpa using h)).symm.trans hx).symm (Option.some_ne_none _) | exact absurd (congrArg Data.ctorIdx ((List.getElem?_eq_none (by simpa using h)).symm.trans hx)) (by decide) | (rw [List.getElem?_eq_none (by simpa using h)] at hx; cases hx))
    have hx' : x = .int ((a : Nat) : Int) := by
      rw [List.getElem?_map, List.getElem?_range ha] at hx; exact (Option.some.inj hx).symm
    subst hx'
    refine as_cellH (by kernel_rfl) ⟨sl, hsl, hne⟩ (Has.cons hsl2 hhas) (by kernel_rfl) ?_
    walk_at "go"
    refine st_assignPC (sl := sl2) (by kernel_rfl) (by walk_at "mem") hne2 ?_
    refine ev_compT (caps := [("ahead", .val (.int (a : Int)))]) (compOk (by kernel_rfl) (by walk_at "has") (by rfl)) (fun p : Nat => V.int p) (fun p => [("part", .val (.int p))]) (fun p => V.int ((p / 2 ^ a : Nat) : Int)) ?_
    walk_at "go"
    refine ⟨ps, .lst _, by lia, fun x hx => ⟨tgt_name (by kernel_rfl), by kernel_rfl, fun D acc hD => ?_⟩, ?_⟩
    · simp only [List.cons_append, List.nil_append]
      walk_at "go"
      exact ⟨rfl, rfl⟩
    rw [show ps.map (fun p => V.int ((p / 2 ^ a : Nat) : Int)) = natV (shrL ps a) by simp [natV, shrL, Function.comp_def]]
    have hn8 : ∀ x ∈ shrL ps a, x < 8 := fun x hx => by
      obtain ⟨p, hp, rfl⟩ := List.mem_map.mp hx
      exact Nat.lt_of_le_of_lt (Nat.div_le_self _ _) (h8 p hp)
    have hnl : (shrL ps a).length = ps.length := by simp [shrL]
    have hwl : w * (shrL ps a).length ≤ 51 := by rw [hnl]; exact Nat.mul_le_mul hw2 h3
    generalize hnow : shrL ps a = now at *
    have hnw : ∀ x ∈ now, x < 2 ^ w := fun x hx => by have := hn8 x hx; lia
    walk_at "go"
    refine cs__digits2int B (by decide) (by lia) hnw (by lia) ?_
    have hNlt : d2i w now < 2 ^ 51 := Nat.lt_of_lt_of_le (d2i_lt w now hnw) (Nat.pow_le_pow_right (by decide) hwl)
    walk_at "go"
    have hb0 : 0 < 2 ^ w - 1 := by lia
    have hbn : nbits (2 ^ w - 1) ≤ 400 := Nat.le_trans (nbits_le (Nat.sub_lt (by lia) (by decide))) (by lia)
    have hNn : nbits (d2i w now) ≤ 400 := Nat.le_trans (nbits_le hNlt) (by decide)
    have hsum : now.sum ≤ 24 := by
      have := sum_le8 now id fun p hp => by have := hn8 p hp; show p ≤ 8; lia
      rw [List.map_id, hnl] at this; lia
    obtain ⟨hS, hT⟩ := divmod_of (d2i_behind w now) (show now.sum < 2 ^ w - 1 by lia)
    refine cs_idm B (by decide) (by lia) (by rw [Int.natAbs_natCast]; exact hbn) (by rw [Int.natAbs_natCast]; exact hNn) (x := ((d2i w (behindL now) : Nat) : Int)) (y := ((now.sum : Nat) : Int)) (by rw [fdivN, fmodN, hS, hT]) ?_
    walk_at "go"
    refine st_assign_compT (caps := [("now", .val (.lst (natV now)))]) (compOk (by kernel_rfl) (by walk_at "has") (by rfl)) (by kernel_rfl!) (fun k : Nat => V.int k) (fun k => [("k", .val (.int k))]) (fun k => V.int (((now.drop (k + 1)).sum : Nat) : Int)) ?_
    walk_at "go"
    · refine ⟨List.range (natV now).length, items_rng0 _ (by simp [natV]; lia), by simp [natV]; lia, fun k hk => ⟨tgt_name (by kernel_rfl), by kernel_rfl, fun D acc hD => ?_⟩, ?_⟩
      · simp only [List.cons_append, List.nil_append]
        walk_at "go"
        refine ⟨_, _, _, .int _, .none, .none, sub_lst (.fr _), gi_lst_slc (.fr _) (by simp) (by simp [natV]; lia) ?_⟩
        rw [picks_drop]
        walk_at "go"
        refine bn_sum (xs := now.drop (k + 1)) (by rw [show natV (now.drop (k + 1)) = (natV now).drop (k + 1) from List.map_drop]; exact .fr _) ?_
        walk_at "go"
        exact ⟨rfl, rfl⟩
      rw [show (natV now).length = now.length from List.length_map _, show (List.range now.length).map (fun k => V.int (((now.drop (k + 1)).sum : Nat) : Int)) = natV (behindL now) by rw [← behind_eq]; simp [natV, Function.comp_def]]
      have hD0 := upd_self σ D (some (.list (List.replicate m (V.bool true))))
      have hbl := behind_len now
      have hbw : ∀ x ∈ behindL now, x < 2 ^ w := by
        intro x hx
        obtain ⟨k, hk, rfl⟩ := List.getElem_of_mem hx
        have e := behind_get now k (by lia)
        rw [List.getElem?_eq_getElem hk] at e
        have e := Option.some.inj e
        have h4 : (now.drop (k + 1)).sum ≤ now.sum := by
          conv => rhs; rw [← List.take_append_drop (k + 1) now, List.sum_append]
          omega
        omega
      walk_at "go"
      refine cs__int2digits B (by decide) (by lia) (by lia) (lt_big hNn (Nat.le_refl _)) ?_
      walk_at "go"
      refine cs__int2digits B (by decide) (by lia) (by lia) (lt_big (nbits_le (d2i_lt w _ hbw)) (by rw [hbl]; lia)) ?_
      walk_at "go"
      refine cs__law_bare B (by decide) (by lia) ?_
      walk_at "go"
      refine cs__law_bare B (by decide) (by lia) ?_
      walk_at "go"
      refine bn_sum (.fr _) ?_
      walk_at "go"
      refine eq_true (by rw [figures w (by lia) now hnw, figures w (by lia) (behindL now) hbw, bare_eq, bare_eq]) (.tup (.cons (.lst (dats_nat _)) (.cons (.lst (dats_nat _)) (.cons (.int _) .nil)))) (shaped_t3 _ _ _) ?_
      walk_at "go"
      · rw [upd_upd, ← List.replicate_succ']
        have hD1 := upd_self σ D (some (.list (List.replicate (m + 1) (V.bool true))))
        walk_at "go"
        refine cs_idm B (by decide) (by lia) (by rw [Int.natAbs_neg, Int.natAbs_natCast]; exact hbn) (by rw [Int.natAbs_natCast]; exact hNn) (x := if now.sum = 0 then -((d2i w (behindL now) : Nat) : Int) else -((d2i w (behindL now) : Nat) : Int) - 1) (y := if now.sum = 0 then 0 else ((now.sum : Nat) : Int) - ((2 ^ w - 1 : Nat) : Int)) (by rw [fd2 _ _ hb0, hS, hT]; split <;> rfl) ?_
        refine ev_ifexpJ (now.sum == 0) (.tup [.int (if now.sum = 0 then -((d2i w (behindL now) : Nat) : Int) else -((d2i w (behindL now) : Nat) : Int) - 1), .int (if now.sum = 0 then 0 else ((now.sum : Nat) : Int) - ((2 ^ w - 1 : Nat) : Int))]) ?_ (fun h => ?_) (fun h => ?_) ?_
        · walk_at "go"
          exact ⟨rfl, rfl⟩
        · rw [if_pos (by simpa using h), if_pos (by simpa using h)]
          walk_at "go"
          exact ⟨rfl, rfl⟩
        · rw [if_neg (by simpa using h), if_neg (by simpa using h)]
          walk_at "go"
          exact ⟨rfl, rfl⟩
        refine eq_true rfl (.tup (.cons (.int _) (.cons (.int _) .nil))) (shaped_ii _ _) ?_
        walk_at "go"
        · rw [upd_upd, ← List.replicate_succ']
          have hD2 := upd_self σ D (some (.list (List.replicate (m + 1 + 1) (V.bool true))))
          walk_at "go"
          refine cs_idm B (by decide) (by lia) (by rw [Int.natAbs_natCast]; exact hbn) (by rw [Int.natAbs_neg, Int.natAbs_natCast]; exact hNn) (x := if now.sum = 0 then -((d2i w (behindL now) : Nat) : Int) else -((d2i w (behindL now) : Nat) : Int) - 1) (y := if now.sum = 0 then 0 else ((2 ^ w - 1 - now.sum : Nat) : Int)) (by rw [fd3 _ _ hb0, hS, hT, Int.ofNat_sub (show now.sum ≤ 2 ^ w - 1 by lia)]; split <;> rfl) ?_
          refine ev_ifexpJ (now.sum == 0) (.tup [.int (if now.sum = 0 then -((d2i w (behindL now) : Nat) : Int) else -((d2i w (behindL now) : Nat) : Int) - 1), .int (if now.sum = 0 then 0 else ((2 ^ w - 1 - now.sum : Nat) : Int))]) ?_ (fun h => ?_) (fun h => ?_) ?_
          · walk_at "go"
            exact ⟨rfl, rfl⟩
          · rw [if_pos (by simpa using h), if_pos (by simpa using h)]
            walk_at "go"
            exact ⟨rfl, rfl⟩
          · rw [if_neg (by simpa using h), if_neg (by simpa using h)]
            walk_at "go"
            exact ⟨rfl, rfl⟩
          refine eq_true rfl (.tup (.cons (.int _) (.cons (.int _) .nil))) (shaped_ii _ _) ?_
          walk_at "go"
          · rw [upd_upd, ← List.replicate_succ']
            have hD3 := upd_self σ D (some (.list (List.replicate (m + 1 + 1 + 1) (V.bool true))))
            refine st_forL ?_
            walk_at "go"
            rw [show (4 : Int) - (a : Int) = ((4 - a : Nat) : Int) by lia]
            refine ⟨_, items_rng0 (4 - a) (by lia), fun j ρ' σ' => σ' = upd σ D (some (.list (List.replicate (m + 3 + j) (.bool true)))) ∧ Has ρ' [("number", .val (.int (d2i w now : Nat))), ("now", .val (.lst (natV now))), ("ahead", .val (.int a)), ("total", .val (.int (now.sum : Nat))), ("whole", .val (.int (d2i w ps : Nat))), ("below", .val (.int (2 ^ w - 1 : Nat))), ("good", .val (.loc D)), ("parts", .val (.lst (natV ps))), ("width", .val (.int w))], ⟨rfl, by walk_at "has"⟩, ?_, ?_⟩
            · rintro j x ρ' σ' hx ⟨rfl, hhas⟩
              have hj : j < 4 - a := by
                rcases Nat.lt_or_ge j (4 - a) with h | h
                · exact h
                · (first | obtain rfl := Option.some.inj ((List.getElem?_eq_none (by simpa using h)).symm.trans hx) | exact absurd ((List.getElem?_eq_none (by simpa using h)).symm.trans hx) (Option.some_ne_none _) | exact absurd ((List.getElem?_eq_none (by simpa using h)).symm.trans hx).symm (Option.some_ne_none _) | exact absurd (congrArg Data.ctorIdx ((List.getElem?_eq_none (by simpa using h)).symm.trans hx)) (by decide) | (rw [List.getElem?_eq_none (by simpa using h)] at hx; cases hx))
              have hx' : x = .int ((j : Nat) : Int) := by
                rw [List.getElem?_map, List.getElem?_range hj] at hx; exact (Option.some.inj hx).symm
              subst hx'
              have hDj := upd_self σ D (some (.list (List.replicate (m + 3 + j) (V.bool true))))
              refine AsP.sub ?_ hhas
              walk_at "go"
              refine cs__law_left B (by decide) (.fr _) rfl (by lia) (by lia) (by lia) ?_
              rw [left_eq, hnow]
              walk_at "go"
              · have hTn : nbits now.sum ≤ 400 := Nat.le_trans (nbits_le (show now.sum < 2 ^ 5 by lia)) (by decide)
                have h2n : nbits (2 ^ j) ≤ 400 := Nat.le_trans (nbits_le (show 2 ^ j < 2 ^ (j + 1) from Nat.pow_lt_pow_right (by decide) (by lia))) (by lia)
                have h2p := Nat.two_pow_pos j
                have hTl : now.sum / 2 ^ j ≤ 24 := Nat.le_trans (Nat.div_le_self _ _) hsum
                refine cs_idm B (by decide) (by lia) (by rw [Int.natAbs_neg, Int.natAbs_natCast]; exact h2n) (by rw [Int.natAbs_neg, Int.natAbs_natCast]; exact hTn) (fd4 now.sum j) ?_
                walk_at "go"
                · refine eq_true (by rw [Int.natCast_mul]) (.tup (.cons (.int _) (.cons (.int _) .nil))) (shaped_ii _ _) ?_
                  walk_at "go"
                  · rw [upd_upd, ← List.replicate_succ']
                    exact ⟨rfl, by walk_at "has"⟩
                  · simp; lia
                · rw [show nbits 2 = 2 by decide]; lia
                · exact mulOk_small (.inl (by lia))
              · rw [show nbits 2 = 2 by decide]; lia
            · rintro ρ' σ' ⟨rfl, hhas⟩
              rw [List.length_map, List.length_range] at *
              refine cont_next (ExP.has ?_ hhas)
              walk_at "go"
              refine ite_dec (fun h0 => ?_) (fun h0 => ?_)
              · walk_at "go"
                refine ev_compT (caps := [("ahead", .val (.int (a : Int)))]) (compOk (by kernel_rfl) (by walk_at "has") (by rfl)) (fun p : Nat => V.int p) (fun p => [("part", .val (.int p))]) (fun p => V.int ((p % 2 ^ a : Nat) : Int)) ?_
                walk_at "go"
                refine ⟨ps, .lst _, by lia, fun x hx => ⟨tgt_name (by kernel_rfl), by kernel_rfl, fun D acc hD => ?_⟩, ?_⟩
                · simp only [List.cons_append, List.nil_append]
                  walk_at "go"
                  · exact ⟨rfl, rfl⟩
                  · rw [show nbits 2 = 2 by decide]; lia
                  · exact Nat.ne_of_gt (Nat.two_pow_pos a)
                  · exact pow_log (by decide) (by decide) ha
                rw [show ps.map (fun p => V.int ((p % 2 ^ a : Nat) : Int)) = (ps.map (· % 2 ^ a)).map (fun x : Nat => V.int x) by simp [Function.comp_def]]
                walk_at "go"
                refine cs__digits2int B (by decide) (by lia) (fun x hx => ?_) (by rw [List.length_map, ← hnl]; lia) ?_
                · obtain ⟨p, hp, rfl⟩ := List.mem_map.mp hx
                  have := h8 p hp
                  exact Nat.lt_of_le_of_lt (Nat.mod_le _ _) (by lia)
                have hDj := upd_self σ D (some (.list (List.replicate (m + 3 + (4 - a)) (V.bool true))))
                have hlost : ((d2i w (ps.map (· % 2 ^ a)) : Nat) : Int) - ((d2i w ps : Nat) : Int) = -((2 ^ a * d2i w now : Nat) : Int) := by
                  have := d2i_split w a ps
                  rw [hnow] at this
                  omega
                have h2n : nbits (2 ^ a) ≤ 400 := Nat.le_trans (nbits_le (show 2 ^ a < 2 ^ (a + 1) from Nat.pow_lt_pow_right (by decide) (by lia))) (by lia)
                have hNa : nbits (2 ^ a * d2i w now) ≤ 400 := Nat.le_trans (nbits_le (show 2 ^ a * d2i w now < 2 ^ (a + 51) by rw [Nat.pow_add]; exact Nat.mul_lt_mul_of_pos_left hNlt (Nat.two_pow_pos a))) (by lia)
                walk_at "go"
                · rw [hlost]
                  refine cs_idm B (by decide) (by have := Nat.two_pow_pos a; lia) (by rw [Int.natAbs_natCast]; exact h2n) (by rw [Int.natAbs_neg, Int.natAbs_natCast]; exact hNa) (x := -((d2i w now : Nat) : Int)) (y := 0) (by rw [fd3 _ _ (Nat.two_pow_pos a), if_pos (Nat.mul_mod_right ..), Nat.mul_div_cancel_left _ (Nat.two_pow_pos a)]) ?_
                  walk_at "go"
                  refine eq_true rfl (.tup (.cons (.int _) (.cons (.int _) .nil))) (shaped_ii _ _) ?_
                  walk_at "go"
                  · rw [upd_upd, ← List.replicate_succ']
                    exact ⟨m + 3 + (4 - a) + 1, by lia, rfl, ⟨_, by walk_at "mem", (by intro c e; cases e)⟩, ⟨_, by walk_at "mem", (by intro c e; cases e)⟩, by walk_at "has"⟩
                  · simp; lia
                · rw [show nbits 2 = 2 by decide]; lia
              · walk_at "go"
                exact ⟨m + 3 + (4 - a), by lia, rfl, ⟨_, by walk_at "mem", (by intro c e; cases e)⟩, ⟨_, by walk_at "mem", (by intro c e; cases e)⟩, by walk_at "has"⟩
          · simp; lia
        · simp; lia
      · simp; lia
    · simp [natV]; lia
  · rintro ρ' σ' ⟨m, hm, rfl, _, _, hhas⟩
    refine cont_next (ExP.has ?_ hhas)
    walk_at "go"
    refine all_good (upd_self ..) ?_
    walk_at "go"
    refine ⟨fun b o hb => ?_, _, .same _ (by intro a e; cases e), q⟩
    rw [upd_ne _ _ (fun e => by rw [e, hD] at hb; cases hb)]; exact hb
  · rw [show nbits 1 = 1 by decide]; lia
end
theorem bd__law_read : Binds F__law_read ["words", "draw"] := by walk_at "binds"
theorem ck__law_read : fnC F__law_read ["words", "draw"] ["lexer", "left"] = true := by decide +kernel
noncomputable def gapT : List (List Nat) := [[], [32], [10], [9, 13]]
noncomputable def gapOf (draw k : Nat) : List Nat := gapT.getD (draw / 8 ^ k / 2 % 4) []
noncomputable def pieceOf (ws : List (List Nat)) (draw k : Nat) : List Nat :=
  if draw / 8 ^ k % 2 = 1 then (([34] ++ ws.getD k []) ++ (if gapOf draw k = [] ∧ k = ws.length - 1 then [] else [34])) ++ gapOf draw k
  else ws.getD k [] ++ (if gapOf draw k = [] ∧ k < ws.length - 1 then [32] else gapOf draw k)
noncomputable def textK (ws : List (List Nat)) (draw : Nat) : Nat → List Nat
  | 0 => []
  | k + 1 => textK ws draw k ++ pieceOf ws draw k
noncomputable def tokN : Nat → List Nat → List (List Nat) × List Nat
  | 0, l => ([], l)
  | k + 1, l => ((tokN k l).1 ++ [(tok (tokN k l).2).1], (tok (tokN k l).2).2)
theorem gap_le (draw k : Nat) : (gapOf draw k).length ≤ 2 := by
  unfold gapOf
  have h : draw / 8 ^ k / 2 % 4 < 4 := Nat.mod_lt _ (by decide)
  generalize draw / 8 ^ k / 2 % 4 = i at h
  have : i = 0 ∨ i = 1 ∨ i = 2 ∨ i = 3 := by lia
  rcases this with rfl | rfl | rfl | rfl <;> decide
theorem getD_le {ws : List (List Nat)} {N : Nat} (hw : ∀ w ∈ ws, w.length ≤ N) (k : Nat) : (ws.getD k []).length ≤ N := by
  rw [List.getD_eq_getElem?_getD]
  rcases Nat.lt_or_ge k ws.length with h | h
  · rw [List.getElem?_eq_getElem h]; exact hw _ (List.getElem_mem h)
  · rw [List.getElem?_eq_none h]; exact Nat.zero_le _
theorem piece_le {ws : List (List Nat)} {N : Nat} (hw : ∀ w ∈ ws, w.length ≤ N) (draw k : Nat) : (pieceOf ws draw k).length ≤ N + 4 := by
  have h1 := getD_le hw k
  have h2 := gap_le draw k
  have h3 : (if gapOf draw k = [] ∧ k = ws.length - 1 then ([] : List Nat) else [34]).length ≤ 1 := by split <;> simp
  have h4 : (if gapOf draw k = [] ∧ k < ws.length - 1 then [32] else gapOf draw k).length ≤ 2 := by
    split
    · simp
    · exact h2
  unfold pieceOf
  split
  · simp only [List.length_append, List.length_singleton]; lia
  · simp only [List.length_append]; lia
theorem text_le {ws : List (List Nat)} {N : Nat} (hw : ∀ w ∈ ws, w.length ≤ N) (draw : Nat) : ∀ k, (textK ws draw k).length ≤ (N + 4) * k
  | 0 => by simp [textK]
  | k + 1 => by
    have h1 := text_le hw draw k
    have h2 := piece_le hw draw k
    simp only [textK, List.length_append, Nat.mul_add, Nat.mul_one]; lia
theorem gap_ok (draw k : Nat) : ∀ c ∈ gapOf draw k, c < 0x110000 := by
  unfold gapOf
  have h : draw / 8 ^ k / 2 % 4 < 4 := Nat.mod_lt _ (by decide)
  generalize draw / 8 ^ k / 2 % 4 = i at h
  have : i = 0 ∨ i = 1 ∨ i = 2 ∨ i = 3 := by lia
  rcases this with rfl | rfl | rfl | rfl <;> decide
theorem getD_ok {ws : List (List Nat)} (hc : ∀ w ∈ ws, ∀ c ∈ w, c < 0x110000) (k : Nat) : ∀ c ∈ ws.getD k [], c < 0x110000 := by
  rw [List.getD_eq_getElem?_getD]
  rcases Nat.lt_or_ge k ws.length with h | h
  · rw [List.getElem?_eq_getElem h]; exact hc _ (List.getElem_mem h)
  · rw [List.getElem?_eq_none h]; intro c hc; cases hc
theorem text_ok {ws : List (List Nat)} (hc : ∀ w ∈ ws, ∀ c ∈ w, c < 0x110000) (draw : Nat) : ∀ k, ∀ c ∈ textK ws draw k, c < 0x110000
  | 0, c, h => by cases h
  | k + 1, c, h => by
    have h1 := text_ok hc draw k
    have h2 := getD_ok hc k
    have h3 := gap_ok draw k
    rcases List.mem_append.mp h with h | h
    · exact h1 c h
    · unfold pieceOf at h
      split at h
      · rcases List.mem_append.mp h with h | h
        · rcases List.mem_append.mp h with h | h
          · rcases List.mem_append.mp h with h | h
            · rw [List.mem_singleton.mp h]; decide
            · exact h2 c h
          · split at h
            · cases h
            · rw [List.mem_singleton.mp h]; decide
        · exact h3 c h
      · rcases List.mem_append.mp h with h | h
        · exact h2 c h
        · split at h
          · rw [List.mem_singleton.mp h]; decide
          · exact h3 c h
/-! what is left is an end of what was there -/
theorem tokQ_suf : ∀ (n : Nat) (l acc : List Nat), l.length ≤ n → (tokQ acc l).2 <:+ l
  | _, [], acc, _ => by simp [tokQ]
  | 0, _ :: _, _, h => by simp at h
  | n + 1, c :: r, acc, h => by
    have hr : r.length ≤ n := by simpa using h
    rw [tokQ_cons]
    split
    · exact List.suffix_cons ..
    · split
      · exact (tokQ_suf n (r.drop 1) _ (by simp; lia)).trans ((List.drop_suffix 1 r).trans (List.suffix_cons ..))
      · exact (tokQ_suf n r _ hr).trans (List.suffix_cons ..)
theorem tokB_suf : ∀ (n : Nat) (l acc : List Nat), l.length ≤ n → (tokB acc l).2 <:+ l
  | _, [], acc, _ => by simp [tokB]
  | 0, _ :: _, _, h => by simp at h
  | n + 1, c :: r, acc, h => by
    have hr : r.length ≤ n := by simpa using h
    rw [tokB_cons]
    split
    · exact List.suffix_cons ..
    · split
      · exact (tokB_suf n (r.drop 1) _ (by simp; lia)).trans ((List.drop_suffix 1 r).trans (List.suffix_cons ..))
      · exact (tokB_suf n r _ hr).trans (List.suffix_cons ..)
theorem tok_suf : ∀ l : List Nat, (tok l).2 <:+ l
  | [] => by simp [tok]
  | c :: r => by
    rw [tok]
    split
    · exact (tok_suf r).trans (List.suffix_cons ..)
    · split
      · exact (tokQ_suf _ r _ (Nat.le_refl _)).trans (List.suffix_cons ..)
      · split
        · exact (tokB_suf _ (r.drop 1) _ (Nat.le_refl _)).trans ((List.drop_suffix 1 r).trans (List.suffix_cons ..))
        · exact (tokB_suf _ r _ (Nat.le_refl _)).trans (List.suffix_cons ..)
theorem tokN_suf (l : List Nat) : ∀ k, (tokN k l).2 <:+ l
  | 0 => List.suffix_refl _
  | k + 1 => (tok_suf _).trans (tokN_suf l k)
theorem OkL.suf {l l' : List Nat} (h : OkL l) (s : l' <:+ l) : OkL l' := ⟨Nat.lt_of_le_of_lt s.length_le h.1, fun c hc => h.2 c (s.subset hc)⟩
theorem tokN_len (l : List Nat) : ∀ k, (tokN k l).1.length = k
  | 0 => rfl
  | k + 1 => by simp [tokN, tokN_len l k]
theorem cnt_eq (c : Nat) : ∀ l : List Nat, cnt c l = ((l.count c : Nat) : Int)
  | [] => rfl
  | x :: l => by
    have ih := cnt_eq c l
    rw [cnt_cons, ih, List.count_cons]
    by_cases h : x = c
    · subst h; simp; lia
    · have h2 : ¬ c = x := fun e => h e.symm
      simp [h, h2]
theorem count_nl (l : List Nat) : Txt.count ⟨l.toArray⟩ ⟨[10].toArray⟩ = ((nlOf l : Nat) : Int) := by
  rw [show (⟨[10].toArray⟩ : Str) = ⟨#[10]⟩ from rfl, count_cnt, cnt_eq]; rfl
section
variable {C : Ctx} {K : Kx} {ρ : Fm} {σ : Store} {X : Value → Shared → Prop} {d : Nat} {Q : V → Store → Prop}
theorem call_tok (B : Base C) {A : LexA} {l : List Nat} {n : Nat} {p : List (List Nat)} (h : Lex A σ l n p) {o : Expr} {apos pos : Pos} (hd : 12 ≤ K.d) (ho : ∀ Q : V → Store → Prop, Q (.loc A.x) σ → EvP C K ρ σ o Q X)
    (q : CallV C 12 (.raw (.ref A_m_get_token)) [.loc A.x] σ Q X) {pl : Env → Sem Bool}
    (he : ∀ env, eval (.Call (.Attribute o "get_token" apos) [] [] pos) env = (do
      let ov ← eval o env
      standAt apos.atName
      let (f, first) ← holding [ov] (getMethod ov "get_token" (pl env))
      callWith pos f first (backTo pos (starEach [] env)) (backToKw pos (keywordEach [] env))) := by intro _; rfl)
    (hse : ∀ env, backTo pos (starEach [] env) = [].map fun e => (false, eval e env) := by intro _; rfl) : EvP C K ρ σ (.Call (.Attribute o "get_token" apos) [] [] pos) Q X := by
  have e := fr_cls C.w.params
  simp only [Prod.mk.injEq] at e
  have m := fr_m_get_token C.w.params
  simp only [Prod.mk.injEq] at m
  exact ev_methN (pl := pl) B.fr (ho _ ⟨_, _, _, _, _, rfl, h.hx, h.hd, by rfl, e.2.2.2.2.2.2.1, e.2.2.2.2.2.2.2, m.1, m.2.1, B.f_m_get_token.keep, CallV.le (d := 12) q hd⟩) he hse
theorem call_push (B : Base C) {A : LexA} {l : List Nat} {n : Nat} {p : List (List Nat)} {x : List Nat} (h : Lex A σ l n p) (hp : p.length < 2 ^ 20) {o a : Expr} {apos pos : Pos} (hd : 6 ≤ K.d) (ho : ∀ Q : V → Store → Prop, Q (.loc A.x) σ → EvP C K ρ σ o Q X) (ha : ∀ Q : V → Store → Prop, Q (.str x) σ → EvP C K ρ σ a Q X)
    (q : Q .none (lexU A σ l n (p ++ [x]))) {pl : Env → Sem Bool}
    (he : ∀ env, eval (.Call (.Attribute o "push_token" apos) [a] [] pos) env = (do
      let ov ← eval o env
      standAt apos.atName
      let (f, first) ← holding [ov] (getMethod ov "push_token" (pl env))
      callWith pos f first (backTo pos (starEach [a] env)) (backToKw pos (keywordEach [] env))) := by intro _; rfl)
    (hse : ∀ env, backTo pos (starEach [a] env) = [a].map fun e => (false, eval e env) := by intro _; rfl) : EvP C K ρ σ (.Call (.Attribute o "push_token" apos) [a] [] pos) Q X := by
  have e := fr_cls C.w.params
  simp only [Prod.mk.injEq] at e
  have m := fr_m_push_token C.w.params
  simp only [Prod.mk.injEq] at m
  exact ev_methN (pl := pl) B.fr (ho _ ⟨_, _, _, _, _, rfl, h.hx, h.hd, by rfl, e.2.2.2.2.2.2.1, e.2.2.2.2.2.2.2, m.1, m.2.1, evs_cons (ha _ (evs_nil ⟨B.f_m_push_token.keep, CallV.le (d := 6) (cs_push_token B h hp q) hd⟩))⟩) he hse
open PySem.Spec PySem.SeqAt in
theorem ne_false2 {a b : V} {p : PySem.PyData} (ha : Dat σ a p) (hb : Dat σ b p) (sa : shaped p = true) (q : Q (.bool false) σ) : M2 C d (compareOp .NotEq) a b σ Q X := by
  refine cmp_ne ha hb sa sa (noMix_self p (canLay_of_shaped sa)) ?_
  rw [Spec.same_self]; exact q
theorem Sub.none {σ' : Store} (h : Sub σ σ') {a : Addr} (hn : σ' a = none) : σ a = none := by
  cases e : σ a with
  | none => rfl
  | some o => (first | obtain rfl := Option.some.inj ((h a o e).symm.trans hn) | exact absurd ((h a o e).symm.trans hn) (Option.some_ne_none _) | exact absurd ((h a o e).symm.trans hn).symm (Option.some_ne_none _) | exact (datN ((h a o e).symm.trans hn) rfl).elim | (rw [h a o e] at hn; cases hn))
theorem lexU_acc {A : LexA} {l l' : List Nat} {n n' : Nat} {p p' : List (List Nat)} (h : Lex A σ l n p) {D : Addr} {acc : List V} (hD : σ D = none) : lexU A (accS σ D acc) l' n' p' = accS (lexU A σ l' n' p') D acc := by
  have h1 : D ≠ A.lf := fun e => by rw [e, h.hlf] at hD; cases hD
  have h2 : D ≠ A.dx := fun e => by rw [e, h.hd] at hD; cases hD
  have h3 : D ≠ A.pb := fun e => by rw [e, h.hpb] at hD; cases hD
  funext c
  unfold lexU accS upd
  by_cases e0 : c = D
  · subst e0; simp [h1, h2, h3]
  · simp [e0]
theorem pow8 {k : Nat} (h : k ≤ 10) : 8 ^ k ≠ 0 ∧ (8 ^ k).log2 < 9000 ∧ nbits 8 * k ≤ 2 ^ 27 := by
  have h0 : 8 ^ k ≠ 0 := Nat.ne_of_gt (Nat.pow_pos (by decide))
  refine ⟨h0, log2_lt_of h0 (Nat.lt_of_le_of_lt (Nat.pow_le_pow_right (by decide) h) ?_), ?_⟩
  · exact Nat.lt_of_lt_of_le (by decide : 8 ^ 10 < 2 ^ 31) (Nat.pow_le_pow_right (by decide) (by decide))
  · rw [show nbits 8 = 4 by decide]; lia
theorem cs__law_read (B : Base C) (hd : 20 ≤ d) {ws told : List (List Nat)} {draw : Nat} (hl : ws.length ≤ 10) (hw : ∀ w ∈ ws, w.length ≤ 1000) (hc : ∀ w ∈ ws, ∀ c ∈ w, c < 0x110000) (ht : (tokN ws.length (textK ws draw ws.length)).1 = told)
    (hr : tok (tokN ws.length (textK ws draw ws.length)).2 = ([], [])) (hto : ∀ x ∈ told, OkS x) (hdr : draw < 2 ^ 100) (q : Q (.lst (strV told)) σ) : CallV C d (.raw (.ref A__law_read)) [.lst (strV ws), .int draw] σ Q X := by
  refine CallV.le (d := 20) (CallV.pure (CallV.of ?_)) hd
  refine cv_fnC' (d := 19) B.ok2 B.f__law_read bd__law_read ck__law_read rfl rfl rfl ?_
  walk_at "start"
  walk_at "go"
  refine st_forL ?_
  walk_at "go"
  refine ⟨_, items_rng0 _ (by simp [strV]; lia), fun k ρ' σ' => σ' = σ ∧ Has ρ' [("text", .val (.str (textK ws draw k))), ("words", .val (.lst (strV ws))), ("draw", .val (.int draw)), ("lexer", .emp), ("left", .emp)],
    ⟨rfl, (by show Has _ [("text", .val (.str [])), ("words", .val (.lst (strV ws))), ("draw", .val (.int draw)), ("lexer", .emp), ("left", .emp)]; walk_at "has")⟩, ?_, ?_⟩
  · rintro k x ρ' σ' hx ⟨rfl, hhas⟩
    have hk : k < ws.length := by
      rcases Nat.lt_or_ge k ws.length with h | h
      · exact h
      · rw [List.getElem?_eq_none (by simpa [strV] using h)] at hx; cases hx
    have hx' : x = .int ((k : Nat) : Int) := by
      rw [List.getElem?_map, List.getElem?_range (by simpa [strV] using hk)] at hx; exact (Option.some.inj hx).symm
    subst hx'
    refine AsP.sub ?_ hhas
    obtain ⟨p0, p1, p2⟩ := pow8 (show k ≤ 10 by lia)
    have hg4 : draw / 8 ^ k / 2 % 4 < 4 := Nat.mod_lt _ (by decide)
    have hgl := gap_le draw k
    have hsl : (strV ws).length = ws.length := List.length_map _
    have hwl := getD_le hw k
    have htl := text_le hw draw k
    have htl2 : (1000 + 4) * k ≤ 10040 := Nat.mul_le_mul_left 1004 (show k ≤ 10 by lia)
    walk_at "go"
    · refine gn_lst (.fr _) (x := .str (gapOf draw k)) ((congrArg (fun l : List V => l[draw / 8 ^ k / 2 % 4]?) (?_ : _ = strV gapT)).trans (strV_get hg4)) (by decide) ?_
      · kernel_rfl
      walk_at "go"
      · refine ite_beq (fun h1 => ?_) (fun h1 => ?_)
        · walk_at "go"
          refine gn_lst (.fr _) (strV_get hk) (by simp [strV]; lia) ?_
          walk_at "go"
          · refine ite_beq (fun hg => ?_) (fun hg => ?_)
            · walk_at "go"
              · refine ite_beq (fun h2 => ?_) (fun h2 => ?_)
                · rw [hsl] at h2
                  walk_at "go"
                  · refine ⟨rfl, ?_⟩
                    have e : pieceOf ws draw k = ([34] ++ ws.getD k [] ++ []) ++ gapOf draw k := by unfold pieceOf; rw [if_pos h1, if_pos ⟨hg, h2⟩]
                    show Has _ [("text", .val (.str (textK ws draw k ++ pieceOf ws draw k))), ("words", .val (.lst (strV ws))), ("draw", .val (.int draw)), ("lexer", .emp), ("left", .emp)]
                    rw [e]; walk_at "has"
                  all_goals ((try simp only [List.length_append, List.length_cons, List.length_nil]); lia)
                · rw [hsl] at h2
                  walk_at "go"
                  · refine ⟨rfl, ?_⟩
                    have e : pieceOf ws draw k = ([34] ++ ws.getD k [] ++ [34]) ++ gapOf draw k := by unfold pieceOf; rw [if_pos h1, if_neg (fun h => h2 h.2)]
                    show Has _ [("text", .val (.str (textK ws draw k ++ pieceOf ws draw k))), ("words", .val (.lst (strV ws))), ("draw", .val (.int draw)), ("lexer", .emp), ("left", .emp)]
                    rw [e]; walk_at "has"
                  all_goals ((try simp only [List.length_append, List.length_cons, List.length_nil]); lia)
              · rw [hsl]; lia
            · walk_at "go"
              · refine ⟨rfl, ?_⟩
                have e : pieceOf ws draw k = ([34] ++ ws.getD k [] ++ [34]) ++ gapOf draw k := by unfold pieceOf; rw [if_pos h1, if_neg (fun h => hg h.1)]
                show Has _ [("text", .val (.str (textK ws draw k ++ pieceOf ws draw k))), ("words", .val (.lst (strV ws))), ("draw", .val (.int draw)), ("lexer", .emp), ("left", .emp)]
                rw [e]; walk_at "has"
              all_goals ((try simp only [List.length_append, List.length_cons, List.length_nil]); lia)
          · simp only [List.length_cons, List.length_nil]; lia
        · walk_at "go"
          refine gn_lst (.fr _) (strV_get hk) (by simp [strV]; lia) ?_
          walk_at "go"
          · refine ite_beq (fun hg => ?_) (fun hg => ?_)
            · walk_at "go"
              · refine ite_dec (fun h2 => ?_) (fun h2 => ?_)
                · rw [hsl] at h2
                  walk_at "go"
                  · refine ⟨rfl, ?_⟩
                    have e : pieceOf ws draw k = ws.getD k [] ++ [32] := by unfold pieceOf; rw [if_neg h1, if_pos ⟨hg, h2⟩]
                    show Has _ [("text", .val (.str (textK ws draw k ++ pieceOf ws draw k))), ("words", .val (.lst (strV ws))), ("draw", .val (.int draw)), ("lexer", .emp), ("left", .emp)]
                    rw [e]; walk_at "has"
                  all_goals ((try simp only [List.length_append, List.length_cons, List.length_nil]); lia)
                · rw [hsl] at h2
                  walk_at "go"
                  · refine ⟨rfl, ?_⟩
                    have e : pieceOf ws draw k = ws.getD k [] ++ gapOf draw k := by unfold pieceOf; rw [if_neg h1, if_neg (fun h => h2 h.2)]
                    show Has _ [("text", .val (.str (textK ws draw k ++ pieceOf ws draw k))), ("words", .val (.lst (strV ws))), ("draw", .val (.int draw)), ("lexer", .emp), ("left", .emp)]
                    rw [e]; walk_at "has"
                  all_goals ((try simp only [List.length_append, List.length_cons, List.length_nil]); lia)
              · rw [hsl]; lia
            · walk_at "go"
              · refine ⟨rfl, ?_⟩
                have e : pieceOf ws draw k = ws.getD k [] ++ gapOf draw k := by unfold pieceOf; rw [if_neg h1, if_neg (fun h => hg h.1)]
                show Has _ [("text", .val (.str (textK ws draw k ++ pieceOf ws draw k))), ("words", .val (.lst (strV ws))), ("draw", .val (.int draw)), ("lexer", .emp), ("left", .emp)]
                rw [e]; walk_at "has"
              all_goals ((try simp only [List.length_append, List.length_cons, List.length_nil]); lia)
      all_goals assumption
    all_goals assumption
  · rintro ρ' σ' ⟨rfl, hhas⟩
    rw [List.length_map, List.length_range, show (strV ws).length = ws.length from List.length_map _] at hhas
    have htl := text_le hw draw ws.length
    have htl2 : (1000 + 4) * ws.length ≤ 10040 := Nat.mul_le_mul_left 1004 hl
    have hok : OkL (textK ws draw ws.length) := ⟨by lia, text_ok hc draw _⟩
    generalize textK ws draw ws.length = text at *
    have htl0 : told.length = ws.length := by rw [← ht]; exact tokN_len text ws.length
    refine cont_next (ExP.has ?_ hhas)
    walk_at "go"
    refine bi_list_strO (by lia) fun lf hlf => ?_
    walk_at "go"
    refine ev_lambda B.ok3 (n := N__law_read) (cap := ?_) (by rw [B.nest]; simp [nestL]) (by exact List.mem_cons_self) rfl ?_ rfl rfl fun st hst => ?_
    rotate_left; exact CapL.nil _
    obtain ⟨nsl, hst⟩ := upd_none hst
    walk_at "upd"
    refine cont_next ?_
    refine ex_share (x := "left") (v := ?_) (r' := ?_) ?_ ?_ ?_ fun cl hcl => ?_; walk_at "share"
    obtain ⟨ncs, hcl⟩ := upd_none hcl
    obtain ⟨ncl, hcl⟩ := upd_none hcl
    walk_at "go"
    refine ev_lambda B.ok3 (n := N__law_read) (cap := ?_) (by rw [B.nest]; simp [nestL]) (by exact List.mem_cons_of_mem _ List.mem_cons_self) rfl ?_ rfl rfl fun rd hrd => ?_
    rotate_left; walk_at "capl"
    obtain ⟨nrc, hrd⟩ := upd_none hrd
    obtain ⟨nrs, hrd⟩ := upd_none hrd
    obtain ⟨nrl, hrd⟩ := upd_none hrd
    refine as_attrF ?_
    walk_at "go"
    refine ⟨st, R_lam0, [], rfl, upd_of (Ne.symm nrs) (upd_of (Ne.symm ncs) (upd_self ..)), fun dst hdst hds => ?_⟩
    obtain ⟨ndr, hdst⟩ := upd_none hdst
    obtain ⟨ndc, hdst⟩ := upd_none hdst
    obtain ⟨_, hdst⟩ := upd_none hdst
    obtain ⟨ndl, hdst⟩ := upd_none hdst
    refine cont_next ?_
    generalize hS : upd (upd (upd (upd (upd (upd σ' lf _) st _) cl _) rd _) dst _) st _ = S
    have s_st : S st = some (.func R_lam0 [] (some dst)) := by rw [← hS]; exact upd_self ..
    have s_dst : S dst = some (.ns [("read", .loc rd)]) := by rw [← hS]; exact upd_of hds (upd_self ..)
    have s_rd : S rd = some (.func R_lam1 [("left", cl)] none) := by rw [← hS]; exact upd_of nrs (upd_of (Ne.symm ndr) (upd_self ..))
    have s_cl : S cl = some (.cell (some (.loc lf))) := by rw [← hS]; exact upd_of ncs (upd_of (Ne.symm ndc) (upd_of (Ne.symm nrc) (upd_self ..)))
    have s_lf : S lf = some (.list (chrs text)) := by rw [← hS]; exact upd_of (Ne.symm nsl) (upd_of (Ne.symm ndl) (upd_of (Ne.symm nrl) (upd_of (Ne.symm ncl) (upd_of (Ne.symm nsl) (upd_self ..)))))
    have sub : Sub σ' S := by rw [← hS]; exact ((((((Sub.refl.upd hlf).upd hst).upd hcl).upd hrd).upd hdst).upd hst)
    clear hS
    walk_at "go"
    have ecls := fr_cls C.w.params
    simp only [Prod.mk.injEq] at ecls
    refine ⟨keep_cls B.fr ecls.2.2.2.1, CallV.le (d := 7) (cv_lexer B fun x dx pb σ2 hx hdx hpb hne h1 h2 h3 sub2 => ?_) (by decide)⟩
    have hlex : Lex ⟨x, dx, st, dst, rd, cl, lf, pb⟩ σ2 text 1 [] := ⟨h1, h2, sub2 _ _ s_st, sub2 _ _ s_dst, sub2 _ _ s_rd, sub2 _ _ s_cl, sub2 _ _ s_lf, h3, fun (e : lf = pb) => by rw [← e, s_lf] at hpb; cases hpb⟩
    have sub3 : Sub σ' σ2 := fun a o h => sub2 a o (sub a o h)
    have hno : σ' lf = none ∧ σ' dx = none ∧ σ' pb = none := ⟨hlf, sub.none hdx, sub.none hpb⟩
    generalize hA : (⟨x, dx, st, dst, rd, cl, lf, pb⟩ : LexA) = A at hlex
    have hAx : x = A.x := by rw [← hA]
    have hAcl : cl = A.cl := by rw [← hA]
    have hAlf : lf = A.lf := by rw [← hA]
    have hAdx : dx = A.dx := by rw [← hA]
    have hApb : pb = A.pb := by rw [← hA]
    rw [hAlf, hAdx, hApb] at hno
    rw [hAx, hAcl]
    clear hA
    walk_at "go"
    refine st_assign_comp (caps := [("lexer", .val (.loc A.x))]) (compOk (by kernel_rfl) (by walk_at "has") (by rfl)) (by kernel_rfl!) ?_
    walk_at "go"
    refine ⟨strV ws, .lst _, fun r acc σ₃ => ∃ k n', r = (strV ws).drop k ∧ k ≤ ws.length ∧ acc = strV (tokN k text).1 ∧ σ₃ = lexU A σ2 (tokN k text).2 n' [] ∧ n' + nlOf (tokN k text).2 = 1 + nlOf text,
      ⟨0, 1, rfl, Nat.zero_le _, rfl, hlex.same.symm, rfl⟩, ?_, ?_⟩
    · rintro x r acc σ₃ D ⟨k, n', e, hk, rfl, rfl, hn⟩ hD
      have hlt : k < ws.length := by
        rcases Nat.lt_or_ge k ws.length with h | h
        · exact h
        · rw [List.drop_eq_nil_of_le (by simpa [strV] using h)] at e; cases e
      have er : r = (strV ws).drop (k + 1) := by rw [← List.tail_drop, ← e]; rfl
      refine ⟨[("word", .val x)], tgt_name (by kernel_rfl), by intro p hp q hq; simp only [List.mem_cons, List.mem_nil_iff, or_false] at hp hq; subst hp hq; exact (by decide : ("lexer" : Str) ≠ "word"), ifs_nil' ?_⟩
      rw [if_pos rfl]
      simp only [List.cons_append, List.nil_append]
      have hl1 : Lex A (lexU A σ2 (tokN k text).2 n' []) (tokN k text).2 n' [] := hlex.set
      have hl2 := hl1.mono (Sub.refl.upd (o := some (.list (strV (tokN k text).1))) hD)
      refine call_tok B hl2 (by decide) (fun Q q => ev_name (by walk_at "mem") q) (cs_get_token B hl2 (hok.suf (tokN_suf text k)) fun n'' hn'' => ?_)
      refine ⟨by simp [strV, tokN_len]; lia, lexU A σ2 (tokN (k + 1) text).2 n'' [], ?_, (by have h0 := lexU_none (l' := (tokN (k + 1) text).2) (n' := n'') (p' := []) hl1 hD; rw [hlex.twice] at h0; exact h0), k + 1, n'', er, hlt, by simp [strV, tokN], rfl, by rw [← hn, ← hn'']; rfl⟩
      rw [lexU_acc hl1 hD, hlex.twice]; rfl
    · rintro acc σ₃ ⟨k, n', e, hk, rfl, rfl, hn⟩
      have hkl : k = ws.length := by
        have h1 := congrArg List.length e
        simp [strV] at h1; lia
      subst hkl
      rw [ht] at *
      have hokr0 := hok.suf (tokN_suf text ws.length)
      generalize (tokN ws.length text).2 = rest at *
      have hokr : OkL rest := hokr0
      walk_at "go"
      have hl1 : Lex A (lexU A σ2 rest n' []) rest n' [] := hlex.set
      refine call_tok B hl1 (by decide) (fun Q q => ev_name (by walk_at "mem") q) (cs_get_token B hl1 hokr fun n2 hn2 => ?_)
      rw [hr] at hn2 ⊢
      rw [hlex.twice]
      have hl2 : Lex A (lexU A σ2 [] n2 []) [] n2 [] := hlex.set
      have hc2 := hl2.hcl
      walk_at "go"
      refine ev_list0 ?_
      walk_at "go"
      rw [count_nl]
      have hn2e : (n2 : Int) = 1 + ((nlOf text : Nat) : Int) := by
        have h0 : nlOf ([] : List Nat) = 0 := rfl
        have h1 : n2 + nlOf ([] : List Nat) = n' + nlOf rest := hn2
        omega
      rw [← hn2e]
      refine ne_false2 (p := .tuple [.str ⟨([] : List Nat).toArray⟩, .list [], .int n2]) (.tup (.cons (.str []) (.cons (.own hl2.hlf .nil) (.cons (.int _) .nil)))) (.tup (.cons (.str []) (.cons (.lst .nil) (.cons (.int _) .nil)))) (by kernel_rfl) ?_
      walk_at "go"
      refine st_forL ?_
      walk_at "go"
      refine bin_catE (zs := strV ([] :: told)) (.fr _) (.fr _) (by simp [strV]; lia) rfl ?_
      refine ⟨_, .lst _, fun k ρ' σ' => σ' = lexU A σ2 [] n2 (([] :: told).take k) ∧ Has ρ' [("told", .val (.lst (strV told))), ("lexer", .val (.loc A.x))], ⟨rfl, by walk_at "has"⟩, ?_, ?_⟩
      · rintro k x ρ' σ' hx ⟨rfl, hhas⟩
        obtain ⟨w, hw', rfl⟩ : ∃ w, ([] :: told)[k]? = some w ∧ V.str w = x := by
          rw [List.getElem?_map] at hx
          cases e : ([] :: told)[k]? with
          | none => (first | obtain rfl := Option.some.inj (e.symm.trans hx) | exact absurd (e.symm.trans hx) (Option.some_ne_none _) | exact absurd (e.symm.trans hx).symm (Option.some_ne_none _) | exact (datN (e.symm.trans hx) rfl).elim | (rw [e] at hx; cases hx))
          | some w => rw [e] at hx; exact ⟨w, rfl, Option.some.inj hx⟩
        have hlt := (List.getElem?_eq_some_iff.mp hw').1
        have hlk : Lex A (lexU A σ2 [] n2 (([] :: told).take k)) [] n2 (([] :: told).take k) := hlex.set
        refine AsP.sub ?_ hhas
        walk_at "go"
        refine call_push B hlk (by simp at hlt ⊢; lia) (by decide) (fun Q q => ev_name (by walk_at "mem") q) (fun Q q => ev_name (by walk_at "mem") q) ?_
        walk_at "go"
        refine ⟨?_, by walk_at "has"⟩
        rw [hlex.twice, List.take_succ_eq_append_getElem hlt, (List.getElem?_eq_some_iff.mp hw').2]
      · rintro ρ' σ' ⟨rfl, hhas⟩
        rw [show (List.map V.str ([] :: told)).length = ([] :: told).length from List.length_map _, List.take_length] at *
        refine cont_next (ExP.has ?_ hhas)
        walk_at "go"
        refine ev_comp (caps := [("lexer", .val (.loc A.x))]) (compOk (by kernel_rfl) (by walk_at "has") (by rfl)) ?_
        walk_at "go"
        refine bin_catE (zs := strV ([] :: told)) (.fr _) (.fr _) (by simp [strV]; lia) rfl ?_
        refine ⟨_, .lst _, fun r acc σ₃ => ∃ k, r = (strV ([] :: told)).drop k ∧ k ≤ ([] :: told).length ∧ acc = strV (([] :: told).take k) ∧ σ₃ = lexU A σ2 [] n2 (([] :: told).drop k), ⟨0, rfl, Nat.zero_le _, rfl, rfl⟩, ?_, ?_⟩
        · rintro x r acc σ₃ D ⟨k, e, hk, rfl, rfl⟩ hD
          have hlt : k < ([] :: told).length := by
            rcases Nat.lt_or_ge k ([] :: told).length with h | h
            · exact h
            · rw [List.drop_eq_nil_of_le (by rw [show (strV ([] :: told)).length = ([] :: told).length from List.length_map _]; exact h)] at e; cases e
          have er : r = (strV ([] :: told)).drop (k + 1) := by rw [← List.tail_drop, ← e]; rfl
          refine ⟨[("word", .val x)], tgt_name (by kernel_rfl), by intro p hp q hq; simp only [List.mem_cons, List.mem_nil_iff, or_false] at hp hq; subst hp hq; exact (by decide : ("lexer" : Str) ≠ "word"), ifs_nil' ?_⟩
          rw [if_pos rfl]
          simp only [List.cons_append, List.nil_append]
          have hl3 : Lex A (lexU A σ2 [] n2 (([] :: told).drop k)) [] n2 (([] :: told).drop k) := hlex.set
          have hl4 := hl3.mono (Sub.refl.upd (o := some (.list (strV (([] :: told).take k)))) hD)
          have hl5 : ∀ p, ([] :: told).drop k = p → Lex A (upd (lexU A σ2 [] n2 (([] :: told).drop k)) D (some (.list (strV (([] :: told).take k))))) [] n2 p := by intro p e; subst e; exact hl4
          have hl4 := hl5 _ (List.drop_eq_getElem_cons hlt)
          have hdl : (List.drop (k + 1) ([] :: told)).length ≤ 11 := by simp; lia
          refine call_tok B hl4 (by decide) (fun Q q => ev_name (by walk_at "mem") q) (cs_get_token_pb B hl4 (by lia) ?_)
          refine ⟨by simp [strV]; lia, lexU A σ2 [] n2 (([] :: told).drop (k + 1)), ?_, (by have h0 := lexU_none (l' := []) (n' := n2) (p' := ([] :: told).drop (k + 1)) hl3 hD; rw [hlex.twice] at h0; exact h0), k + 1, er, hlt, ?_, rfl⟩
          · rw [lexU_acc hl3 hD, hlex.twice]
          · rw [List.take_succ_eq_append_getElem hlt, show strV (([] :: told).take k ++ [([] :: told)[k]]) = strV (([] :: told).take k) ++ strV [([] :: told)[k]] from List.map_append]; rfl
        · rintro acc σ₃ ⟨k, e, hk, rfl, rfl⟩
          have hkl : k = ([] :: told).length := by
            have h1 := congrArg List.length e
            simp [strV] at h1 hk ⊢; lia
          subst hkl
          rw [List.take_length, List.drop_length]
          walk_at "go"
          refine bin_catE (zs := strV ([] :: told)) (.fr _) (.fr _) (by simp [strV]; lia) rfl ?_
          have hokA : ∀ x ∈ ([] :: told), OkS x := by
            intro x hx
            rcases List.mem_cons.mp hx with rfl | hx
            · show PySem.PyData.strOk ⟨([] : List Nat).toArray⟩ = true; kernel_rfl
            · exact hto x hx
          refine eq_true rfl (.lst (dats_strs ([] :: told))) (shaped_strs ([] :: told) hokA) ?_
          walk_at "go"
          refine ⟨fun a o h => ?_, _, .same _ (by intro a e; cases e), q⟩
          have na : ∀ b, σ' b = none → a ≠ b := fun b hb e => by rw [e, hb] at h; cases h
          exact upd_of (na _ hno.2.2) (upd_of (na _ hno.2.1) (upd_of (na _ hno.1) (sub3 a o h)))
  · simp [strV]; lia
end
/-! reading, plainly -/
noncomputable def Pl (c : Nat) : Prop := c ≠ 92 ∧ c ≠ 34 ∧ ws c = false
inductive W : List Nat → List Nat → Prop
  | nil : W [] []
  | chr {c : Nat} {r r' : List Nat} (h : Pl c) (t : W r r') : W (c :: r) (c :: r')
  | esc (c : Nat) {r r' : List Nat} (t : W r r') : W (92 :: c :: r) (c :: r')
theorem tokQ_word {w u : List Nat} (h : W w u) : ∀ (acc r : List Nat), tokQ acc (w ++ 34 :: r) = (acc ++ u, r) := by
  induction h with
  | nil => intro acc r; rw [List.nil_append, tokQ_cons, if_pos rfl, List.append_nil]
  | chr h t ih => intro acc r; rw [List.cons_append, tokQ_cons, if_neg h.2.1, if_neg h.1, ih, List.append_assoc]; rfl
  | esc c t ih => intro acc r; rw [List.cons_append, tokQ_cons, if_neg (by decide), if_pos rfl]; show tokQ (acc ++ [c]) (_ ++ 34 :: r) = _; rw [ih, List.append_assoc]; rfl
theorem tokQ_open {w u : List Nat} (h : W w u) : ∀ (acc : List Nat), tokQ acc w = (acc ++ u, []) := by
  induction h with
  | nil => intro acc; simp [tokQ]
  | chr h t ih => intro acc; rw [tokQ_cons, if_neg h.2.1, if_neg h.1, ih, List.append_assoc]; rfl
  | @esc c r r' t ih => intro acc; rw [tokQ_cons, if_neg (by decide), if_pos rfl]; show tokQ (acc ++ [c]) r = _; rw [ih, List.append_assoc]; rfl
theorem tokB_word {w u : List Nat} (h : W w u) : ∀ (acc : List Nat) (s : Nat) (r : List Nat), ws s = true → tokB acc (w ++ s :: r) = (acc ++ u, r) := by
  induction h with
  | nil => intro acc s r hs; rw [List.nil_append, tokB_cons, if_pos hs, List.append_nil]
  | chr h t ih => intro acc s r hs; rw [List.cons_append, tokB_cons, if_neg (by rw [h.2.2]; decide), if_neg h.1, ih _ _ _ hs, List.append_assoc]; rfl
  | esc c t ih => intro acc s r hs; rw [List.cons_append, tokB_cons, if_neg (by rw [ws92]; decide), if_pos rfl]; show tokB (acc ++ [c]) (_ ++ s :: r) = _; rw [ih _ _ _ hs, List.append_assoc]; rfl
theorem tokB_open {w u : List Nat} (h : W w u) : ∀ (acc : List Nat), tokB acc w = (acc ++ u, []) := by
  induction h with
  | nil => intro acc; simp [tokB]
  | chr h t ih => intro acc; rw [tokB_cons, if_neg (by rw [h.2.2]; decide), if_neg h.1, ih, List.append_assoc]; rfl
  | @esc c r r' t ih => intro acc; rw [tokB_cons, if_neg (by rw [ws92]; decide), if_pos rfl]; show tokB (acc ++ [c]) r = _; rw [ih, List.append_assoc]; rfl
theorem tok_bare {w u : List Nat} (h : W w u) (hw : w ≠ []) (t : List Nat) : tok (w ++ t) = tokB [] (w ++ t) := by
  cases h with
  | nil => exact absurd rfl hw
  | @chr c r r' h t' => show tok (c :: (r ++ t)) = tokB [] (c :: (r ++ t)); rw [tokB_cons, tok]; simp [h.1, h.2.1, h.2.2]
  | @esc c r r' t' => show tok (92 :: (c :: r ++ t)) = tokB [] (92 :: (c :: r ++ t)); rw [tokB_cons, tok]; simp [ws92]
theorem tok_white : ∀ (g t : List Nat), (∀ c ∈ g, ws c = true) → tok (g ++ t) = tok t
  | [], t, _ => rfl
  | c :: g, t, h => by
    rw [List.cons_append, tok, if_pos (h c List.mem_cons_self)]
    exact tok_white g t fun x hx => h x (List.mem_cons_of_mem _ hx)
theorem tok_quote (r : List Nat) : tok (34 :: r) = tokQ [] r := by
  rw [tok, if_neg (by rw [show ws 34 = false by decide +kernel]; decide), if_pos rfl]
theorem gap_white (draw k : Nat) : ∀ c ∈ gapOf draw k, ws c = true := by
  unfold gapOf
  have h : draw / 8 ^ k / 2 % 4 < 4 := Nat.mod_lt _ (by decide)
  generalize draw / 8 ^ k / 2 % 4 = i at h
  have : i = 0 ∨ i = 1 ∨ i = 2 ∨ i = 3 := by lia
  rcases this with rfl | rfl | rfl | rfl <;> decide +kernel
theorem ws32 : ws 32 = true := by decide +kernel
/-- one piece of the file is read -/
theorem tok_piece {wl : List (List Nat)} {draw k : Nat} {u T : List Nat} (h : W (wl.getD k []) u) (hw : wl.getD k [] ≠ []) (hk : k < wl.length) (hT : k = wl.length - 1 → T = []) :
    ∃ g, (∀ c ∈ g, ws c = true) ∧ tok (pieceOf wl draw k ++ T) = (u, g ++ T) := by
  have hg := gap_white draw k
  unfold pieceOf
  split
  · by_cases hl : gapOf draw k = [] ∧ k = wl.length - 1
    · rw [if_pos hl, hT hl.2, hl.1]
      refine ⟨[], by simp, ?_⟩
      simp only [List.append_nil]
      rw [List.singleton_append, tok_quote, tokQ_open h]; rfl
    · rw [if_neg hl]
      refine ⟨gapOf draw k, hg, ?_⟩
      rw [List.append_assoc, List.append_assoc, List.append_assoc, List.singleton_append, tok_quote, List.singleton_append, tokQ_word h]; rfl
  · split
    · refine ⟨[], by simp, ?_⟩
      rw [List.append_assoc, tok_bare h hw, List.singleton_append, tokB_word h _ _ _ ws32]; rfl
    · rename_i hl
      rw [List.append_assoc, tok_bare h hw]
      cases hgc : gapOf draw k with
      | nil =>
        have : k = wl.length - 1 := by
          have : ¬ k < wl.length - 1 := fun q => hl ⟨hgc, q⟩
          omega
        rw [hT this]
        refine ⟨[], by simp, ?_⟩
        simp only [List.append_nil]
        rw [tokB_open h]; rfl
      | cons s g =>
        rw [hgc] at hg
        refine ⟨g, fun c hc => hg c (List.mem_cons_of_mem _ hc), ?_⟩
        rw [List.cons_append, tokB_word h _ _ _ (hg s List.mem_cons_self)]; rfl
noncomputable def tailK (wl : List (List Nat)) (draw : Nat) : Nat → Nat → List Nat
  | _, 0 => []
  | k, m + 1 => pieceOf wl draw k ++ tailK wl draw (k + 1) m
theorem text_tail (wl : List (List Nat)) (draw : Nat) : ∀ m k, textK wl draw k ++ tailK wl draw k m = textK wl draw (k + m)
  | 0, k => by simp [tailK]
  | m + 1, k => by
    rw [tailK, ← List.append_assoc]
    show textK wl draw (k + 1) ++ _ = _
    rw [text_tail wl draw m (k + 1)]; congr 1; lia
theorem read_text {wl ul : List (List Nat)} (draw : Nat) (hl : ul.length = wl.length) (h : ∀ k, k < wl.length → W (wl.getD k []) (ul.getD k [])) (hw : ∀ k, k < wl.length → wl.getD k [] ≠ []) :
    ∀ k, k ≤ wl.length → ∃ g, (∀ c ∈ g, ws c = true) ∧ tokN k (textK wl draw wl.length) = (ul.take k, g ++ tailK wl draw k (wl.length - k))
  | 0, _ => ⟨[], by simp, by
      have := text_tail wl draw wl.length 0
      rw [Nat.zero_add] at this
      rw [← this]; rfl⟩
  | k + 1, hk => by
    obtain ⟨g, hg, e⟩ := read_text draw hl h hw k (by lia)
    have e2 : wl.length - k = (wl.length - (k + 1)) + 1 := by lia
    obtain ⟨g', hg', e'⟩ := tok_piece (draw := draw) (T := tailK wl draw (k + 1) (wl.length - (k + 1))) (h k (by lia)) (hw k (by lia)) (by lia) (fun q => by rw [show wl.length - (k + 1) = 0 by lia]; rfl)
    refine ⟨g', hg', ?_⟩
    rw [tokN, e]
    show (ul.take k ++ [(tok (g ++ tailK wl draw k (wl.length - k))).1], (tok (g ++ tailK wl draw k (wl.length - k))).2) = _
    rw [tok_white g _ hg, e2, tailK, e']
    have hlt : k < ul.length := by lia
    rw [List.take_succ_eq_append_getElem hlt, List.getD_eq_getElem?_getD, List.getElem?_eq_getElem hlt]; rfl
theorem read_all {wl ul : List (List Nat)} (draw : Nat) (hl : ul.length = wl.length) (h : ∀ k, k < wl.length → W (wl.getD k []) (ul.getD k [])) (hw : ∀ k, k < wl.length → wl.getD k [] ≠ []) :
    (tokN wl.length (textK wl draw wl.length)).1 = ul ∧ tok (tokN wl.length (textK wl draw wl.length)).2 = ([], []) := by
  obtain ⟨g, hg, e⟩ := read_text draw hl h hw wl.length (Nat.le_refl _)
  rw [e, Nat.sub_self]
  refine ⟨by rw [← hl]; exact List.take_length, ?_⟩
  show tok (g ++ []) = _
  rw [tok_white g [] hg]; rfl
/-! the groups and their words, plainly -/
noncomputable def plB (c : Nat) : Bool := c != 92 && c != 34 && !ws c && decide (c < 0x110000)
theorem plB_pl {c : Nat} (h : plB c = true) : Pl c ∧ c < 0x110000 := by
  unfold plB at h
  simp only [Bool.and_eq_true, bne_iff_ne, ne_eq, Bool.not_eq_true', decide_eq_true_eq] at h
  exact ⟨⟨h.1.1.1, h.1.1.2, h.1.2⟩, h.2⟩
structure Grp.Fine (g : Grp) : Prop extends g.Ok where
  hid : ∀ k, k < 2 → ∃ c, g.ns.getD k [] = [c] ∧ plB c = true ∧ b1 c = true
  enn : ∀ i, i < 4 → g.es.getD i [] ≠ [] ∧ ∀ c ∈ g.es.getD i [], plB c = true
  eprep : ∀ i, i < 3 → prepW (g.es.getD i []) = g.es.getD (i + 1) []
theorem hid_all : hidL.all (fun c => plB c && b1 c) = true := by decide +kernel
noncomputable def endOk (es : List (List Nat)) : Bool :=
  es.length == 4 && es.all (fun e => decide (e.length ≤ 3) && !e.isEmpty && e.all plB) && prepW (es.getD 0 []) == es.getD 1 [] && prepW (es.getD 1 []) == es.getD 2 [] && prepW (es.getD 2 []) == es.getD 3 []
theorem end_all : endT.all endOk = true := by decide +kernel
theorem fine_of (n : Nat) : (grpOf n).Fine := by
  have hE : endOk (endsOf n) = true := by
    have hm : n / 1119744 % 8 < endT.length := Nat.mod_lt _ (by decide)
    unfold endsOf
    rw [List.getD_eq_getElem?_getD, List.getElem?_eq_getElem hm]
    exact List.all_eq_true.mp end_all _ (List.getElem_mem hm)
  unfold endOk at hE
  simp only [Bool.and_eq_true, beq_iff_eq, List.all_eq_true, decide_eq_true_eq, Bool.not_eq_true'] at hE
  obtain ⟨⟨⟨⟨e4, eall⟩, q0⟩, q1⟩, q2⟩ := hE
  have hH : ∀ k, plB (hidL.getD (n / 1536 / 27 ^ k % 27) 0) = true ∧ b1 (hidL.getD (n / 1536 / 27 ^ k % 27) 0) = true := fun k => by
    have hm : n / 1536 / 27 ^ k % 27 < hidL.length := Nat.mod_lt _ (by decide)
    rw [List.getD_eq_getElem?_getD, List.getElem?_eq_getElem hm]
    have := List.all_eq_true.mp hid_all _ (List.getElem_mem hm)
    rw [Bool.and_eq_true] at this; exact this
  have hP : ∀ p ∈ partsOf n, p < 8 := fun p hp => by
    obtain ⟨k, _, rfl⟩ := List.mem_map.mp hp
    exact Nat.mod_lt _ (by decide)
  refine { p1 := ?_, p3 := ?_, p8 := hP, n2 := rfl, n1 := ?_, e4 := e4, e3 := fun e he => (eall e he).1.1, hid := ?_, enn := ?_, eprep := ?_ }
  · simp [grpOf, partsOf]
  · simp [grpOf, partsOf]; lia
  · intro x hx
    obtain ⟨k, _, rfl⟩ := List.mem_map.mp hx
    simp
  · intro k hk
    have : k = 0 ∨ k = 1 := by lia
    rcases this with rfl | rfl
    · exact ⟨_, rfl, hH 0⟩
    · exact ⟨_, rfl, hH 1⟩
  · intro i hi
    have e : (grpOf n).es.getD i [] = (endsOf n)[i]'(by rw [e4]; exact hi) := by
      show (endsOf n).getD i [] = _
      rw [List.getD_eq_getElem?_getD, List.getElem?_eq_getElem (by rw [e4]; exact hi)]; rfl
    rw [e]
    have := eall _ (List.getElem_mem (show i < (endsOf n).length by rw [e4]; exact hi))
    exact ⟨fun h => by rw [h] at this; simp at this, this.2⟩
  · intro i hi
    have : i = 0 ∨ i = 1 ∨ i = 2 := by lia
    rcases this with rfl | rfl | rfl
    · exact q0
    · exact q1
    · exact q2
theorem bs_succ (n : Nat) : bs (n + 1) = 92 :: bs n := rfl
theorem W_bs : ∀ (n : Nat) {c : Nat} {r r' : List Nat}, Pl c → W r r' → W (bs n ++ c :: r) (bs (n / 2) ++ c :: r')
  | 0, c, r, r', hc, h => .chr hc h
  | 1, c, r, r', hc, h => .esc c h
  | n + 2, c, r, r', hc, h => by
    have ih := W_bs n hc h
    rw [show (n + 2) / 2 = n / 2 + 1 by lia, bs_succ, bs_succ, bs_succ]
    exact .esc 92 ih
theorem W_plain : ∀ {e : List Nat}, (∀ c ∈ e, Pl c) → W e e
  | [], _ => .nil
  | c :: e, h => .chr (h c List.mem_cons_self) (W_plain fun x hx => h x (List.mem_cons_of_mem _ hx))
noncomputable def WP (t t' : List Nat) : Prop := ∃ c s s', t = c :: s ∧ t' = c :: s' ∧ Pl c ∧ W s s'
theorem WP.bs {t t' : List Nat} (h : WP t t') (n : Nat) : W (bs n ++ t) (bs (n / 2) ++ t') := by
  obtain ⟨c, s, s', rfl, rfl, hc, hs⟩ := h
  exact W_bs n hc hs
theorem half (p r : Nat) : p / 2 ^ (r + 1) = p / 2 ^ r / 2 := by rw [Nat.pow_succ, Nat.div_div_eq_div_mul]
theorem W_runs {g : Grp} (G : g.Fine) (r : Nat) : ∀ (k : Nat), k ≤ 2 → ∀ {t t' : List Nat}, WP t t' → W (runsK g r k ++ t) (runsK g (r + 1) k ++ t')
  | 0, _, t, t', h => by
    simp only [runsK]; rw [half]; exact h.bs _
  | k + 1, hk, t, t', h => by
    obtain ⟨c, hc, hp, _⟩ := G.hid k (by lia)
    have := W_runs G r k (by lia) (t := c :: (bs (g.ps.getD (k + 1) 0 / 2 ^ r) ++ t)) (t' := c :: (bs (g.ps.getD (k + 1) 0 / 2 ^ r / 2) ++ t')) ⟨c, _, _, rfl, rfl, (plB_pl hp).1, h.bs _⟩
    simp only [runsK, hc, half]
    simpa [List.append_assoc] using this
theorem Fine.endW {g : Grp} (G : g.Fine) {i : Nat} (hi : i < 4) : WP (g.es.getD i []) (g.es.getD i []) := by
  obtain ⟨h1, h2⟩ := G.enn i hi
  cases he : g.es.getD i [] with
  | nil => exact absurd he h1
  | cons c e =>
    rw [he] at h2
    exact ⟨c, e, e, rfl, rfl, (plB_pl (h2 c List.mem_cons_self)).1, W_plain fun x hx => (plB_pl (h2 x (List.mem_cons_of_mem _ hx))).1⟩
/-- the words of hands -/
noncomputable def Hands (hs : List Nat) : Prop := ∀ c ∈ hs, c = 82 ∨ c = 80
theorem left_half (ps : List Nat) (a r : Nat) (h : a ≤ r) : lawLeft ps a (r + 1) = lawLeft ps a r / 2 := by
  obtain ⟨m, rfl⟩ : ∃ m, r = a + m := ⟨r - a, by lia⟩
  rw [left_eq, Nat.add_assoc, left_eq, Nat.pow_succ, Nat.div_div_eq_div_mul]
theorem idx_le_count : ∀ {hs : List Nat}, Hands hs → hs.contains 80 = true → hs.idxOf 80 ≤ hs.count 82
  | [], _, h => by simp at h
  | c :: hs, H, h => by
    rcases H c List.mem_cons_self with rfl | rfl
    · have ih := idx_le_count (fun x hx => H x (List.mem_cons_of_mem _ hx)) (by simpa using h)
      rw [List.idxOf_cons, show ((82 : Nat) == 80) = false from rfl, cond_false, List.count_cons_self]; lia
    · rw [List.idxOf_cons_self]; exact Nat.zero_le _
theorem due_read {g : Grp} (G : g.Fine) {hs : List Nat} (H : Hands hs) (hl : hs.count 80 < 4) : W (dueW g hs) (dueW g (hs ++ [82])) := by
  have e1 : (hs ++ [82]).count 82 = hs.count 82 + 1 := by rw [List.count_append]; rfl
  have e2 : (hs ++ [82]).count 80 = hs.count 80 := by rw [List.count_append]; rfl
  have e3 : (hs ++ [82]).contains 80 = hs.contains 80 := by simp
  have w := Fine.endW G hl
  unfold dueW
  rw [e1, e2, e3]
  split
  · rename_i hc
    have e4 : (hs ++ [82]).idxOf 80 = hs.idxOf 80 := by rw [List.idxOf_append, if_pos (by simpa using hc)]
    rw [e4, left_half _ _ _ (idx_le_count H hc)]
    exact w.bs _
  · have := G.p3
    exact W_runs G _ _ (by lia) w
theorem prep_app (x y : List Nat) : prepW (x ++ y) = prepW x ++ prepW y := by simp [prepW]
theorem prep92 : prepC 92 = [92] := by decide +kernel
theorem prep_bs : ∀ n, prepW (bs n) = bs n
  | 0 => rfl
  | n + 1 => by
    have ih := prep_bs n
    rw [bs_succ]
    show prepC 92 ++ prepW (bs n) = _
    rw [prep92, ih]; rfl
theorem bs_add (a b : Nat) : bs a ++ bs b = bs (a + b) := List.replicate_append_replicate
theorem prep_runs {g : Grp} (G : g.Fine) (r : Nat) : ∀ k, k ≤ 2 → prepW (runsK g r k) = bs ((List.range (k + 1)).map fun i => g.ps.getD i 0 / 2 ^ r).sum
  | 0, _ => by simp [runsK, prep_bs]
  | k + 1, hk => by
    obtain ⟨c, hc, _, hb⟩ := G.hid k (by lia)
    simp only [runsK]
    rw [prep_app, prep_runs G r k (by lia), prep_app, hc, prep_bs]
    have : prepW [c] = [] := by simp [prepW, prepC, hb]
    rw [this, List.nil_append, bs_add, List.range_succ (n := k + 1), List.map_append, List.sum_append]
    simp
theorem sum_range (l : List Nat) (f : Nat → Nat) : ((List.range l.length).map fun i => f (l.getD i 0)).sum = (l.map f).sum := by
  congr 1
  apply List.ext_getElem?
  intro i
  rw [List.getElem?_map, List.getElem?_map]
  rcases Nat.lt_or_ge i l.length with h | h
  · rw [List.getElem?_range h, List.getElem?_eq_getElem h]
    simp [List.getD_eq_getElem?_getD, h]
  · rw [List.getElem?_eq_none (by simpa using h), List.getElem?_eq_none h]; rfl
theorem idx_count : ∀ {hs : List Nat}, Hands hs → hs.contains 80 = false → (hs ++ [80]).idxOf 80 = hs.count 82 ∧ hs.count 80 = 0
  | [], _, _ => ⟨rfl, rfl⟩
  | c :: hs, H, h => by
    rcases H c List.mem_cons_self with rfl | rfl
    · obtain ⟨h1, h2⟩ := idx_count (fun x hx => H x (List.mem_cons_of_mem _ hx)) (by simpa using h)
      refine ⟨?_, by rw [List.count_cons_of_ne (by decide)]; exact h2⟩
      rw [List.cons_append, List.idxOf_cons, show ((82 : Nat) == 80) = false from rfl, cond_false, List.count_cons_self, h1]
    · simp at h
theorem due_prep {g : Grp} (G : g.Fine) {hs : List Nat} (H : Hands hs) (hl : hs.count 80 < 3) : prepW (dueW g hs) = dueW g (hs ++ [80]) := by
  have e1 : (hs ++ [80]).count 82 = hs.count 82 := by rw [List.count_append]; rfl
  have e2 : (hs ++ [80]).count 80 = hs.count 80 + 1 := by rw [List.count_append]; rfl
  have e3 : (hs ++ [80]).contains 80 = true := by simp
  unfold dueW
  rw [e1, e2, if_pos e3, prep_app, G.eprep _ hl]
  congr 1
  split
  · rename_i hc
    have e4 : (hs ++ [80]).idxOf 80 = hs.idxOf 80 := by rw [List.idxOf_append, if_pos (by simpa using hc)]
    rw [e4, prep_bs]
  · rename_i hc
    have hc : hs.contains 80 = false := by simpa using hc
    have h1 := G.p1
    have h3 := G.p3
    rw [prep_runs G _ _ (by lia), (idx_count H hc).1, Nat.sub_add_cancel h1, show ((List.range g.ps.length).map fun i => g.ps.getD i 0 / 2 ^ hs.count 82).sum = _ from sum_range g.ps fun p => p / 2 ^ hs.count 82]
    have := left_eq g.ps (hs.count 82) 0
    rw [Nat.add_zero, Nat.pow_zero, Nat.div_one] at this
    rw [this]; rfl
theorem bd__law_orders : Binds F__law_orders ["groups", "draws"] := by walk_at "binds"
theorem ck__law_orders : fnC F__law_orders ["groups", "draws"] ["turn"] = true := by decide +kernel
noncomputable def handsK : Nat → List (List Nat)
  | 0 => [[]]
  | k + 1 => (handsK k).map (· ++ [82]) ++ (handsK k).map (· ++ [80])
theorem handsK_facts : ∀ k, ∀ h ∈ handsK k, h.length = k ∧ Hands h
  | 0, h, m => by
    rw [List.mem_singleton.mp m]
    exact ⟨rfl, fun c hc => by cases hc⟩
  | k + 1, h, m => by
    rcases List.mem_append.mp m with m | m
    · obtain ⟨h', m', rfl⟩ := List.mem_map.mp m
      obtain ⟨a, b⟩ := handsK_facts k h' m'
      refine ⟨by simp [a], fun c hc => ?_⟩
      rcases List.mem_append.mp hc with hc | hc
      · exact b c hc
      · rw [List.mem_singleton.mp hc]; exact .inl rfl
    · obtain ⟨h', m', rfl⟩ := List.mem_map.mp m
      obtain ⟨a, b⟩ := handsK_facts k h' m'
      refine ⟨by simp [a], fun c hc => ?_⟩
      rcases List.mem_append.mp hc with hc | hc
      · exact b c hc
      · rw [List.mem_singleton.mp hc]; exact .inr rfl
noncomputable def hOkB (hs : List Nat) : Bool :=
  decide (hs.length ≤ 3) && (Txt.count ⟨hs.toArray⟩ ⟨[82].toArray⟩ == ((hs.count 82 : Nat) : Int)) && (Txt.count ⟨hs.toArray⟩ ⟨[80].toArray⟩ == ((hs.count 80 : Nat) : Int)) && (Txt.contains ⟨hs.toArray⟩ ⟨[80].toArray⟩ == hs.contains 80) &&
  (!hs.contains 80 || (Txt.find ⟨hs.toArray⟩ ⟨[80].toArray⟩ == ((hs.idxOf 80 : Nat) : Int)))
theorem hands_all : (handsK 0 ++ handsK 1 ++ handsK 2 ++ handsK 3).all hOkB = true := by decide +kernel
theorem hok_of {k : Nat} (hk : k ≤ 3) {h : List Nat} (m : h ∈ handsK k) : HOk h := by
  have : h ∈ handsK 0 ++ handsK 1 ++ handsK 2 ++ handsK 3 := by
    have : k = 0 ∨ k = 1 ∨ k = 2 ∨ k = 3 := by lia
    rcases this with rfl | rfl | rfl | rfl <;> simp only [List.mem_append] <;> simp [m]
  have := List.all_eq_true.mp hands_all h this
  unfold hOkB at this
  simp only [Bool.and_eq_true, decide_eq_true_eq, beq_iff_eq, Bool.or_eq_true, Bool.not_eq_true'] at this
  exact ⟨this.1.1.1.1, this.1.1.1.2, this.1.1.2, this.1.2, fun hc => by
    rcases this.2 with h | h
    · (first | obtain rfl := Option.some.inj (hc.symm.trans h) | exact absurd (hc.symm.trans h) (Option.some_ne_none _) | exact absurd (hc.symm.trans h).symm (Option.some_ne_none _) | exact (datN (hc.symm.trans h) rfl).elim | (rw [hc] at h; cases h))
    · exact h⟩
theorem runs_ok {g : Grp} (G : g.Fine) (r : Nat) : ∀ k, k ≤ 2 → ∀ c ∈ runsK g r k, c < 0x110000
  | 0, _, c, hc => by rw [List.eq_of_mem_replicate hc]; decide
  | k + 1, hk, c, hc => by
    obtain ⟨c', e, hp, _⟩ := G.hid k (by lia)
    simp only [runsK, e] at hc
    rcases List.mem_append.mp hc with hc | hc
    · exact runs_ok G r k (by lia) c hc
    · rcases List.mem_append.mp hc with hc | hc
      · rw [List.mem_singleton.mp hc]; exact (plB_pl hp).2
      · rw [List.eq_of_mem_replicate hc]; decide
theorem due_ok {g : Grp} (G : g.Fine) {hs : List Nat} (hl : hs.count 80 < 4) : (dueW g hs).length ≤ 100 ∧ (∀ c ∈ dueW g hs, c < 0x110000) ∧ dueW g hs ≠ [] := by
  have h3 := G.p3
  have he := G.end_le (hs.count 80)
  obtain ⟨e1, e2⟩ := G.enn _ hl
  unfold dueW
  refine ⟨?_, fun c hc => ?_, fun h => e1 (List.append_eq_nil_iff.mp h).2⟩
  · rw [List.length_append]
    split
    · have := left_le G.p8 (hs.idxOf 80) (hs.count 82)
      simp only [bs, List.length_replicate]; lia
    · have := runsK_len G.toOk (hs.count 82) (g.ps.length - 1)
      omega
  · rcases List.mem_append.mp hc with hc | hc
    · split at hc
      · rw [List.eq_of_mem_replicate hc]; decide
      · exact runs_ok G _ _ (by lia) c hc
    · exact (plB_pl (e2 c hc)).2
theorem oks_of {w : List Nat} (h : ∀ c ∈ w, c < 0x110000) : OkS w := by
  unfold OkS PySem.PyData.strOk
  simpa using h
section
variable {C : Ctx} {K : Kx} {ρ : Fm} {σ : Store} {X : Value → Shared → Prop} {d : Nat} {Q : V → Store → Prop}
noncomputable def duesV (gs : List Grp) (h : List Nat) : V := .lst (gs.map fun g => .str (dueW g h))
noncomputable def stV (gs : List Grp) (h : List Nat) : V := .tup [.str h, duesV gs h]
theorem dues_eq (gs : List Grp) (h : List Nat) : duesV gs h = .lst (strV (gs.map (dueW · h))) := by simp [duesV, strV, Function.comp_def]
noncomputable def dS (l : List (List Nat)) : PySem.PyData := .list (l.map fun x => PySem.PyData.str ⟨x.toArray⟩)
theorem dats_rows : ∀ L : List (List (List Nat)), Dats σ (L.map fun l => V.lst (l.map V.str)) (L.map dS)
  | [] => .nil
  | l :: L => .cons (.lst (dats_strs l)) (dats_rows L)
open PySem.Spec PySem.SeqAt in
theorem lay_rows : ∀ L : List (List (List Nat)), (∀ l ∈ L, ∀ x ∈ l, OkS x) → PySem.PyData.canLayAll0 (L.map dS) = true ∧ PySem.PyData.depthAll (L.map dS) ≤ 1
  | [], _ => ⟨rfl, by simp [PySem.PyData.depthAll]⟩
  | l :: L, h => by
    obtain ⟨h1, h2⟩ := lay_rows L fun y hy => h y (List.mem_cons_of_mem _ hy)
    obtain ⟨h3, h4⟩ := lay_strs l (h l List.mem_cons_self)
    constructor
    · simp only [List.map_cons, PySem.PyData.canLayAll0, h1, Bool.and_true]; exact h3
    · rw [List.map_cons, PySem.PyData.depthAll]
      have : (dS l).depth = 1 := by rw [dS, PySem.PyData.depth, h4]
      omega
open PySem.Spec PySem.SeqAt in
theorem shaped_rows (L : List (List (List Nat))) (h : ∀ l ∈ L, ∀ x ∈ l, OkS x) : shaped (.list (L.map dS)) = true := by
  obtain ⟨h1, h2⟩ := lay_rows L h
  rw [shaped, Bool.and_eq_true]
  refine ⟨by rw [PySem.PyData.canLay0]; exact h1, decide_eq_true ?_⟩
  rw [PySem.PyData.depth]; lia
theorem cs__law_orders (B : Base C) (hd : 30 ≤ d) {gs : List Grp} {draws : Nat} (hg : ∀ g ∈ gs, g.Fine) (hl : gs.length ≤ 10) (hdr : draws < 2 ^ 64) (q : Q (.bool true) σ) : CallV C d (.raw (.ref A__law_orders)) [.lst (gs.map grpV), .int draws] σ Q X := by
  refine CallV.le (d := 30) (CallV.of ?_) hd
  refine cv_fnC' (d := 29) B.ok2 B.f__law_orders bd__law_orders ck__law_orders rfl rfl rfl ?_
  have hok : ∀ g ∈ gs, g.Ok := fun g h => (hg g h).toOk
  walk_at "start"
  walk_at "go"
  refine cs__law_due B (by decide) hok (by lia) (hok_of (k := 0) (by decide) List.mem_cons_self) ?_
  walk_at "go"
  refine st_forL ?_
  walk_at "go"
  refine ⟨_, items_rng0 3 (by decide), fun k ρ' σ' => σ' = σ ∧ (∃ sl, (("turn" : Str), sl) ∈ ρ' ∧ ∀ c, sl ≠ Slot.sh c) ∧ Has ρ' [("states", .val (.lst ((handsK k).map (stV gs)))), ("groups", .val (.lst (gs.map grpV))), ("draws", .val (.int draws))],
    ⟨rfl, ⟨_, by walk_at "mem", (by intro c e; cases e)⟩, (by show Has _ [("states", .val (.lst [.tup [.str [], .lst (gs.map fun g => .str (dueW g []))]])), ("groups", .val (.lst (gs.map grpV))), ("draws", .val (.int draws))]; walk_at "has")⟩, ?_, ?_⟩
  · rintro k x ρ' σ' hx ⟨rfl, ⟨sl, hsl, hne⟩, hhas⟩
    have hk : k < 3 := by
      rcases Nat.lt_or_ge k 3 with h | h
      · exact h
      · (first | obtain rfl := Option.some.inj ((List.getElem?_eq_none (by simpa using h)).symm.trans hx) | exact absurd ((List.getElem?_eq_none (by simpa using h)).symm.trans hx) (Option.some_ne_none _) | exact absurd ((List.getElem?_eq_none (by simpa using h)).symm.trans hx).symm (Option.some_ne_none _) | exact absurd (congrArg Data.ctorIdx ((List.getElem?_eq_none (by simpa using h)).symm.trans hx)) (by decide) | (rw [List.getElem?_eq_none (by simpa using h)] at hx; cases hx))
    have hx' : x = .int ((k : Nat) : Int) := by
      rw [List.getElem?_map, List.getElem?_range hk] at hx; exact (Option.some.inj hx).symm
    subst hx'
    refine as_cellH (by kernel_rfl) ⟨sl, hsl, hne⟩ hhas (by kernel_rfl) ?_
    walk_at "go"
    refine st_assign_compT (caps := [("draws", .val (.int (draws : Int))), ("turn", .val (.int (k : Int)))]) (compOk (by kernel_rfl) (by walk_at "has") (by rfl)) (by kernel_rfl!) (stV gs) (fun h => [("hands", .val (.str h)), ("words", .val (duesV gs h))]) (fun h => stV gs (h ++ [82])) ?_
    walk_at "go"
    have hkl : (handsK k).length ≤ 8 := by
      have : k = 0 ∨ k = 1 ∨ k = 2 := by lia
      rcases this with rfl | rfl | rfl <;> decide
    have hkl2 : (handsK (k + 1)).length ≤ 16 := by simp [handsK]; lia
    have hc4 : ∀ h ∈ handsK k, h.length = k ∧ Hands h ∧ h.count 80 < 3 := fun h m => by
      obtain ⟨a, b⟩ := handsK_facts k h m
      exact ⟨a, b, Nat.lt_of_le_of_lt List.count_le_length (by lia)⟩
    refine ⟨handsK k, .lst _, by lia, fun h hm => ⟨tgt2 (by kernel_rfl) (by kernel_rfl) (by decide +kernel), by kernel_rfl, fun D acc hD => ?_⟩, ?_⟩
    · obtain ⟨a, b, c3⟩ := hc4 h hm
      simp only [List.cons_append, List.nil_append]
      walk_at "go"
      · rw [dues_eq]
        have hrd := read_all (wl := gs.map (dueW · h)) (ul := gs.map (dueW · (h ++ [82]))) (draws / 512 ^ k) (by simp) (fun i hi => by
          have hi' : i < gs.length := by simpa using hi
          simp only [List.getD_eq_getElem?_getD, List.getElem?_map, List.getElem?_eq_getElem hi', Option.map_some, Option.getD_some]
          exact due_read (hg _ (List.getElem_mem hi')) b (by lia)) (fun i hi => by
          have hi' : i < gs.length := by simpa using hi
          simp only [List.getD_eq_getElem?_getD, List.getElem?_map, List.getElem?_eq_getElem hi', Option.map_some, Option.getD_some]
          exact (due_ok (hg _ (List.getElem_mem hi')) (by lia)).2.2)
        have hc82 : (h ++ [82]).count 80 < 4 := by rw [List.count_append]; show h.count 80 + 0 < 4; lia
        refine cs__law_read B (by decide) (by simpa using hl) (fun w hw => ?_) (fun w hw => ?_) hrd.1 hrd.2 (fun w hw => ?_) (Nat.lt_of_le_of_lt (Nat.div_le_self _ _) (Nat.lt_of_lt_of_le hdr (Nat.pow_le_pow_right (by decide) (by decide)))) ?_
        · obtain ⟨g, hgm, rfl⟩ := List.mem_map.mp hw
          exact Nat.le_trans (due_ok (hg g hgm) (by lia)).1 (by decide)
        · obtain ⟨g, hgm, rfl⟩ := List.mem_map.mp hw
          exact (due_ok (hg g hgm) (by lia)).2.1
        · obtain ⟨g, hgm, rfl⟩ := List.mem_map.mp hw
          exact oks_of (due_ok (hg g hgm) hc82).2.1
        walk_at "go"
        refine ⟨?_, rfl⟩
        rw [stV, dues_eq]
      · simp; lia
      · rw [show nbits 512 = 10 by decide]; lia
      · exact Nat.ne_of_gt (Nat.pow_pos (by decide))
      · refine log2_lt_of (Nat.ne_of_gt (Nat.pow_pos (by decide))) (Nat.lt_of_le_of_lt (Nat.pow_le_pow_right (by decide) (show k ≤ 3 by lia)) (Nat.lt_of_lt_of_le (by decide : 512 ^ 3 < 2 ^ 28) (Nat.pow_le_pow_right (by decide) (by decide))))
    rw [show (handsK k).map (fun h => stV gs (h ++ [82])) = ((handsK k).map (· ++ [82])).map (stV gs) by simp [Function.comp_def]]
    walk_at "go"
    refine ev_compT (caps := []) (compOk (by kernel_rfl) (by walk_at "has") (by rfl)) (stV gs) (fun h => [("hands", .val (.str h)), ("words", .val (duesV gs h))]) (fun h => stV gs (h ++ [80])) ?_
    walk_at "go"
    refine ⟨handsK k, .lst _, by lia, fun h hm => ⟨tgt2 (by kernel_rfl) (by kernel_rfl) (by decide +kernel), by kernel_rfl, fun D acc hD => ?_⟩, ?_⟩
    · obtain ⟨a, b, c3⟩ := hc4 h hm
      simp only [List.cons_append, List.nil_append]
      walk_at "go"
      · rw [dues_eq]
        have hpe : (gs.map (dueW · h)).map prepW = gs.map (dueW · (h ++ [80])) := by
          rw [List.map_map]
          exact List.map_congr_left fun g hgm => due_prep (hg g hgm) b c3
        have hc80 : (h ++ [80]).count 80 < 4 := by rw [List.count_append]; show h.count 80 + 1 < 4; lia
        refine cs__law_prepared B (by decide) (by simp; lia) (fun w hw => ?_) (fun w hw => ?_) ?_
        · obtain ⟨g, hgm, rfl⟩ := List.mem_map.mp hw
          exact Nat.le_trans (due_ok (hg g hgm) (by lia)).1 (by decide)
        · obtain ⟨g, hgm, rfl⟩ := List.mem_map.mp hw
          rw [due_prep (hg g hgm) b c3]
          exact Nat.le_trans (due_ok (hg g hgm) hc80).1 (by decide)
        walk_at "go"
        refine ⟨?_, rfl⟩
        rw [stV, dues_eq, ← hpe]; simp [strV, Function.comp_def]
      · simp; lia
    refine bin_catE (zs := (handsK (k + 1)).map (stV gs)) (.fr _) (.fr _) (by simp; lia) (by simp [handsK, Function.comp_def]) ?_
    walk_at "go"
    refine ev_compT (caps := []) (compOk (by kernel_rfl) (by walk_at "has") (by rfl)) (stV gs) (fun h => [("hands", .val (.str h)), ("words", .val (duesV gs h))]) (fun h => duesV gs h) ?_
    walk_at "go"
    refine ⟨handsK (k + 1), .lst _, by lia, fun h hm => ⟨tgt2 (by kernel_rfl) (by kernel_rfl) (by decide +kernel), by kernel_rfl, fun D acc hD => ?_⟩, ?_⟩
    · simp only [List.cons_append, List.nil_append]
      walk_at "go"
      exact ⟨rfl, rfl⟩
    walk_at "go"
    refine ev_compT (caps := [("groups", .val (.lst (gs.map grpV)))]) (compOk (by kernel_rfl) (by walk_at "has") (by rfl)) (stV gs) (fun h => [("hands", .val (.str h)), ("words", .val (duesV gs h))]) (fun h => duesV gs h) ?_
    walk_at "go"
    refine ⟨handsK (k + 1), .lst _, by lia, fun h hm => ⟨tgt2 (by kernel_rfl) (by kernel_rfl) (by decide +kernel), by kernel_rfl, fun D acc hD => ?_⟩, ?_⟩
    · simp only [List.cons_append, List.nil_append]
      walk_at "go"
      refine cs__law_due B (by decide) hok (by lia) (hok_of (k := k + 1) (by lia) hm) ?_
      walk_at "go"
      exact ⟨rfl, rfl⟩
    refine ne_false rfl (p := .list (((handsK (k + 1)).map fun h => gs.map (dueW · h)).map dS)) (.lst ?_) (shaped_rows _ ?_) ?_
    · rw [show (handsK (k + 1)).map (fun h => duesV gs h) = ((handsK (k + 1)).map fun h => gs.map (dueW · h)).map fun l => V.lst (l.map V.str) by simp [Function.comp_def, duesV]]
      exact dats_rows _
    · intro l hl' x hx
      obtain ⟨h, hm, rfl⟩ := List.mem_map.mp hl'
      obtain ⟨g, hgm, rfl⟩ := List.mem_map.mp hx
      obtain ⟨a, b⟩ := handsK_facts (k + 1) h hm
      exact oks_of (due_ok (hg g hgm) (Nat.lt_of_le_of_lt List.count_le_length (by lia))).2.1
    walk_at "go"
    exact ⟨rfl, ⟨_, by walk_at "mem", (by intro c e; cases e)⟩, by walk_at "has"⟩
  · rintro ρ' σ' ⟨rfl, _, hhas⟩
    refine cont_next (ExP.has ?_ hhas)
    walk_at "go"
    exact q
end
theorem bd_law : Binds F_law ["script"] := by walk_at "binds"
theorem ck_law : fnC F_law ["script"] ["own", "cells"] = true := by decide +kernel
noncomputable def ownL : List Nat := [1092443, 3359320, 0, 0, 265221]
/-- the numbers of the script that go to one cell -/
noncomputable def selK (xs : List Int) (k : Nat) : List Int := (picks (some (k : Int)) none (some 5) (xs.take 60).length).filterMap ((xs.take 60)[·]?)
noncomputable def modT (x : Int) : Nat := (x.fmod (10 ^ 12)).toNat
noncomputable def cellN (xs : List Int) (k : Nat) : Nat := ownL.getD k 0 + ((selK xs k).map modT).sum
theorem modT_eq (x : Int) : x.fmod (10 ^ 12) = ((modT x : Nat) : Int) ∧ modT x < 10 ^ 12 := by
  have h1 := Int.fmod_nonneg_of_pos x (show (0 : Int) < 10 ^ 12 by decide)
  have h2 := Int.fmod_lt_of_pos x (show (0 : Int) < 10 ^ 12 by decide)
  unfold modT
  exact ⟨(Int.toNat_of_nonneg h1).symm, by lia⟩
theorem sel_len (xs : List Int) (k : Nat) : (selK xs k).length ≤ 60 := by
  have hl : (xs.take 60).length ≤ 60 := by simp; lia
  unfold selK
  refine Nat.le_trans (List.length_filterMap_le _ _) ?_
  generalize (xs.take 60).length = n at hl
  unfold picks sliceBounds sliceRange
  simp only [List.length_map, List.length_range, Option.getD_some]
  split <;> lia
theorem sum_mod : ∀ l : List Int, (l.map modT).sum ≤ 10 ^ 12 * l.length
  | [] => by simp
  | x :: l => by
    have h1 := sum_mod l
    have h2 := (modT_eq x).2
    simp only [List.map_cons, List.sum_cons, List.length_cons, Nat.mul_add, Nat.mul_one]; lia
theorem cell_lt (xs : List Int) (k : Nat) : cellN xs k < 2 ^ 60 := by
  have h1 := sum_mod (selK xs k)
  have h2 := sel_len xs k
  have h3 : ownL.getD k 0 ≤ 3359320 := by
    rw [List.getD_eq_getElem?_getD]
    rcases Nat.lt_or_ge k ownL.length with h | h
    · rw [List.getElem?_eq_getElem h]
      exact (by decide : ∀ x ∈ ownL, x ≤ 3359320) _ (List.getElem_mem h)
    · rw [List.getElem?_eq_none h]; decide
  have h4 : 10 ^ 12 * (selK xs k).length ≤ 10 ^ 12 * 60 := Nat.mul_le_mul_left _ h2
  unfold cellN; lia
section
variable {C : Ctx} {K : Kx} {ρ : Fm} {σ : Store} {X : Value → Shared → Prop} {d : Nat} {Q : V → Store → Prop}
theorem get_map {α β : Type} (f : α → β) (l : List α) (P : List Nat) : P.filterMap ((l.map f)[·]?) = (P.filterMap (l[·]?)).map f := by
  rw [List.map_filterMap]
  congr 1
  funext i
  rw [List.getElem?_map]
noncomputable abbrev intV (l : List Int) : List V := l.map V.int
open PySem.Spec PySem.SeqAt in
theorem all_goodT {m : Nat} (q : Q (.bool true) σ) : M2 C d (compareOp .NotIn) (.bool false) (.lst (List.replicate m (V.bool true))) σ Q X := by
  obtain ⟨h1, h2, h3, h4⟩ := trues (σ := σ) m
  refine cmp_notIn (.bool false) (.lst h1) (by rfl) ?_ (fun y hy => ?_) ?_
  · simp [shaped, PySem.PyData.canLay0, PySem.PyData.depth, h2, h3]
  · rw [List.eq_of_mem_replicate hy]; rfl
  · rw [h4]; exact q
theorem tgt3 {K : Kx} {x y z : Str} {p1 p2 p3 pos : Pos} {k : Nat} {v w u : V} (h1 : K.names.lookup x = some .local) (h2 : K.names.lookup y = some .local) (h3 : K.names.lookup z = some .local) (hn : [x, y, z].Nodup) : TgtP K (.Tuple [.Name x p1, .Name y p2, .Name z p3] k pos) (.tup [v, w, u]) [(x, .val v), (y, .val w), (z, .val u)] := by
  have hall : ∀ q ∈ [(x, p1), (y, p2), (z, p3)], K.names.lookup q.1 = some .local := by
    intro q hq
    simp only [List.mem_cons, List.mem_nil_iff, or_false] at hq
    rcases hq with rfl | rfl | rfl
    · exact h1
    · exact h2
    · exact h3
  have := TgtP.tup (K := K) [(x, p1), (y, p2), (z, p3)] k pos [v, w, u] rfl hall (by simpa using hn)
  simpa [pslots] using this
theorem cs_law (B : Base C) (hd : 100 ≤ d) {xs : List Int} (hx : xs.length ≤ 63) (q : Q (.bool true) σ) : CallV C d (.raw (.ref A_law)) [.lst (intV xs)] σ Q X := by
  refine CallV.le (d := 100) (CallV.of ?_) hd
  refine cv_fnC' (d := 99) B.ok2 B.f_law bd_law ck_law rfl rfl rfl ?_
  walk_at "start"
  walk_at "go"
  refine st_assignPC (sl := .emp) (by kernel_rfl) (by walk_at "mem") (by intro c e; cases e) ?_
  refine ev_compT (caps := [("own", .val (.lst [V.int 1092443, V.int 3359320, V.int 0, V.int 0, V.int 265221])), ("script", .val (.lst (intV xs)))]) (compOk (by kernel_rfl) (by walk_at "has") (by rfl)) (fun k : Nat => V.int k) (fun k => [("k", .val (.int k))]) (fun k => V.int ((cellN xs k : Nat) : Int)) ?_
  walk_at "go"
  refine ⟨List.range 5, items_rng0 5 (by decide), by decide, fun k hk => ⟨tgt_name (by kernel_rfl), by kernel_rfl, fun D acc hD => ?_⟩, ?_⟩
  · have hk : k < 5 := List.mem_range.mp hk
    simp only [List.cons_append, List.nil_append]
    walk_at "go"
    refine gn_lst (vs := natV ownL) (.fr _) (natV_get hk) (by decide) ?_
    walk_at "go"
    refine ev_compT (caps := []) (compOk (by kernel_rfl) (by walk_at "has") (by rfl)) V.int (fun x => [("number", .val (.int x))]) (fun x => V.int ((modT x : Nat) : Int)) ?_
    walk_at "go"
    refine ⟨_, _, _, .none, .int _, .none, sub_lst (.fr _), gi_lst_slc (.fr _) (by simp) (by simp [intV]; lia) ?_⟩
    rw [show (picks none (some (60 : Int)) none (intV xs).length).filterMap ((intV xs)[·]?) = intV (xs.take 60) from (picks_take (intV xs) 60).trans (List.map_take ..).symm]
    walk_at "go"
    refine ⟨_, _, _, .int _, .none, .int _, sub_lst (.fr _), gi_lst_slc (.fr _) (by simp) (by simp [intV]; lia) ?_⟩
    rw [get_map, show (intV (xs.take 60)).length = (xs.take 60).length from List.length_map _, show (picks (some (k : Int)) none (some 5) (xs.take 60).length).filterMap ((xs.take 60)[·]?) = selK xs k from rfl]
    have hsl := sel_len xs k
    refine ⟨selK xs k, .lst _, by lia, fun x hx => ⟨tgt_name (by kernel_rfl), by kernel_rfl, fun D acc hD => ?_⟩, ?_⟩
    · simp only [List.cons_append, List.nil_append]
      walk_at "go"
      · exact ⟨congrArg V.int (modT_eq x).1, rfl⟩
      · decide
      · decide
      · decide
      · decide +kernel
    walk_at "go"
    refine bn_sum (xs := (selK xs k).map modT) (by simpa [natV, Function.comp_def] using LV.fr _) ?_
    walk_at "go"
    exact ⟨rfl, rfl⟩
  rw [show (List.range 5).map (fun k => V.int ((cellN xs k : Nat) : Int)) = natV ((List.range 5).map (cellN xs)) by simp [natV, Function.comp_def]]
  have hcell : ∀ k, k < 5 → (natV ((List.range 5).map (cellN xs)))[k]? = some (.int ((cellN xs k : Nat) : Int)) := fun k hk => by
    rw [List.getElem?_map, List.getElem?_map, List.getElem?_range hk]; rfl
  have hcl : (natV ((List.range 5).map (cellN xs))).length < 2 ^ 25 := by simp
  generalize natV ((List.range 5).map (cellN xs)) = cv at hcell hcl ⊢
  have hc0 := cell_lt xs
  walk_at "go"
  refine st_assign_compT (caps := [("cells", .val (.lst cv))]) (compOk (by kernel_rfl) (by walk_at "has") (by rfl)) (by kernel_rfl!) (fun k : Nat => V.int k) (fun k => [("k", .val (.int k))]) (fun k => grpV (grpOf (cellN xs k))) ?_
  walk_at "go"
  refine gn_lst (i := 2) (.fr _) (hcell 2 (by decide)) hcl ?_
  walk_at "go"
  have hm2 : cellN xs 2 % 2 < 2 := Nat.mod_lt _ (by decide)
  refine ⟨List.range (1 + cellN xs 2 % 2), items_rng0 _ (by lia), by simp; lia, fun k hk => ⟨tgt_name (by kernel_rfl), by kernel_rfl, fun D acc hD => ?_⟩, ?_⟩
  · have hk : k < 2 := by have := List.mem_range.mp hk; lia
    simp only [List.cons_append, List.nil_append]
    walk_at "go"
    refine gn_lst (.fr _) (hcell k (by lia)) hcl ?_
    walk_at "go"
    refine cs__law_group B (by decide) (Nat.lt_of_lt_of_le (hc0 k) (Nat.pow_le_pow_right (by decide) (by decide))) ?_
    walk_at "go"
    exact ⟨rfl, rfl⟩
  rw [show (List.range (1 + cellN xs 2 % 2)).map (fun k => grpV (grpOf (cellN xs k))) = ((List.range (1 + cellN xs 2 % 2)).map fun k => grpOf (cellN xs k)).map grpV by simp [Function.comp_def]]
  have hgf : ∀ g ∈ (List.range (1 + cellN xs 2 % 2)).map (fun k => grpOf (cellN xs k)), g.Fine := fun g hg => by
    obtain ⟨k, _, rfl⟩ := List.mem_map.mp hg
    exact fine_of _
  have hgl : ((List.range (1 + cellN xs 2 % 2)).map fun k => grpOf (cellN xs k)).length ≤ 2 := by simp; lia
  generalize ((List.range (1 + cellN xs 2 % 2)).map fun k => grpOf (cellN xs k)) = gs at hgf hgl ⊢
  walk_at "go"
  refine st_assign_compT (caps := [("cells", .val (.lst cv))]) (compOk (by kernel_rfl) (by walk_at "has") (by rfl)) (by kernel_rfl!) grpV (fun g => [("parts", .val (.lst (natV g.ps))), ("nothings", .val (.lst (strV g.ns))), ("ends", .val (.tup (strV g.es)))]) (fun _ => V.bool true) ?_
  walk_at "go"
  refine ⟨gs, .lst _, by lia, fun g hg => ⟨tgt3 (by kernel_rfl) (by kernel_rfl) (by kernel_rfl) (by decide +kernel), by kernel_rfl, fun D acc hD => ?_⟩, ?_⟩
  · have G := hgf g hg
    simp only [List.cons_append, List.nil_append]
    walk_at "go"
    refine gn_lst (i := 3) (.fr _) (hcell 3 (by decide)) hcl ?_
    have hm3 : cellN xs 3 % 12 < 12 := Nat.mod_lt _ (by decide)
    walk_at "go"
    refine cs__law_numbers B (by decide) G.p1 G.p3 G.p8 (by lia) (by lia) ?_
    walk_at "go"
    exact ⟨rfl, rfl⟩
  walk_at "go"
  refine ev_and ?_
  walk_at "go"
  rw [List.map_const']
  refine all_goodT ?_
  walk_at "go"
  refine ⟨rfl, ?_⟩
  walk_at "go"
  refine ev_and_one ?_
  walk_at "go"
  refine gn_lst (i := 4) (.fr _) (hcell 4 (by decide)) hcl ?_
  walk_at "go"
  refine cs__law_orders B (by decide) hgf (by lia) (Nat.lt_of_lt_of_le (hc0 4) (Nat.pow_le_pow_right (by decide) (by decide))) ?_
  walk_at "go"
  exact q
end
end Mine
section
open PySem PySem.W PyProof.Rows
namespace Mine
noncomputable section
noncomputable abbrev lawIx : Nat := 24
noncomputable def qV : Program := { PR with main := { PR.main with body := [stm lawIx] } }
noncomputable def looseV : List Str := PR.boundNames.filter (· != ("law" : Str))
noncomputable def xtV (s : Shared) : Bool := xlAt qV [] s && recOk [] s
theorem open_eq : opening PR = plainProg PR.main.scope.names := by kernel_rfl
theorem fence_eq (s : Shared) : fenceModules? PR s = some s := by kernel_rfl
theorem look_size : ∀ w : World, ((boot_heap w.params).isNs mainGlobals && (⟨[]⟩ : Array GenState).size == 0, (boot_heap w.params).objs.size, (boot_heap w.params).nsMap mainGlobals "__annotations__") = (true, 11, tAnn) := by intro w; kernel_rfl
theorem look_1 : ∀ w : World, (fun os : OsState => (staticsOk (importedModules PR.main.body) (boot_heap w.params) (endHeap w.params) && namesBound PR (endHeap w.params) && gensDone ⟨endHeap w.params, ⟨[]⟩, {}, 2422, os⟩ && laidKept (boot_heap w.params) (endHeap w.params))) = fun _ => true := by intro w; kernel_rfl
theorem look_2 : ∀ w : World, (fun os : OsState => openSeen qV looseV (importedModules PR.main.body) xtV true ⟨endHeap w.params, ⟨[]⟩, {}, 2422, os⟩) = fun _ => openGood qV looseV := by
  rw [show @openSeen = @PySem.W.Fast.tw4187177175401517315 from PySem.W.Fast.te4187177175401517315]
  intro w; kernel_rfl

theorem left_law : LeftO PR qV looseV xtV (fun s => s.heap) (fun w => endHeap w.params) 72005 := by
  have hM : endHeap = fun P => absHeap (T_6 P) 210 {} := rfl
  refine LeftO.of_pieces (H₀ := boot_heap) (H₁ := endHeap) (gs₀ := ⟨[]⟩) (gs₁ := ⟨[]⟩) (d₀ := boot_drawn) (d₁ := {}) (k₀ := boot_toks) (k₁ := 2422) (m₀ := 11) (ann := tAnn) (M := 72005)
    (boot_open open_eq rfl fence_eq) look_size (fun w os => whole_run w os) rfl (fun w => funext fun os => ?_)
  exact Prod.ext (congrFun (look_1 w) os) (Prod.ext (congrFun (look_2 w) os) rfl)
theorem said_law : OpenLaw.wellSaid PySem.Challenge.rw_rw0121_03 = true := by
  rw [show @OpenLaw.wellSaid = @PySem.W.Fast.tw9446332074065402090 from PySem.W.Fast.te9446332074065402090]
  kernel_rfl
set_option maxHeartbeats 4000000 in
theorem holds_of (d : DefRec) (kwd : List (Str × Expr)) (hd : defOf qV PySem.Challenge.rw_rw0121_03.row.name = some (d, kwd))
    (hp : PR.theDef PySem.Challenge.rw_rw0121_03.row.name = some (d.params, d.body, d.scope)) (hk : kwWritten? d.params.kwonlyargs d.params.kw_defaults = some kwd)
    (call : WalkX qV looseV (XL qV []) (fun s => s.heap) (fun w => endHeap w.params) PySem.Challenge.rw_rw0121_03.row.toRowW d kwd fun f vs => PySem.call f vs) : PySem.Challenge.rw_rw0121_03.Holds := by
  refine holds_law said_law fun said => ?_
  refine holds_openX (q := qV) (loose := looseV) (Xt := xtV) (XP := XL qV []) (Yf := fun s => s.heap) (Ya := fun w => endHeap w.params) (d := d) (kwd := kwd) (N := 72005) left_law (fun s e => xl_of s (Bool.and_eq_true_iff.mp e).1) XL.keeps hd hp hk (fun s e => recFacts_of (Bool.and_eq_true_iff.mp e).2) (by rfl) (by assumption) (by decide +kernel) ⟨rfl, rfl, rfl, rfl, rfl, by decide +kernel⟩ ?hw call
  case hw => w_witness2
end
end Mine
end
namespace Mine
noncomputable section
noncomputable def dkV : DefRec × List (Str × Expr) := match defOf qV PySem.Challenge.rw_rw0121_03.row.name with | some x => x | none => ⟨⟨"", default, [], default, default⟩, []⟩
theorem dk_eq : defOf qV PySem.Challenge.rw_rw0121_03.row.name = some (dkV.1, dkV.2) := by kernel_rfl
theorem dk_the : PR.theDef PySem.Challenge.rw_rw0121_03.row.name = some (dkV.1.params, dkV.1.body, dkV.1.scope) := by kernel_rfl
theorem dk_kw : kwWritten? dkV.1.params.kwonlyargs dkV.1.params.kw_defaults = some dkV.2 := by kernel_rfl
theorem dk_name : dkV.1.name = ("law" : Str) := by kernel_rfl
theorem size_ok : ∀ P : Params, ((endHeap P).objs.size, ((endHeap P).get? (hsize - 1)).isSome) = (hsize, true) := by intro P; kernel_rfl
theorem tabs_ok : ∀ P : Params, (tabL.map fun t => (endHeap P).get? t) = tabL.map fun _ => some (tabObj #[]) := by intro P; kernel_rfl
theorem tab_at (P : Params) {t : Addr} (h : t ∈ tabL) : (endHeap P).get? t = some (tabObj #[]) := by
  have e := tabs_ok P
  rw [List.map_inj_left] at e
  exact e t h
noncomputable def baseC (w : World) (os : OsState) : Ctx := ⟨PR, w, endHeap w.params, (endHeap w.params).nsMap mainGlobals, (endHeap w.params).nsMap builtinsNs, nestL, #[], os⟩
theorem base_of (w : World) (os : OsState) : Base (baseC w os) := ⟨rfl, rfl, rfl, rfl, rfl, rfl⟩
theorem ns_uniq {h : Heap} {a : Addr} {m m' : Str → Option Value} (h1 : h.Ns a m) (h2 : h.Ns a m') (x : Str) : m x = m' x := by
  obtain ⟨o, es, ep, e, d, _, f⟩ := h1
  obtain ⟨o', es', ep', e', d', _, f'⟩ := h2
  (first | obtain rfl := Option.some.inj (e.symm.trans e') | exact absurd (e.symm.trans e') (Option.some_ne_none _) | exact absurd (e.symm.trans e').symm (Option.some_ne_none _) | exact (datN (e.symm.trans e') rfl).elim | (rw [e] at e'; cases e'))
  (first | obtain rfl := Option.some.inj (d.symm.trans d') | exact absurd (d.symm.trans d') (Option.some_ne_none _) | exact absurd (d.symm.trans d').symm (Option.some_ne_none _) | exact (datN (d.symm.trans d') rfl).elim | (rw [d] at d'; cases d'))
  rw [← f x, ← f' x]
noncomputable def noneS : Store := fun _ => none
theorem inv0 {w : World} {s₀ s₁ : Shared} (Y : s₀.heap = endHeap w.params) (k : ∀ b o, s₀.heap.get? b = some o → s₁.heap.get? b = some o) (hg : s₁.gens = #[]) : Inv (baseC w s₁.os) noneS s₁ where
  base := fun a o e _ => k a o (by rw [Y]; exact e)
  top := by
    have e := size_ok w.params
    obtain ⟨e1, e2⟩ := Prod.mk.inj e
    obtain ⟨o, ho⟩ := Option.isSome_iff_exists.mp e2
    refine ⟨o, ?_, ?_, ?_⟩
    · show (endHeap w.params).get? ((endHeap w.params).objs.size - 1) = _
      rw [e1]; exact ho
    · show (endHeap w.params).objs.size - 1 ∉ _
      rw [e1]; exact (base_of w s₁.os).nt
    · show 0 < (endHeap w.params).objs.size
      rw [e1]; decide
  own := fun a o e => by cases e
  tabLt := fun n hn => by
    show n.table < (endHeap w.params).objs.size
    rw [(Prod.mk.inj (size_ok w.params)).1]
    have : n.table ∈ tabL := List.mem_map.mpr ⟨n, hn, rfl⟩
    exact (by decide : ∀ t ∈ tabL, t < hsize) _ this
  tabs := fun n hn => by
    have : n.table ∈ tabL := List.mem_map.mpr ⟨n, hn, rfl⟩
    refine ⟨#[], k _ _ (by rw [Y]; exact tab_at _ this), ?_, fun d hd cv hc => ?_⟩
    · trivial
    · cases hc
  gens := hg
  os := rfl
theorem rels_ints {C : Ctx} {σ : Store} {h : Heap} : ∀ {vs : List Value} {ns : List Int}, IntsAre vs ns → Rels C σ h vs (intV ns)
  | _, _, .nil => .nil
  | _, _, .cons n t r => .cons (.int n t) (rels_ints r)
theorem claim_proved : PySem.Challenge.rw_rw0121_03.Holds := by
  refine holds_of dkV.1 dkV.2 dk_eq dk_the dk_kw ?_
  intro w s₀ s₁ mg mb G Y fa o pm cd doc dV kV ho hd hcd hD hmg hg args vals as hL hpre hlay hrd hwl hlo
  rw [dk_name] at hmg
  have Y : s₀.heap = endHeap w.params := Y
  wrow_args hpre hlay hrd hwl hlo
  rename_i ns hs hlay0 hLb hrb hl2 as4 as3 a its as0 hIs ra w1 r0 hI hr hc63 hcT
  have I := inv0 Y hL.keeps hg
  have B := base_of w s₁.os
  have hfa : fa = A_law := by
    have h1 : s₁.heap.Ns mainGlobals ((endHeap w.params).nsMap mainGlobals) := I.ns B.ok2.g B.ok2.gt
    have h2 := ns_uniq G.T.g h1 "law"
    rw [hmg, gv_law] at h2
    injection h2 with h2
    injection h2
  have hobj := X.script_obj hL hIs
  have hat := (X.script_at hL).1
  have hra : Rel (baseC w s₁.os) noneS s₁.heap (.ref a) (.lst (intV ns)) := by
    refine .lst (items := its) hobj rfl (fun hm => ?_) (rels_ints hI)
    have h1 := (by decide : ∀ t ∈ tabL, t < hsize) a (by rw [← B.tabs]; exact hm)
    rw [hat, Y, (Prod.mk.inj (size_ok w.params)).1] at h1
    exact absurd h1 (Nat.lt_irrefl _)
  show wpAny (model PR w) callerA (PySem.call (.ref fa) [.ref a]) _ _ s₁
  refine cs_law B (d := 100) (Nat.le_refl _) (xs := ns) (by omega) (σ := noneS) (Q := fun v _ => v = .bool true) rfl callerA s₁ (.ref fa) [.ref a] ⟨rfl, by decide, by decide⟩ I (by rw [hfa]; exact .raw _) (.cons hra .nil) _ ?_
  rintro v pv σ' s' rfl i' e' r'
  cases r'
  refine ⟨.inl ⟨.bool true, .bool true, [], rfl, fun cls => ?_, .bool true, ?_, fun _ => ⟨.nil, fun a h => by cases h⟩⟩, ?_, i'.os, ?_⟩
  · rfl
  · wrow_post
  · refine ⟨fun b o hb => ?_, fun b o hb => ?_⟩
    · by_cases ht : b ∈ (baseC w s₁.os).tabs
      · obtain ⟨n, hn, rfl⟩ := List.mem_map.mp ht
        have hT : n.table ∈ tabL := by rw [← B.tabs]; exact ht
        obtain ⟨ps, hps, _⟩ := i'.tabs n hn
        have h0 := hL.keeps _ _ (by rw [Y]; exact tab_at w.params hT)
        rw [hb] at h0
        cases h0
        obtain ⟨⟨oc, vs, _, _, _, _, _, _, _, c1, c2, c3, c4, _⟩, _⟩ := B.ok3.heads n hn
        refine .inr (.inl ⟨⟨n.code, oc, vs, hL.keeps _ _ (by rw [Y]; exact c1), c2, c3, c4⟩, rfl, #[], ps, rfl, ?_⟩)
        rw [hps]; simp
      · exact .inl (e'.keep b o hb rfl ht)
    · by_cases ht : b ∈ (baseC w s₁.os).tabs
      · obtain ⟨n, hn, rfl⟩ := List.mem_map.mp ht
        obtain ⟨ps, hps, _⟩ := i'.tabs n hn
        exact ⟨_, hps⟩
      · exact ⟨o, e'.keep b o hb rfl ht⟩
  · exact .of_eq i'.gens
end

end Mine
end
theorem PySem.Challenge.cw_rw0121_03_holds : PySem.Challenge.rw_rw0121_03.Holds := by
  exact Mine.claim_proved
